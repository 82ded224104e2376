import JvmDerived
import JvmDerived.Pilot.@@N@@Statement
import JvmDerived.Pilot.@@N@@Code
set_option linter.unusedVariables false
set_option linter.unusedSimpArgs false
namespace Jvm.RoadKit
open Sem ClassFile Op Lib Jvm.Stand Jvm.Free Jvm.LawKit
section New
variable {p : Program} {l : Launch} {e : Env} {R : Room} {s : State} {m : MethodId} {args : Array Value} {below : List Frame} {meth : Method} {c : Code} {T : State} {locs : List Loc} {cells slots : Nat}
theorem retI (X : Stand p l e R s m args below meth c T locs cells slots) (hx : p.tables.exec = Jvm.exec) {pc : Nat} {Ls : Array Slot} {z : Int32} {rest : List Value} (hret : meth.sig.returnType = some .int) (hd : decode c.code pc = .ok (.ireturn, 1)) {fs : List Frame}
  (hl : ∀ (f : JFrame) (acts : List Action), f.method = m → f.locked = none → f.entered = [] → (doReturn e (T.setTop f) acts (some (.int z))).1 = T.setFrames fs) : Steps p.tables e below (T.setTop (mkF m pc Ls (.int z :: rest))) (T.setFrames fs) := by
 have hm' : T.vm.method? m = some meth := X.method'
 have hn : narrow .int (.int z) = .int z := rfl
 show Steps p.tables e below (T.setTop { method := m, pc := pc, locals := Ls, stack := _ :: rest, locked := none }) _
 jvm_step X.here [X.here.top, hx, hd, hm', hret, hn]
 first | (intro acts; rw [hl _ acts rfl rfl rfl]) | rw [hl _ _ rfl rfl rfl]
 exact Steps.refl _
end New
end Jvm.RoadKit
namespace Jvm.Pilot.@@N@@
set_option maxRecDepth 65536
set_option maxHeartbeats 40000000
open Jvm Jvm.ClassFile Sem Op Lib Jvm.Free Jvm.Stand Jvm.LawKit Jvm.RoadKit Bundle Jvm.Pilot.@@N@@.Jvm.D
section OwnKit
variable {p : Program} {l : Launch} {e : Env} {R : Room} {s : State} {m : MethodId} {args : Array Value} {below : List Frame} {meth : Method} {c : Code} {T : State} {locs : List Loc} {cells slots : Nat} {Z : State} {a0 : Array Value} {h : Heap} {P : Outcome → State → Prop} {pc pc' pc1 pc2 : Nat} {L L' : Array Slot} {S : List Value}
/-- the run from U comes to an end that P holds of -/
def OG (p : Program) (e : Env) (below : List Frame) (P : Outcome → State → Prop) (U : State) : Prop := ∃ s₂ o, Steps p.tables e below U s₂ ∧ s₂.status = .running ∧ Ended s₂ below o ∧ P o s₂
theorem OG.of {U U' : State} (k : ∀ t, Steps p.tables e below U' t → Steps p.tables e below U t) (h : OG p e below P U') : OG p e below P U := by
 obtain ⟨t, o, h1, h2⟩ := h; exact ⟨t, o, k t h1, h2⟩
theorem OG.cast {g g' : JFrame} (q : g = g') (k : OG p e below P (T.setTop g')) : OG p e below P (T.setTop g) := q ▸ k
theorem own_mono (X : Stand p l e R s m args below meth c T locs cells slots) {c' n' : Nat} (h1 : cells ≤ c') (h2 : slots ≤ n') : Stand p l e R s m args below meth c T locs c' n' :=
 ⟨X.admits, X.cas, X.clock, X.frames, X.room, X.hears, X.method, X.code, X.here, X.tail, X.warmed, X.limits, X.bytes, X.same.mono h1 h2⟩
theorem og_iadd (X : Stand p l e R s m args below meth c T locs cells slots) (hx : p.tables.exec = Jvm.exec) {x y : Int32} (hd : decode c.code pc = .ok (.iadd, 1)) (hp : pc + 1 = pc') (k : OG p e below P (T.setTop (mkF m pc' L (.int (x + y) :: S)))) : OG p e below P (T.setTop (mkF m pc L (.int y :: .int x :: S))) := by
 subst hp; exact OG.of (fun t k => XS.iadd X.here hx rfl hd rfl k) k
theorem og_isub (X : Stand p l e R s m args below meth c T locs cells slots) (hx : p.tables.exec = Jvm.exec) {x y : Int32} (hd : decode c.code pc = .ok (.isub, 1)) (hp : pc + 1 = pc') (k : OG p e below P (T.setTop (mkF m pc' L (.int (x - y) :: S)))) : OG p e below P (T.setTop (mkF m pc L (.int y :: .int x :: S))) := by
 subst hp; exact OG.of (fun t k => XS.isub X.here hx rfl hd rfl k) k
theorem og_iand (X : Stand p l e R s m args below meth c T locs cells slots) (hx : p.tables.exec = Jvm.exec) {x y : Int32} (hd : decode c.code pc = .ok (.iand, 1)) (hp : pc + 1 = pc') (k : OG p e below P (T.setTop (mkF m pc' L (.int (x &&& y) :: S)))) : OG p e below P (T.setTop (mkF m pc L (.int y :: .int x :: S))) := by
 subst hp; exact OG.of (fun t k => XS.iand X.here hx rfl hd rfl k) k
theorem og_ishl (X : Stand p l e R s m args below meth c T locs cells slots) (hx : p.tables.exec = Jvm.exec) {x y : Int32} (hd : decode c.code pc = .ok (.ishl, 1)) (hp : pc + 1 = pc') (k : OG p e below P (T.setTop (mkF m pc' L (.int (x <<< (y &&& 31)) :: S)))) : OG p e below P (T.setTop (mkF m pc L (.int y :: .int x :: S))) := by
 subst hp; exact OG.of (fun t k => XS.ishl X.here hx rfl hd rfl k) k
theorem og_ishr (X : Stand p l e R s m args below meth c T locs cells slots) (hx : p.tables.exec = Jvm.exec) {x y : Int32} (hd : decode c.code pc = .ok (.ishr, 1)) (hp : pc + 1 = pc') (k : OG p e below P (T.setTop (mkF m pc' L (.int (x >>> (y &&& 31)) :: S)))) : OG p e below P (T.setTop (mkF m pc L (.int y :: .int x :: S))) := by
 subst hp; exact OG.of (fun t k => XS.ishr X.here hx rfl hd rfl k) k
theorem og_iushr (X : Stand p l e R s m args below meth c T locs cells slots) (hx : p.tables.exec = Jvm.exec) {x y : Int32} (hd : decode c.code pc = .ok (.iushr, 1)) (hp : pc + 1 = pc') (k : OG p e below P (T.setTop (mkF m pc' L (.int ((x.toUInt32 >>> (y &&& 31).toUInt32).toInt32) :: S)))) : OG p e below P (T.setTop (mkF m pc L (.int y :: .int x :: S))) := by
 subst hp; exact OG.of (fun t k => XS.iushr X.here hx rfl hd rfl k) k
theorem og_i2b (X : Stand p l e R s m args below meth c T locs cells slots) (hx : p.tables.exec = Jvm.exec) {x : Int32} (hd : decode c.code pc = .ok (.i2b, 1)) (hp : pc + 1 = pc') (k : OG p e below P (T.setTop (mkF m pc' L (.int (x.toInt8.toInt32) :: S)))) : OG p e below P (T.setTop (mkF m pc L (.int x :: S))) := by
 subst hp; exact OG.of (fun t k => XS.i2b X.here hx rfl hd rfl k) k
theorem og_i2c (X : Stand p l e R s m args below meth c T locs cells slots) (hx : p.tables.exec = Jvm.exec) {x : Int32} (hd : decode c.code pc = .ok (.i2c, 1)) (hp : pc + 1 = pc') (k : OG p e below P (T.setTop (mkF m pc' L (.int (x.toUInt32.toUInt16.toUInt32.toInt32) :: S)))) : OG p e below P (T.setTop (mkF m pc L (.int x :: S))) := by
 subst hp; exact OG.of (fun t k => XS.i2c X.here hx rfl hd rfl k) k
theorem og_iconst (X : Stand p l e R s m args below meth c T locs cells slots) (hx : p.tables.exec = Jvm.exec) {i : Int} {v : Int32} (hv : Int32.ofInt i = v) (hd : decode c.code pc = .ok (.iconst i, 1)) (hp : pc + 1 = pc') (k : OG p e below P (T.setTop (mkF m pc' L (.int v :: S)))) : OG p e below P (T.setTop (mkF m pc L S)) := by
 subst hp; exact OG.of (fun t k => XS.iconst X.here hx rfl hd (hv ▸ k)) k
theorem og_bipush (X : Stand p l e R s m args below meth c T locs cells slots) (hx : p.tables.exec = Jvm.exec) {i : Int} {v : Int32} (hv : (Int8.ofInt i).toInt32 = v) (hd : decode c.code pc = .ok (.bipush i, 2)) (hp : pc + 2 = pc') (k : OG p e below P (T.setTop (mkF m pc' L (.int v :: S)))) : OG p e below P (T.setTop (mkF m pc L S)) := by
 subst hp; exact OG.of (fun t k => XS.bipush X.here hx rfl hd (hv ▸ k)) k
theorem og_sipush (X : Stand p l e R s m args below meth c T locs cells slots) (hx : p.tables.exec = Jvm.exec) {i : Int} {v : Int32} (hv : (Int16.ofInt i).toInt32 = v) (hd : decode c.code pc = .ok (.sipush i, 3)) (hp : pc + 3 = pc') (k : OG p e below P (T.setTop (mkF m pc' L (.int v :: S)))) : OG p e below P (T.setTop (mkF m pc L S)) := by
 subst hp; exact OG.of (fun t k => XS.sipush X.here hx rfl hd (hv ▸ k)) k
theorem og_aconst_null (X : Stand p l e R s m args below meth c T locs cells slots) (hx : p.tables.exec = Jvm.exec)  (hd : decode c.code pc = .ok (.aconst_null, 1)) (hp : pc + 1 = pc') (k : OG p e below P (T.setTop (mkF m pc' L (.null :: S)))) : OG p e below P (T.setTop (mkF m pc L S)) := by
 subst hp; exact OG.of (fun t k => XS.aconstNull X.here hx rfl hd k) k
theorem og_iload (X : Stand p l e R s m args below meth c T locs cells slots) (hx : p.tables.exec = Jvm.exec) {j : Nat} {v : Int32} (hl : L[j]? = some (.val (.int v))) (hd : decode c.code pc = .ok (.iload j, 2)) (hp : pc + 2 = pc') (k : OG p e below P (T.setTop (mkF m pc' L (.int v :: S)))) : OG p e below P (T.setTop (mkF m pc L S)) := by
 subst hp; exact OG.of (fun t k => XS.iload X.here hx rfl hd hl k) k
theorem og_iloadN (X : Stand p l e R s m args below meth c T locs cells slots) (hx : p.tables.exec = Jvm.exec) {j : Fin 4} {v : Int32} (hl : L[j.val]? = some (.val (.int v))) (hd : decode c.code pc = .ok (.iload_n j, 1)) (hp : pc + 1 = pc') (k : OG p e below P (T.setTop (mkF m pc' L (.int v :: S)))) : OG p e below P (T.setTop (mkF m pc L S)) := by
 subst hp; exact OG.of (fun t k => XS.iloadN X.here hx rfl hd hl k) k
theorem og_istore (X : Stand p l e R s m args below meth c T locs cells slots) (hx : p.tables.exec = Jvm.exec) {j : Nat} {v : Int32} (hl : storeLocals L j (.int v) = some L') (hd : decode c.code pc = .ok (.istore j, 2)) (hp : pc + 2 = pc') (k : OG p e below P (T.setTop (mkF m pc' L' S))) : OG p e below P (T.setTop (mkF m pc L (.int v :: S))) := by
 subst hp; exact OG.of (fun t k => XS.istore X.here hx rfl hd rfl hl k) k
theorem og_istoreN (X : Stand p l e R s m args below meth c T locs cells slots) (hx : p.tables.exec = Jvm.exec) {j : Fin 4} {v : Int32} (hl : storeLocals L j.val (.int v) = some L') (hd : decode c.code pc = .ok (.istore_n j, 1)) (hp : pc + 1 = pc') (k : OG p e below P (T.setTop (mkF m pc' L' S))) : OG p e below P (T.setTop (mkF m pc L (.int v :: S))) := by
 subst hp; exact OG.of (fun t k => XS.istoreN X.here hx rfl hd rfl hl k) k
theorem og_aload (X : Stand p l e R s m args below meth c T locs cells slots) (hx : p.tables.exec = Jvm.exec) {j : Nat} {v : Value} (hl : L[j]? = some (.val v)) (hv : v.isRef = true) (hd : decode c.code pc = .ok (.aload j, 2)) (hp : pc + 2 = pc') (k : OG p e below P (T.setTop (mkF m pc' L (v :: S)))) : OG p e below P (T.setTop (mkF m pc L S)) := by
 subst hp; exact OG.of (fun t k => XS.aload X.here hx rfl hd hl hv k) k
theorem og_aloadN (X : Stand p l e R s m args below meth c T locs cells slots) (hx : p.tables.exec = Jvm.exec) {j : Fin 4} {v : Value} (hl : L[j.val]? = some (.val v)) (hv : v.isRef = true) (hd : decode c.code pc = .ok (.aload_n j, 1)) (hp : pc + 1 = pc') (k : OG p e below P (T.setTop (mkF m pc' L (v :: S)))) : OG p e below P (T.setTop (mkF m pc L S)) := by
 subst hp; exact OG.of (fun t k => XS.aloadN X.here hx rfl hd hl hv k) k
theorem og_astore (X : Stand p l e R s m args below meth c T locs cells slots) (hx : p.tables.exec = Jvm.exec) {j : Nat} {v : Value} (hv : v.isRef = true) (hl : storeLocals L j v = some L') (hd : decode c.code pc = .ok (.astore j, 2)) (hp : pc + 2 = pc') (k : OG p e below P (T.setTop (mkF m pc' L' S))) : OG p e below P (T.setTop (mkF m pc L (v :: S))) := by
 subst hp; exact OG.of (fun t k => XS.astore X.here hx rfl hd rfl hv hl k) k
theorem og_astoreN (X : Stand p l e R s m args below meth c T locs cells slots) (hx : p.tables.exec = Jvm.exec) {j : Fin 4} {v : Value} (hv : v.isRef = true) (hl : storeLocals L j.val v = some L') (hd : decode c.code pc = .ok (.astore_n j, 1)) (hp : pc + 1 = pc') (k : OG p e below P (T.setTop (mkF m pc' L' S))) : OG p e below P (T.setTop (mkF m pc L (v :: S))) := by
 subst hp; exact OG.of (fun t k => XS.astoreN X.here hx rfl hd rfl hv hl k) k
theorem og_iinc (X : Stand p l e R s m args below meth c T locs cells slots) (hx : p.tables.exec = Jvm.exec) {j : Nat} {i : Int} {v w : Int32} (h1 : L[j]? = some (.val (.int v))) (hv : Int32.ofInt i = w) (hl : storeLocals L j (.int (v + w)) = some L') (hd : decode c.code pc = .ok (.iinc j i, 3)) (hp : pc + 3 = pc') (k : OG p e below P (T.setTop (mkF m pc' L' S))) : OG p e below P (T.setTop (mkF m pc L S)) := by
 subst hp; exact OG.of (fun t k => XS.iinc X.here hx rfl hd h1 (hv.symm ▸ hl) k) k
theorem og_dup (X : Stand p l e R s m args below meth c T locs cells slots) (hx : p.tables.exec = Jvm.exec) {v : Value} (hv : v.category = 1) (hd : decode c.code pc = .ok (.dup, 1)) (hp : pc + 1 = pc') (k : OG p e below P (T.setTop (mkF m pc' L (v :: v :: S)))) : OG p e below P (T.setTop (mkF m pc L (v :: S))) := by
 subst hp; exact OG.of (fun t k => XS.dup X.here hx rfl hd rfl hv k) k
theorem og_pop (X : Stand p l e R s m args below meth c T locs cells slots) (hx : p.tables.exec = Jvm.exec) {v : Value} (hv : v.category = 1) (hd : decode c.code pc = .ok (.pop, 1)) (hp : pc + 1 = pc') (k : OG p e below P (T.setTop (mkF m pc' L S))) : OG p e below P (T.setTop (mkF m pc L (v :: S))) := by
 subst hp; exact OG.of (fun t k => XS.pop X.here hx rfl hd rfl hv k) k
theorem og_goto (X : Stand p l e R s m args below meth c T locs cells slots) (hx : p.tables.exec = Jvm.exec) {o : Int} (hd : decode c.code pc = .ok (.goto o, 3)) (ho : 0 ≤ (pc : Int) + o) (hp : ((pc : Int) + o).toNat = pc') (k : OG p e below P (T.setTop (mkF m pc' L S))) : OG p e below P (T.setTop (mkF m pc L S)) :=
 OG.of (fun t k => XS.goto X.here hx rfl rfl hd ho hp k) k
theorem og_icmp_lt (X : Stand p l e R s m args below meth c T locs cells slots) (hx : p.tables.exec = Jvm.exec) {x y : Int32} {o : Int} (hd : decode c.code pc = .ok (.if_icmp .lt o, 3)) (ho : 0 ≤ (pc : Int) + o) (hp1 : ((pc : Int) + o).toNat = pc1) (hp2 : pc + 3 = pc2) (k1 : x < y → OG p e below P (T.setTop (mkF m pc1 L S))) (k2 : ¬ x < y → OG p e below P (T.setTop (mkF m pc2 L S))) : OG p e below P (T.setTop (mkF m pc L (.int y :: .int x :: S))) := by
  subst hp2; by_cases q : x < y
  · exact OG.of (fun t k => XS.icmpYes X.here hx rfl rfl hd rfl ((tlt q).1) ho hp1 k) (k1 q)
  · exact OG.of (fun t k => XS.icmpNo X.here hx rfl hd rfl ((flt q).1) k) (k2 q)
theorem og_if_lt (X : Stand p l e R s m args below meth c T locs cells slots) (hx : p.tables.exec = Jvm.exec) {x : Int32} {o : Int} (hd : decode c.code pc = .ok (.ifCond .lt o, 3)) (ho : 0 ≤ (pc : Int) + o) (hp1 : ((pc : Int) + o).toNat = pc1) (hp2 : pc + 3 = pc2) (k1 : x < (0 : Int32) → OG p e below P (T.setTop (mkF m pc1 L S))) (k2 : ¬ x < (0 : Int32) → OG p e below P (T.setTop (mkF m pc2 L S))) : OG p e below P (T.setTop (mkF m pc L (.int x :: S))) := by
  subst hp2; by_cases q : x < (0 : Int32)
  · exact OG.of (fun t k => XS.ifYes X.here hx rfl rfl hd rfl ((if0 _ _).trans (tlt q).1) ho hp1 k) (k1 q)
  · exact OG.of (fun t k => XS.ifNo X.here hx rfl hd rfl ((if0 _ _).trans (flt q).1) k) (k2 q)
theorem og_icmp_ge (X : Stand p l e R s m args below meth c T locs cells slots) (hx : p.tables.exec = Jvm.exec) {x y : Int32} {o : Int} (hd : decode c.code pc = .ok (.if_icmp .ge o, 3)) (ho : 0 ≤ (pc : Int) + o) (hp1 : ((pc : Int) + o).toNat = pc1) (hp2 : pc + 3 = pc2) (k1 : ¬ x < y → OG p e below P (T.setTop (mkF m pc1 L S))) (k2 : x < y → OG p e below P (T.setTop (mkF m pc2 L S))) : OG p e below P (T.setTop (mkF m pc L (.int y :: .int x :: S))) := by
  subst hp2; by_cases q : x < y
  · exact OG.of (fun t k => XS.icmpNo X.here hx rfl hd rfl ((tlt q).2.1) k) (k2 q)
  · exact OG.of (fun t k => XS.icmpYes X.here hx rfl rfl hd rfl ((flt q).2.1) ho hp1 k) (k1 q)
theorem og_icmp_gt (X : Stand p l e R s m args below meth c T locs cells slots) (hx : p.tables.exec = Jvm.exec) {x y : Int32} {o : Int} (hd : decode c.code pc = .ok (.if_icmp .gt o, 3)) (ho : 0 ≤ (pc : Int) + o) (hp1 : ((pc : Int) + o).toNat = pc1) (hp2 : pc + 3 = pc2) (k1 : y < x → OG p e below P (T.setTop (mkF m pc1 L S))) (k2 : ¬ y < x → OG p e below P (T.setTop (mkF m pc2 L S))) : OG p e below P (T.setTop (mkF m pc L (.int y :: .int x :: S))) := by
  subst hp2; by_cases q : y < x
  · exact OG.of (fun t k => XS.icmpYes X.here hx rfl rfl hd rfl ((tlt q).2.2.1) ho hp1 k) (k1 q)
  · exact OG.of (fun t k => XS.icmpNo X.here hx rfl hd rfl ((flt q).2.2.1) k) (k2 q)
theorem og_icmp_le (X : Stand p l e R s m args below meth c T locs cells slots) (hx : p.tables.exec = Jvm.exec) {x y : Int32} {o : Int} (hd : decode c.code pc = .ok (.if_icmp .le o, 3)) (ho : 0 ≤ (pc : Int) + o) (hp1 : ((pc : Int) + o).toNat = pc1) (hp2 : pc + 3 = pc2) (k1 : ¬ y < x → OG p e below P (T.setTop (mkF m pc1 L S))) (k2 : y < x → OG p e below P (T.setTop (mkF m pc2 L S))) : OG p e below P (T.setTop (mkF m pc L (.int y :: .int x :: S))) := by
  subst hp2; by_cases q : y < x
  · exact OG.of (fun t k => XS.icmpNo X.here hx rfl hd rfl ((tlt q).2.2.2) k) (k2 q)
  · exact OG.of (fun t k => XS.icmpYes X.here hx rfl rfl hd rfl ((flt q).2.2.2) ho hp1 k) (k1 q)
theorem og_if_le (X : Stand p l e R s m args below meth c T locs cells slots) (hx : p.tables.exec = Jvm.exec) {x : Int32} {o : Int} (hd : decode c.code pc = .ok (.ifCond .le o, 3)) (ho : 0 ≤ (pc : Int) + o) (hp1 : ((pc : Int) + o).toNat = pc1) (hp2 : pc + 3 = pc2) (k1 : ¬ (0 : Int32) < x → OG p e below P (T.setTop (mkF m pc1 L S))) (k2 : (0 : Int32) < x → OG p e below P (T.setTop (mkF m pc2 L S))) : OG p e below P (T.setTop (mkF m pc L (.int x :: S))) := by
  subst hp2; by_cases q : (0 : Int32) < x
  · exact OG.of (fun t k => XS.ifNo X.here hx rfl hd rfl ((if0 _ _).trans (tlt q).2.2.2) k) (k2 q)
  · exact OG.of (fun t k => XS.ifYes X.here hx rfl rfl hd rfl ((if0 _ _).trans (flt q).2.2.2) ho hp1 k) (k1 q)
theorem og_icmp_eq (X : Stand p l e R s m args below meth c T locs cells slots) (hx : p.tables.exec = Jvm.exec) {x y : Int32} {o : Int} (hd : decode c.code pc = .ok (.if_icmp .eq o, 3)) (ho : 0 ≤ (pc : Int) + o) (hp1 : ((pc : Int) + o).toNat = pc1) (hp2 : pc + 3 = pc2) (k1 : x = y → OG p e below P (T.setTop (mkF m pc1 L S))) (k2 : ¬ x = y → OG p e below P (T.setTop (mkF m pc2 L S))) : OG p e below P (T.setTop (mkF m pc L (.int y :: .int x :: S))) := by
  subst hp2; by_cases q : x = y
  · exact OG.of (fun t k => XS.icmpYes X.here hx rfl rfl hd rfl ((teq q).1) ho hp1 k) (k1 q)
  · exact OG.of (fun t k => XS.icmpNo X.here hx rfl hd rfl ((feq q).1) k) (k2 q)
theorem og_if_eq (X : Stand p l e R s m args below meth c T locs cells slots) (hx : p.tables.exec = Jvm.exec) {x : Int32} {o : Int} (hd : decode c.code pc = .ok (.ifCond .eq o, 3)) (ho : 0 ≤ (pc : Int) + o) (hp1 : ((pc : Int) + o).toNat = pc1) (hp2 : pc + 3 = pc2) (k1 : x = (0 : Int32) → OG p e below P (T.setTop (mkF m pc1 L S))) (k2 : ¬ x = (0 : Int32) → OG p e below P (T.setTop (mkF m pc2 L S))) : OG p e below P (T.setTop (mkF m pc L (.int x :: S))) := by
  subst hp2; by_cases q : x = (0 : Int32)
  · exact OG.of (fun t k => XS.ifYes X.here hx rfl rfl hd rfl ((if0 _ _).trans (teq q).1) ho hp1 k) (k1 q)
  · exact OG.of (fun t k => XS.ifNo X.here hx rfl hd rfl ((if0 _ _).trans (feq q).1) k) (k2 q)
theorem og_icmp_ne (X : Stand p l e R s m args below meth c T locs cells slots) (hx : p.tables.exec = Jvm.exec) {x y : Int32} {o : Int} (hd : decode c.code pc = .ok (.if_icmp .ne o, 3)) (ho : 0 ≤ (pc : Int) + o) (hp1 : ((pc : Int) + o).toNat = pc1) (hp2 : pc + 3 = pc2) (k1 : ¬ x = y → OG p e below P (T.setTop (mkF m pc1 L S))) (k2 : x = y → OG p e below P (T.setTop (mkF m pc2 L S))) : OG p e below P (T.setTop (mkF m pc L (.int y :: .int x :: S))) := by
  subst hp2; by_cases q : x = y
  · exact OG.of (fun t k => XS.icmpNo X.here hx rfl hd rfl ((teq q).2) k) (k2 q)
  · exact OG.of (fun t k => XS.icmpYes X.here hx rfl rfl hd rfl ((feq q).2) ho hp1 k) (k1 q)
theorem og_if_ne (X : Stand p l e R s m args below meth c T locs cells slots) (hx : p.tables.exec = Jvm.exec) {x : Int32} {o : Int} (hd : decode c.code pc = .ok (.ifCond .ne o, 3)) (ho : 0 ≤ (pc : Int) + o) (hp1 : ((pc : Int) + o).toNat = pc1) (hp2 : pc + 3 = pc2) (k1 : ¬ x = (0 : Int32) → OG p e below P (T.setTop (mkF m pc1 L S))) (k2 : x = (0 : Int32) → OG p e below P (T.setTop (mkF m pc2 L S))) : OG p e below P (T.setTop (mkF m pc L (.int x :: S))) := by
  subst hp2; by_cases q : x = (0 : Int32)
  · exact OG.of (fun t k => XS.ifNo X.here hx rfl hd rfl ((if0 _ _).trans (teq q).2) k) (k2 q)
  · exact OG.of (fun t k => XS.ifYes X.here hx rfl rfl hd rfl ((if0 _ _).trans (feq q).2) ho hp1 k) (k1 q)
theorem og_ifnull (X : Stand p l e R s m args below meth c T locs cells slots) (hx : p.tables.exec = Jvm.exec) {v : Value} (hv : v.isRef = true) {o : Int} (hd : decode c.code pc = .ok (.ifnull o, 3)) (ho : 0 ≤ (pc : Int) + o) (hp1 : ((pc : Int) + o).toNat = pc1) (hp2 : pc + 3 = pc2) (k1 : v = .null → OG p e below P (T.setTop (mkF m pc1 L S))) (k2 : v ≠ .null → OG p e below P (T.setTop (mkF m pc2 L S))) : OG p e below P (T.setTop (mkF m pc L (v :: S))) := by
  subst hp2; rcases ref_cases hv with rfl | ⟨b, rfl⟩
  · exact OG.of (fun t k => XS.ifnullYes X.here hx rfl rfl hd rfl ho hp1 k) (k1 rfl)
  · exact OG.of (fun t k => XS.ifnullNo X.here hx rfl hd rfl k) (k2 nofun)
theorem og_ifnonnull (X : Stand p l e R s m args below meth c T locs cells slots) (hx : p.tables.exec = Jvm.exec) {v : Value} (hv : v.isRef = true) {o : Int} (hd : decode c.code pc = .ok (.ifnonnull o, 3)) (ho : 0 ≤ (pc : Int) + o) (hp1 : ((pc : Int) + o).toNat = pc1) (hp2 : pc + 3 = pc2) (k1 : v ≠ .null → OG p e below P (T.setTop (mkF m pc1 L S))) (k2 : v = .null → OG p e below P (T.setTop (mkF m pc2 L S))) : OG p e below P (T.setTop (mkF m pc L (v :: S))) := by
  subst hp2; rcases ref_cases hv with rfl | ⟨b, rfl⟩
  · exact OG.of (fun t k => XS.ifnonnullNo X.here hx rfl hd rfl k) (k2 rfl)
  · exact OG.of (fun t k => XS.ifnonnullYes X.here hx rfl rfl hd rfl ho hp1 k) (k1 nofun)
theorem og_acmp_ne (X : Stand p l e R s m args below meth c T locs cells slots) (hx : p.tables.exec = Jvm.exec) {v w : Value} (hv : v.isRef = true) (hw : w.isRef = true) {o : Int} (hd : decode c.code pc = .ok (.if_acmp .ne o, 3)) (ho : 0 ≤ (pc : Int) + o) (hp1 : ((pc : Int) + o).toNat = pc1) (hp2 : pc + 3 = pc2) (k1 : ¬ v = w → OG p e below P (T.setTop (mkF m pc1 L S))) (k2 : v = w → OG p e below P (T.setTop (mkF m pc2 L S))) : OG p e below P (T.setTop (mkF m pc L (w :: v :: S))) := by
  subst hp2 hp1; by_cases q : v = w
  · exact OG.of (fun t k => Jvm.RoadKit.acmp X hx rfl hv hw (same := true) rfl hd rfl (decide_eq_true q) ho rfl k) (k2 q)
  · exact OG.of (fun t k => Jvm.RoadKit.acmp X hx rfl hv hw (same := false) rfl hd rfl (decide_eq_false q) ho rfl k) (k1 q)
theorem og_ldc (X : Stand p l e R s m args below meth c T locs cells slots) (hx : p.tables.exec = Jvm.exec) (hZ : Z.Warmed39 s.vm) {own : String} {index : Nat} {v : Int32} (hown : s.vm.findClass own = some m.cls) (w : (Cond.constant own index v).before a0 Z = true) (hd : decode c.code pc = .ok (.ldc index, 2)) (hp : pc + 2 = pc') (k : OG p e below P (T.setTop (mkF m pc' L (.int v :: S)))) : OG p e below P (T.setTop (mkF m pc L S)) := by
 subst hp; exact OG.of (X.ldcInt hx hown (mvT hZ w) (g := mkF m pc L S) rfl hd) k
theorem og_getstatic (X : Stand p l e R s m args below meth c T locs cells slots) (hx : p.tables.exec = Jvm.exec) (hZ : Z.Warmed39 s.vm) {own R0 O n d host : String} {index : Nat} (hown : s.vm.findClass own = some m.cls) (w : (Cond.fieldLink own index R0 n d).before a0 Z = true ∨ (Cond.fieldLinkNest own index R0 n d host).before a0 Z = true) (via : Via Z R0 O n d) (eT : T.heap = h) {v : Value} (F : Sta Z h O n d v) (hd : decode c.code pc = .ok (.getstatic index, 3)) (hp : pc + 3 = pc') (k : ∀ T', Stand p l e R s m args below meth c T' locs cells slots → T'.heap = h → OG p e below P (T'.setTop (mkF m pc' L (v :: S)))) : OG p e below P (T.setTop (mkF m pc L S)) := by
 subst hp; obtain ⟨T', X', e', st⟩ := getS2 X hx hZ hown w via eT F (g := mkF m pc L S) rfl hd
 exact OG.of st (k T' X' e')
theorem og_getfield (X : Stand p l e R s m args below meth c T locs cells slots) (hx : p.tables.exec = Jvm.exec) (hZ : Z.Warmed39 s.vm) {own R0 O n d host : String} {index : Nat} (hown : s.vm.findClass own = some m.cls) (w : (Cond.fieldLink own index R0 n d).before a0 Z = true ∨ (Cond.fieldLinkNest own index R0 n d host).before a0 Z = true) (via : Via Z R0 O n d) (eT : T.heap = h) {a : Addr} {v : Value} (F : Fld Z h a O n d v) (hd : decode c.code pc = .ok (.getfield index, 3)) (hp : pc + 3 = pc') (k : ∀ T', Stand p l e R s m args below meth c T' locs cells slots → T'.heap = h → OG p e below P (T'.setTop (mkF m pc' L (v :: S)))) : OG p e below P (T.setTop (mkF m pc L (.ref a :: S))) := by
 subst hp; obtain ⟨T', X', e', st⟩ := getF X hx hZ hown w via eT F (g := mkF m pc L (.ref a :: S)) rfl rfl hd
 exact OG.of st (k T' X' e')
theorem og_putfield (X : Stand p l e R s m args below meth c T locs cells slots) (hx : p.tables.exec = Jvm.exec) (hZ : Z.Warmed39 s.vm) {C : String} {kk : Nat} {ty : FieldType} {own R0 O n d host : String} {index : Nat} (hown : s.vm.findClass own = some m.cls) (w : (Cond.fieldLink own index R0 n d).before a0 Z = true ∨ (Cond.fieldLinkNest own index R0 n d host).before a0 Z = true) (via : Via Z R0 O n d) (eT : T.heap = h) {a : Addr} {v old : Value} (F : Fld Z h a O n d old) (E : Exa Z h a C) (Ly : (Cond.lays C O n d).before a0 Z = true ∨ ((Cond.laysFinal C O n d).before a0 Z = true ∧ own = O ∧ meth.name = "<init>")) (wi : (Cond.instantiable C kk).before a0 Z = true) (hty : parseFieldDescriptor d = some ty) (hn : narrow ty v = v) (hf : fits ty v = true) (hd : decode c.code pc = .ok (.putfield index, 3)) (hp : pc + 3 = pc') (k : ∀ T' h', Stand p l e R s m args below meth c T' (locs ++ [⟨a, Jvm.RoadKit.slotOf Z O n d⟩]) cells slots → T'.heap = h' → Wr h h' a (Jvm.RoadKit.slotOf Z O n d) v → OG p e below P (T'.setTop (mkF m pc' L S))) : OG p e below P (T.setTop (mkF m pc L (v :: .ref a :: S))) := by
 subst hp; obtain ⟨T', h', X', e', W', st⟩ := putF X hx hZ hown w via eT F E Ly wi hty hn hf (g := mkF m pc L (v :: .ref a :: S)) rfl rfl hd
 exact OG.of st (k T' h' X' e' W')
theorem og_new (X : Stand p l e R s m args below meth c T locs cells slots) (hx : p.tables.exec = Jvm.exec) (hZ : Z.Warmed39 s.vm) {own C : String} {index n : Nat} {cells' slots' : Nat} (hown : s.vm.findClass own = some m.cls) (w : (Cond.classLink own index C).before a0 Z = true) (wi : (Cond.instantiable C n).before a0 Z = true) (wz : (Cond.initialized C).before a0 Z = true) (eT : T.heap = h) (hd : decode c.code pc = .ok (.new index, 3)) (hp : pc + 3 = pc') (hc' : cells + 1 = cells') (hs' : slots + n = slots') (hc : cells' ≤ R.cells) (hl : slots' ≤ R.slots) (k : ∀ T' h' a, Stand p l e R s m args below meth c T' locs cells' slots' → T'.heap = h' → Ext h h' → a = h.size → Exa Z h' a C → (∀ {O nm d : String} {ty : FieldType}, Laid Z a0 C O nm d → parseFieldDescriptor d = some ty → Fld Z h' a O nm d (defaultValue ty)) → (∃ cell : Cell, h'[a]? = some cell ∧ cell.vm = .none ∧ cell.monitor = {}) → OG p e below P (T'.setTop (mkF m pc' L (.ref a :: S)))) : OG p e below P (T.setTop (mkF m pc L S)) := by
 subst hp hc' hs'; obtain ⟨T', h', X', e', E', A', D', B', st⟩ := newO X hx hZ hown w wi wz eT (g := mkF m pc L S) rfl hd hc hl
 exact OG.of st (k T' h' _ X' e' E' rfl A' D' B')
theorem og_newarray (X : Stand p l e R s m args below meth c T locs cells slots) (hx : p.tables.exec = Jvm.exec) (hZ : Z.Warmed39 s.vm) {aty : ArrayType} {ty : FieldType} {cells' slots' : Nat} (hty : newarray.typeOf aty = ty) (w : (Cond.arrayClass ty).before a0 Z = true) (eT : T.heap = h) {n : Int32} (hn : ¬ n < 0) {cap : Nat} (hcap : n.toNatClampNeg ≤ cap) (hb : cap * 8 ≤ 536870912) (hd : decode c.code pc = .ok (.newarray aty, 2)) (hp : pc + 2 = pc') (hc' : cells + 1 = cells') (hs' : slots + cap = slots') (hc : cells' ≤ R.cells) (hl : slots' ≤ R.slots) (k : ∀ T' h' a kA, Stand p l e R s m args below meth c T' locs cells' slots' → T'.heap = h' → Ext h h' → a = h.size → Arv Z h' a kA ty n [] (defaultValue ty) → OG p e below P (T'.setTop (mkF m pc' L (.ref a :: S)))) : OG p e below P (T.setTop (mkF m pc L (.int n :: S))) := by
 subst hp hc' hs' hty; obtain ⟨T', h', kA, X', e', E', A', st⟩ := newP X hx hZ w eT (g := mkF m pc L (.int n :: S)) rfl hd rfl hn hcap hb hc hl
 exact OG.of st (k T' h' _ kA X' e' E' rfl (Arv.new A' hn))
theorem og_castore (X : Stand p l e R s m args below meth c T locs cells slots) (hx : p.tables.exec = Jvm.exec) (hZ : Z.Warmed39 s.vm) (eT : T.heap = h) {a : Addr} {kA : ClassId} {j x z : Int32} {vs : List Value} {dv : Value} (F : Arv Z h a kA .char z vs dv) (q : ¬ j < 0 ∧ j < z) (i : Nat) (hj : j.toNatClampNeg = i) (hi : i < vs.length) (hd : decode c.code pc = .ok (.castore, 1)) (hp : pc + 1 = pc') (k : ∀ T' h', Stand p l e R s m args below meth c T' (locs ++ [⟨a, j.toNatClampNeg⟩]) cells slots → T'.heap = h' → Wr h h' a j.toNatClampNeg (.int (nar .char x)) → Arv Z h' a kA .char z (vs.set i (.int (nar .char x))) dv → OG p e below P (T'.setTop (mkF m pc' L S))) : OG p e below P (T.setTop (mkF m pc L (.int x :: .int j :: .ref a :: S))) := by
 subst hp; obtain ⟨cl, A, q1, S1, q3, H, G⟩ := F
 obtain ⟨T', h', X', e', W', st⟩ := stC X hx hZ eT A (j := j) (inb_of S1 q) (g := mkF m pc L (.int x :: .int j :: .ref a :: S)) rfl rfl hd
 exact OG.of st (k T' h' X' e' W' (Arv.set A q1 S1 q3 H G (fits_nar_char _) W' i hj hi))
theorem og_bastore (X : Stand p l e R s m args below meth c T locs cells slots) (hx : p.tables.exec = Jvm.exec) (hZ : Z.Warmed39 s.vm) (eT : T.heap = h) {a : Addr} {kA : ClassId} {j x z : Int32} {vs : List Value} {dv : Value} (F : Arv Z h a kA .byte z vs dv) (q : ¬ j < 0 ∧ j < z) (i : Nat) (hj : j.toNatClampNeg = i) (hi : i < vs.length) (hd : decode c.code pc = .ok (.bastore, 1)) (hp : pc + 1 = pc') (k : ∀ T' h', Stand p l e R s m args below meth c T' (locs ++ [⟨a, j.toNatClampNeg⟩]) cells slots → T'.heap = h' → Wr h h' a j.toNatClampNeg (.int (nar .byte x)) → Arv Z h' a kA .byte z (vs.set i (.int (nar .byte x))) dv → OG p e below P (T'.setTop (mkF m pc' L S))) : OG p e below P (T.setTop (mkF m pc L (.int x :: .int j :: .ref a :: S))) := by
 subst hp; obtain ⟨cl, A, q1, S1, q3, H, G⟩ := F
 obtain ⟨T', h', X', e', W', st⟩ := stB X hx hZ eT A (j := j) (inb_of S1 q) (g := mkF m pc L (.int x :: .int j :: .ref a :: S)) rfl rfl hd
 exact OG.of st (k T' h' X' e' W' (Arv.set A q1 S1 q3 H G (fits_nar_byte _) W' i hj hi))
theorem og_caload (X : Stand p l e R s m args below meth c T locs cells slots) (hx : p.tables.exec = Jvm.exec) (hZ : Z.Warmed39 s.vm) (eT : T.heap = h) {a : Addr} {kA : ClassId} {j z : Int32} {vs : List Value} {dv v : Value} (F : Arv Z h a kA .char z vs dv) (q : ¬ j < 0 ∧ j < z) (hv : vs.getD j.toNatClampNeg dv = v) (hd : decode c.code pc = .ok (.caload, 1)) (hp : pc + 1 = pc') (k : OG p e below P (T.setTop (mkF m pc' L (v :: S)))) : OG p e below P (T.setTop (mkF m pc L (.int j :: .ref a :: S))) := by
 subst hp; obtain ⟨cl, A, q1, S1, q3, H, G⟩ := F
 exact OG.of (fun t k => X.caload hx (j := j) (v := v) (by rw [eT]; exact A.1) (State.isArrayOf_alike hZ.alike A.2.1) A.2.2 (inb_of S1 q) (H.at (inb_of S1 q) hv) (g := mkF m pc L (.int j :: .ref a :: S)) rfl rfl hd t k) k
theorem og_baload (X : Stand p l e R s m args below meth c T locs cells slots) (hx : p.tables.exec = Jvm.exec) (hZ : Z.Warmed39 s.vm) (eT : T.heap = h) {a : Addr} {kA : ClassId} {j z : Int32} {vs : List Value} {dv v : Value} (F : Arv Z h a kA .byte z vs dv) (q : ¬ j < 0 ∧ j < z) (hv : vs.getD j.toNatClampNeg dv = v) (hd : decode c.code pc = .ok (.baload, 1)) (hp : pc + 1 = pc') (k : OG p e below P (T.setTop (mkF m pc' L (v :: S)))) : OG p e below P (T.setTop (mkF m pc L (.int j :: .ref a :: S))) := by
 subst hp; obtain ⟨cl, A, q1, S1, q3, H, G⟩ := F
 exact OG.of (fun t k => X.baloadBytes hx (j := j) (v := v) (by rw [eT]; exact A.1) (State.isArrayOf_alike hZ.alike A.2.1) A.2.2 (inb_of S1 q) (H.at (inb_of S1 q) hv) (g := mkF m pc L (.int j :: .ref a :: S)) rfl rfl hd t k) k
theorem og_arraylength (X : Stand p l e R s m args below meth c T locs cells slots) (hx : p.tables.exec = Jvm.exec) (hZ : Z.Warmed39 s.vm) (eT : T.heap = h) {a : Addr} {kA : ClassId} {z : Int32} {vs : List Value} {dv : Value} {ty : FieldType} (F : Arv Z h a kA ty z vs dv) (hd : decode c.code pc = .ok (.arraylength, 1)) (hp : pc + 1 = pc') (k : OG p e below P (T.setTop (mkF m pc' L (.int z :: S)))) : OG p e below P (T.setTop (mkF m pc L (.ref a :: S))) := by
 subst hp; obtain ⟨cl, A, q1, S1, q3, H, G⟩ := F
 refine OG.of (fun t k => X.arraylength hx (by rw [eT]; exact A.1) (State.isArrayOf_alike hZ.alike A.2.1) (g := mkF m pc L (.ref a :: S)) rfl rfl hd t k) ?_
 rw [len_of S1 q3]; exact k
theorem og_initO (X : Stand p l e R s m args below meth c T locs cells slots) (hx : p.tables.exec = Jvm.exec) (hZ : Z.Warmed39 s.vm) {own : String} {idx : Nat} (hml : L.size = c.maxLocals) (hown : s.vm.findClass own = some m.cls) (w1 : (Cond.methodLink own idx Lib.objectInit).before a0 Z = true) (w2 : (Cond.instanceMethod Lib.objectInit).before a0 Z = true) (w3 : (Cond.code Lib.objectInit ⟨#[0xb1]⟩ 1 none).before a0 Z = true) (eT : T.heap = h) {a : Addr} {W : Nat} (hW : (S.map fun v => v.category).sum = W) (hf : 1 ≤ R.frames) (hl : W + 12 ≤ R.locals) (hd : decode c.code pc = .ok (.invokespecial idx, 3)) (hp : pc + 3 = pc') (k : ∀ T', Stand p l e R s m args below meth c T' locs cells slots → T'.heap = h → OG p e below P (T'.setTop (mkF m pc' L S))) : OG p e below P (T.setTop (mkF m pc L (.ref a :: S))) := by
 subst hp; obtain ⟨T', X', e', st⟩ := initO X hx hZ hown w1 w2 w3 eT (g := mkF m pc L (.ref a :: S)) rfl hml rfl hd hf (W := W) (by show 2 * 0 + _ ≤ _; rw [hW]; omega) hl
 exact OG.of st (k T' X' e')
theorem og_arraycopy (X : Stand p l e R s m args below meth c T locs cells slots) (hx : p.tables.exec = Jvm.exec) (hZ : Z.Warmed39 s.vm) {own : String} {index : Nat} (hml : L.size = c.maxLocals) (hown : s.vm.findClass own = some m.cls) (w1 : (Cond.methodLink own index Jvm.Stand.acN).before a0 Z = true) (w2 : (Cond.native Jvm.Stand.acN).before a0 Z = true) (w3 : (Cond.static Jvm.Stand.acN).before a0 Z = true) (w4 : (Cond.initialized "java/lang/System").before a0 Z = true) (eT : T.heap = h) {a b : Addr} {kA kB : ClassId} {ty : FieldType} {z z' sp dp nn : Int32} {vs vd us : List Value} {dv dd : Value} (A : Arv Z h a kA ty z vs dv) (B : Arv Z h b kB ty z' vd dd) (hty : refKind ty = false) (h1 : ¬ sp < 0) (h2 : ¬ dp < 0) (h3 : ¬ nn < 0) (h4 : sp.toNatClampNeg + nn.toNatClampNeg ≤ z.toNatClampNeg) (h5 : dp.toNatClampNeg + nn.toNatClampNeg ≤ z'.toNatClampNeg) (hus : us = (List.range nn.toNatClampNeg).map fun i => vs.getD (sp.toNatClampNeg + i) dv) (hl : dp.toNatClampNeg + nn.toNatClampNeg ≤ vd.length) {n0 : Nat} (N : Fr n0 locs) (ge : n0 ≤ b) {W : Nat} (hW : (S.map fun v => v.category).sum = W) (hf : 1 ≤ R.frames) (hlo : W + (nativeFrameWords "java/lang/System" "arraycopy" 5 + 11) ≤ R.locals) (hd : decode c.code pc = .ok (.invokestatic index, 3)) (hp : pc + 3 = pc') (k : ∀ T' h' l', Stand p l e R s m args below meth c T' l' cells slots → T'.heap = h' → Fr n0 l' → Keep h h' [b] → Arv Z h' b kB ty z' (vd.take dp.toNatClampNeg ++ us ++ vd.drop (dp.toNatClampNeg + nn.toNatClampNeg)) dd → OG p e below P (T'.setTop (mkF m pc' L S))) : OG p e below P (T.setTop (mkF m pc L (.int nn :: .int dp :: .ref b :: .int sp :: .ref a :: S))) := by
 subst hp; obtain ⟨T', h', l', X', e', N', K', V', st⟩ := cpA X hx hZ hown w1 w2 w3 w4 eT A B (Or.inl ⟨rfl, hty⟩) h1 h2 h3 h4 h5 hus hl N ge (g := mkF m pc L (.int nn :: .int dp :: .ref b :: .int sp :: .ref a :: S)) rfl hml rfl hd hf (W := W) (by show 2 * 0 + _ ≤ _; rw [hW]; omega) hlo
 exact OG.of st (k T' h' l' X' e' N' K' V')
theorem og_newarrayE (X : Stand p l e R s m args below meth c T locs cells slots) (hx : p.tables.exec = Jvm.exec) (hZ : Z.Warmed39 s.vm) {aty : ArrayType} {ty : FieldType} {cells' slots' : Nat} (hty : newarray.typeOf aty = ty) (w : (Cond.arrayClass ty).before a0 Z = true) (eT : T.heap = h) {n : Int32} (hn : ¬ n < 0) {cap : Nat} (hcap : n.toNatClampNeg ≤ cap) (hb : cap * 8 ≤ 536870912) {ad : String} (had : "[" ++ ty.toString = ad) (hd : decode c.code pc = .ok (.newarray aty, 2)) (hp : pc + 2 = pc') (hc' : cells + 1 = cells') (hs' : slots + cap = slots') (hc : cells' ≤ R.cells) (hl : slots' ≤ R.slots) (k : ∀ T' h' a kA, Stand p l e R s m args below meth c T' locs cells' slots' → T'.heap = h' → Ext h h' → a = h.size → Arv Z h' a kA ty n [] (defaultValue ty) → Exa Z h' a ad → OG p e below P (T'.setTop (mkF m pc' L (.ref a :: S)))) : OG p e below P (T.setTop (mkF m pc L (.int n :: S))) := by
 subst hp hc' hs' hty; obtain ⟨T', h', kA, X', e', E', A', EA, st⟩ := newPE X hx hZ w eT (g := mkF m pc L (.int n :: S)) rfl hd rfl hn hcap hb hc hl had
 exact OG.of st (k T' h' _ kA X' e' E' rfl (Arv.new A' hn) EA)
theorem og_clone (X : Stand p l e R s m args below meth c T locs cells slots) (hx : p.tables.exec = Jvm.exec) (hZ : Z.Warmed39 s.vm) {own ad : String} {index : Nat} (hml : L.size = c.maxLocals) (hown : s.vm.findClass own = some m.cls) (w1 : (Cond.methodLink own index ⟨ad, "clone", "()Ljava/lang/Object;"⟩).before a0 Z = true) (w2 : (Cond.sameMethod ad "java/lang/Object" "clone" "()Ljava/lang/Object;").before a0 Z = true) (w3 : (Cond.native ⟨"java/lang/Object", "clone", "()Ljava/lang/Object;"⟩).before a0 Z = true) (w4 : (Cond.instanceMethod ⟨"java/lang/Object", "clone", "()Ljava/lang/Object;"⟩).before a0 Z = true) (w5 : (Cond.selects ad ⟨ad, "clone", "()Ljava/lang/Object;"⟩ ⟨"java/lang/Object", "clone", "()Ljava/lang/Object;"⟩).before a0 Z = true) (w6 : (Cond.castable ad "java/lang/Cloneable").before a0 Z = true) (eT : T.heap = h) {a : Addr} {kA : ClassId} {z : Int32} {vs : List Value} {dv : Value} {ty : FieldType} (F : Arv Z h a kA ty z vs dv) (E : Exa Z h a ad) {W cap cells' slots' : Nat} (hW : (S.map fun v => v.category).sum = W) (hf : 1 ≤ R.frames) (hl : W + 14 ≤ R.locals) (hcap : z.toNatClampNeg ≤ cap) (hc' : cells + 1 = cells') (hs' : slots + cap = slots') (hc : cells' ≤ R.cells) (hs : slots' ≤ R.slots) (hd : decode c.code pc = .ok (.invokevirtual index, 3)) (hp : pc + 3 = pc') (k : ∀ T' h' b, Stand p l e R s m args below meth c T' locs cells' slots' → T'.heap = h' → Ext h h' → b = h.size → Arv Z h' b kA ty z vs dv → Exa Z h' b ad → OG p e below P (T'.setTop (mkF m pc' L (.ref b :: S)))) : OG p e below P (T.setTop (mkF m pc L (.ref a :: S))) := by
 subst hp hc' hs'; obtain ⟨T', h', X', e', E', V', A', st⟩ := cloneH X hx hZ hown w1 w2 w3 w4 w5 w6 eT F.arh E (g := mkF m pc L (.ref a :: S)) rfl hml rfl hd hf (W := W) (by show 2 * 0 + _ ≤ _; rw [hW]; omega) hl hcap hc hs
 exact OG.of st (k T' h' _ X' e' E' rfl V' A')
def Con (l : Launch) (Z : State) (y : MethodName) (bytes : ByteArray) (maxL : Nat) (ret : Option FieldType) (rm : Room) (as' : Array Value) (h : Heap) (Q : Option Value → Heap → List Loc → Prop) : Prop :=
 MetFree l y (head1 [Cond.code y bytes maxL ret] rm) (fun a U => a = as' ∧ Z.Warmed39 U.vm ∧ U.heap = h) (fun _ _ _ _ _ => True) (fun _ U o U' => ∃ v L, o = .returned v ∧ Q v U'.heap L ∧ FrameEnd U o U' L rm.cells rm.slots)
abbrev OFin (s : State) (Q : Option Value → Heap → List Loc → Prop) (k n : Nat) (o : Outcome) (t : State) : Prop := ∃ v L, o = .returned v ∧ Q v t.heap L ∧ FrameEnd s o t L k n
theorem own_start {y : MethodName} {bytes : ByteArray} {maxL : Nat} {ret : Option FieldType} {rm : Room} {as' : Array Value} {ws : List Cond} {Q : Option Value → Heap → List Loc → Prop} {kc ks : Nat} (hpn : plainFor y = true)
  (body : ∀ (p : Program) (e : Env) (s : State) (m : MethodId) (below : List Frame) (meth : Method) (c : Code) (T : State), Stand p l e rm s m as' below meth c T [] 0 0 → p.tables.exec = Jvm.exec → c.code = bytes → c.maxLocals = maxL → Z.Warmed39 s.vm → s.vm.findClass y.cls = some m.cls → meth.name = y.name → meth.sig.returnType = ret → meth.locks = false → T.heap = h → OG p e below (OFin s Q kc ks) (T.setTop (entryFrame m as' maxL))) :
  MetFree l y (head1 (Cond.code y bytes maxL ret :: ws) rm) (fun a U => a = as' ∧ Z.Warmed39 U.vm ∧ U.heap = h) (fun _ _ _ _ _ => True) (fun _ U o U' => ∃ v L, o = .returned v ∧ Q v U'.heap L ∧ FrameEnd U o U' L kc ks) := by
 refine MetFree.of_bodySF hpn hisR ?_
 intro p e s m args below meth c s₁ Bd hml0 hP hK
 obtain ⟨rfl, hZ, hh⟩ := hP
 exact body p e s m below meth c s₁ (Stand.of_body Bd) Bd.exec Bd.bytes hml0 hZ (findClass_of_methodNamed Bd.named) (name_of_methodNamed Bd.named Bd.method).1 Bd.returns Bd.notSynchronized (by rw [← hh, Bd.state]; rfl)
theorem own_startC {y : MethodName} {bytes : ByteArray} {maxL : Nat} {ret : Option FieldType} {rm : Room} {as' : Array Value} {Q : Option Value → Heap → List Loc → Prop} (hpn : plainFor y = true)
  (body : ∀ (p : Program) (e : Env) (s : State) (m : MethodId) (below : List Frame) (meth : Method) (c : Code) (T : State), Stand p l e rm s m as' below meth c T [] 0 0 → p.tables.exec = Jvm.exec → c.code = bytes → c.maxLocals = maxL → Z.Warmed39 s.vm → s.vm.findClass y.cls = some m.cls → meth.name = y.name → meth.sig.returnType = ret → meth.locks = false → T.heap = h → OG p e below (OFin s Q rm.cells rm.slots) (T.setTop (entryFrame m as' maxL))) : Con l Z y bytes maxL ret rm as' h Q := own_start (Q := Q) hpn body
theorem og_ret (X : Stand p l e R s m args below meth c T locs cells slots) (hlk : meth.locks = false) {Q : Option Value → Heap → List Loc → Prop} {kc ks : Nat} {g : JFrame} (v : Option Value) (hv : meth.sig.returnType = none → v = none)
  (st : ∀ fs, (∀ (f : JFrame) (acts : List Action), f.method = m → f.locked = none → f.entered = [] → (doReturn e (T.setTop f) acts v).1 = T.setFrames fs) → Steps p.tables e below (T.setTop g) (T.setFrames fs)) (hc : cells ≤ kc) (hs : slots ≤ ks) (hQ : Q v T.heap locs) : OG p e below (OFin s Q kc ks) (T.setTop g) := by
 obtain ⟨fs, hr, hrun, hended, hW, hsame⟩ := X.leave hv hlk
 exact ⟨_, _, st fs hr, hrun, hended, v, locs, rfl, hQ, ⟨_, rfl⟩, hW, hsame.mono hc hs⟩
theorem og_retI (X : Stand p l e R s m args below meth c T locs cells slots) (hx : p.tables.exec = Jvm.exec) (hlk : meth.locks = false) (hret : meth.sig.returnType = some .int) {Q : Option Value → Heap → List Loc → Prop} {kc ks : Nat} {z : Int32} (hd : decode c.code pc = .ok (.ireturn, 1)) (hc : cells ≤ kc) (hs : slots ≤ ks) (hQ : Q (some (.int z)) T.heap locs) : OG p e below (OFin s Q kc ks) (T.setTop (mkF m pc L (.int z :: S))) :=
 og_ret X hlk (some (.int z)) (fun q => by rw [hret] at q; cases q) (fun fs hr => retI X hx hret hd hr) hc hs hQ
theorem og_retN (X : Stand p l e R s m args below meth c T locs cells slots) (hx : p.tables.exec = Jvm.exec) (hlk : meth.locks = false) {t : FieldType} (hret : meth.sig.returnType = some t) (ht : t = .boolean ∨ t = .byte ∨ t = .char ∨ t = .short) {Q : Option Value → Heap → List Loc → Prop} {kc ks : Nat} {z : Int32} (hd : decode c.code pc = .ok (.ireturn, 1)) (hc : cells ≤ kc) (hs : slots ≤ ks) (hQ : Q (some (.int (nar t z))) T.heap locs) : OG p e below (OFin s Q kc ks) (T.setTop (mkF m pc L (.int z :: S))) :=
 og_ret X hlk (some (.int (nar t z))) (fun q => by rw [hret] at q; cases q) (fun fs hr => retN X hx hret ht hd hr) hc hs hQ
theorem og_retR (X : Stand p l e R s m args below meth c T locs cells slots) (hx : p.tables.exec = Jvm.exec) (hlk : meth.locks = false) {t : FieldType} (hret : meth.sig.returnType = some t) (ht : t.isReference = true) {Q : Option Value → Heap → List Loc → Prop} {kc ks : Nat} {v : Value} (hv : v.isRef = true) (hn : narrow t v = v) (hd : decode c.code pc = .ok (.areturn, 1)) (hc : cells ≤ kc) (hs : slots ≤ ks) (hQ : Q (some v) T.heap locs) : OG p e below (OFin s Q kc ks) (T.setTop (mkF m pc L (v :: S))) :=
 og_ret X hlk (some v) (fun q => by rw [hret] at q; cases q) (fun fs hr => retOut X hx hret hn (Or.inr (Or.inr (Or.inr (Or.inr ⟨rfl, ht, hv⟩)))) hd hr) hc hs hQ
theorem og_retV (X : Stand p l e R s m args below meth c T locs cells slots) (hx : p.tables.exec = Jvm.exec) (hlk : meth.locks = false) (hret : meth.sig.returnType = none) {Q : Option Value → Heap → List Loc → Prop} {kc ks : Nat} (hd : decode c.code pc = .ok (.return_, 1)) (hc : cells ≤ kc) (hs : slots ≤ ks) (hQ : Q none T.heap locs) : OG p e below (OFin s Q kc ks) (T.setTop (mkF m pc L [])) :=
 og_ret X hlk none (fun _ => rfl) (fun fs hr => X.returnOut hx hret hd hr) hc hs hQ
theorem og_static (X : Stand p l e R s m args below meth c T locs cells slots) (hx : p.tables.exec = Jvm.exec) (hZ : Z.Warmed39 s.vm) {own : String} {index : Nat} {y : MethodName} {bytes : ByteArray} {maxL : Nat} {ret : Option FieldType} {rm : Room} {as' : Array Value} {Q : Option Value → Heap → List Loc → Prop} {W cells' slots' : Nat} (hM : Con l Z y bytes maxL ret rm as' h Q) (hown : s.vm.findClass own = some m.cls) (w1 : (Cond.methodLink own index y).before a0 Z = true) (w2 : (Cond.static y).before a0 Z = true) (wz : (Cond.initialized y.cls).before a0 Z = true) (wc : (Cond.code y bytes maxL ret).before a0 Z = true) (hy : y.cls ≠ "java/lang/invoke/MethodHandle" ∧ y.cls ≠ "java/lang/invoke/VarHandle") (hml : L.size = c.maxLocals) (eT : T.heap = h) {ps : List FieldType} {rt : Option FieldType} (hpd : parseMethodDescriptor y.desc = some ⟨ps, rt⟩) (argsL rest : List Value) (hll : argsL.length = ps.length) (has : argsL.toArray = as') (hst : S = argsL.reverse ++ rest) (hW : (rest.map fun v => v.category).sum = W) (hf : rm.frames + 1 ≤ R.frames) (hl : W + (maxL + 11) + rm.locals ≤ R.locals) (hc' : cells + rm.cells = cells') (hs' : slots + rm.slots = slots') (hc : cells' ≤ R.cells) (hs : slots' ≤ R.slots) (hd : decode c.code pc = .ok (.invokestatic index, 3)) (hp : pc + 3 = pc') (k : ∀ v T' h' Lc, Stand p l e R s m args below meth c T' (locs ++ Lc) cells' slots' → T'.heap = h' → Q v h' Lc → OG p e below P (T'.setTop (mkF m pc' L (v.toList ++ rest)))) : OG p e below P (T.setTop (mkF m pc L S)) := by
 subst hp hst hc' hs' has
 obtain ⟨v, _, ⟨T1, L1, k1, n1⟩, -, X1, ⟨Lc, hQ, l1, y1, z1⟩, st⟩ := Jvm.LawKit.callS X hx (y := y) hown (mvT hZ w1) (mvT hZ w2) (mvT hZ wz) (mvT hZ wc) hy (backOf (W := W) hM hZ wc wz hf hl) (g := mkF m pc L (argsL.reverse ++ rest)) rfl hml (argsL := argsL) (rest := rest) (lenOf hpd hll) rfl (by show 2 * 0 + _ ≤ _; rw [hW]; omega) hd (fun _ _ => ⟨rfl, eT, hc, hs⟩)
 dsimp only [Pt.U, Pt.locs, Pt.cells, Pt.slots] at X1 l1 y1 z1 st hQ
 subst l1 y1 z1
 exact OG.of st (k v T1 _ Lc X1 rfl hQ)
theorem og_special (X : Stand p l e R s m args below meth c T locs cells slots) (hx : p.tables.exec = Jvm.exec) (hZ : Z.Warmed39 s.vm) {own : String} {index : Nat} {y : MethodName} {bytes : ByteArray} {maxL : Nat} {rm : Room} {as' : Array Value} {Q : Option Value → Heap → List Loc → Prop} {W cells' slots' : Nat} (hM : Con l Z y bytes maxL none rm as' h Q) (hin : y.name = "<init>") (hown : s.vm.findClass own = some m.cls) (w1 : (Cond.methodLink own index y).before a0 Z = true) (w2 : (Cond.instanceMethod y).before a0 Z = true) (wz : (Cond.initialized y.cls).before a0 Z = true) (wc : (Cond.code y bytes maxL none).before a0 Z = true) (hy : y.cls ≠ "java/lang/invoke/MethodHandle" ∧ y.cls ≠ "java/lang/invoke/VarHandle") (hml : L.size = c.maxLocals) (eT : T.heap = h) {ps : List FieldType} {rt : Option FieldType} (hpd : parseMethodDescriptor y.desc = some ⟨ps, rt⟩) {a : Addr} (argsL rest : List Value) (hll : argsL.length = ps.length) (has : (.ref a :: argsL).toArray = as') (hst : S = argsL.reverse ++ .ref a :: rest) (hW : (rest.map fun v => v.category).sum = W) (hf : rm.frames + 1 ≤ R.frames) (hl : W + (maxL + 11) + rm.locals ≤ R.locals) (hc' : cells + rm.cells = cells') (hs' : slots + rm.slots = slots') (hc : cells' ≤ R.cells) (hs : slots' ≤ R.slots) (hd : decode c.code pc = .ok (.invokespecial index, 3)) (hp : pc + 3 = pc') (k : ∀ v T' h' Lc, Stand p l e R s m args below meth c T' (locs ++ Lc) cells' slots' → T'.heap = h' → Q v h' Lc → OG p e below P (T'.setTop (mkF m pc' L (v.toList ++ rest)))) : OG p e below P (T.setTop (mkF m pc L S)) := by
 subst hp hst hc' hs' has
 obtain ⟨v, _, ⟨T1, L1, k1, n1⟩, -, X1, ⟨Lc, hQ, l1, y1, z1⟩, st⟩ := X.specialBack hx (y := y) hin hown (mvT hZ w1) (mvT hZ w2) (mvT hZ wc) hy (backOf (W := W) hM hZ wc wz hf hl) (g := mkF m pc L (argsL.reverse ++ .ref a :: rest)) rfl hml (Steps.refl _) (a := a) (argsL := argsL) (rest := rest) (lenOf hpd hll) rfl (by show 2 * 0 + _ ≤ _; rw [hW]; omega) hd (fun _ _ => ⟨rfl, eT, hc, hs⟩)
 dsimp only [Pt.U, Pt.locs, Pt.cells, Pt.slots] at X1 l1 y1 z1 st hQ
 subst l1 y1 z1
 exact OG.of (fun t k => st.trans k) (k v T1 _ Lc X1 rfl hQ)
theorem og_virtual (X : Stand p l e R s m args below meth c T locs cells slots) (hx : p.tables.exec = Jvm.exec) (hZ : Z.Warmed39 s.vm) {own C : String} {index : Nat} {y z : MethodName} {bytes : ByteArray} {maxL : Nat} {ret : Option FieldType} {rm : Room} {as' : Array Value} {Q : Option Value → Heap → List Loc → Prop} {W cells' slots' : Nat} (hM : Con l Z z bytes maxL ret rm as' h Q) (hown : s.vm.findClass own = some m.cls) (w1 : (Cond.methodLink own index y).before a0 Z = true) (w2 : (Cond.declares y).before a0 Z = true) (hnf : NotFace s y) (w3 : (Cond.selects C y z).before a0 Z = true) (w4 : (Cond.instanceMethod z).before a0 Z = true) (wz : (Cond.initialized z.cls).before a0 Z = true) (wc : (Cond.code z bytes maxL ret).before a0 Z = true) (hy : y.cls ≠ "java/lang/invoke/MethodHandle" ∧ y.cls ≠ "java/lang/invoke/VarHandle") (hml : L.size = c.maxLocals) (eT : T.heap = h) {ps : List FieldType} {rt : Option FieldType} (hpd : parseMethodDescriptor y.desc = some ⟨ps, rt⟩) {a : Addr} (argsL rest : List Value) (hll : argsL.length = ps.length) (has : (.ref a :: argsL).toArray = as') (hst : S = argsL.reverse ++ .ref a :: rest) (hW : (rest.map fun v => v.category).sum = W) (hf : rm.frames + 1 ≤ R.frames) (hl : W + (maxL + 11) + rm.locals ≤ R.locals) (hc' : cells + rm.cells = cells') (hs' : slots + rm.slots = slots') (hc : cells' ≤ R.cells) (hs : slots' ≤ R.slots) (E : Exa Z h a C) (hd : decode c.code pc = .ok (.invokevirtual index, 3)) (hp : pc + 3 = pc') (k : ∀ v T' h' Lc, Stand p l e R s m args below meth c T' (locs ++ Lc) cells' slots' → T'.heap = h' → Q v h' Lc → OG p e below P (T'.setTop (mkF m pc' L (v.toList ++ rest)))) : OG p e below P (T.setTop (mkF m pc L S)) := by
 subst hp hst hc' hs' has
 obtain ⟨cq, kq, qa, qb, qc⟩ := isOf hZ eT E
 obtain ⟨v, _, ⟨T1, L1, k1, n1⟩, -, X1, ⟨Lc, hQ, l1, y1, z1⟩, st⟩ := X.virtualBack hx (y := y) (z := z) hown (mvT hZ w1) (mvT hZ w2) hnf (mvT hZ w3) (mvT hZ w4) hy (backOf (W := W) hM hZ wc wz hf hl) qa qc (g := mkF m pc L (argsL.reverse ++ .ref a :: rest)) rfl hml (Steps.refl _) (argsL := argsL) (rest := rest) (lenOf hpd hll) rfl (by show 2 * 0 + _ ≤ _; rw [hW]; omega) hd (fun _ _ => ⟨rfl, eT, hc, hs⟩)
 dsimp only [Pt.U, Pt.locs, Pt.cells, Pt.slots] at X1 l1 y1 z1 st hQ
 subst l1 y1 z1
 exact OG.of (fun t k => st.trans k) (k v T1 _ Lc X1 rfl hQ)
theorem own_nf (hZ : Z.Warmed39 s.vm) {C : String} {y : MethodName} (w : (Cond.selects C y y).before a0 Z = true) : NotFace s y := notFace_of_selects (args := #[]) (mvT hZ w)
theorem own_n0 {n0 : Nat} (O : Old Z n0 h) : n0 ≤ h.size := O.1 ▸ O.2.1
theorem nar_of_ref {v : Value} {t : FieldType} (q : v.isRef = true) : narrow t v = v := by rcases ref_cases q with rfl | ⟨a, rfl⟩ <;> cases t <;> rfl
theorem fits_of_ref {v : Value} {t : FieldType} (q : v.isRef = true) (r : t.isReference = true) : fits t v = true := by rcases ref_cases q with rfl | ⟨a, rfl⟩ <;> cases t <;> first | rfl | cases r
theorem own_nfc {y y' : MethodName} {C : String} {a0 : Array Value} (w : (Cond.declares y').before a0 Z = true) (w' : (Cond.selects C y' y').before a0 Z = true) (e : y.cls = y'.cls) : NotFace Z y := fun r0 hn => by
 obtain ⟨r1, r, hn', -⟩ := Cond.declares_spec w
 obtain ⟨k, hk, hi⟩ := notFace_of_selects w' r1 hn'
 have a := findClass_of_methodNamed hn
 have b := findClass_of_methodNamed hn'
 rw [e] at a
 have q : r0.cls = r1.cls := Option.some.inj (a.symm.trans b)
 exact ⟨k, by rw [q]; exact hk, hi⟩
theorem own_sameM {y : MethodName} {a0 : Array Value} (w : (Cond.declares y).before a0 Z = true) (nf : NotFace Z y) (hy : y.cls ≠ "java/lang/invoke/MethodHandle" ∧ y.cls ≠ "java/lang/invoke/VarHandle") : (Cond.sameMethod y.cls y.cls y.name y.desc).before a0 Z = true := by
 obtain ⟨r0, r, hn, hrm, -, -⟩ := Cond.declares_spec w
 obtain ⟨kr, hkr, hni⟩ := nf r0 hn
 have hc := findClass_of_methodNamed hn
 have hf := State.methodFound?_of_named hn hy
 simp [Cond.before, Cond.holds, Cond.value, hc, hf, hn, hkr, hni]
theorem own_selfp {y : MethodName} {C : String} {a0 : Array Value} (w : (Cond.selects C y y).before a0 Z = true) (wi : (Cond.instanceMethod y).before a0 Z = true) (wp : (Cond.privateMethod y).before a0 Z = true) (hy : y.cls ≠ "java/lang/invoke/MethodHandle" ∧ y.cls ≠ "java/lang/invoke/VarHandle") : (Cond.selects y.cls y y).before a0 Z = true := by
 obtain ⟨c2, r2, m2, -, -, q3, -, k, hk, hki⟩ := Cond.selects_spec w
 exact selects_self_of_private (findClass_of_methodNamed q3) hk hki (Cond.privateMethod_at wp) wi hy
theorem og_super (X : Stand p l e R s m args below meth c T locs cells slots) (hx : p.tables.exec = Jvm.exec) (hZ : Z.Warmed39 s.vm) {own K : String} {index : Nat} {y : MethodName} {bytes : ByteArray} {maxL : Nat} {ret : Option FieldType} {rm : Room} {as' : Array Value} {Q : Option Value → Heap → List Loc → Prop} {W cells' slots' : Nat} (hM : Con l Z y bytes maxL ret rm as' h Q) (hown : s.vm.findClass own = some m.cls) (w1 : (Cond.methodLink own index y).before a0 Z = true) (w2 : (Cond.sameMethod y.cls y.cls y.name y.desc).before a0 Z = true) (w3 : (Cond.instanceMethod y).before a0 Z = true) (w4 : (Cond.superclass own y.cls).before a0 Z = true) (hn : y.name ≠ "<init>") (wz : (Cond.initialized y.cls).before a0 Z = true) (wc : (Cond.code y bytes maxL ret).before a0 Z = true) (hy : y.cls ≠ "java/lang/invoke/MethodHandle" ∧ y.cls ≠ "java/lang/invoke/VarHandle") (hml : L.size = c.maxLocals) (eT : T.heap = h) {ps : List FieldType} {rt : Option FieldType} (hpd : parseMethodDescriptor y.desc = some ⟨ps, rt⟩) {a : Addr} (argsL rest : List Value) (hll : argsL.length = ps.length) (has : (.ref a :: argsL).toArray = as') (hst : S = argsL.reverse ++ .ref a :: rest) (hW : (rest.map fun v => v.category).sum = W) (hf : rm.frames + 1 ≤ R.frames) (hl : W + (maxL + 11) + rm.locals ≤ R.locals) (hc' : cells + rm.cells = cells') (hs' : slots + rm.slots = slots') (hc : cells' ≤ R.cells) (hs : slots' ≤ R.slots) (E : Exa Z h a K) (hd : decode c.code pc = .ok (.invokespecial index, 3)) (hp : pc + 3 = pc') (k : ∀ v T' h' Lc, Stand p l e R s m args below meth c T' (locs ++ Lc) cells' slots' → T'.heap = h' → Q v h' Lc → OG p e below P (T'.setTop (mkF m pc' L (v.toList ++ rest)))) : OG p e below P (T.setTop (mkF m pc L S)) := by
 subst hp hst hc' hs' has
 obtain ⟨v, _, ⟨T1, L1, k1, n1⟩, -, X1, ⟨Lc, hQ, l1, y1, z1⟩, st⟩ := superBack X hx hZ (y := y) hown w1 w2 w3 w4 hn (backOf (W := W) hM hZ wc wz hf hl) eT (Ins.self E) (g := mkF m pc L (argsL.reverse ++ .ref a :: rest)) rfl hml wc (argsL := argsL) (rest := rest) (lenOf hpd hll) rfl (by show 2 * 0 + _ ≤ _; rw [hW]; omega) hd (fun _ _ => ⟨rfl, eT, hc, hs⟩)
 dsimp only [Pt.U, Pt.locs, Pt.cells, Pt.slots] at X1 l1 y1 z1 st hQ
 subst l1 y1 z1
 exact OG.of (fun t k => st.trans k) (k v T1 _ Lc X1 rfl hQ)
theorem og_private (X : Stand p l e R s m args below meth c T locs cells slots) (hx : p.tables.exec = Jvm.exec) (hZ : Z.Warmed39 s.vm) {own : String} {index : Nat} {y : MethodName} {bytes : ByteArray} {maxL : Nat} {ret : Option FieldType} {rm : Room} {as' : Array Value} {Q : Option Value → Heap → List Loc → Prop} {W cells' slots' : Nat} (hM : Con l Z y bytes maxL ret rm as' h Q) (hown : s.vm.findClass own = some m.cls) (w1 : (Cond.methodLink own index y).before a0 Z = true) (w2 : (Cond.instanceMethod y).before a0 Z = true) (w3 : (Cond.selects y.cls y y).before a0 Z = true) (w4 : (Cond.privateMethod y).before a0 Z = true) (wz : (Cond.initialized y.cls).before a0 Z = true) (wc : (Cond.code y bytes maxL ret).before a0 Z = true) (hy : y.cls ≠ "java/lang/invoke/MethodHandle" ∧ y.cls ≠ "java/lang/invoke/VarHandle") (hml : L.size = c.maxLocals) (eT : T.heap = h) {ps : List FieldType} {rt : Option FieldType} (hpd : parseMethodDescriptor y.desc = some ⟨ps, rt⟩) {a : Addr} (argsL rest : List Value) (hll : argsL.length = ps.length) (has : (.ref a :: argsL).toArray = as') (hst : S = argsL.reverse ++ .ref a :: rest) (hW : (rest.map fun v => v.category).sum = W) (hf : rm.frames + 1 ≤ R.frames) (hl : W + (maxL + 11) + rm.locals ≤ R.locals) (hc' : cells + rm.cells = cells') (hs' : slots + rm.slots = slots') (hc : cells' ≤ R.cells) (hs : slots' ≤ R.slots) {C : String} (E : Exa Z h a C) (hd : decode c.code pc = .ok (.invokevirtual index, 3)) (hp : pc + 3 = pc') (k : ∀ v T' h' Lc, Stand p l e R s m args below meth c T' (locs ++ Lc) cells' slots' → T'.heap = h' → Q v h' Lc → OG p e below P (T'.setTop (mkF m pc' L (v.toList ++ rest)))) : OG p e below P (T.setTop (mkF m pc L S)) := by
 subst hp hst hc' hs' has
 obtain ⟨cq, q1, q2⟩ := E.cell
 obtain ⟨v, _, ⟨T1, L1, k1, n1⟩, -, X1, ⟨Lc, hQ, l1, y1, z1⟩, st⟩ := X.privateBack hx (y := y) hown (mvT hZ w1) (mvT hZ w2) (mvT hZ w3) (Cond.privateMethod_at (mvP hZ w4 (args := #[]))) (mvT hZ wc) hy (backOf (W := W) hM hZ wc wz hf hl) (g := mkF m pc L (argsL.reverse ++ .ref a :: rest)) rfl hml (Steps.refl _) (a := a) (by rw [eT]; exact q1) q2 (argsL := argsL) (rest := rest) (lenOf hpd hll) rfl (by show 2 * 0 + _ ≤ _; rw [hW]; omega) hd (fun _ _ => ⟨rfl, eT, hc, hs⟩)
 dsimp only [Pt.U, Pt.locs, Pt.cells, Pt.slots] at X1 l1 y1 z1 st hQ
 subst l1 y1 z1
 exact OG.of (fun t k => st.trans k) (k v T1 _ Lc X1 rfl hQ)
theorem og_virtualUp (X : Stand p l e R s m args below meth c T locs cells slots) (hx : p.tables.exec = Jvm.exec) (hZ : Z.Warmed39 s.vm) {own C owner : String} {index : Nat} {y z : MethodName} {bytes : ByteArray} {maxL : Nat} {ret : Option FieldType} {rm : Room} {as' : Array Value} {Q : Option Value → Heap → List Loc → Prop} {W cells' slots' : Nat} (hM : Con l Z z bytes maxL ret rm as' h Q) (hown : s.vm.findClass own = some m.cls) (w1 : (Cond.methodLink own index y).before a0 Z = true) (w2 : (Cond.sameMethod y.cls owner y.name y.desc).before a0 Z = true) (w2' : (Cond.declares ⟨owner, y.name, y.desc⟩).before a0 Z = true) (hy' : owner ≠ "java/lang/invoke/MethodHandle" ∧ owner ≠ "java/lang/invoke/VarHandle") (w3 : (Cond.selects C y z).before a0 Z = true) (w4 : (Cond.instanceMethod z).before a0 Z = true) (wz : (Cond.initialized z.cls).before a0 Z = true) (wc : (Cond.code z bytes maxL ret).before a0 Z = true) (hy : y.cls ≠ "java/lang/invoke/MethodHandle" ∧ y.cls ≠ "java/lang/invoke/VarHandle") (hml : L.size = c.maxLocals) (eT : T.heap = h) {ps : List FieldType} {rt : Option FieldType} (hpd : parseMethodDescriptor y.desc = some ⟨ps, rt⟩) {a : Addr} (argsL rest : List Value) (hll : argsL.length = ps.length) (has : (.ref a :: argsL).toArray = as') (hst : S = argsL.reverse ++ .ref a :: rest) (hW : (rest.map fun v => v.category).sum = W) (hf : rm.frames + 1 ≤ R.frames) (hl : W + (maxL + 11) + rm.locals ≤ R.locals) (hc' : cells + rm.cells = cells') (hs' : slots + rm.slots = slots') (hc : cells' ≤ R.cells) (hs : slots' ≤ R.slots) (E : Exa Z h a C) (hd : decode c.code pc = .ok (.invokevirtual index, 3)) (hp : pc + 3 = pc') (k : ∀ v T' h' Lc, Stand p l e R s m args below meth c T' (locs ++ Lc) cells' slots' → T'.heap = h' → Q v h' Lc → OG p e below P (T'.setTop (mkF m pc' L (v.toList ++ rest)))) : OG p e below P (T.setTop (mkF m pc L S)) := by
 subst hp hst hc' hs' has
 obtain ⟨cq, kq, qa, qb, qc⟩ := isOf hZ eT E
 obtain ⟨v, _, ⟨T1, L1, k1, n1⟩, -, X1, ⟨Lc, hQ, l1, y1, z1⟩, st⟩ := X.virtualBackUp hx (x := y) (y := z) hown (mvT hZ w1) (mvT hZ w2) (mvT hZ w2') hy' (mvT hZ w3) (mvT hZ w4) (backOf (W := W) hM hZ wc wz hf hl) qa qc (g := mkF m pc L (argsL.reverse ++ .ref a :: rest)) rfl hml (Steps.refl _) (argsL := argsL) (rest := rest) (lenOf hpd hll) rfl (by show 2 * 0 + _ ≤ _; rw [hW]; omega) hd (fun _ _ => ⟨rfl, eT, hc, hs⟩)
 dsimp only [Pt.U, Pt.locs, Pt.cells, Pt.slots] at X1 l1 y1 z1 st hQ
 subst l1 y1 z1
 exact OG.of (fun t k => st.trans k) (k v T1 _ Lc X1 rfl hQ)
end OwnKit
section OwnKitW
variable {p : Program} {l : Launch} {e : Env} {R : Room} {s : State} {m : MethodId} {args : Array Value} {below : List Frame} {meth : Method} {c : Code} {T : State} {locs : List Loc} {cells slots : Nat} {Z : State} {a0 : Array Value} {h : Heap} {P : Outcome → State → Prop} {pc pc' pc1 pc2 : Nat} {L L' : Array Slot} {S : List Value} {vm : Vm} {EL : List (String × Nat)} {k0 : Nat}
abbrev FinW (s Z : State) (EL : List (String × Nat)) (Q : Option Value → Heap → List Loc → Prop) (k n : Nat) (o : Outcome) (t : State) : Prop := ∃ v L, o = .returned v ∧ Q v t.heap L ∧ CHr Z EL s.vm s.heap t.vm t.heap ∧ ReturnedEndW s o t L k n
def ConW (l : Launch) (Z : State) (EL : List (String × Nat)) (sw : List Addr) (y : MethodName) (bytes : ByteArray) (maxL : Nat) (ret : Option FieldType) (rm : Room) (as' : Array Value) (h : Heap) (Q : Option Value → Heap → List Loc → Prop) : Prop :=
 MetFree l y (head1 [Cond.code y bytes maxL ret] rm) (fun a U => a = as' ∧ Z.Warmed39 U.vm ∧ U.heap = h ∧ CHv Z EL U.vm h ∧ ∀ x ∈ sw, Safe Z EL U.vm h x) (fun _ _ _ _ _ => True) (fun _ U o U' => ∃ v L, o = .returned v ∧ Q v U'.heap L ∧ CHr Z EL U.vm U.heap U'.vm U'.heap ∧ ReturnedEndW U o U' L rm.cells rm.slots)
theorem own_since (s : State) (n : Nat) : s.Since s.vm n := ⟨State.Warmed39.refl s, by first | exact State.Booked.refl _ _ | (intro j q h1 h2; exact absurd (Array.getElem?_eq_some_iff.mp h2).1 (Nat.not_lt.mpr h1)) | simp [State.Booked]⟩
theorem own_backW {sw : List Addr} {y : MethodName} {bytes : ByteArray} {maxL : Nat} {ret : Option FieldType} {rm : Room} {len W : Nat} {as' : Array Value} {Q : Option Value → Heap → List Loc → Prop} (hM : ConW l Z EL sw y bytes maxL ret rm as' h Q) (hZ : Z.Warmed39 vm) (wc : (Cond.code y bytes maxL ret).before a0 Z = true) (wz : (Cond.initialized y.cls).before a0 Z = true) (hf : rm.frames + 1 ≤ R.frames) (hl : W + (maxL + 11) + rm.locals ≤ R.locals) (hEL : EW Z a0 EL) (H : CHv Z EL vm h) (hsw : ∀ x ∈ sw, x < h.size ∧ Safe Z EL vm h x) :
    BackS l R p e below (s.setVm vm) args y len W (fun A a => a = as' ∧ A.U.heap = h ∧ A.cells + rm.cells ≤ R.cells ∧ A.slots + rm.slots ≤ R.slots) (fun A _ v B => ∃ L, Q v B.U.heap L ∧ B.locs = A.locs ++ L ∧ B.cells = A.cells + rm.cells ∧ B.slots = A.slots + rm.slots ∧ CHr Z EL vm h B.U.vm B.U.heap) := by
  refine BackS.of_freeW (bytes := bytes) (maxL := maxL) (ret := ret) (E := fun _ first o t L k n => k = rm.cells ∧ n = rm.slots ∧ (∃ v, o = .returned v ∧ Q v t.heap L) ∧ CHr Z EL first.vm first.heap t.vm t.heap) hM hf hl ?_ ?_ (fun _ _ _ _ _ _ _ _ _ => trivial) ?_ ?_
  · intro m meth c A a Y hp
    have hU : Z.Warmed39 A.U.vm := wtrans (s := s.setVm vm) hZ Y.warmed
    exact ⟨by show (Cond.and _ .tt).before a A.U = true; rw [Cond.before_and, mv hU wc]; rfl, mv hU wc, mv hU wz, hp.2.2.1, hp.2.2.2⟩
  · intro m meth c A a g mk Y hp
    have q := CHv.at Y hZ hEL H
    exact ⟨hp.1, wtrans (s := s.setVm vm) hZ Y.warmed, hp.2.1, q.1, fun x hx => q.safe (hsw x hx).1 (hsw x hx).2⟩
  · rintro _ _ _ _ ⟨v, L, h1, h2, h3, h4⟩
    exact ⟨L, _, _, h4, rfl, rfl, ⟨v, h1, h2⟩, h3⟩
  · rintro m meth c A a g mk v t L k n Y hp _ _ ⟨e1, e2, ⟨v', e3, e4⟩, e5⟩
    cases e3; subst e1 e2
    refine ⟨L, e4, rfl, rfl, rfl, (CHv.at Y hZ hEL H).trans ?_⟩
    rw [← hp.2.1]; exact e5
theorem own_startW {sw : List Addr} {y : MethodName} {bytes : ByteArray} {maxL : Nat} {ret : Option FieldType} {rm : Room} {as' : Array Value} {ws : List Cond} {Q : Option Value → Heap → List Loc → Prop} {kc ks : Nat} (hpn : plainFor y = true)
  (body : ∀ (p : Program) (e : Env) (s : State) (m : MethodId) (below : List Frame) (meth : Method) (c : Code) (T : State), Stand p l e rm (s.setVm s.vm) m as' below meth c T [] 0 0 → p.tables.exec = Jvm.exec → c.code = bytes → c.maxLocals = maxL → Z.Warmed39 s.vm → s.vm.findClass y.cls = some m.cls → meth.name = y.name → meth.sig.returnType = ret → meth.locks = false → T.heap = h → s.heap = h → s.Since s.vm h.size → CHr Z EL s.vm h s.vm h → (∀ x ∈ sw, Safe Z EL s.vm h x) → OG p e below (FinW s Z EL Q kc ks) (T.setTop (entryFrame m as' maxL))) :
  MetFree l y (head1 (Cond.code y bytes maxL ret :: ws) rm) (fun a U => a = as' ∧ Z.Warmed39 U.vm ∧ U.heap = h ∧ CHv Z EL U.vm h ∧ ∀ x ∈ sw, Safe Z EL U.vm h x) (fun _ _ _ _ _ => True) (fun _ U o U' => ∃ v L, o = .returned v ∧ Q v U'.heap L ∧ CHr Z EL U.vm U.heap U'.vm U'.heap ∧ ReturnedEndW U o U' L kc ks) := by
 refine MetFree.of_bodySF hpn hisR ?_
 intro p e s m args below meth c s₁ Bd hml0 hP hK
 obtain ⟨rfl, hZ, hh, hC, hQ⟩ := hP
 exact body p e s m below meth c s₁ (Stand.of_body Bd) Bd.exec Bd.bytes hml0 hZ (findClass_of_methodNamed Bd.named) (name_of_methodNamed Bd.named Bd.method).1 Bd.returns Bd.notSynchronized (by rw [← hh, Bd.state]; rfl) hh (own_since s _) (CHr.refl hC) hQ
theorem own_startWC {sw : List Addr} {y : MethodName} {bytes : ByteArray} {maxL : Nat} {ret : Option FieldType} {rm : Room} {as' : Array Value} {Q : Option Value → Heap → List Loc → Prop} (hpn : plainFor y = true)
  (body : ∀ (p : Program) (e : Env) (s : State) (m : MethodId) (below : List Frame) (meth : Method) (c : Code) (T : State), Stand p l e rm (s.setVm s.vm) m as' below meth c T [] 0 0 → p.tables.exec = Jvm.exec → c.code = bytes → c.maxLocals = maxL → Z.Warmed39 s.vm → s.vm.findClass y.cls = some m.cls → meth.name = y.name → meth.sig.returnType = ret → meth.locks = false → T.heap = h → s.heap = h → s.Since s.vm h.size → CHr Z EL s.vm h s.vm h → (∀ x ∈ sw, Safe Z EL s.vm h x) → OG p e below (FinW s Z EL Q rm.cells rm.slots) (T.setTop (entryFrame m as' maxL))) : ConW l Z EL sw y bytes maxL ret rm as' h Q := own_startW (Q := Q) hpn body
theorem og_retW (X : Stand p l e R (s.setVm vm) m args below meth c T locs cells slots) (hZ : Z.Warmed39 vm) (hlk : meth.locks = false) {Q : Option Value → Heap → List Loc → Prop} {kc ks : Nat} {g : JFrame} (hEL : EW Z a0 EL) (hS : s.Since vm k0) (eT : T.heap = h) {h' : Heap} (e0 : s.heap = h') (hk : k0 ≤ h.size) (hR : CHr Z EL s.vm h' vm h) (v : Option Value) (hv : meth.sig.returnType = none → v = none)
  (st : ∀ fs, (∀ (f : JFrame) (acts : List Action), f.method = m → f.locked = none → f.entered = [] → (doReturn e (T.setTop f) acts v).1 = T.setFrames fs) → Steps p.tables e below (T.setTop g) (T.setFrames fs)) (hc : cells ≤ kc) (hs : slots ≤ ks) (hQ : Q v T.heap locs) : OG p e below (FinW s Z EL Q kc ks) (T.setTop g) := by
 subst eT e0
 obtain ⟨fs, hr, hrun, hended, hW⟩ := X.leaveW hS hk hv hlk
 have q := CHv.at X hZ hEL hR.1
 exact ⟨_, _, st fs hr, hrun, hended, v, locs, rfl, hQ, hR.trans q, hW.1, hW.2.1, hW.2.2.1, hW.2.2.2.mono hc hs⟩
theorem og_retNW (X : Stand p l e R (s.setVm vm) m args below meth c T locs cells slots) (hx : p.tables.exec = Jvm.exec) (hZ : Z.Warmed39 vm) (hlk : meth.locks = false) (hEL : EW Z a0 EL) (hS : s.Since vm k0) (eT : T.heap = h) {h' : Heap} (e0 : s.heap = h') (hk : k0 ≤ h.size) (hR : CHr Z EL s.vm h' vm h) {t : FieldType} (hret : meth.sig.returnType = some t) (ht : t = .boolean ∨ t = .byte ∨ t = .char ∨ t = .short) {Q : Option Value → Heap → List Loc → Prop} {kc ks : Nat} {z : Int32} (hd : decode c.code pc = .ok (.ireturn, 1)) (hc : cells ≤ kc) (hs : slots ≤ ks) (hQ : Q (some (.int (nar t z))) T.heap locs) : OG p e below (FinW s Z EL Q kc ks) (T.setTop (mkF m pc L (.int z :: S))) :=
 og_retW X hZ hlk hEL hS eT e0 hk hR (some (.int (nar t z))) (fun q => by rw [hret] at q; cases q) (fun fs hr => retN X hx hret ht hd hr) hc hs hQ
theorem og_retRW (X : Stand p l e R (s.setVm vm) m args below meth c T locs cells slots) (hx : p.tables.exec = Jvm.exec) (hZ : Z.Warmed39 vm) (hlk : meth.locks = false) (hEL : EW Z a0 EL) (hS : s.Since vm k0) (eT : T.heap = h) {h' : Heap} (e0 : s.heap = h') (hk : k0 ≤ h.size) (hR : CHr Z EL s.vm h' vm h) {t : FieldType} (hret : meth.sig.returnType = some t) (ht : t.isReference = true) {Q : Option Value → Heap → List Loc → Prop} {kc ks : Nat} {v : Value} (hv : v.isRef = true) (hn : narrow t v = v) (hd : decode c.code pc = .ok (.areturn, 1)) (hc : cells ≤ kc) (hs : slots ≤ ks) (hQ : Q (some v) T.heap locs) : OG p e below (FinW s Z EL Q kc ks) (T.setTop (mkF m pc L (v :: S))) :=
 og_retW X hZ hlk hEL hS eT e0 hk hR (some v) (fun q => by rw [hret] at q; cases q) (fun fs hr => retOut X hx hret hn (Or.inr (Or.inr (Or.inr (Or.inr ⟨rfl, ht, hv⟩)))) hd hr) hc hs hQ
theorem og_retVW (X : Stand p l e R (s.setVm vm) m args below meth c T locs cells slots) (hx : p.tables.exec = Jvm.exec) (hZ : Z.Warmed39 vm) (hlk : meth.locks = false) (hEL : EW Z a0 EL) (hS : s.Since vm k0) (eT : T.heap = h) {h' : Heap} (e0 : s.heap = h') (hk : k0 ≤ h.size) (hR : CHr Z EL s.vm h' vm h) (hret : meth.sig.returnType = none) {Q : Option Value → Heap → List Loc → Prop} {kc ks : Nat}  (hd : decode c.code pc = .ok (.return_, 1)) (hc : cells ≤ kc) (hs : slots ≤ ks) (hQ : Q none T.heap locs) : OG p e below (FinW s Z EL Q kc ks) (T.setTop (mkF m pc L [])) :=
 og_retW X hZ hlk hEL hS eT e0 hk hR none (fun _ => rfl) (fun fs hr => X.returnOut hx hret hd hr) hc hs hQ
theorem og_ldcS (X : Stand p l e R (s.setVm vm) m args below meth c T locs cells slots) (hx : p.tables.exec = Jvm.exec) (hZ : Z.Warmed39 vm) {own text : String} {index : Nat} (hown : vm.findClass own = some m.cls) (w : (Cond.stringLink own index text).before a0 Z = true) (wS : ∀ a ∈ Bundle.stringAtoms, a.before a0 Z = true) (eT : T.heap = h) (hS : s.Since vm k0) (hk : k0 ≤ h.size) (hEL : EW Z a0 EL) (hmem : (own, index) ∈ EL) (H : CHv Z EL vm h) {vs : List Value} {z : Int32} (ht : (∀ c ∈ text.toList, c.toNat < 256) ∧ text.toList.map (fun c => Value.int (Jvm.Lit.byteI c.toNat.toUInt16)) = vs) (hz : ¬ z < 0) (hl : z.toNatClampNeg = vs.length) {n cells' slots' : Nat} (hn : 4 * text.toList.length ≤ n) (hbig : n ≤ 536870912) (hd : decode c.code pc = .ok (.ldc index, 2)) (hp : pc + 2 = pc') (hc' : cells + 2 = cells') (hs' : slots + (n + 4) = slots') (hc : cells' ≤ R.cells) (hsl : slots' ≤ R.slots) (k : ∀ a T' h' k1 b kA, Stand p l e R (s.setVm T'.vm) m args below meth c T' locs cells' slots' → T'.heap = h' → Ext h h' → s.Since T'.vm k1 → k1 ≤ h'.size → Z.Warmed39 T'.vm → T'.vm.findClass own = some m.cls → Exa Z h' a "java/lang/String" → Fld Z h' a "java/lang/String" "coder" "B" (.int 0) → Fld Z h' a "java/lang/String" "value" "[B" (.ref b) → Arv Z h' b kA .byte z vs (.int 0) → CHr Z EL vm h T'.vm h' → (∀ x, Safe Z EL T'.vm h' x → x ≠ a ∧ x ≠ b) → OG p e below P (T'.setTop (mkF m pc' L (.ref a :: S)))) : OG p e below P (T.setTop (mkF m pc L S)) := by
 subst hp hc' hs'
 obtain ⟨a, T', h', k1, b, kA, X', e', E', S', hk', hZ', ho', A1, A2, A3, A4, -, -, hC', -, hne', st⟩ := ldcCH X hx hZ hown w wS eT hS hk hEL hmem H ht hz hl (g := mkF m pc L S) rfl hd hn hbig hc hsl
 exact OG.of st (k a T' h' k1 b kA X' e' E' S' hk' hZ' ho' A1 A2 A3 A4 hC' hne')
theorem og_staticW (X : Stand p l e R (s.setVm vm) m args below meth c T locs cells slots) (hx : p.tables.exec = Jvm.exec) (hZ : Z.Warmed39 vm) {own : String} {index : Nat} {y : MethodName} {bytes : ByteArray} {maxL : Nat} {ret : Option FieldType} {sw : List Addr} {rm : Room} {as' : Array Value} {Q : Option Value → Heap → List Loc → Prop} {W cells' slots' : Nat} (hM : ConW l Z EL sw y bytes maxL ret rm as' h Q) (hEL : EW Z a0 EL) (hS : s.Since vm k0) (hk : k0 ≤ h.size) (H : CHv Z EL vm h) (hsw : ∀ x ∈ sw, x < h.size ∧ Safe Z EL vm h x) (hown : vm.findClass own = some m.cls) (w1 : (Cond.methodLink own index y).before a0 Z = true) (w2 : (Cond.static y).before a0 Z = true) (wz : (Cond.initialized y.cls).before a0 Z = true) (wc : (Cond.code y bytes maxL ret).before a0 Z = true) (hy : y.cls ≠ "java/lang/invoke/MethodHandle" ∧ y.cls ≠ "java/lang/invoke/VarHandle") (hml : L.size = c.maxLocals) (eT : T.heap = h) {ps : List FieldType} {rt : Option FieldType} (hpd : parseMethodDescriptor y.desc = some ⟨ps, rt⟩) (argsL rest : List Value) (hll : argsL.length = ps.length) (has : argsL.toArray = as') (hst : S = argsL.reverse ++ rest) (hW : (rest.map fun v => v.category).sum = W) (hf : rm.frames + 1 ≤ R.frames) (hl : W + (maxL + 11) + rm.locals ≤ R.locals) (hc' : cells + rm.cells = cells') (hs' : slots + rm.slots = slots') (hc : cells' ≤ R.cells) (hs : slots' ≤ R.slots) (hd : decode c.code pc = .ok (.invokestatic index, 3)) (hp : pc + 3 = pc') (k : ∀ v T' h' Lc k1, Stand p l e R (s.setVm T'.vm) m args below meth c T' (locs ++ Lc) cells' slots' → T'.heap = h' → s.Since T'.vm k1 → k1 ≤ h'.size → Z.Warmed39 T'.vm → T'.vm.findClass own = some m.cls → CHr Z EL vm h T'.vm h' → Q v h' Lc → OG p e below P (T'.setTop (mkF m pc' L (v.toList ++ rest)))) : OG p e below P (T.setTop (mkF m pc L S)) := by
 subst hp hst hc' hs' has
 obtain ⟨v, _, ⟨T1, L1, k1, n1⟩, -, X1, hS1, hg1, ⟨Lc, hQ, l1, y1, z1, hC1⟩, st⟩ := callSS X hx (y := y) hown (mvT (s := s.setVm vm) hZ w1) (mvT (s := s.setVm vm) hZ w2) (mvT (s := s.setVm vm) hZ wz) (mvT (s := s.setVm vm) hZ wc) hy (own_backW (s := s) (vm := vm) (W := W) hM hZ wc wz hf hl hEL H hsw) (g := mkF m pc L (argsL.reverse ++ rest)) rfl hml (argsL := argsL) (rest := rest) (lenOf hpd hll) rfl (by show 2 * 0 + _ ≤ _; rw [hW]; omega) hd (fun _ _ => ⟨rfl, eT, hc, hs⟩)
 dsimp only [Pt.U, Pt.locs, Pt.cells, Pt.slots] at X1 l1 y1 z1 st hQ hS1 hg1 hC1
 subst l1 y1 z1 eT
 exact OG.of (fun t k => st.trans k) (k v T1 _ Lc _ X1 rfl (hS.trans hS1 (Nat.le_trans hk hg1)) (Nat.le_refl _) (State.Warmed39.trans (t := s.setVm vm) hZ hS1.1) (by rw [hS1.1.alike.findClass]; exact hown) hC1 hQ)
theorem og_specialW (X : Stand p l e R (s.setVm vm) m args below meth c T locs cells slots) (hx : p.tables.exec = Jvm.exec) (hZ : Z.Warmed39 vm) {own : String} {index : Nat} {y : MethodName} {bytes : ByteArray} {maxL : Nat} {sw : List Addr} {rm : Room} {as' : Array Value} {Q : Option Value → Heap → List Loc → Prop} {W cells' slots' : Nat} (hM : ConW l Z EL sw y bytes maxL none rm as' h Q) (hEL : EW Z a0 EL) (hS : s.Since vm k0) (hk : k0 ≤ h.size) (H : CHv Z EL vm h) (hsw : ∀ x ∈ sw, x < h.size ∧ Safe Z EL vm h x) (hin : y.name = "<init>") (hown : vm.findClass own = some m.cls) (w1 : (Cond.methodLink own index y).before a0 Z = true) (w2 : (Cond.instanceMethod y).before a0 Z = true) (wz : (Cond.initialized y.cls).before a0 Z = true) (wc : (Cond.code y bytes maxL none).before a0 Z = true) (hy : y.cls ≠ "java/lang/invoke/MethodHandle" ∧ y.cls ≠ "java/lang/invoke/VarHandle") (hml : L.size = c.maxLocals) (eT : T.heap = h) {ps : List FieldType} {rt : Option FieldType} (hpd : parseMethodDescriptor y.desc = some ⟨ps, rt⟩) {a : Addr} (argsL rest : List Value) (hll : argsL.length = ps.length) (has : (.ref a :: argsL).toArray = as') (hst : S = argsL.reverse ++ .ref a :: rest) (hW : (rest.map fun v => v.category).sum = W) (hf : rm.frames + 1 ≤ R.frames) (hl : W + (maxL + 11) + rm.locals ≤ R.locals) (hc' : cells + rm.cells = cells') (hs' : slots + rm.slots = slots') (hc : cells' ≤ R.cells) (hs : slots' ≤ R.slots) (hd : decode c.code pc = .ok (.invokespecial index, 3)) (hp : pc + 3 = pc') (k : ∀ v T' h' Lc k1, Stand p l e R (s.setVm T'.vm) m args below meth c T' (locs ++ Lc) cells' slots' → T'.heap = h' → s.Since T'.vm k1 → k1 ≤ h'.size → Z.Warmed39 T'.vm → T'.vm.findClass own = some m.cls → CHr Z EL vm h T'.vm h' → Q v h' Lc → OG p e below P (T'.setTop (mkF m pc' L (v.toList ++ rest)))) : OG p e below P (T.setTop (mkF m pc L S)) := by
 subst hp hst hc' hs' has
 obtain ⟨v, _, ⟨T1, L1, k1, n1⟩, -, X1, hS1, hg1, ⟨Lc, hQ, l1, y1, z1, hC1⟩, st⟩ := X.specialBackS hx (y := y) hin hown (mvT (s := s.setVm vm) hZ w1) (mvT (s := s.setVm vm) hZ w2) (mvT (s := s.setVm vm) hZ wc) hy (own_backW (s := s) (vm := vm) (W := W) hM hZ wc wz hf hl hEL H hsw) (g := mkF m pc L (argsL.reverse ++ .ref a :: rest)) rfl hml (Steps.refl _) (a := a) (argsL := argsL) (rest := rest) (lenOf hpd hll) rfl (by show 2 * 0 + _ ≤ _; rw [hW]; omega) hd (fun _ _ => ⟨rfl, eT, hc, hs⟩)
 dsimp only [Pt.U, Pt.locs, Pt.cells, Pt.slots] at X1 l1 y1 z1 st hQ hS1 hg1 hC1
 subst l1 y1 z1 eT
 exact OG.of (fun t k => st.trans k) (k v T1 _ Lc _ X1 rfl (hS.trans hS1 (Nat.le_trans hk hg1)) (Nat.le_refl _) (State.Warmed39.trans (t := s.setVm vm) hZ hS1.1) (by rw [hS1.1.alike.findClass]; exact hown) hC1 hQ)
theorem own_km {vm : Vm} {m : MethodId} (h : Jvm.D.methodKnown vm m = true) : vm.knowsMethod m := by
  unfold Jvm.D.methodKnown at h
  split at h
  · rename_i k hk
    exact ⟨k, hk, fun cf hcf => by rw [hcf] at h; exact h⟩
  · cases h
theorem own_tk {s : State} (h : Jvm.D.tablesKnown s = true) : s.vm.MethodsKnown := fun m x hm => by
 unfold Vm.method? at hm
 obtain ⟨k, hk, hx⟩ := Option.bind_eq_some_iff.mp hm
 refine ⟨k, hk, fun cf hcf => ?_⟩
 have q := (Array.all_eq_true_iff_forall_mem.mp h) k (Array.mem_of_getElem? hk)
 rw [hcf] at q
 have lt := (Array.getElem?_eq_some_iff.mp hx).1
 have e : k.methods.size = cf.methods.size := by simpa using q
 rw [e] at lt
 simp [lt]
theorem own_fk {s : State} {m : MethodId} {args : Array Value} {below : List Frame} (h : Jvm.D.framesKnown s = true) (hf : s.frames = .invoking m args :: below) : s.vm.FramesKnown below := fun y hy m' hm' => by
 unfold Jvm.D.framesKnown at h
 have q := List.all_eq_true.mp h y (hf ▸ List.mem_cons_of_mem _ hy)
 cases y <;> first | (cases hm'; exact own_km q) | cases hm'
def ConWK (l : Launch) (Z : State) (EL : List (String × Nat)) (sw : List Addr) (y : MethodName) (bytes : ByteArray) (maxL : Nat) (ret : Option FieldType) (rm : Room) (as' : Array Value) (h : Heap) (Q : Option Value → Heap → List Loc → Prop) : Prop :=
 MetFree l y (head1 [Cond.code y bytes maxL ret] rm) (fun a U => a = as' ∧ Z.Warmed39 U.vm ∧ U.heap = h ∧ CHv Z EL U.vm h ∧ ∀ x ∈ sw, Safe Z EL U.vm h x) (fun _ _ bl U _ => U.vm.MethodsKnown ∧ U.vm.FramesKnown bl) (fun _ U o U' => ∃ v L, o = .returned v ∧ Q v U'.heap L ∧ CHr Z EL U.vm U.heap U'.vm U'.heap ∧ ReturnedEndW U o U' L rm.cells rm.slots)
theorem own_backWK {sw : List Addr} {y : MethodName} {bytes : ByteArray} {maxL : Nat} {ret : Option FieldType} {rm : Room} {len W : Nat} {as' : Array Value} {Q : Option Value → Heap → List Loc → Prop} (hM : ConWK l Z EL sw y bytes maxL ret rm as' h Q) (hZ : Z.Warmed39 vm) (wc : (Cond.code y bytes maxL ret).before a0 Z = true) (wz : (Cond.initialized y.cls).before a0 Z = true) (hf : rm.frames + 1 ≤ R.frames) (hl : W + (maxL + 11) + rm.locals ≤ R.locals) (hEL : EW Z a0 EL) (H : CHv Z EL vm h) (hsw : ∀ x ∈ sw, x < h.size ∧ Safe Z EL vm h x) (hTK : vm.MethodsKnown) (hBl : vm.FramesKnown below) :
    BackS l R p e below (s.setVm vm) args y len W (fun A a => a = as' ∧ A.U.heap = h ∧ A.cells + rm.cells ≤ R.cells ∧ A.slots + rm.slots ≤ R.slots) (fun A _ v B => ∃ L, Q v B.U.heap L ∧ B.locs = A.locs ++ L ∧ B.cells = A.cells + rm.cells ∧ B.slots = A.slots + rm.slots ∧ CHr Z EL vm h B.U.vm B.U.heap) := by
  refine BackS.of_freeWG (bytes := bytes) (maxL := maxL) (ret := ret) (E := fun _ first o t L k n => k = rm.cells ∧ n = rm.slots ∧ (∃ v, o = .returned v ∧ Q v t.heap L) ∧ CHr Z EL first.vm first.heap t.vm t.heap) hM hf hl ?_ ?_ (fun m meth c A a g mk Y _ hg => known_frames (s := s.setVm vm) Y hg hTK hBl) ?_ ?_
  · intro m meth c A a Y hp
    have hU : Z.Warmed39 A.U.vm := wtrans (s := s.setVm vm) hZ Y.warmed
    exact ⟨by show (Cond.and _ .tt).before a A.U = true; rw [Cond.before_and, mv hU wc]; rfl, mv hU wc, mv hU wz, hp.2.2.1, hp.2.2.2⟩
  · intro m meth c A a g mk Y hp
    have q := CHv.at Y hZ hEL H
    exact ⟨hp.1, wtrans (s := s.setVm vm) hZ Y.warmed, hp.2.1, q.1, fun x hx => q.safe (hsw x hx).1 (hsw x hx).2⟩
  · rintro _ _ _ _ ⟨v, L, h1, h2, h3, h4⟩
    exact ⟨L, _, _, h4, rfl, rfl, ⟨v, h1, h2⟩, h3⟩
  · rintro m meth c A a g mk v t L k n Y hp _ _ ⟨e1, e2, ⟨v', e3, e4⟩, e5⟩
    cases e3; subst e1 e2
    refine ⟨L, e4, rfl, rfl, rfl, (CHv.at Y hZ hEL H).trans ?_⟩
    rw [← hp.2.1]; exact e5
theorem own_startWK {sw : List Addr} {y : MethodName} {bytes : ByteArray} {maxL : Nat} {ret : Option FieldType} {rm : Room} {as' : Array Value} {ws : List Cond} {Q : Option Value → Heap → List Loc → Prop} {kc ks : Nat} (hpn : plainFor y = true)
  (body : ∀ (p : Program) (e : Env) (s : State) (m : MethodId) (below : List Frame) (meth : Method) (c : Code) (T : State), Stand p l e rm (s.setVm s.vm) m as' below meth c T [] 0 0 → p.tables.exec = Jvm.exec → c.code = bytes → c.maxLocals = maxL → Z.Warmed39 s.vm → s.vm.findClass y.cls = some m.cls → meth.name = y.name → meth.sig.returnType = ret → meth.locks = false → T.heap = h → s.heap = h → s.Since s.vm h.size → CHr Z EL s.vm h s.vm h → (∀ x ∈ sw, Safe Z EL s.vm h x) → s.vm.MethodsKnown → s.vm.FramesKnown below → OG p e below (FinW s Z EL Q kc ks) (T.setTop (entryFrame m as' maxL))) :
  MetFree l y (head1 (Cond.code y bytes maxL ret :: ws) rm) (fun a U => a = as' ∧ Z.Warmed39 U.vm ∧ U.heap = h ∧ CHv Z EL U.vm h ∧ ∀ x ∈ sw, Safe Z EL U.vm h x) (fun _ _ bl U _ => U.vm.MethodsKnown ∧ U.vm.FramesKnown bl) (fun _ U o U' => ∃ v L, o = .returned v ∧ Q v U'.heap L ∧ CHr Z EL U.vm U.heap U'.vm U'.heap ∧ ReturnedEndW U o U' L kc ks) := by
 refine MetFree.of_bodySF hpn hisR ?_
 intro p e s m args below meth c s₁ Bd hml0 hP hK
 obtain ⟨rfl, hZ, hh, hC, hQ⟩ := hP
 exact body p e s m below meth c s₁ (Stand.of_body Bd) Bd.exec Bd.bytes hml0 hZ (findClass_of_methodNamed Bd.named) (name_of_methodNamed Bd.named Bd.method).1 Bd.returns Bd.notSynchronized (by rw [← hh, Bd.state]; rfl) hh (own_since s _) (CHr.refl hC) hQ hK.1 hK.2
theorem own_startWLK {sw : List Addr} {y : MethodName} {bytes : ByteArray} {maxL : Nat} {ret : Option FieldType} {rm : Room} {as' : Array Value} {ws : List Cond} {Q : Option Value → Heap → List Loc → Prop} {kc ks : Nat} (hpn : plainFor y = true)
  (body : ∀ (p : Program) (e : Env) (s : State) (m : MethodId) (below : List Frame) (meth : Method) (c : Code) (T : State), Stand p l e rm (s.setVm s.vm) m as' below meth c T [] 0 0 → p.tables.exec = Jvm.exec → c.code = bytes → c.maxLocals = maxL → Z.Warmed39 s.vm → s.vm.findClass y.cls = some m.cls → meth.name = y.name → meth.sig.returnType = ret → meth.locks = false → T.heap = h → s.heap = h → s.Since s.vm h.size → CHr Z EL s.vm h s.vm h → (∀ x ∈ sw, Safe Z EL s.vm h x) → s.vm.MethodsKnown → s.vm.FramesKnown below → OG p e below (FinW s Z EL Q kc ks) (T.setTop (entryFrame m as' maxL))) :
  MetFree l y (head1 (Cond.code y bytes maxL ret :: ws) rm) (fun a U => a = as' ∧ Z.Warmed39 U.vm ∧ U.heap = h ∧ CHv Z EL U.vm h ∧ ∀ x ∈ sw, Safe Z EL U.vm h x) (fun _ _ _ s _ => Jvm.D.framesKnown s = true ∧ Jvm.D.tablesKnown s = true) (fun _ U o U' => ∃ v L, o = .returned v ∧ Q v U'.heap L ∧ CHr Z EL U.vm U.heap U'.vm U'.heap ∧ ReturnedEndW U o U' L kc ks) := by
 refine MetFree.of_bodySF hpn hisR ?_
 intro p e s m args below meth c s₁ Bd hml0 hP hK
 obtain ⟨rfl, hZ, hh, hC, hQ⟩ := hP
 exact body p e s m below meth c s₁ (Stand.of_body Bd) Bd.exec Bd.bytes hml0 hZ (findClass_of_methodNamed Bd.named) (name_of_methodNamed Bd.named Bd.method).1 Bd.returns Bd.notSynchronized (by rw [← hh, Bd.state]; rfl) hh (own_since s _) (CHr.refl hC) hQ (own_tk hK.2) (own_fk hK.1 (Stand.of_body Bd).frames)
theorem own_startWCK {sw : List Addr} {y : MethodName} {bytes : ByteArray} {maxL : Nat} {ret : Option FieldType} {rm : Room} {as' : Array Value} {Q : Option Value → Heap → List Loc → Prop} (hpn : plainFor y = true)
  (body : ∀ (p : Program) (e : Env) (s : State) (m : MethodId) (below : List Frame) (meth : Method) (c : Code) (T : State), Stand p l e rm (s.setVm s.vm) m as' below meth c T [] 0 0 → p.tables.exec = Jvm.exec → c.code = bytes → c.maxLocals = maxL → Z.Warmed39 s.vm → s.vm.findClass y.cls = some m.cls → meth.name = y.name → meth.sig.returnType = ret → meth.locks = false → T.heap = h → s.heap = h → s.Since s.vm h.size → CHr Z EL s.vm h s.vm h → (∀ x ∈ sw, Safe Z EL s.vm h x) → s.vm.MethodsKnown → s.vm.FramesKnown below → OG p e below (FinW s Z EL Q rm.cells rm.slots) (T.setTop (entryFrame m as' maxL))) : ConWK l Z EL sw y bytes maxL ret rm as' h Q := own_startWK (Q := Q) hpn body
theorem og_staticWK (X : Stand p l e R (s.setVm vm) m args below meth c T locs cells slots) (hx : p.tables.exec = Jvm.exec) (hZ : Z.Warmed39 vm) {own : String} {index : Nat} {y : MethodName} {bytes : ByteArray} {maxL : Nat} {ret : Option FieldType} {sw : List Addr} {rm : Room} {as' : Array Value} {Q : Option Value → Heap → List Loc → Prop} {W cells' slots' : Nat} (hM : ConWK l Z EL sw y bytes maxL ret rm as' h Q) (hEL : EW Z a0 EL) (hS : s.Since vm k0) (hk : k0 ≤ h.size) (H : CHv Z EL vm h) (hsw : ∀ x ∈ sw, x < h.size ∧ Safe Z EL vm h x) (hTK : s.vm.MethodsKnown) (hBl : s.vm.FramesKnown below) (hown : vm.findClass own = some m.cls) (w1 : (Cond.methodLink own index y).before a0 Z = true) (w2 : (Cond.static y).before a0 Z = true) (wz : (Cond.initialized y.cls).before a0 Z = true) (wc : (Cond.code y bytes maxL ret).before a0 Z = true) (hy : y.cls ≠ "java/lang/invoke/MethodHandle" ∧ y.cls ≠ "java/lang/invoke/VarHandle") (hml : L.size = c.maxLocals) (eT : T.heap = h) {ps : List FieldType} {rt : Option FieldType} (hpd : parseMethodDescriptor y.desc = some ⟨ps, rt⟩) (argsL rest : List Value) (hll : argsL.length = ps.length) (has : argsL.toArray = as') (hst : S = argsL.reverse ++ rest) (hW : (rest.map fun v => v.category).sum = W) (hf : rm.frames + 1 ≤ R.frames) (hl : W + (maxL + 11) + rm.locals ≤ R.locals) (hc' : cells + rm.cells = cells') (hs' : slots + rm.slots = slots') (hc : cells' ≤ R.cells) (hs : slots' ≤ R.slots) (hd : decode c.code pc = .ok (.invokestatic index, 3)) (hp : pc + 3 = pc') (k : ∀ v T' h' Lc k1, Stand p l e R (s.setVm T'.vm) m args below meth c T' (locs ++ Lc) cells' slots' → T'.heap = h' → s.Since T'.vm k1 → k1 ≤ h'.size → Z.Warmed39 T'.vm → T'.vm.findClass own = some m.cls → CHr Z EL vm h T'.vm h' → Q v h' Lc → OG p e below P (T'.setTop (mkF m pc' L (v.toList ++ rest)))) : OG p e below P (T.setTop (mkF m pc L S)) := by
 subst hp hst hc' hs' has
 obtain ⟨v, _, ⟨T1, L1, k1, n1⟩, -, X1, hS1, hg1, ⟨Lc, hQ, l1, y1, z1, hC1⟩, st⟩ := callSS X hx (y := y) hown (mvT (s := s.setVm vm) hZ w1) (mvT (s := s.setVm vm) hZ w2) (mvT (s := s.setVm vm) hZ wz) (mvT (s := s.setVm vm) hZ wc) hy (own_backWK (s := s) (vm := vm) (W := W) hM hZ wc wz hf hl hEL H hsw (hTK.alikeC hS.1.alike) (hBl.alikeC hS.1.alike)) (g := mkF m pc L (argsL.reverse ++ rest)) rfl hml (argsL := argsL) (rest := rest) (lenOf hpd hll) rfl (by show 2 * 0 + _ ≤ _; rw [hW]; omega) hd (fun _ _ => ⟨rfl, eT, hc, hs⟩)
 dsimp only [Pt.U, Pt.locs, Pt.cells, Pt.slots] at X1 l1 y1 z1 st hQ hS1 hg1 hC1
 subst l1 y1 z1 eT
 exact OG.of (fun t k => st.trans k) (k v T1 _ Lc _ X1 rfl (hS.trans hS1 (Nat.le_trans hk hg1)) (Nat.le_refl _) (State.Warmed39.trans (t := s.setVm vm) hZ hS1.1) (by rw [hS1.1.alike.findClass]; exact hown) hC1 hQ)
theorem og_specialWK (X : Stand p l e R (s.setVm vm) m args below meth c T locs cells slots) (hx : p.tables.exec = Jvm.exec) (hZ : Z.Warmed39 vm) {own : String} {index : Nat} {y : MethodName} {bytes : ByteArray} {maxL : Nat} {sw : List Addr} {rm : Room} {as' : Array Value} {Q : Option Value → Heap → List Loc → Prop} {W cells' slots' : Nat} (hM : ConWK l Z EL sw y bytes maxL none rm as' h Q) (hEL : EW Z a0 EL) (hS : s.Since vm k0) (hk : k0 ≤ h.size) (H : CHv Z EL vm h) (hsw : ∀ x ∈ sw, x < h.size ∧ Safe Z EL vm h x) (hTK : s.vm.MethodsKnown) (hBl : s.vm.FramesKnown below) (hin : y.name = "<init>") (hown : vm.findClass own = some m.cls) (w1 : (Cond.methodLink own index y).before a0 Z = true) (w2 : (Cond.instanceMethod y).before a0 Z = true) (wz : (Cond.initialized y.cls).before a0 Z = true) (wc : (Cond.code y bytes maxL none).before a0 Z = true) (hy : y.cls ≠ "java/lang/invoke/MethodHandle" ∧ y.cls ≠ "java/lang/invoke/VarHandle") (hml : L.size = c.maxLocals) (eT : T.heap = h) {ps : List FieldType} {rt : Option FieldType} (hpd : parseMethodDescriptor y.desc = some ⟨ps, rt⟩) {a : Addr} (argsL rest : List Value) (hll : argsL.length = ps.length) (has : (.ref a :: argsL).toArray = as') (hst : S = argsL.reverse ++ .ref a :: rest) (hW : (rest.map fun v => v.category).sum = W) (hf : rm.frames + 1 ≤ R.frames) (hl : W + (maxL + 11) + rm.locals ≤ R.locals) (hc' : cells + rm.cells = cells') (hs' : slots + rm.slots = slots') (hc : cells' ≤ R.cells) (hs : slots' ≤ R.slots) (hd : decode c.code pc = .ok (.invokespecial index, 3)) (hp : pc + 3 = pc') (k : ∀ v T' h' Lc k1, Stand p l e R (s.setVm T'.vm) m args below meth c T' (locs ++ Lc) cells' slots' → T'.heap = h' → s.Since T'.vm k1 → k1 ≤ h'.size → Z.Warmed39 T'.vm → T'.vm.findClass own = some m.cls → CHr Z EL vm h T'.vm h' → Q v h' Lc → OG p e below P (T'.setTop (mkF m pc' L (v.toList ++ rest)))) : OG p e below P (T.setTop (mkF m pc L S)) := by
 subst hp hst hc' hs' has
 obtain ⟨v, _, ⟨T1, L1, k1, n1⟩, -, X1, hS1, hg1, ⟨Lc, hQ, l1, y1, z1, hC1⟩, st⟩ := X.specialBackS hx (y := y) hin hown (mvT (s := s.setVm vm) hZ w1) (mvT (s := s.setVm vm) hZ w2) (mvT (s := s.setVm vm) hZ wc) hy (own_backWK (s := s) (vm := vm) (W := W) hM hZ wc wz hf hl hEL H hsw (hTK.alikeC hS.1.alike) (hBl.alikeC hS.1.alike)) (g := mkF m pc L (argsL.reverse ++ .ref a :: rest)) rfl hml (Steps.refl _) (a := a) (argsL := argsL) (rest := rest) (lenOf hpd hll) rfl (by show 2 * 0 + _ ≤ _; rw [hW]; omega) hd (fun _ _ => ⟨rfl, eT, hc, hs⟩)
 dsimp only [Pt.U, Pt.locs, Pt.cells, Pt.slots] at X1 l1 y1 z1 st hQ hS1 hg1 hC1
 subst l1 y1 z1 eT
 exact OG.of (fun t k => st.trans k) (k v T1 _ Lc _ X1 rfl (hS.trans hS1 (Nat.le_trans hk hg1)) (Nat.le_refl _) (State.Warmed39.trans (t := s.setVm vm) hZ hS1.1) (by rw [hS1.1.alike.findClass]; exact hown) hC1 hQ)
end OwnKitW
def own_EL : List (String × Nat) := [("java/lang/String", 7), ("com/example/stablebid/stablebid/cli/InputFile", 50), ("com/example/stablebid/stablebid/cli/InputFile", 55), ("com/example/stablebid/stablebid/cli/InputFile", 63)]
abbrev HW (a0 : Array Value) (Z : State) : Prop := ∀ d ∈ tables_1, d.before a0 Z = true
theorem mg {c : Jvm.Cond} (i : Nat) (h : tables_1[i]? = some c) : c ∈ tables_1 := List.mem_of_getElem? h
section Words
variable {a0 : Array Value} {Z : State} (hw : HW a0 Z)
def ow0 := hw _ (mg 0 rfl)
def ow1 := hw _ (mg 1 rfl)
def ow2 := hw _ (mg 2 rfl)
def ow3 := hw _ (mg 3 rfl)
def ow4 := hw _ (mg 4 rfl)
def ow5 := hw _ (mg 5 rfl)
def ow6 := hw _ (mg 6 rfl)
def ow7 := hw _ (mg 7 rfl)
def ow8 := hw _ (mg 8 rfl)
def ow9 := hw _ (mg 9 rfl)
def ow10 := hw _ (mg 10 rfl)
def ow11 := hw _ (mg 11 rfl)
def ow12 := hw _ (mg 12 rfl)
def ow13 := hw _ (mg 13 rfl)
def ow14 := hw _ (mg 14 rfl)
def ow15 := hw _ (mg 15 rfl)
def ow17 := hw _ (mg 17 rfl)
def ow18 := hw _ (mg 18 rfl)
def ow19 := hw _ (mg 19 rfl)
def ow20 := hw _ (mg 20 rfl)
def ow22 := hw _ (mg 22 rfl)
def ow23 := hw _ (mg 23 rfl)
def ow24 := hw _ (mg 24 rfl)
def ow25 := hw _ (mg 25 rfl)
def ow26 := hw _ (mg 26 rfl)
def ow27 := hw _ (mg 27 rfl)
def ow28 := hw _ (mg 28 rfl)
def ow29 := hw _ (mg 29 rfl)
def ow30 := hw _ (mg 30 rfl)
def ow31 := hw _ (mg 31 rfl)
def ow32 := hw _ (mg 32 rfl)
def ow33 := hw _ (mg 33 rfl)
def ow34 := hw _ (mg 34 rfl)
def ow35 := hw _ (mg 35 rfl)
def ow36 := hw _ (mg 36 rfl)
def ow37 := hw _ (mg 37 rfl)
def ow38 := hw _ (mg 38 rfl)
def ow39 := hw _ (mg 39 rfl)
def ow40 := hw _ (mg 40 rfl)
def ow41 := hw _ (mg 41 rfl)
def ow42 := hw _ (mg 42 rfl)
def ow43 := hw _ (mg 43 rfl)
def ow44 := hw _ (mg 44 rfl)
def ow45 := hw _ (mg 45 rfl)
def ow46 := hw _ (mg 46 rfl)
def ow47 := hw _ (mg 47 rfl)
def ow48 := hw _ (mg 48 rfl)
def ow49 := hw _ (mg 49 rfl)
def ow50 := hw _ (mg 50 rfl)
def ow51 := hw _ (mg 51 rfl)
def ow52 := hw _ (mg 52 rfl)
def ow53 := hw _ (mg 53 rfl)
def ow54 := hw _ (mg 54 rfl)
def ow57 := hw _ (mg 57 rfl)
def ow58 := hw _ (mg 58 rfl)
def ow59 := hw _ (mg 59 rfl)
def ow60 := hw _ (mg 60 rfl)
def ow61 := hw _ (mg 61 rfl)
def ow62 := hw _ (mg 62 rfl)
def ow63 := hw _ (mg 63 rfl)
def ow64 := hw _ (mg 64 rfl)
def ow65 := hw _ (mg 65 rfl)
def ow66 := hw _ (mg 66 rfl)
def ow67 := hw _ (mg 67 rfl)
def ow69 := hw _ (mg 69 rfl)
def ow70 := hw _ (mg 70 rfl)
def ow71 := hw _ (mg 71 rfl)
def ow72 := hw _ (mg 72 rfl)
def ow73 := hw _ (mg 73 rfl)
def ow74 := hw _ (mg 74 rfl)
def ow75 := hw _ (mg 75 rfl)
def ow76 := hw _ (mg 76 rfl)
def ow77 := hw _ (mg 77 rfl)
def ow78 := hw _ (mg 78 rfl)
def ow79 := hw _ (mg 79 rfl)
def ow80 := hw _ (mg 80 rfl)
def ow81 := hw _ (mg 81 rfl)
def ow82 := hw _ (mg 82 rfl)
def ow83 := hw _ (mg 83 rfl)
def ow84 := hw _ (mg 84 rfl)
def ow85 := hw _ (mg 85 rfl)
def ow86 := hw _ (mg 86 rfl)
def ow87 := hw _ (mg 87 rfl)
def ow88 := hw _ (mg 88 rfl)
def ow89 := hw _ (mg 89 rfl)
def ow90 := hw _ (mg 90 rfl)
def ow91 := hw _ (mg 91 rfl)
def ow92 := hw _ (mg 92 rfl)
def ow93 := hw _ (mg 93 rfl)
def ow94 := hw _ (mg 94 rfl)
def ow95 := hw _ (mg 95 rfl)
def ow96 := hw _ (mg 96 rfl)
def ow97 := hw _ (mg 97 rfl)
def ow98 := hw _ (mg 98 rfl)
def ow99 := hw _ (mg 99 rfl)
def ow100 := hw _ (mg 100 rfl)
def ow101 := hw _ (mg 101 rfl)
def ow102 := hw _ (mg 102 rfl)
def ow103 := hw _ (mg 103 rfl)
def ow104 := hw _ (mg 104 rfl)
def ow105 := hw _ (mg 105 rfl)
def ow106 := hw _ (mg 106 rfl)
def ow107 := hw _ (mg 107 rfl)
def ow108 := hw _ (mg 108 rfl)
def ow109 := hw _ (mg 109 rfl)
def ow110 := hw _ (mg 110 rfl)
def ow111 := hw _ (mg 111 rfl)
def ow112 := hw _ (mg 112 rfl)
def ow113 := hw _ (mg 113 rfl)
def ow114 := hw _ (mg 114 rfl)
def ow115 := hw _ (mg 115 rfl)
def ow116 := hw _ (mg 116 rfl)
def ow117 := hw _ (mg 117 rfl)
def ow118 := hw _ (mg 118 rfl)
def ow119 := hw _ (mg 119 rfl)
def ow120 := hw _ (mg 120 rfl)
def ow121 := hw _ (mg 121 rfl)
def ow122 := hw _ (mg 122 rfl)
def ow123 := hw _ (mg 123 rfl)
def ow124 := hw _ (mg 124 rfl)
def ow125 := hw _ (mg 125 rfl)
def ow127 := hw _ (mg 127 rfl)
def ow128 := hw _ (mg 128 rfl)
def ow129 := hw _ (mg 129 rfl)
def ow130 := hw _ (mg 130 rfl)
def ow131 := hw _ (mg 131 rfl)
def ow132 := hw _ (mg 132 rfl)
def ow133 := hw _ (mg 133 rfl)
def ow134 := hw _ (mg 134 rfl)
def ow135 := hw _ (mg 135 rfl)
def ow136 := hw _ (mg 136 rfl)
def ow137 := hw _ (mg 137 rfl)
def ow138 := hw _ (mg 138 rfl)
def ow139 := hw _ (mg 139 rfl)
def ow140 := hw _ (mg 140 rfl)
def ow141 := hw _ (mg 141 rfl)
def ow142 := hw _ (mg 142 rfl)
def ow143 := hw _ (mg 143 rfl)
def ow144 := hw _ (mg 144 rfl)
def ow145 := hw _ (mg 145 rfl)
def ow146 := hw _ (mg 146 rfl)
def ow147 := hw _ (mg 147 rfl)
def ow148 := hw _ (mg 148 rfl)
def ow149 := hw _ (mg 149 rfl)
def ow150 := hw _ (mg 150 rfl)
def ow151 := hw _ (mg 151 rfl)
def ow152 := hw _ (mg 152 rfl)
def ow153 := hw _ (mg 153 rfl)
def ow154 := hw _ (mg 154 rfl)
def ow155 := hw _ (mg 155 rfl)
def ow156 := hw _ (mg 156 rfl)
def ow157 := hw _ (mg 157 rfl)
def ow158 := hw _ (mg 158 rfl)
def ow159 := hw _ (mg 159 rfl)
def ow160 := hw _ (mg 160 rfl)
def ow161 := hw _ (mg 161 rfl)
def ow162 := hw _ (mg 162 rfl)
def ow163 := hw _ (mg 163 rfl)
def ow164 := hw _ (mg 164 rfl)
def ow165 := hw _ (mg 165 rfl)
def ow166 := hw _ (mg 166 rfl)
def ow167 := hw _ (mg 167 rfl)
def ow168 := hw _ (mg 168 rfl)
def ow169 := hw _ (mg 169 rfl)
def ow170 := hw _ (mg 170 rfl)
def ow171 := hw _ (mg 171 rfl)
def ow172 := hw _ (mg 172 rfl)
def ow173 := hw _ (mg 173 rfl)
def ow174 := hw _ (mg 174 rfl)
def ow175 := hw _ (mg 175 rfl)
def ow176 := hw _ (mg 176 rfl)
def ow178 := hw _ (mg 178 rfl)
def ow179 := hw _ (mg 179 rfl)
def ow180 := hw _ (mg 180 rfl)
def ow181 := hw _ (mg 181 rfl)
def ow184 := hw _ (mg 184 rfl)
def ow185 := hw _ (mg 185 rfl)
def ow186 := hw _ (mg 186 rfl)
def ow187 := hw _ (mg 187 rfl)
def ow188 := hw _ (mg 188 rfl)
def ow189 := hw _ (mg 189 rfl)
def ow190 := hw _ (mg 190 rfl)
def ow191 := hw _ (mg 191 rfl)
def ow192 := hw _ (mg 192 rfl)
def ow193 := hw _ (mg 193 rfl)
def ow194 := hw _ (mg 194 rfl)
def ow215 := hw _ (mg 215 rfl)
def ow216 := hw _ (mg 216 rfl)
def ow218 := hw _ (mg 218 rfl)
def ow219 := hw _ (mg 219 rfl)
def ow220 := hw _ (mg 220 rfl)
def ow222 := hw _ (mg 222 rfl)
def ow223 := hw _ (mg 223 rfl)
def ow224 := hw _ (mg 224 rfl)
def ow225 := hw _ (mg 225 rfl)
def ow226 := hw _ (mg 226 rfl)
def ow227 := hw _ (mg 227 rfl)
def ow228 := hw _ (mg 228 rfl)
def ow229 := hw _ (mg 229 rfl)
def ow230 := hw _ (mg 230 rfl)
def ow231 := hw _ (mg 231 rfl)
def ow232 := hw _ (mg 232 rfl)
def ow233 := hw _ (mg 233 rfl)
def ow234 := hw _ (mg 234 rfl)
def ow235 := hw _ (mg 235 rfl)
def ow236 := hw _ (mg 236 rfl)
def ow237 := hw _ (mg 237 rfl)
def ow238 := hw _ (mg 238 rfl)
def ow239 := hw _ (mg 239 rfl)
def ow240 := hw _ (mg 240 rfl)
def ow241 := hw _ (mg 241 rfl)
def ow242 := hw _ (mg 242 rfl)
def ow243 := hw _ (mg 243 rfl)
def ow244 := hw _ (mg 244 rfl)
def ow245 := hw _ (mg 245 rfl)
def ow246 := hw _ (mg 246 rfl)
def ow247 := hw _ (mg 247 rfl)
def ow248 := hw _ (mg 248 rfl)
def ow249 := hw _ (mg 249 rfl)
def ow250 := hw _ (mg 250 rfl)
def ow251 := hw _ (mg 251 rfl)
def ow252 := hw _ (mg 252 rfl)
def ow253 := hw _ (mg 253 rfl)
def ow254 := hw _ (mg 254 rfl)
def ow255 := hw _ (mg 255 rfl)
def ow256 := hw _ (mg 256 rfl)
def ow258 := hw _ (mg 258 rfl)
def ow259 := hw _ (mg 259 rfl)
def ow260 := hw _ (mg 260 rfl)
def ow261 := hw _ (mg 261 rfl)
def ow262 := hw _ (mg 262 rfl)
def ow263 := hw _ (mg 263 rfl)
def ow264 := hw _ (mg 264 rfl)
def ow265 := hw _ (mg 265 rfl)
def ow266 := hw _ (mg 266 rfl)
def ow267 := hw _ (mg 267 rfl)
def ow268 := hw _ (mg 268 rfl)
def ow269 := hw _ (mg 269 rfl)
def ow270 := hw _ (mg 270 rfl)
def ow271 := hw _ (mg 271 rfl)
def ow272 := hw _ (mg 272 rfl)
def ow273 := hw _ (mg 273 rfl)
def ow274 := hw _ (mg 274 rfl)
def ow275 := hw _ (mg 275 rfl)
def ow276 := hw _ (mg 276 rfl)
def ow278 := hw _ (mg 278 rfl)
def ow279 := hw _ (mg 279 rfl)
def ow280 := hw _ (mg 280 rfl)
def ow281 := hw _ (mg 281 rfl)
def ow282 := hw _ (mg 282 rfl)
end Words
abbrev DD (b : ByteArray) (p : Nat) (i : ClassFile.Instr) (n : Nat) : Prop := decode b p = .ok (i, n)
theorem opd_0 : parseMethodDescriptor "([CIILjava/lang/Void;)V" = some ⟨[(.array .char), .int, .int, (.object "java/lang/Void")], none⟩ := by decide +kernel
theorem opd_1 : parseMethodDescriptor "([CI[BII)I" = some ⟨[(.array .char), .int, (.array .byte), .int, .int], some .int⟩ := by decide +kernel
theorem opd_2 : parseMethodDescriptor "([CII)[B" = some ⟨[(.array .char), .int, .int], some (.array .byte)⟩ := by decide +kernel
theorem opd_3 : parseMethodDescriptor "([BI)B" = some ⟨[(.array .byte), .int], some .byte⟩ := by decide +kernel
theorem opd_4 : parseMethodDescriptor "([B[B)Z" = some ⟨[(.array .byte), (.array .byte)], some .boolean⟩ := by decide +kernel
theorem opd_5 : parseMethodDescriptor "()B" = some ⟨[], some .byte⟩ := by decide +kernel
theorem opd_6 : parseMethodDescriptor "(IILjava/util/function/BiFunction;)I" = some ⟨[.int, .int, (.object "java/util/function/BiFunction")], some .int⟩ := by decide +kernel
theorem opd_7 : parseMethodDescriptor "(II)V" = some ⟨[.int, .int], none⟩ := by decide +kernel
theorem opd_8 : parseMethodDescriptor "()Z" = some ⟨[], some .boolean⟩ := by decide +kernel
theorem opd_9 : parseMethodDescriptor "([BI)C" = some ⟨[(.array .byte), .int], some .char⟩ := by decide +kernel
theorem opd_10 : parseMethodDescriptor "([C)V" = some ⟨[(.array .char)], none⟩ := by decide +kernel
theorem opd_11 : parseMethodDescriptor "(I)V" = some ⟨[.int], none⟩ := by decide +kernel
theorem opd_12 : parseMethodDescriptor "(II)I" = some ⟨[.int, .int], some .int⟩ := by decide +kernel
theorem opd_13 : parseMethodDescriptor "(III)I" = some ⟨[.int, .int, .int], some .int⟩ := by decide +kernel
theorem opd_14 : parseMethodDescriptor "(I)I" = some ⟨[.int], some .int⟩ := by decide +kernel
theorem opd_15 : parseMethodDescriptor "([BI)[B" = some ⟨[(.array .byte), .int], some (.array .byte)⟩ := by decide +kernel
theorem opd_16 : parseMethodDescriptor "(Ljava/lang/String;)V" = some ⟨[(.object "java/lang/String")], none⟩ := by decide +kernel
theorem opd_17 : parseMethodDescriptor "([BIB)V" = some ⟨[(.array .byte), .int, .byte], none⟩ := by decide +kernel
theorem opd_18 : parseMethodDescriptor "()I" = some ⟨[], some .int⟩ := by decide +kernel
theorem opd_19 : parseMethodDescriptor "(ILjava/lang/String;)V" = some ⟨[.int, (.object "java/lang/String")], none⟩ := by decide +kernel
theorem opd_20 : parseMethodDescriptor "(Ljava/lang/String;)Ljava/lang/AbstractStringBuilder;" = some ⟨[(.object "java/lang/String")], some (.object "java/lang/AbstractStringBuilder")⟩ := by decide +kernel
theorem opd_21 : parseMethodDescriptor "([BII)[B" = some ⟨[(.array .byte), .int, .int], some (.array .byte)⟩ := by decide +kernel
theorem opd_22 : parseMethodDescriptor "()[B" = some ⟨[], some (.array .byte)⟩ := by decide +kernel
theorem opd_23 : parseMethodDescriptor "(Ljava/lang/AbstractStringBuilder;Ljava/lang/Void;)V" = some ⟨[(.object "java/lang/AbstractStringBuilder"), (.object "java/lang/Void")], none⟩ := by decide +kernel
theorem opd_24 : parseMethodDescriptor "(Ljava/lang/StringBuilder;)V" = some ⟨[(.object "java/lang/StringBuilder")], none⟩ := by decide +kernel
theorem opd_25 : parseMethodDescriptor "(Ljava/lang/Object;)Z" = some ⟨[(.object "java/lang/Object")], some .boolean⟩ := by decide +kernel
theorem opd_26 : parseMethodDescriptor "()V" = some ⟨[], none⟩ := by decide +kernel
theorem opd_27 : parseMethodDescriptor "(Ljava/lang/String;)Ljava/lang/String;" = some ⟨[(.object "java/lang/String")], some (.object "java/lang/String")⟩ := by decide +kernel
theorem opd_28 : parseMethodDescriptor "(Ljava/lang/String;)Ljava/lang/StringBuilder;" = some ⟨[(.object "java/lang/String")], some (.object "java/lang/StringBuilder")⟩ := by decide +kernel
theorem opd_29 : parseMethodDescriptor "()Ljava/lang/String;" = some ⟨[], some (.object "java/lang/String")⟩ := by decide +kernel
theorem opd_30 : parseMethodDescriptor "(I)C" = some ⟨[.int], some .char⟩ := by decide +kernel
theorem opd_31 : parseMethodDescriptor "(I[CI[C)C" = some ⟨[.int, (.array .char), .int, (.array .char)], some .char⟩ := by decide +kernel
theorem opd_32 : parseMethodDescriptor "(ICCC)Ljava/lang/String;" = some ⟨[.int, .char, .char, .char], some (.object "java/lang/String")⟩ := by decide +kernel
theorem opd_33 : parseMethodDescriptor "(Ljava/lang/String;Ljava/lang/String;)Lcom/example/stablebid/stablebid/cli/InputException;" = some ⟨[(.object "java/lang/String"), (.object "java/lang/String")], some (.object "com/example/stablebid/stablebid/cli/InputException")⟩ := by decide +kernel
theorem opd_34 : parseMethodDescriptor "(Ljava/lang/String;II[CI[C)Z" = some ⟨[(.object "java/lang/String"), .int, .int, (.array .char), .int, (.array .char)], some .boolean⟩ := by decide +kernel
abbrev b1 := method_3_code
theorem d1_0 : DD b1 0 (.iload_n 0) 1 := by decide +kernel
theorem d1_1 : DD b1 1 (.iconst 1) 1 := by decide +kernel
theorem d1_2 : DD b1 2 (.iand) 1 := by decide +kernel
theorem d1_3 : DD b1 3 (.ifCond .eq 8) 3 := by decide +kernel
theorem d1_6 : DD b1 6 (.bipush 45) 2 := by decide +kernel
theorem d1_8 : DD b1 8 (.goto 11) 3 := by decide +kernel
theorem d1_11 : DD b1 11 (.iload_n 0) 1 := by decide +kernel
theorem d1_12 : DD b1 12 (.iconst 1) 1 := by decide +kernel
theorem d1_13 : DD b1 13 (.iushr) 1 := by decide +kernel
theorem d1_14 : DD b1 14 (.sipush 255) 3 := by decide +kernel
theorem d1_17 : DD b1 17 (.iand) 1 := by decide +kernel
theorem d1_18 : DD b1 18 (.i2c) 1 := by decide +kernel
theorem d1_19 : DD b1 19 (.ireturn) 1 := by decide +kernel
abbrev b2 := method_4_code
theorem d2_0 : DD b2 0 (.iload_n 0) 1 := by decide +kernel
theorem d2_1 : DD b2 1 (.ifCond .ne 14) 3 := by decide +kernel
theorem d2_4 : DD b2 4 (.new 30) 3 := by decide +kernel
theorem d2_7 : DD b2 7 (.dup) 1 := by decide +kernel
theorem d2_8 : DD b2 8 (.iconst 0) 1 := by decide +kernel
theorem d2_9 : DD b2 9 (.newarray .char) 2 := by decide +kernel
theorem d2_11 : DD b2 11 (.invokespecial 39) 3 := by decide +kernel
theorem d2_14 : DD b2 14 (.areturn) 1 := by decide +kernel
theorem d2_15 : DD b2 15 (.iload_n 0) 1 := by decide +kernel
theorem d2_16 : DD b2 16 (.iconst 1) 1 := by decide +kernel
theorem d2_17 : DD b2 17 (.if_icmp .ne 18) 3 := by decide +kernel
theorem d2_20 : DD b2 20 (.new 30) 3 := by decide +kernel
theorem d2_23 : DD b2 23 (.dup) 1 := by decide +kernel
theorem d2_24 : DD b2 24 (.iconst 1) 1 := by decide +kernel
theorem d2_25 : DD b2 25 (.newarray .char) 2 := by decide +kernel
theorem d2_27 : DD b2 27 (.dup) 1 := by decide +kernel
theorem d2_28 : DD b2 28 (.iconst 0) 1 := by decide +kernel
theorem d2_29 : DD b2 29 (.iload_n 1) 1 := by decide +kernel
theorem d2_30 : DD b2 30 (.castore) 1 := by decide +kernel
theorem d2_31 : DD b2 31 (.invokespecial 39) 3 := by decide +kernel
theorem d2_34 : DD b2 34 (.areturn) 1 := by decide +kernel
theorem d2_35 : DD b2 35 (.iload_n 0) 1 := by decide +kernel
theorem d2_36 : DD b2 36 (.iconst 2) 1 := by decide +kernel
theorem d2_37 : DD b2 37 (.if_icmp .ne 22) 3 := by decide +kernel
theorem d2_40 : DD b2 40 (.new 30) 3 := by decide +kernel
theorem d2_43 : DD b2 43 (.dup) 1 := by decide +kernel
theorem d2_44 : DD b2 44 (.iconst 2) 1 := by decide +kernel
theorem d2_45 : DD b2 45 (.newarray .char) 2 := by decide +kernel
theorem d2_47 : DD b2 47 (.dup) 1 := by decide +kernel
theorem d2_48 : DD b2 48 (.iconst 0) 1 := by decide +kernel
theorem d2_49 : DD b2 49 (.iload_n 1) 1 := by decide +kernel
theorem d2_50 : DD b2 50 (.castore) 1 := by decide +kernel
theorem d2_51 : DD b2 51 (.dup) 1 := by decide +kernel
theorem d2_52 : DD b2 52 (.iconst 1) 1 := by decide +kernel
theorem d2_53 : DD b2 53 (.iload_n 2) 1 := by decide +kernel
theorem d2_54 : DD b2 54 (.castore) 1 := by decide +kernel
theorem d2_55 : DD b2 55 (.invokespecial 39) 3 := by decide +kernel
theorem d2_58 : DD b2 58 (.areturn) 1 := by decide +kernel
theorem d2_59 : DD b2 59 (.new 30) 3 := by decide +kernel
theorem d2_62 : DD b2 62 (.dup) 1 := by decide +kernel
theorem d2_63 : DD b2 63 (.iconst 3) 1 := by decide +kernel
theorem d2_64 : DD b2 64 (.newarray .char) 2 := by decide +kernel
theorem d2_66 : DD b2 66 (.dup) 1 := by decide +kernel
theorem d2_67 : DD b2 67 (.iconst 0) 1 := by decide +kernel
theorem d2_68 : DD b2 68 (.iload_n 1) 1 := by decide +kernel
theorem d2_69 : DD b2 69 (.castore) 1 := by decide +kernel
theorem d2_70 : DD b2 70 (.dup) 1 := by decide +kernel
theorem d2_71 : DD b2 71 (.iconst 1) 1 := by decide +kernel
theorem d2_72 : DD b2 72 (.iload_n 2) 1 := by decide +kernel
theorem d2_73 : DD b2 73 (.castore) 1 := by decide +kernel
theorem d2_74 : DD b2 74 (.dup) 1 := by decide +kernel
theorem d2_75 : DD b2 75 (.iconst 2) 1 := by decide +kernel
theorem d2_76 : DD b2 76 (.iload_n 3) 1 := by decide +kernel
theorem d2_77 : DD b2 77 (.castore) 1 := by decide +kernel
theorem d2_78 : DD b2 78 (.invokespecial 39) 3 := by decide +kernel
theorem d2_81 : DD b2 81 (.areturn) 1 := by decide +kernel
abbrev b3 := jdk_42_method_3_code
theorem d3_0 : DD b3 0 (.aload_n 0) 1 := by decide +kernel
theorem d3_1 : DD b3 1 (.aload_n 1) 1 := by decide +kernel
theorem d3_2 : DD b3 2 (.iconst 0) 1 := by decide +kernel
theorem d3_3 : DD b3 3 (.aload_n 1) 1 := by decide +kernel
theorem d3_4 : DD b3 4 (.arraylength) 1 := by decide +kernel
theorem d3_5 : DD b3 5 (.aconst_null) 1 := by decide +kernel
theorem d3_6 : DD b3 6 (.invokespecial 27) 3 := by decide +kernel
theorem d3_9 : DD b3 9 (.return_) 1 := by decide +kernel
abbrev b4 := jdk_42_method_149_code
theorem d4_0 : DD b4 0 (.aload_n 0) 1 := by decide +kernel
theorem d4_1 : DD b4 1 (.invokespecial 1) 3 := by decide +kernel
theorem d4_4 : DD b4 4 (.iload_n 3) 1 := by decide +kernel
theorem d4_5 : DD b4 5 (.ifCond .ne 22) 3 := by decide +kernel
theorem d4_8 : DD b4 8 (.aload_n 0) 1 := by decide +kernel
theorem d4_9 : DD b4 9 (.ldc 7) 2 := by decide +kernel
theorem d4_11 : DD b4 11 (.getfield 9) 3 := by decide +kernel
theorem d4_14 : DD b4 14 (.putfield 9) 3 := by decide +kernel
theorem d4_17 : DD b4 17 (.aload_n 0) 1 := by decide +kernel
theorem d4_18 : DD b4 18 (.ldc 7) 2 := by decide +kernel
theorem d4_20 : DD b4 20 (.getfield 15) 3 := by decide +kernel
theorem d4_23 : DD b4 23 (.putfield 15) 3 := by decide +kernel
theorem d4_26 : DD b4 26 (.return_) 1 := by decide +kernel
theorem d4_27 : DD b4 27 (.getstatic 38) 3 := by decide +kernel
theorem d4_30 : DD b4 30 (.ifCond .eq 28) 3 := by decide +kernel
theorem d4_33 : DD b4 33 (.aload_n 1) 1 := by decide +kernel
theorem d4_34 : DD b4 34 (.iload_n 2) 1 := by decide +kernel
theorem d4_35 : DD b4 35 (.iload_n 3) 1 := by decide +kernel
theorem d4_36 : DD b4 36 (.invokestatic 177) 3 := by decide +kernel
theorem d4_39 : DD b4 39 (.astore 5) 2 := by decide +kernel
theorem d4_41 : DD b4 41 (.aload_n 0) 1 := by decide +kernel
theorem d4_42 : DD b4 42 (.aload 5) 2 := by decide +kernel
theorem d4_44 : DD b4 44 (.iload_n 3) 1 := by decide +kernel
theorem d4_45 : DD b4 45 (.invokestatic 47) 3 := by decide +kernel
theorem d4_48 : DD b4 48 (.putfield 15) 3 := by decide +kernel
theorem d4_51 : DD b4 51 (.aload_n 0) 1 := by decide +kernel
theorem d4_52 : DD b4 52 (.aload 5) 2 := by decide +kernel
theorem d4_54 : DD b4 54 (.putfield 9) 3 := by decide +kernel
theorem d4_57 : DD b4 57 (.return_) 1 := by decide +kernel
abbrev b6 := jdk_52_method_16_code
theorem d6_0 : DD b6 0 (.iload_n 2) 1 := by decide +kernel
theorem d6_1 : DD b6 1 (.newarray .byte) 2 := by decide +kernel
theorem d6_3 : DD b6 3 (.astore_n 3) 1 := by decide +kernel
theorem d6_4 : DD b6 4 (.aload_n 0) 1 := by decide +kernel
theorem d6_5 : DD b6 5 (.iload_n 1) 1 := by decide +kernel
theorem d6_6 : DD b6 6 (.aload_n 3) 1 := by decide +kernel
theorem d6_7 : DD b6 7 (.iconst 0) 1 := by decide +kernel
theorem d6_8 : DD b6 8 (.iload_n 2) 1 := by decide +kernel
theorem d6_9 : DD b6 9 (.invokestatic 115) 3 := by decide +kernel
theorem d6_12 : DD b6 12 (.istore 4) 2 := by decide +kernel
theorem d6_14 : DD b6 14 (.iload 4) 2 := by decide +kernel
theorem d6_16 : DD b6 16 (.iload_n 2) 1 := by decide +kernel
theorem d6_17 : DD b6 17 (.if_icmp .eq 40) 3 := by decide +kernel
theorem d6_57 : DD b6 57 (.aload_n 3) 1 := by decide +kernel
theorem d6_58 : DD b6 58 (.areturn) 1 := by decide +kernel
abbrev b7 := jdk_52_method_21_code
theorem d7_0 : DD b7 0 (.iconst 0) 1 := by decide +kernel
theorem d7_1 : DD b7 1 (.istore 5) 2 := by decide +kernel
theorem d7_3 : DD b7 3 (.iload 5) 2 := by decide +kernel
theorem d7_5 : DD b7 5 (.iload 4) 2 := by decide +kernel
theorem d7_7 : DD b7 7 (.if_icmp .ge 37) 3 := by decide +kernel
theorem d7_10 : DD b7 10 (.aload_n 0) 1 := by decide +kernel
theorem d7_11 : DD b7 11 (.iload_n 1) 1 := by decide +kernel
theorem d7_12 : DD b7 12 (.caload) 1 := by decide +kernel
theorem d7_13 : DD b7 13 (.istore 6) 2 := by decide +kernel
theorem d7_15 : DD b7 15 (.iload 6) 2 := by decide +kernel
theorem d7_17 : DD b7 17 (.sipush 255) 3 := by decide +kernel
theorem d7_20 : DD b7 20 (.if_icmp .le 6) 3 := by decide +kernel
theorem d7_26 : DD b7 26 (.aload_n 2) 1 := by decide +kernel
theorem d7_27 : DD b7 27 (.iload_n 3) 1 := by decide +kernel
theorem d7_28 : DD b7 28 (.iload 6) 2 := by decide +kernel
theorem d7_30 : DD b7 30 (.i2b) 1 := by decide +kernel
theorem d7_31 : DD b7 31 (.bastore) 1 := by decide +kernel
theorem d7_32 : DD b7 32 (.iinc 1 1) 3 := by decide +kernel
theorem d7_35 : DD b7 35 (.iinc 3 1) 3 := by decide +kernel
theorem d7_38 : DD b7 38 (.iinc 5 1) 3 := by decide +kernel
theorem d7_41 : DD b7 41 (.goto (-38)) 3 := by decide +kernel
theorem d7_44 : DD b7 44 (.iload 4) 2 := by decide +kernel
theorem d7_46 : DD b7 46 (.ireturn) 1 := by decide +kernel
abbrev b8 := jdk_52_method_15_code
theorem d8_0 : DD b8 0 (.iload_n 1) 1 := by decide +kernel
theorem d8_1 : DD b8 1 (.aload_n 0) 1 := by decide +kernel
theorem d8_2 : DD b8 2 (.arraylength) 1 := by decide +kernel
theorem d8_3 : DD b8 3 (.isub) 1 := by decide +kernel
theorem d8_4 : DD b8 4 (.bipush 31) 2 := by decide +kernel
theorem d8_6 : DD b8 6 (.iushr) 1 := by decide +kernel
theorem d8_7 : DD b8 7 (.i2b) 1 := by decide +kernel
theorem d8_8 : DD b8 8 (.ireturn) 1 := by decide +kernel
abbrev b9 := prog_22_method_4_code
theorem d9_0 : DD b9 0 (.new 17) 3 := by decide +kernel
theorem d9_3 : DD b9 3 (.dup) 1 := by decide +kernel
theorem d9_4 : DD b9 4 (.new 39) 3 := by decide +kernel
theorem d9_7 : DD b9 7 (.dup) 1 := by decide +kernel
theorem d9_8 : DD b9 8 (.invokespecial 41) 3 := by decide +kernel
theorem d9_11 : DD b9 11 (.aload_n 0) 1 := by decide +kernel
theorem d9_12 : DD b9 12 (.invokestatic 42) 3 := by decide +kernel
theorem d9_15 : DD b9 15 (.invokevirtual 46) 3 := by decide +kernel
theorem d9_18 : DD b9 18 (.ldc 50) 2 := by decide +kernel
theorem d9_20 : DD b9 20 (.invokevirtual 46) 3 := by decide +kernel
theorem d9_23 : DD b9 23 (.aload_n 1) 1 := by decide +kernel
theorem d9_24 : DD b9 24 (.invokevirtual 46) 3 := by decide +kernel
theorem d9_27 : DD b9 27 (.invokevirtual 52) 3 := by decide +kernel
theorem d9_30 : DD b9 30 (.invokespecial 36) 3 := by decide +kernel
theorem d9_33 : DD b9 33 (.areturn) 1 := by decide +kernel
abbrev b10 := jdk_67_method_1_code
theorem d10_0 : DD b10 0 (.aload_n 0) 1 := by decide +kernel
theorem d10_1 : DD b10 1 (.bipush 16) 2 := by decide +kernel
theorem d10_3 : DD b10 3 (.invokespecial 1) 3 := by decide +kernel
theorem d10_6 : DD b10 6 (.return_) 1 := by decide +kernel
abbrev b11 := jdk_68_method_2_code
theorem d11_0 : DD b11 0 (.aload_n 0) 1 := by decide +kernel
theorem d11_1 : DD b11 1 (.invokespecial 3) 3 := by decide +kernel
theorem d11_4 : DD b11 4 (.getstatic 18) 3 := by decide +kernel
theorem d11_7 : DD b11 7 (.ifCond .eq 18) 3 := by decide +kernel
theorem d11_10 : DD b11 10 (.aload_n 0) 1 := by decide +kernel
theorem d11_11 : DD b11 11 (.iload_n 1) 1 := by decide +kernel
theorem d11_12 : DD b11 12 (.newarray .byte) 2 := by decide +kernel
theorem d11_14 : DD b11 14 (.putfield 15) 3 := by decide +kernel
theorem d11_17 : DD b11 17 (.aload_n 0) 1 := by decide +kernel
theorem d11_18 : DD b11 18 (.iconst 0) 1 := by decide +kernel
theorem d11_19 : DD b11 19 (.putfield 22) 3 := by decide +kernel
theorem d11_22 : DD b11 22 (.goto 16) 3 := by decide +kernel
theorem d11_38 : DD b11 38 (.return_) 1 := by decide +kernel
abbrev b12 := prog_22_method_5_code
theorem d12_0 : DD b12 0 (.aload_n 0) 1 := by decide +kernel
theorem d12_1 : DD b12 1 (.ldc 55) 2 := by decide +kernel
theorem d12_3 : DD b12 3 (.invokevirtual 57) 3 := by decide +kernel
theorem d12_6 : DD b12 6 (.ifCond .eq 8) 3 := by decide +kernel
theorem d12_9 : DD b12 9 (.ldc 63) 2 := by decide +kernel
theorem d12_11 : DD b12 11 (.goto 4) 3 := by decide +kernel
theorem d12_14 : DD b12 14 (.aload_n 0) 1 := by decide +kernel
theorem d12_15 : DD b12 15 (.areturn) 1 := by decide +kernel
abbrev b13 := jdk_42_method_66_code
theorem d13_0 : DD b13 0 (.aload_n 0) 1 := by decide +kernel
theorem d13_1 : DD b13 1 (.aload_n 1) 1 := by decide +kernel
theorem d13_2 : DD b13 2 (.if_acmp .ne 5) 3 := by decide +kernel
theorem d13_5 : DD b13 5 (.iconst 1) 1 := by decide +kernel
theorem d13_6 : DD b13 6 (.ireturn) 1 := by decide +kernel
theorem d13_7 : DD b13 7 (.aload_n 1) 1 := by decide +kernel
theorem d13_8 : DD b13 8 (.instanceof 10) 3 := by decide +kernel
theorem d13_11 : DD b13 11 (.ifCond .eq 43) 3 := by decide +kernel
theorem d13_14 : DD b13 14 (.aload_n 1) 1 := by decide +kernel
theorem d13_15 : DD b13 15 (.checkcast 10) 3 := by decide +kernel
theorem d13_18 : DD b13 18 (.astore_n 2) 1 := by decide +kernel
theorem d13_19 : DD b13 19 (.getstatic 38) 3 := by decide +kernel
theorem d13_22 : DD b13 22 (.ifCond .eq 14) 3 := by decide +kernel
theorem d13_25 : DD b13 25 (.aload_n 0) 1 := by decide +kernel
theorem d13_26 : DD b13 26 (.getfield 15) 3 := by decide +kernel
theorem d13_29 : DD b13 29 (.aload_n 2) 1 := by decide +kernel
theorem d13_30 : DD b13 30 (.getfield 15) 3 := by decide +kernel
theorem d13_33 : DD b13 33 (.if_icmp .ne 21) 3 := by decide +kernel
theorem d13_36 : DD b13 36 (.aload_n 0) 1 := by decide +kernel
theorem d13_37 : DD b13 37 (.getfield 9) 3 := by decide +kernel
theorem d13_40 : DD b13 40 (.aload_n 2) 1 := by decide +kernel
theorem d13_41 : DD b13 41 (.getfield 9) 3 := by decide +kernel
theorem d13_44 : DD b13 44 (.invokestatic 541) 3 := by decide +kernel
theorem d13_47 : DD b13 47 (.ifCond .eq 7) 3 := by decide +kernel
theorem d13_50 : DD b13 50 (.iconst 1) 1 := by decide +kernel
theorem d13_51 : DD b13 51 (.goto 4) 3 := by decide +kernel
theorem d13_54 : DD b13 54 (.iconst 0) 1 := by decide +kernel
theorem d13_55 : DD b13 55 (.ireturn) 1 := by decide +kernel
abbrev b14 := jdk_43_method_13_code
theorem d14_0 : DD b14 0 (.aload_n 0) 1 := by decide +kernel
theorem d14_1 : DD b14 1 (.arraylength) 1 := by decide +kernel
theorem d14_2 : DD b14 2 (.aload_n 1) 1 := by decide +kernel
theorem d14_3 : DD b14 3 (.arraylength) 1 := by decide +kernel
theorem d14_4 : DD b14 4 (.if_icmp .ne 30) 3 := by decide +kernel
theorem d14_7 : DD b14 7 (.iconst 0) 1 := by decide +kernel
theorem d14_8 : DD b14 8 (.istore_n 2) 1 := by decide +kernel
theorem d14_9 : DD b14 9 (.iload_n 2) 1 := by decide +kernel
theorem d14_10 : DD b14 10 (.aload_n 0) 1 := by decide +kernel
theorem d14_11 : DD b14 11 (.arraylength) 1 := by decide +kernel
theorem d14_12 : DD b14 12 (.if_icmp .ge 20) 3 := by decide +kernel
theorem d14_15 : DD b14 15 (.aload_n 0) 1 := by decide +kernel
theorem d14_16 : DD b14 16 (.iload_n 2) 1 := by decide +kernel
theorem d14_17 : DD b14 17 (.baload) 1 := by decide +kernel
theorem d14_18 : DD b14 18 (.aload_n 1) 1 := by decide +kernel
theorem d14_19 : DD b14 19 (.iload_n 2) 1 := by decide +kernel
theorem d14_20 : DD b14 20 (.baload) 1 := by decide +kernel
theorem d14_21 : DD b14 21 (.if_icmp .eq 5) 3 := by decide +kernel
theorem d14_24 : DD b14 24 (.iconst 0) 1 := by decide +kernel
theorem d14_25 : DD b14 25 (.ireturn) 1 := by decide +kernel
theorem d14_26 : DD b14 26 (.iinc 2 1) 3 := by decide +kernel
theorem d14_29 : DD b14 29 (.goto (-20)) 3 := by decide +kernel
theorem d14_32 : DD b14 32 (.iconst 1) 1 := by decide +kernel
theorem d14_33 : DD b14 33 (.ireturn) 1 := by decide +kernel
theorem d14_34 : DD b14 34 (.iconst 0) 1 := by decide +kernel
theorem d14_35 : DD b14 35 (.ireturn) 1 := by decide +kernel
abbrev b15 := jdk_67_method_7_code
theorem d15_0 : DD b15 0 (.aload_n 0) 1 := by decide +kernel
theorem d15_1 : DD b15 1 (.aload_n 1) 1 := by decide +kernel
theorem d15_2 : DD b15 2 (.invokespecial 29) 3 := by decide +kernel
theorem d15_5 : DD b15 5 (.pop) 1 := by decide +kernel
theorem d15_6 : DD b15 6 (.aload_n 0) 1 := by decide +kernel
theorem d15_7 : DD b15 7 (.areturn) 1 := by decide +kernel
abbrev b16 := jdk_68_method_22_code
theorem d16_0 : DD b16 0 (.aload_n 1) 1 := by decide +kernel
theorem d16_1 : DD b16 1 (.ifnonnull 8) 3 := by decide +kernel
theorem d16_9 : DD b16 9 (.aload_n 1) 1 := by decide +kernel
theorem d16_10 : DD b16 10 (.invokevirtual 32) 3 := by decide +kernel
theorem d16_13 : DD b16 13 (.istore_n 2) 1 := by decide +kernel
theorem d16_14 : DD b16 14 (.aload_n 0) 1 := by decide +kernel
theorem d16_15 : DD b16 15 (.aload_n 0) 1 := by decide +kernel
theorem d16_16 : DD b16 16 (.getfield 79) 3 := by decide +kernel
theorem d16_19 : DD b16 19 (.iload_n 2) 1 := by decide +kernel
theorem d16_20 : DD b16 20 (.iadd) 1 := by decide +kernel
theorem d16_21 : DD b16 21 (.invokevirtual 100) 3 := by decide +kernel
theorem d16_24 : DD b16 24 (.aload_n 0) 1 := by decide +kernel
theorem d16_25 : DD b16 25 (.aload_n 0) 1 := by decide +kernel
theorem d16_26 : DD b16 26 (.getfield 79) 3 := by decide +kernel
theorem d16_29 : DD b16 29 (.aload_n 1) 1 := by decide +kernel
theorem d16_30 : DD b16 30 (.invokevirtual 208) 3 := by decide +kernel
theorem d16_33 : DD b16 33 (.aload_n 0) 1 := by decide +kernel
theorem d16_34 : DD b16 34 (.dup) 1 := by decide +kernel
theorem d16_35 : DD b16 35 (.getfield 79) 3 := by decide +kernel
theorem d16_38 : DD b16 38 (.iload_n 2) 1 := by decide +kernel
theorem d16_39 : DD b16 39 (.iadd) 1 := by decide +kernel
theorem d16_40 : DD b16 40 (.putfield 79) 3 := by decide +kernel
theorem d16_43 : DD b16 43 (.aload_n 0) 1 := by decide +kernel
theorem d16_44 : DD b16 44 (.areturn) 1 := by decide +kernel
abbrev b17 := jdk_42_method_54_code
theorem d17_0 : DD b17 0 (.aload_n 0) 1 := by decide +kernel
theorem d17_1 : DD b17 1 (.getfield 9) 3 := by decide +kernel
theorem d17_4 : DD b17 4 (.arraylength) 1 := by decide +kernel
theorem d17_5 : DD b17 5 (.aload_n 0) 1 := by decide +kernel
theorem d17_6 : DD b17 6 (.invokevirtual 335) 3 := by decide +kernel
theorem d17_9 : DD b17 9 (.ishr) 1 := by decide +kernel
theorem d17_10 : DD b17 10 (.ireturn) 1 := by decide +kernel
abbrev b18 := jdk_42_method_152_code
theorem d18_0 : DD b18 0 (.getstatic 38) 3 := by decide +kernel
theorem d18_3 : DD b18 3 (.ifCond .eq 10) 3 := by decide +kernel
theorem d18_6 : DD b18 6 (.aload_n 0) 1 := by decide +kernel
theorem d18_7 : DD b18 7 (.getfield 15) 3 := by decide +kernel
theorem d18_10 : DD b18 10 (.goto 4) 3 := by decide +kernel
theorem d18_14 : DD b18 14 (.ireturn) 1 := by decide +kernel
abbrev b19 := jdk_68_method_9_code
theorem d19_0 : DD b19 0 (.aload_n 0) 1 := by decide +kernel
theorem d19_1 : DD b19 1 (.getfield 15) 3 := by decide +kernel
theorem d19_4 : DD b19 4 (.arraylength) 1 := by decide +kernel
theorem d19_5 : DD b19 5 (.aload_n 0) 1 := by decide +kernel
theorem d19_6 : DD b19 6 (.getfield 22) 3 := by decide +kernel
theorem d19_9 : DD b19 9 (.ishr) 1 := by decide +kernel
theorem d19_10 : DD b19 10 (.istore_n 2) 1 := by decide +kernel
theorem d19_11 : DD b19 11 (.iload_n 1) 1 := by decide +kernel
theorem d19_12 : DD b19 12 (.iload_n 2) 1 := by decide +kernel
theorem d19_13 : DD b19 13 (.isub) 1 := by decide +kernel
theorem d19_14 : DD b19 14 (.ifCond .le 24) 3 := by decide +kernel
theorem d19_17 : DD b19 17 (.aload_n 0) 1 := by decide +kernel
theorem d19_18 : DD b19 18 (.aload_n 0) 1 := by decide +kernel
theorem d19_19 : DD b19 19 (.getfield 15) 3 := by decide +kernel
theorem d19_22 : DD b19 22 (.aload_n 0) 1 := by decide +kernel
theorem d19_23 : DD b19 23 (.iload_n 1) 1 := by decide +kernel
theorem d19_24 : DD b19 24 (.invokevirtual 104) 3 := by decide +kernel
theorem d19_27 : DD b19 27 (.aload_n 0) 1 := by decide +kernel
theorem d19_28 : DD b19 28 (.getfield 22) 3 := by decide +kernel
theorem d19_31 : DD b19 31 (.ishl) 1 := by decide +kernel
theorem d19_32 : DD b19 32 (.invokestatic 108) 3 := by decide +kernel
theorem d19_35 : DD b19 35 (.putfield 15) 3 := by decide +kernel
theorem d19_38 : DD b19 38 (.return_) 1 := by decide +kernel
abbrev b20 := jdk_68_method_73_code
theorem d20_0 : DD b20 0 (.aload_n 0) 1 := by decide +kernel
theorem d20_1 : DD b20 1 (.aload_n 2) 1 := by decide +kernel
theorem d20_2 : DD b20 2 (.invokevirtual 397) 3 := by decide +kernel
theorem d20_5 : DD b20 5 (.aload_n 2) 1 := by decide +kernel
theorem d20_6 : DD b20 6 (.aload_n 0) 1 := by decide +kernel
theorem d20_7 : DD b20 7 (.getfield 15) 3 := by decide +kernel
theorem d20_10 : DD b20 10 (.iload_n 1) 1 := by decide +kernel
theorem d20_11 : DD b20 11 (.aload_n 0) 1 := by decide +kernel
theorem d20_12 : DD b20 12 (.getfield 22) 3 := by decide +kernel
theorem d20_15 : DD b20 15 (.invokevirtual 399) 3 := by decide +kernel
theorem d20_18 : DD b20 18 (.return_) 1 := by decide +kernel
abbrev b21 := jdk_68_method_71_code
theorem d21_0 : DD b21 0 (.getstatic 18) 3 := by decide +kernel
theorem d21_3 : DD b21 3 (.ifCond .eq 18) 3 := by decide +kernel
theorem d21_6 : DD b21 6 (.aload_n 0) 1 := by decide +kernel
theorem d21_7 : DD b21 7 (.getfield 22) 3 := by decide +kernel
theorem d21_10 : DD b21 10 (.aload_n 1) 1 := by decide +kernel
theorem d21_11 : DD b21 11 (.invokevirtual 40) 3 := by decide +kernel
theorem d21_14 : DD b21 14 (.if_icmp .eq 7) 3 := by decide +kernel
theorem d21_21 : DD b21 21 (.return_) 1 := by decide +kernel
abbrev b22 := jdk_42_method_147_code
theorem d22_0 : DD b22 0 (.aload_n 0) 1 := by decide +kernel
theorem d22_1 : DD b22 1 (.invokevirtual 335) 3 := by decide +kernel
theorem d22_4 : DD b22 4 (.iload_n 3) 1 := by decide +kernel
theorem d22_5 : DD b22 5 (.if_icmp .ne 23) 3 := by decide +kernel
theorem d22_8 : DD b22 8 (.aload_n 0) 1 := by decide +kernel
theorem d22_9 : DD b22 9 (.getfield 9) 3 := by decide +kernel
theorem d22_12 : DD b22 12 (.iconst 0) 1 := by decide +kernel
theorem d22_13 : DD b22 13 (.aload_n 1) 1 := by decide +kernel
theorem d22_14 : DD b22 14 (.iload_n 2) 1 := by decide +kernel
theorem d22_15 : DD b22 15 (.iload_n 3) 1 := by decide +kernel
theorem d22_16 : DD b22 16 (.ishl) 1 := by decide +kernel
theorem d22_17 : DD b22 17 (.aload_n 0) 1 := by decide +kernel
theorem d22_18 : DD b22 18 (.getfield 9) 3 := by decide +kernel
theorem d22_21 : DD b22 21 (.arraylength) 1 := by decide +kernel
theorem d22_22 : DD b22 22 (.invokestatic 212) 3 := by decide +kernel
theorem d22_25 : DD b22 25 (.goto 18) 3 := by decide +kernel
theorem d22_43 : DD b22 43 (.return_) 1 := by decide +kernel
abbrev b23 := jdk_67_method_42_code
theorem d23_0 : DD b23 0 (.new 18) 3 := by decide +kernel
theorem d23_3 : DD b23 3 (.dup) 1 := by decide +kernel
theorem d23_4 : DD b23 4 (.aload_n 0) 1 := by decide +kernel
theorem d23_5 : DD b23 5 (.invokespecial 137) 3 := by decide +kernel
theorem d23_8 : DD b23 8 (.areturn) 1 := by decide +kernel
abbrev b24 := jdk_42_method_53_code
theorem d24_0 : DD b24 0 (.aload_n 0) 1 := by decide +kernel
theorem d24_1 : DD b24 1 (.aload_n 1) 1 := by decide +kernel
theorem d24_2 : DD b24 2 (.aconst_null) 1 := by decide +kernel
theorem d24_3 : DD b24 3 (.invokespecial 489) 3 := by decide +kernel
theorem d24_6 : DD b24 6 (.return_) 1 := by decide +kernel
abbrev b25 := jdk_42_method_150_code
theorem d25_0 : DD b25 0 (.aload_n 0) 1 := by decide +kernel
theorem d25_1 : DD b25 1 (.invokespecial 1) 3 := by decide +kernel
theorem d25_4 : DD b25 4 (.aload_n 1) 1 := by decide +kernel
theorem d25_5 : DD b25 5 (.invokevirtual 552) 3 := by decide +kernel
theorem d25_8 : DD b25 8 (.astore_n 3) 1 := by decide +kernel
theorem d25_9 : DD b25 9 (.aload_n 1) 1 := by decide +kernel
theorem d25_10 : DD b25 10 (.invokevirtual 549) 3 := by decide +kernel
theorem d25_13 : DD b25 13 (.istore 4) 2 := by decide +kernel
theorem d25_15 : DD b25 15 (.aload_n 1) 1 := by decide +kernel
theorem d25_16 : DD b25 16 (.invokevirtual 1047) 3 := by decide +kernel
theorem d25_19 : DD b25 19 (.ifCond .eq 22) 3 := by decide +kernel
theorem d25_22 : DD b25 22 (.aload_n 0) 1 := by decide +kernel
theorem d25_23 : DD b25 23 (.iconst 0) 1 := by decide +kernel
theorem d25_24 : DD b25 24 (.putfield 15) 3 := by decide +kernel
theorem d25_27 : DD b25 27 (.aload_n 0) 1 := by decide +kernel
theorem d25_28 : DD b25 28 (.aload_n 3) 1 := by decide +kernel
theorem d25_29 : DD b25 29 (.iconst 0) 1 := by decide +kernel
theorem d25_30 : DD b25 30 (.iload 4) 2 := by decide +kernel
theorem d25_32 : DD b25 32 (.invokestatic 54) 3 := by decide +kernel
theorem d25_35 : DD b25 35 (.putfield 9) 3 := by decide +kernel
theorem d25_38 : DD b25 38 (.goto 59) 3 := by decide +kernel
theorem d25_97 : DD b25 97 (.return_) 1 := by decide +kernel
abbrev b26 := jdk_68_method_64_code
theorem d26_0 : DD b26 0 (.aload_n 0) 1 := by decide +kernel
theorem d26_1 : DD b26 1 (.getfield 15) 3 := by decide +kernel
theorem d26_4 : DD b26 4 (.areturn) 1 := by decide +kernel
abbrev b27 := jdk_67_method_93_code
theorem d27_0 : DD b27 0 (.aload_n 0) 1 := by decide +kernel
theorem d27_1 : DD b27 1 (.invokespecial 343) 3 := by decide +kernel
theorem d27_4 : DD b27 4 (.ireturn) 1 := by decide +kernel
abbrev b28 := jdk_68_method_6_code
theorem d28_0 : DD b28 0 (.aload_n 0) 1 := by decide +kernel
theorem d28_1 : DD b28 1 (.getfield 79) 3 := by decide +kernel
theorem d28_4 : DD b28 4 (.ireturn) 1 := by decide +kernel
abbrev b29 := jdk_68_method_68_code
theorem d29_0 : DD b29 0 (.getstatic 18) 3 := by decide +kernel
theorem d29_3 : DD b29 3 (.ifCond .eq 14) 3 := by decide +kernel
theorem d29_6 : DD b29 6 (.aload_n 0) 1 := by decide +kernel
theorem d29_7 : DD b29 7 (.getfield 22) 3 := by decide +kernel
theorem d29_10 : DD b29 10 (.ifCond .ne 7) 3 := by decide +kernel
theorem d29_13 : DD b29 13 (.iconst 1) 1 := by decide +kernel
theorem d29_14 : DD b29 14 (.goto 4) 3 := by decide +kernel
theorem d29_18 : DD b29 18 (.ireturn) 1 := by decide +kernel
abbrev b30 := jdk_65_method_132_code
theorem d30_0 : DD b30 0 (.iload_n 1) 1 := by decide +kernel
theorem d30_1 : DD b30 1 (.ifCond .ne 9) 3 := by decide +kernel
theorem d30_4 : DD b30 4 (.iload_n 2) 1 := by decide +kernel
theorem d30_5 : DD b30 5 (.aload_n 0) 1 := by decide +kernel
theorem d30_6 : DD b30 6 (.arraylength) 1 := by decide +kernel
theorem d30_7 : DD b30 7 (.if_icmp .eq 10) 3 := by decide +kernel
theorem d30_10 : DD b30 10 (.aload_n 0) 1 := by decide +kernel
theorem d30_11 : DD b30 11 (.iload_n 1) 1 := by decide +kernel
theorem d30_12 : DD b30 12 (.iload_n 2) 1 := by decide +kernel
theorem d30_13 : DD b30 13 (.invokestatic 339) 3 := by decide +kernel
theorem d30_16 : DD b30 16 (.areturn) 1 := by decide +kernel
theorem d30_17 : DD b30 17 (.aload_n 0) 1 := by decide +kernel
theorem d30_18 : DD b30 18 (.invokevirtual 310) 3 := by decide +kernel
theorem d30_21 : DD b30 21 (.checkcast 311) 3 := by decide +kernel
theorem d30_24 : DD b30 24 (.areturn) 1 := by decide +kernel
abbrev b31 := jdk_65_method_133_code
theorem d31_0 : DD b31 0 (.iload_n 1) 1 := by decide +kernel
theorem d31_1 : DD b31 1 (.iload_n 2) 1 := by decide +kernel
theorem d31_2 : DD b31 2 (.invokestatic 343) 3 := by decide +kernel
theorem d31_5 : DD b31 5 (.iload_n 2) 1 := by decide +kernel
theorem d31_6 : DD b31 6 (.iload_n 1) 1 := by decide +kernel
theorem d31_7 : DD b31 7 (.isub) 1 := by decide +kernel
theorem d31_8 : DD b31 8 (.istore_n 3) 1 := by decide +kernel
theorem d31_9 : DD b31 9 (.iload_n 3) 1 := by decide +kernel
theorem d31_10 : DD b31 10 (.newarray .byte) 2 := by decide +kernel
theorem d31_12 : DD b31 12 (.astore 4) 2 := by decide +kernel
theorem d31_14 : DD b31 14 (.aload_n 0) 1 := by decide +kernel
theorem d31_15 : DD b31 15 (.iload_n 1) 1 := by decide +kernel
theorem d31_16 : DD b31 16 (.aload 4) 2 := by decide +kernel
theorem d31_18 : DD b31 18 (.iconst 0) 1 := by decide +kernel
theorem d31_19 : DD b31 19 (.aload_n 0) 1 := by decide +kernel
theorem d31_20 : DD b31 20 (.arraylength) 1 := by decide +kernel
theorem d31_21 : DD b31 21 (.iload_n 1) 1 := by decide +kernel
theorem d31_22 : DD b31 22 (.isub) 1 := by decide +kernel
theorem d31_23 : DD b31 23 (.iload_n 3) 1 := by decide +kernel
theorem d31_24 : DD b31 24 (.invokestatic 304) 3 := by decide +kernel
theorem d31_27 : DD b31 27 (.invokestatic 150) 3 := by decide +kernel
theorem d31_30 : DD b31 30 (.aload 4) 2 := by decide +kernel
theorem d31_32 : DD b31 32 (.areturn) 1 := by decide +kernel
abbrev b32 := jdk_65_method_131_code
theorem d32_0 : DD b32 0 (.iload_n 1) 1 := by decide +kernel
theorem d32_1 : DD b32 1 (.iload_n 0) 1 := by decide +kernel
theorem d32_2 : DD b32 2 (.if_icmp .ge 35) 3 := by decide +kernel
theorem d32_37 : DD b32 37 (.return_) 1 := by decide +kernel
abbrev b33 := jdk_29_method_69_code
theorem d33_0 : DD b33 0 (.iload_n 0) 1 := by decide +kernel
theorem d33_1 : DD b33 1 (.iload_n 1) 1 := by decide +kernel
theorem d33_2 : DD b33 2 (.if_icmp .gt 7) 3 := by decide +kernel
theorem d33_5 : DD b33 5 (.iload_n 0) 1 := by decide +kernel
theorem d33_6 : DD b33 6 (.goto 4) 3 := by decide +kernel
theorem d33_9 : DD b33 9 (.iload_n 1) 1 := by decide +kernel
theorem d33_10 : DD b33 10 (.ireturn) 1 := by decide +kernel
abbrev b34 := prog_21_method_1_code
theorem d34_0 : DD b34 0 (.aload_n 0) 1 := by decide +kernel
theorem d34_1 : DD b34 1 (.aload_n 1) 1 := by decide +kernel
theorem d34_2 : DD b34 2 (.invokespecial 1) 3 := by decide +kernel
theorem d34_5 : DD b34 5 (.return_) 1 := by decide +kernel
abbrev b35 := jdk_59_method_2_code
theorem d35_0 : DD b35 0 (.aload_n 0) 1 := by decide +kernel
theorem d35_1 : DD b35 1 (.aload_n 1) 1 := by decide +kernel
theorem d35_2 : DD b35 2 (.invokespecial 7) 3 := by decide +kernel
theorem d35_5 : DD b35 5 (.return_) 1 := by decide +kernel
abbrev b36 := jdk_78_method_2_code
theorem d36_0 : DD b36 0 (.aload_n 0) 1 := by decide +kernel
theorem d36_1 : DD b36 1 (.invokespecial 1) 3 := by decide +kernel
theorem d36_4 : DD b36 4 (.aload_n 0) 1 := by decide +kernel
theorem d36_5 : DD b36 5 (.aload_n 0) 1 := by decide +kernel
theorem d36_6 : DD b36 6 (.putfield 7) 3 := by decide +kernel
theorem d36_9 : DD b36 9 (.aload_n 0) 1 := by decide +kernel
theorem d36_10 : DD b36 10 (.getstatic 13) 3 := by decide +kernel
theorem d36_13 : DD b36 13 (.putfield 17) 3 := by decide +kernel
theorem d36_16 : DD b36 16 (.aload_n 0) 1 := by decide +kernel
theorem d36_17 : DD b36 17 (.getstatic 20) 3 := by decide +kernel
theorem d36_20 : DD b36 20 (.putfield 24) 3 := by decide +kernel
theorem d36_23 : DD b36 23 (.aload_n 0) 1 := by decide +kernel
theorem d36_24 : DD b36 24 (.invokevirtual 27) 3 := by decide +kernel
theorem d36_27 : DD b36 27 (.pop) 1 := by decide +kernel
theorem d36_28 : DD b36 28 (.aload_n 0) 1 := by decide +kernel
theorem d36_29 : DD b36 29 (.aload_n 1) 1 := by decide +kernel
theorem d36_30 : DD b36 30 (.putfield 31) 3 := by decide +kernel
theorem d36_33 : DD b36 33 (.return_) 1 := by decide +kernel
abbrev b39 := jdk_78_method_6_code
theorem d39_0 : DD b39 0 (.aload_n 0) 1 := by decide +kernel
theorem d39_1 : DD b39 1 (.getfield 31) 3 := by decide +kernel
theorem d39_4 : DD b39 4 (.areturn) 1 := by decide +kernel
abbrev b40 := method_6_code
theorem d40_0 : DD b40 0 (.iload_n 1) 1 := by decide +kernel
theorem d40_1 : DD b40 1 (.iload_n 2) 1 := by decide +kernel
theorem d40_2 : DD b40 2 (.if_icmp .ge 20) 3 := by decide +kernel
theorem d40_5 : DD b40 5 (.aload_n 0) 1 := by decide +kernel
theorem d40_6 : DD b40 6 (.iload_n 1) 1 := by decide +kernel
theorem d40_7 : DD b40 7 (.invokevirtual 42) 3 := by decide +kernel
theorem d40_10 : DD b40 10 (.iload_n 1) 1 := by decide +kernel
theorem d40_11 : DD b40 11 (.aload_n 3) 1 := by decide +kernel
theorem d40_12 : DD b40 12 (.iload 4) 2 := by decide +kernel
theorem d40_14 : DD b40 14 (.aload 5) 2 := by decide +kernel
theorem d40_16 : DD b40 16 (.invokestatic 45) 3 := by decide +kernel
theorem d40_19 : DD b40 19 (.if_icmp .ne 7) 3 := by decide +kernel
theorem d40_22 : DD b40 22 (.iconst 1) 1 := by decide +kernel
theorem d40_23 : DD b40 23 (.goto 4) 3 := by decide +kernel
theorem d40_27 : DD b40 27 (.ireturn) 1 := by decide +kernel
abbrev b41 := jdk_42_method_56_code
theorem d41_0 : DD b41 0 (.aload_n 0) 1 := by decide +kernel
theorem d41_1 : DD b41 1 (.invokevirtual 492) 3 := by decide +kernel
theorem d41_4 : DD b41 4 (.ifCond .eq 12) 3 := by decide +kernel
theorem d41_7 : DD b41 7 (.aload_n 0) 1 := by decide +kernel
theorem d41_8 : DD b41 8 (.getfield 9) 3 := by decide +kernel
theorem d41_11 : DD b41 11 (.iload_n 1) 1 := by decide +kernel
theorem d41_12 : DD b41 12 (.invokestatic 495) 3 := by decide +kernel
theorem d41_15 : DD b41 15 (.ireturn) 1 := by decide +kernel
abbrev b42 := jdk_42_method_154_code
theorem d42_0 : DD b42 0 (.getstatic 38) 3 := by decide +kernel
theorem d42_3 : DD b42 3 (.ifCond .eq 14) 3 := by decide +kernel
theorem d42_6 : DD b42 6 (.aload_n 0) 1 := by decide +kernel
theorem d42_7 : DD b42 7 (.getfield 15) 3 := by decide +kernel
theorem d42_10 : DD b42 10 (.ifCond .ne 7) 3 := by decide +kernel
theorem d42_13 : DD b42 13 (.iconst 1) 1 := by decide +kernel
theorem d42_14 : DD b42 14 (.goto 4) 3 := by decide +kernel
theorem d42_18 : DD b42 18 (.ireturn) 1 := by decide +kernel
abbrev b43 := jdk_43_method_2_code
theorem d43_0 : DD b43 0 (.iload_n 1) 1 := by decide +kernel
theorem d43_1 : DD b43 1 (.aload_n 0) 1 := by decide +kernel
theorem d43_2 : DD b43 2 (.arraylength) 1 := by decide +kernel
theorem d43_3 : DD b43 3 (.invokestatic 9) 3 := by decide +kernel
theorem d43_6 : DD b43 6 (.aload_n 0) 1 := by decide +kernel
theorem d43_7 : DD b43 7 (.iload_n 1) 1 := by decide +kernel
theorem d43_8 : DD b43 8 (.baload) 1 := by decide +kernel
theorem d43_9 : DD b43 9 (.sipush 255) 3 := by decide +kernel
theorem d43_12 : DD b43 12 (.iand) 1 := by decide +kernel
theorem d43_13 : DD b43 13 (.i2c) 1 := by decide +kernel
theorem d43_14 : DD b43 14 (.ireturn) 1 := by decide +kernel
abbrev b44 := jdk_42_method_155_code
theorem d44_0 : DD b44 0 (.iload_n 0) 1 := by decide +kernel
theorem d44_1 : DD b44 1 (.iload_n 1) 1 := by decide +kernel
theorem d44_2 : DD b44 2 (.getstatic 1053) 3 := by decide +kernel
theorem d44_5 : DD b44 5 (.invokestatic 1059) 3 := by decide +kernel
theorem d44_8 : DD b44 8 (.pop) 1 := by decide +kernel
theorem d44_9 : DD b44 9 (.return_) 1 := by decide +kernel
abbrev b45 := jdk_41_method_11_code
theorem d45_0 : DD b45 0 (.iload_n 0) 1 := by decide +kernel
theorem d45_1 : DD b45 1 (.ifCond .lt 8) 3 := by decide +kernel
theorem d45_4 : DD b45 4 (.iload_n 0) 1 := by decide +kernel
theorem d45_5 : DD b45 5 (.iload_n 1) 1 := by decide +kernel
theorem d45_6 : DD b45 6 (.if_icmp .lt 10) 3 := by decide +kernel
theorem d45_16 : DD b45 16 (.iload_n 0) 1 := by decide +kernel
theorem d45_17 : DD b45 17 (.ireturn) 1 := by decide +kernel
abbrev b46 := method_5_code
theorem d46_0 : DD b46 0 (.iload_n 0) 1 := by decide +kernel
theorem d46_1 : DD b46 1 (.iload_n 2) 1 := by decide +kernel
theorem d46_2 : DD b46 2 (.if_icmp .ge 7) 3 := by decide +kernel
theorem d46_5 : DD b46 5 (.aload_n 1) 1 := by decide +kernel
theorem d46_6 : DD b46 6 (.iload_n 0) 1 := by decide +kernel
theorem d46_7 : DD b46 7 (.caload) 1 := by decide +kernel
theorem d46_8 : DD b46 8 (.ireturn) 1 := by decide +kernel
theorem d46_9 : DD b46 9 (.iload_n 0) 1 := by decide +kernel
theorem d46_10 : DD b46 10 (.iload_n 2) 1 := by decide +kernel
theorem d46_11 : DD b46 11 (.if_icmp .ne 6) 3 := by decide +kernel
theorem d46_14 : DD b46 14 (.bipush 58) 2 := by decide +kernel
theorem d46_16 : DD b46 16 (.ireturn) 1 := by decide +kernel
theorem d46_17 : DD b46 17 (.iload_n 0) 1 := by decide +kernel
theorem d46_18 : DD b46 18 (.iload_n 2) 1 := by decide +kernel
theorem d46_19 : DD b46 19 (.iconst 1) 1 := by decide +kernel
theorem d46_20 : DD b46 20 (.iadd) 1 := by decide +kernel
theorem d46_21 : DD b46 21 (.if_icmp .ne 6) 3 := by decide +kernel
theorem d46_24 : DD b46 24 (.bipush 32) 2 := by decide +kernel
theorem d46_26 : DD b46 26 (.ireturn) 1 := by decide +kernel
theorem d46_27 : DD b46 27 (.aload_n 3) 1 := by decide +kernel
theorem d46_28 : DD b46 28 (.iload_n 0) 1 := by decide +kernel
theorem d46_29 : DD b46 29 (.iload_n 2) 1 := by decide +kernel
theorem d46_30 : DD b46 30 (.isub) 1 := by decide +kernel
theorem d46_31 : DD b46 31 (.iconst 2) 1 := by decide +kernel
theorem d46_32 : DD b46 32 (.isub) 1 := by decide +kernel
theorem d46_33 : DD b46 33 (.caload) 1 := by decide +kernel
theorem d46_34 : DD b46 34 (.ireturn) 1 := by decide +kernel
abbrev b47 := jdk_68_method_10_code
theorem d47_0 : DD b47 0 (.aload_n 0) 1 := by decide +kernel
theorem d47_1 : DD b47 1 (.getfield 15) 3 := by decide +kernel
theorem d47_4 : DD b47 4 (.arraylength) 1 := by decide +kernel
theorem d47_5 : DD b47 5 (.istore_n 2) 1 := by decide +kernel
theorem d47_6 : DD b47 6 (.iload_n 1) 1 := by decide +kernel
theorem d47_7 : DD b47 7 (.aload_n 0) 1 := by decide +kernel
theorem d47_8 : DD b47 8 (.getfield 22) 3 := by decide +kernel
theorem d47_11 : DD b47 11 (.ishl) 1 := by decide +kernel
theorem d47_12 : DD b47 12 (.istore_n 3) 1 := by decide +kernel
theorem d47_13 : DD b47 13 (.iload_n 3) 1 := by decide +kernel
theorem d47_14 : DD b47 14 (.iload_n 2) 1 := by decide +kernel
theorem d47_15 : DD b47 15 (.isub) 1 := by decide +kernel
theorem d47_16 : DD b47 16 (.istore 4) 2 := by decide +kernel
theorem d47_18 : DD b47 18 (.iload_n 2) 1 := by decide +kernel
theorem d47_19 : DD b47 19 (.iload 4) 2 := by decide +kernel
theorem d47_21 : DD b47 21 (.iload_n 2) 1 := by decide +kernel
theorem d47_22 : DD b47 22 (.iconst 2) 1 := by decide +kernel
theorem d47_23 : DD b47 23 (.aload_n 0) 1 := by decide +kernel
theorem d47_24 : DD b47 24 (.getfield 22) 3 := by decide +kernel
theorem d47_27 : DD b47 27 (.ishl) 1 := by decide +kernel
theorem d47_28 : DD b47 28 (.iadd) 1 := by decide +kernel
theorem d47_29 : DD b47 29 (.invokestatic 114) 3 := by decide +kernel
theorem d47_32 : DD b47 32 (.istore 5) 2 := by decide +kernel
theorem d47_34 : DD b47 34 (.iload 5) 2 := by decide +kernel
theorem d47_36 : DD b47 36 (.ldc 39) 2 := by decide +kernel
theorem d47_38 : DD b47 38 (.if_icmp .ne 13) 3 := by decide +kernel
theorem d47_51 : DD b47 51 (.iload 5) 2 := by decide +kernel
theorem d47_53 : DD b47 53 (.aload_n 0) 1 := by decide +kernel
theorem d47_54 : DD b47 54 (.getfield 22) 3 := by decide +kernel
theorem d47_57 : DD b47 57 (.ishr) 1 := by decide +kernel
theorem d47_58 : DD b47 58 (.ireturn) 1 := by decide +kernel
abbrev b48 := jdk_48_method_27_code
theorem d48_0 : DD b48 0 (.iload_n 0) 1 := by decide +kernel
theorem d48_1 : DD b48 1 (.iload_n 1) 1 := by decide +kernel
theorem d48_2 : DD b48 2 (.iload_n 2) 1 := by decide +kernel
theorem d48_3 : DD b48 3 (.invokestatic 194) 3 := by decide +kernel
theorem d48_6 : DD b48 6 (.iadd) 1 := by decide +kernel
theorem d48_7 : DD b48 7 (.istore_n 3) 1 := by decide +kernel
theorem d48_8 : DD b48 8 (.iconst 0) 1 := by decide +kernel
theorem d48_9 : DD b48 9 (.iload_n 3) 1 := by decide +kernel
theorem d48_10 : DD b48 10 (.if_icmp .ge 11) 3 := by decide +kernel
theorem d48_13 : DD b48 13 (.iload_n 3) 1 := by decide +kernel
theorem d48_14 : DD b48 14 (.ldc 200) 2 := by decide +kernel
theorem d48_16 : DD b48 16 (.if_icmp .gt 5) 3 := by decide +kernel
theorem d48_19 : DD b48 19 (.iload_n 3) 1 := by decide +kernel
theorem d48_20 : DD b48 20 (.ireturn) 1 := by decide +kernel
abbrev b49 := jdk_29_method_65_code
theorem d49_0 : DD b49 0 (.iload_n 0) 1 := by decide +kernel
theorem d49_1 : DD b49 1 (.iload_n 1) 1 := by decide +kernel
theorem d49_2 : DD b49 2 (.if_icmp .lt 7) 3 := by decide +kernel
theorem d49_9 : DD b49 9 (.iload_n 1) 1 := by decide +kernel
theorem d49_10 : DD b49 10 (.ireturn) 1 := by decide +kernel
abbrev b50 := jdk_65_method_121_code
theorem d50_0 : DD b50 0 (.iload_n 1) 1 := by decide +kernel
theorem d50_1 : DD b50 1 (.aload_n 0) 1 := by decide +kernel
theorem d50_2 : DD b50 2 (.arraylength) 1 := by decide +kernel
theorem d50_3 : DD b50 3 (.if_icmp .ne 11) 3 := by decide +kernel
theorem d50_14 : DD b50 14 (.iload_n 1) 1 := by decide +kernel
theorem d50_15 : DD b50 15 (.newarray .byte) 2 := by decide +kernel
theorem d50_17 : DD b50 17 (.astore_n 2) 1 := by decide +kernel
theorem d50_18 : DD b50 18 (.aload_n 0) 1 := by decide +kernel
theorem d50_19 : DD b50 19 (.iconst 0) 1 := by decide +kernel
theorem d50_20 : DD b50 20 (.aload_n 2) 1 := by decide +kernel
theorem d50_21 : DD b50 21 (.iconst 0) 1 := by decide +kernel
theorem d50_22 : DD b50 22 (.aload_n 0) 1 := by decide +kernel
theorem d50_23 : DD b50 23 (.arraylength) 1 := by decide +kernel
theorem d50_24 : DD b50 24 (.iload_n 1) 1 := by decide +kernel
theorem d50_25 : DD b50 25 (.invokestatic 304) 3 := by decide +kernel
theorem d50_28 : DD b50 28 (.invokestatic 150) 3 := by decide +kernel
theorem d50_31 : DD b50 31 (.aload_n 2) 1 := by decide +kernel
theorem d50_32 : DD b50 32 (.areturn) 1 := by decide +kernel
theorem oef0 (m : MethodId) (x0 : Int32) : entryFrame m #[(.int x0)] 1 = mkF m 0 #[.val (.int x0)] [] := by first | (simp [entryFrame, mkF, argsToLocals, Value.category]; done) | rfl
theorem oef1 (m : MethodId) (x0 : Addr) (x1 : Addr) (x2 : Int32) (x3 : Int32) : entryFrame m #[(.ref x0), (.ref x1), (.int x2), (.int x3), .null] 6 = mkF m 0 #[.val (.ref x0), .val (.ref x1), .val (.int x2), .val (.int x3), .val .null, .unset] [] := by first | (simp [entryFrame, mkF, argsToLocals, Value.category]; done) | rfl
theorem oef2 (m : MethodId) (x0 : Addr) (x1 : Addr) : entryFrame m #[(.ref x0), (.ref x1)] 2 = mkF m 0 #[.val (.ref x0), .val (.ref x1)] [] := by first | (simp [entryFrame, mkF, argsToLocals, Value.category]; done) | rfl
theorem oef3 (m : MethodId) (x0 : Addr) (x1 : Int32) (x2 : Addr) (x3 : Int32) (x4 : Int32) : entryFrame m #[(.ref x0), (.int x1), (.ref x2), (.int x3), (.int x4)] 7 = mkF m 0 #[.val (.ref x0), .val (.int x1), .val (.ref x2), .val (.int x3), .val (.int x4), .unset, .unset] [] := by first | (simp [entryFrame, mkF, argsToLocals, Value.category]; done) | rfl
theorem oef4 (m : MethodId) (x0 : Addr) (x1 : Int32) (x2 : Int32) : entryFrame m #[(.ref x0), (.int x1), (.int x2)] 6 = mkF m 0 #[.val (.ref x0), .val (.int x1), .val (.int x2), .unset, .unset, .unset] [] := by first | (simp [entryFrame, mkF, argsToLocals, Value.category]; done) | rfl
theorem oef5 (m : MethodId) (x0 : Addr) (x1 : Int32) : entryFrame m #[(.ref x0), (.int x1)] 2 = mkF m 0 #[.val (.ref x0), .val (.int x1)] [] := by first | (simp [entryFrame, mkF, argsToLocals, Value.category]; done) | rfl
theorem oef6 (m : MethodId) (x0 : Addr) (x1 : Addr) : entryFrame m #[(.ref x0), (.ref x1)] 3 = mkF m 0 #[.val (.ref x0), .val (.ref x1), .unset] [] := by first | (simp [entryFrame, mkF, argsToLocals, Value.category]; done) | rfl
theorem oef7 (m : MethodId) (x0 : Addr) : entryFrame m #[(.ref x0)] 1 = mkF m 0 #[.val (.ref x0)] [] := by first | (simp [entryFrame, mkF, argsToLocals, Value.category]; done) | rfl
theorem oef8 (m : MethodId) (x0 : Int32) (x1 : Int32) (x2 : Value) (hx2 : x2.isRef = true) : entryFrame m #[(.int x0), (.int x1), x2] 3 = mkF m 0 #[.val (.int x0), .val (.int x1), .val x2] [] := by rcases ref_cases hx2 with rfl | ⟨_, rfl⟩ <;> first | (simp [entryFrame, mkF, argsToLocals, Value.category]; done) | rfl
theorem oef9 (m : MethodId) (x0 : Int32) (x1 : Int32) : entryFrame m #[(.int x0), (.int x1)] 2 = mkF m 0 #[.val (.int x0), .val (.int x1)] [] := by first | (simp [entryFrame, mkF, argsToLocals, Value.category]; done) | rfl
theorem oef10 (m : MethodId) (x0 : Int32) (x1 : Int32) (x2 : Int32) (x3 : Int32) : entryFrame m #[(.int x0), (.int x1), (.int x2), (.int x3)] 4 = mkF m 0 #[.val (.int x0), .val (.int x1), .val (.int x2), .val (.int x3)] [] := by first | (simp [entryFrame, mkF, argsToLocals, Value.category]; done) | rfl
theorem oef11 (m : MethodId) (x0 : Addr) (x1 : Int32) : entryFrame m #[(.ref x0), (.int x1)] 3 = mkF m 0 #[.val (.ref x0), .val (.int x1), .unset] [] := by first | (simp [entryFrame, mkF, argsToLocals, Value.category]; done) | rfl
theorem oef12 (m : MethodId) (x0 : Int32) (x1 : Int32) (x2 : Int32) : entryFrame m #[(.int x0), (.int x1), (.int x2)] 4 = mkF m 0 #[.val (.int x0), .val (.int x1), .val (.int x2), .unset] [] := by first | (simp [entryFrame, mkF, argsToLocals, Value.category]; done) | rfl
theorem oef13 (m : MethodId) (x0 : Addr) (x1 : Int32) : entryFrame m #[(.ref x0), (.int x1)] 6 = mkF m 0 #[.val (.ref x0), .val (.int x1), .unset, .unset, .unset, .unset] [] := by first | (simp [entryFrame, mkF, argsToLocals, Value.category]; done) | rfl
theorem oef14 (m : MethodId) (x0 : Addr) (x1 : Addr) (x2 : Int32) (x3 : Int32) : entryFrame m #[(.ref x0), (.ref x1), (.int x2), (.int x3)] 4 = mkF m 0 #[.val (.ref x0), .val (.ref x1), .val (.int x2), .val (.int x3)] [] := by first | (simp [entryFrame, mkF, argsToLocals, Value.category]; done) | rfl
theorem oef15 (m : MethodId) (x0 : Addr) (x1 : Int32) (x2 : Addr) : entryFrame m #[(.ref x0), (.int x1), (.ref x2)] 3 = mkF m 0 #[.val (.ref x0), .val (.int x1), .val (.ref x2)] [] := by first | (simp [entryFrame, mkF, argsToLocals, Value.category]; done) | rfl
theorem oef16 (m : MethodId) (x0 : Addr) (x1 : Int32) (x2 : Int32) : entryFrame m #[(.ref x0), (.int x1), (.int x2)] 5 = mkF m 0 #[.val (.ref x0), .val (.int x1), .val (.int x2), .unset, .unset] [] := by first | (simp [entryFrame, mkF, argsToLocals, Value.category]; done) | rfl
theorem oef17 (m : MethodId) (x0 : Addr) (x1 : Int32) (x2 : Int32) : entryFrame m #[(.ref x0), (.int x1), (.int x2)] 3 = mkF m 0 #[.val (.ref x0), .val (.int x1), .val (.int x2)] [] := by first | (simp [entryFrame, mkF, argsToLocals, Value.category]; done) | rfl
theorem oef18 (m : MethodId) (x0 : Addr) (x1 : Addr) : entryFrame m #[(.ref x0), (.ref x1), .null] 5 = mkF m 0 #[.val (.ref x0), .val (.ref x1), .val .null, .unset, .unset] [] := by first | (simp [entryFrame, mkF, argsToLocals, Value.category]; done) | rfl
theorem oef19 (m : MethodId) (x0 : Int32) (x1 : Addr) (x2 : Int32) (x3 : Addr) : entryFrame m #[(.int x0), (.ref x1), (.int x2), (.ref x3)] 4 = mkF m 0 #[.val (.int x0), .val (.ref x1), .val (.int x2), .val (.ref x3)] [] := by first | (simp [entryFrame, mkF, argsToLocals, Value.category]; done) | rfl
theorem oef20 (m : MethodId) (x0 : Addr) (x1 : Int32) (x2 : Int32) (x3 : Addr) (x4 : Int32) (x5 : Addr) : entryFrame m #[(.ref x0), (.int x1), (.int x2), (.ref x3), (.int x4), (.ref x5)] 6 = mkF m 0 #[.val (.ref x0), .val (.int x1), .val (.int x2), .val (.ref x3), .val (.int x4), .val (.ref x5)] [] := by first | (simp [entryFrame, mkF, argsToLocals, Value.category]; done) | rfl
theorem oef21 (m : MethodId) (x0 : Int32) (x1 : Int32) : entryFrame m #[(.int x0), (.int x1)] maxLocals = mkF m 0 #[.val (.int x0), .val (.int x1), .unset, .unset, .unset, .unset, .unset, .unset, .unset, .unset, .unset, .unset, .unset, .unset, .unset, .unset, .unset, .unset, .unset] [] := by first | (simp [entryFrame, mkF, argsToLocals, Value.category, maxLocals]; done) | rfl
theorem opn_0 : plainFor x = true := plainFor_of_name (by first | (simp [plainName, overriddenIn]; done) | decide +kernel)
theorem opn_1 : plainFor (⟨"com/example/stablebid/stablebid/cli/InputFileRefusalPinLaw", "nameChar", "(I)C"⟩ : MethodName) = true := plainFor_of_name (by first | (simp [plainName, overriddenIn]; done) | decide +kernel)
theorem opn_2 : plainFor (⟨"com/example/stablebid/stablebid/cli/InputFileRefusalPinLaw", "str", "(ICCC)Ljava/lang/String;"⟩ : MethodName) = true := plainFor_of_name (by first | (simp [plainName, overriddenIn]; done) | decide +kernel)
theorem opn_3 : plainFor (⟨"java/lang/String", "<init>", "([C)V"⟩ : MethodName) = true := plainFor_of_name (by first | (simp [plainName, overriddenIn]; done) | decide +kernel)
theorem opn_4 : plainFor (⟨"java/lang/String", "<init>", "([CIILjava/lang/Void;)V"⟩ : MethodName) = true := plainFor_of_name (by first | (simp [plainName, overriddenIn]; done) | decide +kernel)
theorem opn_6 : plainFor (⟨"java/lang/StringUTF16", "compress", "([CII)[B"⟩ : MethodName) = true := plainFor_of_name (by first | (simp [plainName, overriddenIn]; done) | decide +kernel)
theorem opn_7 : plainFor (⟨"java/lang/StringUTF16", "compress", "([CI[BII)I"⟩ : MethodName) = true := plainFor_of_name (by first | (simp [plainName, overriddenIn]; done) | decide +kernel)
theorem opn_8 : plainFor (⟨"java/lang/StringUTF16", "coderFromArrayLen", "([BI)B"⟩ : MethodName) = true := plainFor_of_name (by first | (simp [plainName, overriddenIn]; done) | decide +kernel)
theorem opn_9 : plainFor (⟨"com/example/stablebid/stablebid/cli/InputFile", "refusal", "(Ljava/lang/String;Ljava/lang/String;)Lcom/example/stablebid/stablebid/cli/InputException;"⟩ : MethodName) = true := plainFor_of_name (by first | (simp [plainName, overriddenIn]; done) | decide +kernel)
theorem opn_10 : plainFor (⟨"java/lang/StringBuilder", "<init>", "()V"⟩ : MethodName) = true := plainFor_of_name (by first | (simp [plainName, overriddenIn]; done) | decide +kernel)
theorem opn_11 : plainFor (⟨"java/lang/AbstractStringBuilder", "<init>", "(I)V"⟩ : MethodName) = true := plainFor_of_name (by first | (simp [plainName, overriddenIn]; done) | decide +kernel)
theorem opn_12 : plainFor (⟨"com/example/stablebid/stablebid/cli/InputFile", "label", "(Ljava/lang/String;)Ljava/lang/String;"⟩ : MethodName) = true := plainFor_of_name (by first | (simp [plainName, overriddenIn]; done) | decide +kernel)
theorem opn_13 : plainFor (⟨"java/lang/String", "equals", "(Ljava/lang/Object;)Z"⟩ : MethodName) = true := plainFor_of_name (by first | (simp [plainName, overriddenIn]; done) | decide +kernel)
theorem opn_14 : plainFor (⟨"java/lang/StringLatin1", "equals", "([B[B)Z"⟩ : MethodName) = true := plainFor_of_name (by first | (simp [plainName, overriddenIn]; done) | decide +kernel)
theorem opn_15 : plainFor (⟨"java/lang/StringBuilder", "append", "(Ljava/lang/String;)Ljava/lang/StringBuilder;"⟩ : MethodName) = true := plainFor_of_name (by first | (simp [plainName, overriddenIn]; done) | decide +kernel)
theorem opn_16 : plainFor (⟨"java/lang/AbstractStringBuilder", "append", "(Ljava/lang/String;)Ljava/lang/AbstractStringBuilder;"⟩ : MethodName) = true := plainFor_of_name (by first | (simp [plainName, overriddenIn]; done) | decide +kernel)
theorem opn_17 : plainFor (⟨"java/lang/String", "length", "()I"⟩ : MethodName) = true := plainFor_of_name (by first | (simp [plainName, overriddenIn]; done) | decide +kernel)
theorem opn_18 : plainFor (⟨"java/lang/String", "coder", "()B"⟩ : MethodName) = true := plainFor_of_name (by first | (simp [plainName, overriddenIn]; done) | decide +kernel)
theorem opn_19 : plainFor (⟨"java/lang/AbstractStringBuilder", "ensureCapacityInternal", "(I)V"⟩ : MethodName) = true := plainFor_of_name (by first | (simp [plainName, overriddenIn]; done) | decide +kernel)
theorem opn_20 : plainFor (⟨"java/lang/AbstractStringBuilder", "putStringAt", "(ILjava/lang/String;)V"⟩ : MethodName) = true := plainFor_of_name (by first | (simp [plainName, overriddenIn]; done) | decide +kernel)
theorem opn_21 : plainFor (⟨"java/lang/AbstractStringBuilder", "inflateIfNeededFor", "(Ljava/lang/String;)V"⟩ : MethodName) = true := plainFor_of_name (by first | (simp [plainName, overriddenIn]; done) | decide +kernel)
theorem opn_22 : plainFor (⟨"java/lang/String", "getBytes", "([BIB)V"⟩ : MethodName) = true := plainFor_of_name (by first | (simp [plainName, overriddenIn]; done) | decide +kernel)
theorem opn_23 : plainFor (⟨"java/lang/StringBuilder", "toString", "()Ljava/lang/String;"⟩ : MethodName) = true := plainFor_of_name (by first | (simp [plainName, overriddenIn]; done) | decide +kernel)
theorem opn_24 : plainFor (⟨"java/lang/String", "<init>", "(Ljava/lang/StringBuilder;)V"⟩ : MethodName) = true := plainFor_of_name (by first | (simp [plainName, overriddenIn]; done) | decide +kernel)
theorem opn_25 : plainFor (⟨"java/lang/String", "<init>", "(Ljava/lang/AbstractStringBuilder;Ljava/lang/Void;)V"⟩ : MethodName) = true := plainFor_of_name (by first | (simp [plainName, overriddenIn]; done) | decide +kernel)
theorem opn_26 : plainFor (⟨"java/lang/AbstractStringBuilder", "getValue", "()[B"⟩ : MethodName) = true := plainFor_of_name (by first | (simp [plainName, overriddenIn]; done) | decide +kernel)
theorem opn_27 : plainFor (⟨"java/lang/StringBuilder", "length", "()I"⟩ : MethodName) = true := plainFor_of_name (by first | (simp [plainName, overriddenIn]; done) | decide +kernel)
theorem opn_28 : plainFor (⟨"java/lang/AbstractStringBuilder", "length", "()I"⟩ : MethodName) = true := plainFor_of_name (by first | (simp [plainName, overriddenIn]; done) | decide +kernel)
theorem opn_29 : plainFor (⟨"java/lang/AbstractStringBuilder", "isLatin1", "()Z"⟩ : MethodName) = true := plainFor_of_name (by first | (simp [plainName, overriddenIn]; done) | decide +kernel)
theorem opn_30 : plainFor (⟨"java/util/Arrays", "copyOfRange", "([BII)[B"⟩ : MethodName) = true := plainFor_of_name (by first | (simp [plainName, overriddenIn]; done) | decide +kernel)
theorem opn_31 : plainFor (⟨"java/util/Arrays", "copyOfRangeByte", "([BII)[B"⟩ : MethodName) = true := plainFor_of_name (by first | (simp [plainName, overriddenIn]; done) | decide +kernel)
theorem opn_32 : plainFor (⟨"java/util/Arrays", "checkLength", "(II)V"⟩ : MethodName) = true := plainFor_of_name (by first | (simp [plainName, overriddenIn]; done) | decide +kernel)
theorem opn_33 : plainFor (⟨"java/lang/Math", "min", "(II)I"⟩ : MethodName) = true := Jvm.Free.JP.mathPlain rfl (by decide +kernel)
theorem opn_34 : plainFor (⟨"com/example/stablebid/stablebid/cli/InputException", "<init>", "(Ljava/lang/String;)V"⟩ : MethodName) = true := plainFor_of_name (by first | (simp [plainName, overriddenIn]; done) | decide +kernel)
theorem opn_35 : plainFor (⟨"java/lang/Exception", "<init>", "(Ljava/lang/String;)V"⟩ : MethodName) = true := plainFor_of_name (by first | (simp [plainName, overriddenIn]; done) | decide +kernel)
theorem opn_36 : plainFor (⟨"java/lang/Throwable", "<init>", "(Ljava/lang/String;)V"⟩ : MethodName) = true := plainFor_of_name (by first | (simp [plainName, overriddenIn]; done) | decide +kernel)
theorem opn_39 : plainFor (⟨"java/lang/Throwable", "getMessage", "()Ljava/lang/String;"⟩ : MethodName) = true := plainFor_of_name (by first | (simp [plainName, overriddenIn]; done) | decide +kernel)
theorem opn_40 : plainFor (⟨"com/example/stablebid/stablebid/cli/InputFileRefusalPinLaw", "eq", "(Ljava/lang/String;II[CI[C)Z"⟩ : MethodName) = true := plainFor_of_name (by first | (simp [plainName, overriddenIn]; done) | decide +kernel)
theorem opn_41 : plainFor (⟨"java/lang/String", "charAt", "(I)C"⟩ : MethodName) = true := plainFor_of_name (by first | (simp [plainName, overriddenIn]; done) | decide +kernel)
theorem opn_42 : plainFor (⟨"java/lang/String", "isLatin1", "()Z"⟩ : MethodName) = true := plainFor_of_name (by first | (simp [plainName, overriddenIn]; done) | decide +kernel)
theorem opn_43 : plainFor (⟨"java/lang/StringLatin1", "charAt", "([BI)C"⟩ : MethodName) = true := plainFor_of_name (by first | (simp [plainName, overriddenIn]; done) | decide +kernel)
theorem opn_44 : plainFor (⟨"java/lang/String", "checkIndex", "(II)V"⟩ : MethodName) = true := plainFor_of_name (by first | (simp [plainName, overriddenIn]; done) | decide +kernel)
theorem opn_45 : plainFor (⟨"jdk/internal/util/Preconditions", "checkIndex", "(IILjava/util/function/BiFunction;)I"⟩ : MethodName) = true := plainFor_of_name (by first | (simp [plainName, overriddenIn]; done) | decide +kernel)
theorem opn_46 : plainFor (⟨"com/example/stablebid/stablebid/cli/InputFileRefusalPinLaw", "pick", "(I[CI[C)C"⟩ : MethodName) = true := plainFor_of_name (by first | (simp [plainName, overriddenIn]; done) | decide +kernel)
theorem opn_47 : plainFor (⟨"java/lang/AbstractStringBuilder", "newCapacity", "(I)I"⟩ : MethodName) = true := plainFor_of_name (by first | (simp [plainName, overriddenIn]; done) | decide +kernel)
theorem opn_48 : plainFor (⟨"jdk/internal/util/ArraysSupport", "newLength", "(III)I"⟩ : MethodName) = true := plainFor_of_name (by first | (simp [plainName, overriddenIn]; done) | decide +kernel)
theorem opn_49 : plainFor (⟨"java/lang/Math", "max", "(II)I"⟩ : MethodName) = true := Jvm.Free.JP.mathPlain rfl (by decide +kernel)
theorem opn_50 : plainFor (⟨"java/util/Arrays", "copyOf", "([BI)[B"⟩ : MethodName) = true := plainFor_of_name (by first | (simp [plainName, overriddenIn]; done) | decide +kernel)
theorem own_hEL {a0 : Array Value} {Z : State} (hw : HW a0 Z) : EW Z a0 own_EL := (EW.cons (hw _ (List.mem_of_getElem? (i := 21) rfl)) (by decide) (EW.cons (hw _ (List.mem_of_getElem? (i := 126) rfl)) (by decide) (EW.cons (hw _ (List.mem_of_getElem? (i := 68) rfl)) (by decide) (EW.cons (hw _ (List.mem_of_getElem? (i := 257) rfl)) (by decide) EW.nil))))
theorem own_wS {a0 : Array Value} {Z : State} (hw : HW a0 Z) : ∀ a ∈ Bundle.stringAtoms, a.before a0 Z = true := by
  intro a ha
  simp only [Bundle.stringAtoms, List.mem_cons, List.not_mem_nil, or_false] at ha
  rcases ha with rfl | rfl | rfl | rfl | rfl | rfl | rfl
  · exact (ow9 hw)
  · exact (ow8 hw)
  · exact (ow22 hw)
  · exact (ow23 hw)
  · exact (ow24 hw)
  · exact (ow25 hw)
  · exact (ow26 hw)
theorem own_nb (x : Int32) : nar .byte (x.toInt8.toInt32) = x.toInt8.toInt32 := by
 show x.toInt8.toInt32.toInt8.toInt32 = x.toInt8.toInt32
 simp
theorem own_strarr {Z : State} {h : Heap} {a b : Addr} {C : String} {k : ClassId} {ty : FieldType} {z : Int32} {vs : List Value} {dv : Value} {a0 : Array Value} {n : Nat} (E : Exa Z h a C) (A : Arv Z h b k ty z vs dv) (w : (Cond.instantiable C n).before a0 Z = true) (q : a = b) : False := by
 obtain ⟨cl, A, -⟩ := A
 exact ne_arr E w A q
theorem own_ne0 {args : Array Value} {s : State} {t : Term} {x : Int32} (e : t.eval args s none [] s = some (.int x)) (h : (Cond.not (Cond.eq t (Term.int 0))).value args s none s [] = some true) : ¬ x = 0 := by
 have h := not_v h
 simp only [Cond.value, Term.eval, e] at h
 simpa using h
theorem own_byte {c : Int32} (h : 0 ≤ c.toInt ∧ c.toInt ≤ 255) : ∃ n : Fin 256, c = Int32.ofNat n.val := by
 refine ⟨⟨c.toInt.toNat, by omega⟩, ?_⟩
 apply Int32.toInt_inj.mp
 rw [Int32.toInt_ofNat_of_lt (by omega)]
 show c.toInt = ((c.toInt.toNat : Nat) : Int)
 omega
theorem own_ch {c : Int32} (h : 0 ≤ c.toInt ∧ c.toInt ≤ 255) : nar .char ((c.toInt8.toInt32 &&& 255).toUInt32.toUInt16.toUInt32.toInt32) = c := by
 obtain ⟨n, rfl⟩ := own_byte h
 revert n; decide +kernel
theorem own_nc {c : Int32} (h : 0 ≤ c.toInt ∧ c.toInt ≤ 255) : nar .char c = c := by
 obtain ⟨n, rfl⟩ := own_byte h
 revert n; decide +kernel
theorem own_shr0 (x : Int32) : x >>> ((0 : Int32) &&& 31) = x := by
 have h := c_ishr x 0 0 (by decide)
 apply Int32.toInt_inj.mp
 rw [h]; simp
theorem own_le255 {c : Int32} (h : 0 ≤ c.toInt ∧ c.toInt ≤ 255) : ¬ (255 : Int32) < c := by
 rw [Int32.lt_iff_toInt_lt]
 have e : (255 : Int32).toInt = 255 := by decide
 omega
theorem own_getD (us : List Int32) {z : Int32} {i : Nat} (h : z.toNatClampNeg = i) : (us.map Value.int).getD z.toNatClampNeg (.int 0) = .int (us.getD i 0) := by
 rw [h]; simp only [List.getD_eq_getElem?_getD, List.getElem?_map]; cases us[i]? <;> rfl
theorem own_nlt {z n : Int32} {i k : Nat} (h : ¬ z < 0 ∧ z.toNatClampNeg = i) (hn : n.toNatClampNeg = k) (q : k ≤ i) : ¬ z < n := by
 obtain ⟨h1, h⟩ := h
 rw [Int32.lt_iff_toInt_lt] at h1 ⊢
 have e0 : (0 : Int32).toInt = 0 := by decide
 unfold Int32.toNatClampNeg at h hn; omega
theorem own_lt1 {z n : Int32} {i k : Nat} (h : ¬ z < 0 ∧ z.toNatClampNeg = i) (hn : n.toNatClampNeg = k) (hp : ¬ n < 0) (q : i < k) : z < n := by
 have h1 := h.1; have h2 := h.2
 rw [Int32.lt_iff_toInt_lt] at h1 hp ⊢
 have e : (0 : Int32).toInt = 0 := by decide
 rw [e] at h1 hp
 unfold Int32.toNatClampNeg at h2 hn; omega
theorem own_iinc {z n : Int32} {i : Nat} (h : ¬ z < 0 ∧ z.toNatClampNeg = i) (q : i < n.toNatClampNeg) (hp : ¬ n < 0) : ¬ (z + 1) < 0 ∧ (z + 1).toNatClampNeg = i + 1 := by
 have h1 := h.1; have h2 := h.2; have a := c_iadd z 1; have r := rng32 (z + 1); have r2 := rng32 n
 have e1 : (1 : Int32).toInt = 1 := by decide
 have e0 : (0 : Int32).toInt = 0 := by decide
 rw [e1] at a
 rw [Int32.lt_iff_toInt_lt, e0] at h1 hp ⊢
 unfold Int32.toNatClampNeg at h2 q ⊢; omega
theorem own_eqstep {us ws : List Int32} {i : Nat} (hj : ∀ j, j < i → us[j]? = ws[j]?) (hlt : i < us.length) (hle : us.length = ws.length) (q : us.getD i 0 = ws.getD i 0) : ∀ j, j < i + 1 → us[j]? = ws[j]? := by
  intro j h
  by_cases e : j = i
  · subst e
    simp only [List.getD_eq_getElem?_getD] at q
    rw [List.getElem?_eq_getElem hlt, List.getElem?_eq_getElem (by omega)] at q ⊢
    simpa using q
  · exact hj j (by omega)
theorem own_eqall {us ws : List Int32} {i : Nat} (hle : us.length = ws.length) (hi : us.length ≤ i) (hj : ∀ j, j < i → us[j]? = ws[j]?) : us = ws := by
  apply List.ext_getElem?
  intro j
  by_cases h : j < i
  · exact hj j h
  · rw [List.getElem?_eq_none (by omega), List.getElem?_eq_none (by omega)]
theorem own_len_ne {us ws : List Int32} {n1 n2 : Int32} (q : us = ws) (h1 : n1.toNatClampNeg = us.length) (h2 : n2.toNatClampNeg = ws.length) (p1 : ¬ n1 < 0) (p2 : ¬ n2 < 0) : n1 = n2 := by
 have e : n1.toNatClampNeg = n2.toNatClampNeg := by rw [h1, h2, q]
 rw [← (back32 p1).1, ← (back32 p2).1, e]
theorem own_eqsame {Z : State} {h : Heap} {a1 a2 b1 b2 : Addr} {k1 k2 : ClassId} {us ws : List Int32} {n1 n2 : Int32} {C n d : String} (e : a1 = a2) (F1 : Fld Z h a1 C n d (.ref b1)) (F2 : Fld Z h a2 C n d (.ref b2)) (V1 : Arv Z h b1 k1 .byte n1 (us.map Value.int) (.int 0)) (V2 : Arv Z h b2 k2 .byte n2 (ws.map Value.int) (.int 0)) (h1 : n1.toNatClampNeg = us.length) (h2 : n2.toNatClampNeg = ws.length) : us = ws := by
 subst e
 have eb : b1 = b2 := Classical.byContradiction fun q => Fld.ne F1 F2 (fun z => q (Value.ref.inj z)) rfl
 subst eb
 obtain ⟨c1, A1, -, S1, -, H1, -⟩ := V1
 obtain ⟨c2, A2, -, S2, -, H2, -⟩ := V2
 cases A1.1.symm.trans A2.1
 have hle : us.length = ws.length := by rw [← h1, ← h2, ← S1, ← S2]
 refine own_eqall (i := us.length) hle (Nat.le_refl _) fun j hj => ?_
 have q := (H1 j (by omega)).symm.trans (H2 j (by omega))
 simp only [List.getD_eq_getElem?_getD, List.getElem?_map] at q
 rw [List.getElem?_eq_getElem hj, List.getElem?_eq_getElem (by omega)] at q ⊢
 simpa using q
section OwnFill
variable {p : Program} {l : Launch} {e : Env} {R : Room} {s : State} {m : MethodId} {args : Array Value} {below : List Frame} {meth : Method} {c : Code} {T : State} {locs : List Loc} {cells slots : Nat} {Z : State} {a0 : Array Value} {h : Heap} {P : Outcome → State → Prop} {pc pc' pc1 pc2 : Nat} {L L' : Array Slot} {S : List Value} {vm : Vm} {EL : List (String × Nat)} {k0 : Nat}
def own_thA (rc : String) : List Cond := [.initialized Bundle.tN, .superclass Bundle.tN "java/lang/Object", .instanceMethod Bundle.tFill, .codeSync Bundle.tFill LibCode.Throwable.Fill.code 1 (some (.object Bundle.tN)), .instanceMethod Bundle.tFill0, .native Bundle.tFill0, .instanceMethod Bundle.oInit, .code Bundle.oInit ⟨#[0xb1]⟩ 1 none, .methodLink Bundle.tN 1 Bundle.oInit, .methodLink Bundle.tN 27 Bundle.tFill, .methodLink Bundle.tN 202 Bundle.tFill0, .fieldLink Bundle.tN 7 Bundle.tN "cause" Jvm.Free.Exc.thD, .fieldLink Bundle.tN 17 Bundle.tN "stackTrace" Bundle.steD, .fieldLink Bundle.tN 24 Bundle.tN "suppressedExceptions" Bundle.listD, .fieldLink Bundle.tN 198 Bundle.tN "backtrace" Jvm.Free.Exc.obD, .fieldLink Bundle.tN 13 Bundle.tN "UNASSIGNED_STACK" Bundle.steD, .laysStatic Bundle.tN "UNASSIGNED_STACK" Bundle.steD, .fieldLink Bundle.tN 20 Bundle.tN "SUPPRESSED_SENTINEL" Bundle.listD, .laysStatic Bundle.tN "SUPPRESSED_SENTINEL" Bundle.listD, .declares Bundle.tFill, .selects rc Bundle.tFill0 Bundle.tFill0, .selects rc Bundle.tFill Bundle.tFill, .lays rc Bundle.tN "cause" Jvm.Free.Exc.thD, .lays rc Bundle.tN "stackTrace" Bundle.steD, .lays rc Bundle.tN "suppressedExceptions" Bundle.listD, .lays rc Bundle.tN "detailMessage" Jvm.Free.Exc.msgD, .lays rc Bundle.tN "backtrace" Jvm.Free.Exc.obD, .lays rc Bundle.tN "depth" "I", .arrayOver (.object "java/lang/Object"), .soleField Bundle.tN "backtrace", .soleField Bundle.tN "depth"]
abbrev OwnThr (pl : Platform) (s : State) (T : ThrowableC) : Prop := T.Links pl s ∧ s.vm.findClass Bundle.tN = some T.cT ∧ s.methodNamed? Bundle.tFill = some T.fill ∧ s.methodNamed? Bundle.tFill0 = some T.fill0 ∧ s.fieldFound? Bundle.tN "stackTrace" Bundle.steD = some (T.cT, T.kT, T.i17, T.fStack) ∧ s.fieldFound? Bundle.tN "UNASSIGNED_STACK" Bundle.steD = some (T.cT, T.kT, T.i13, T.fUnassigned) ∧ T.fStack.type = .array (.object "java/lang/StackTraceElement")
set_option maxHeartbeats 4000000 in
theorem own_thr {args : Array Value} {s : State} {pl : Platform} {rc : String} (howns : pl.frameOwnsMonitors = true) (hfin : pl.finalization = false) (hpl : pl.magicAccessors = ({} : Platform).magicAccessors) (a : ∀ d ∈ own_thA rc, d.before args s = true) : ∃ T : ThrowableC, OwnThr pl s T := by
 have w : ∀ (i : Nat) (d : Cond), (own_thA rc)[i]? = some d → d.holds args s none s [] = true := fun i d q => a d (List.mem_of_getElem? q)
 have wF := w 2 _ rfl
 have wN := w 5 _ rfl
 obtain ⟨⟨cT, i0⟩, m0, n0, v0, nat0, nc0, nl0, sg0⟩ := Cond.native_spec wN
 have fT : s.vm.findClass Bundle.tN = some cT := findClass_of_methodNamed n0
 obtain ⟨kT, aT, nmT⟩ := Vm.findClass_spec fT
 obtain ⟨_, kT', _, _, aT', _, _, _, _, niT⟩ := Cond.superclass_spec fT (w 1 _ rfl)
 obtain rfl : kT = kT' := Option.some.inj (aT.symm.trans aT')
 -- the two methods
 obtain ⟨jF, mF, nF, vF, atF, stF, abF, -, -⟩ := Cond.ownMethod (x := Bundle.tFill) fT aT wF
 obtain ⟨mF', cF, vF', coF, byF, loF, reF, lkF, -, sgF⟩ := Cond.codeSync_spec nF (w 3 _ rfl)
 obtain rfl : mF = mF' := Option.some.inj (vF.symm.trans vF')
 obtain ⟨j0, m0', n0', v0', at0, st0, ab0, nm0, de0⟩ := Cond.ownMethod (x := Bundle.tFill0) fT aT (w 4 _ rfl)
 obtain rfl : i0 = j0 := by have q := Option.some.inj (n0.symm.trans n0'); simpa using q
 obtain rfl : m0 = m0' := Option.some.inj (v0.symm.trans v0')
 -- Object's constructor
 obtain ⟨idO, mO, nO, vO, stO, abO⟩ := Cond.instanceMethod_spec (w 6 _ rfl)
 obtain ⟨mO', cO, vO', coO, byO, loO, -, lkO, -, sgO⟩ := Cond.code_spec nO (w 7 _ rfl)
 obtain rfl : mO = mO' := Option.some.inj (vO.symm.trans vO')
 obtain ⟨kO, aO, nmO⟩ := Vm.findClass_spec (findClass_of_methodNamed nO)
 obtain ⟨inO, deO⟩ := name_of_methodNamed nO vO
 -- the method references
 obtain ⟨e1, x1, cf, l1, r1, hcf, p1⟩ := Cond.linkedMethod fT aT nO (w 8 _ rfl) pl hpl
 obtain ⟨e2, x2, cf2, l2, r2, hcf2, p2⟩ := Cond.linkedMethod fT aT nF (w 9 _ rfl) pl hpl
 obtain rfl : cf = cf2 := Option.some.inj (hcf.symm.trans hcf2)
 obtain ⟨e3, x3, cf3, l3, r3, hcf3, p3⟩ := Cond.linkedMethod fT aT n0 (w 10 _ rfl) pl hpl
 obtain rfl : cf = cf3 := Option.some.inj (hcf.symm.trans hcf3)
 -- the fields; each one's place as the object's own class lays it
 obtain ⟨g7, i7, f7, q7, b7, t7, s7, z7, -, -, -⟩ := Cond.ownField (t := .object Bundle.tN) fT aT (by decide +kernel) (w 11 _ rfl) (w 22 _ rfl) pl hpl
 obtain ⟨g17, i17, f17, q17, b17, t17, s17, z17, n17, y17, ff17⟩ := Cond.ownField (t := .array (.object "java/lang/StackTraceElement")) fT aT (by decide +kernel) (w 12 _ rfl) (w 23 _ rfl) pl hpl
 obtain ⟨g24, i24, f24, q24, b24, t24, s24, z24, n24, -, ff24⟩ := Cond.ownField (t := .object "java/util/List") fT aT (by decide +kernel) (w 13 _ rfl) (w 24 _ rfl) pl hpl
 obtain ⟨g13, i13, f13, aS, _, q13, b13, t13, s13, -, -, hS, -, -, -, -, ff13⟩ := Cond.ownStatic (t := .array (.object "java/lang/StackTraceElement")) fT aT (by decide +kernel) (w 15 _ rfl) (w 16 _ rfl) pl hpl
 obtain ⟨g20, i20, f20, _, _, q20, b20, t20, s20, -⟩ := Cond.ownStatic (t := .object "java/util/List") fT aT (by decide +kernel) (w 17 _ rfl) (w 18 _ rfl) pl hpl
 obtain ⟨cX, kX, _, _, _, fM, fX, aX, -, sM, zM, -⟩ := Cond.lays_spec (w 25 _ rfl)
 obtain ⟨-, d17, u17, v17⟩ := Cond.laysAt fX aX ff17 (w 23 _ rfl)
 obtain ⟨-, d24, u24, v24⟩ := Cond.laysAt fX aX ff24 (w 24 _ rfl)
 have ap := Cond.laysApart u17 u24 v17 v24 (by rw [n17, n24]; decide)
 have pF : mF.sig.parameters = [] := by
  have q := congrArg (Option.map (fun z => z.parameters)) sgF
  simpa using q.symm.trans (by decide +kernel : (parseMethodDescriptor Bundle.tFill.desc).map (fun z => z.parameters) = some [])
 have p0 : m0.sig.parameters = [.int] := by
  have q := congrArg (Option.map (fun z => z.parameters)) sg0
  simpa using q.symm.trans (by decide +kernel : (parseMethodDescriptor Bundle.tFill0.desc).map (fun z => z.parameters) = some [.int])
 have pO : mO.sig.parameters = [] := by
  have q := congrArg (Option.map (fun z => z.parameters)) sgO
  simpa using q.symm.trans (by decide +kernel : (parseMethodDescriptor Bundle.oInit.desc).map (fun z => z.parameters) = some [])
 let T : ThrowableC := { cT := cT, kT := kT, cO := cT, aS := aS, fillIdx := jF, fill0Idx := i0, initSIdx := jF, obj := idO, kObj := kO, methFill := mF, methFill0 := m0, methInitS := mF, methObj := mO, codeFill := cF, codeInitS := cF, codeObj := cO, fBack := f7, fDepth := f7, fStack := f17, fCause := f7, fSupp := f24, fMsg := fM, fUnassigned := f13, fSentinel := f20, cfT := cf, ci1 := e1, n1 := x1, ci27 := e2, n27 := x2, ci202 := e3, n202 := x3, ci7 := g7, i7 := i7, ci13 := g13, i13 := i13, ci17 := g17, i17 := i17, ci20 := g20, i20 := i20, ci24 := g24, i24 := i24 }
 refine ⟨T, ?_, fT, nF, n0, ff17, ff13, y17⟩
 constructor
 case owns => exact howns
 case noFinalization => exact hfin
 case cls => exact aT
 case name => exact nmT
 case boot => exact Vm.findClass_boot fT aT
 case notInterface => exact niT
 case initialized => exact Cond.initialized_spec fT aT (w 0 _ rfl)
 case statics => exact hS
 case objFound => show lookupSpecial s.vm idO.cls "<init>" mO.desc = .method idO; rw [deO]; exact lookupSpecial_of_named nO vO stO
 case objParams => show mO.sig.parameters.length = 0; rw [pO]; rfl
 all_goals assumption
theorem own_thOk {rc : String} : (own_thA rc).all xOk = true := rfl
theorem og_fill (X : Stand p l e R (s.setVm vm) m args below meth c T locs 0 0) (hx : p.tables.exec = Jvm.exec) (hZ : Z.Warmed39 vm) (hl : l.stackTraces = true) {rc : String} {n : Nat} (hown : vm.findClass Bundle.tN = some m.cls) (wA : ∀ d ∈ own_thA rc, d.before a0 Z = true) (wi : (Cond.instantiable rc n).before a0 Z = true) (hT0 : ThS Z s.heap) (hS : s.Since vm k0) (hTK : s.vm.MethodsKnown) (hBl : s.vm.FramesKnown below) (eT : T.heap = h) {a : Addr} (hlo : ∀ y ∈ locs, y.base = a) (E : Exa Z h a rc) (N : Unt h a) (B : Fld Z h a Bundle.tN "backtrace" Jvm.Free.Exc.obD .null) {u : Value} (hu : u.isRef = true) (Sk : Fld Z h a Bundle.tN "stackTrace" Bundle.steD u) (SU : Sta Z h Bundle.tN "UNASSIGNED_STACK" Bundle.steD u) (hml : L.size = c.maxLocals) {W : Nat} (hW : (S.map fun v => v.category).sum = W) (hf : 3 ≤ R.frames) (hlc : W + 42 ≤ R.locals) (hc : 1 ≤ R.cells) (hsl : 2752 ≤ R.slots) (hd : decode c.code pc = .ok (.invokevirtual 27, 3)) (hp : pc + 3 = pc') (kk : ∀ T' h' Lf, Stand p l e R (s.setVm vm) m args below meth c T' (locs ++ Lf) 1 2752 → T'.heap = h' → (∀ y ∈ Lf, y.base = a) → Keep h h' [a] → Exa Z h' a rc → (∃ v, Fld Z h' a Bundle.tN "detailMessage" Jvm.Free.Exc.msgD v) → OG p e below P (T'.setTop (mkF m pc' L (.ref a :: S)))) : OG p e below P (T.setTop (mkF m pc L (.ref a :: S))) := by
  subst hp
  have hpf := X.admits.platform
  have wS : ∀ d ∈ own_thA rc, d.before args (s.setVm vm) = true := fun d hd => mvX (s := s.setVm vm) hT0 hZ (List.all_eq_true.mp own_thOk d hd) (wA d hd)
  have w : ∀ (i : Nat) (d : Cond), (own_thA rc)[i]? = some d → d.before args (s.setVm vm) = true := fun i d q => wS d (List.mem_of_getElem? q)
  have hpl : e.platform.magicAccessors = ({} : Platform).magicAccessors := by rw [hpf]
  obtain ⟨Y, LK, F1, F2, F3, F4, F5, F6⟩ := own_thr (args := args) (s := s.setVm vm) (pl := e.platform) (by rw [hpf]) (by rw [hpf]) hpl wS
  obtain ⟨cell, kc, c1, c2, c3, c4, c5⟩ := E
  obtain ⟨_, u1, hvm, hmo⟩ := N
  cases c1.symm.trans u1
  obtain ⟨_, kc', j1, j2, j3, -⟩ := Cond.instantiable_spec wi
  cases c2.symm.trans j1
  cases c3.symm.trans j2
  obtain ⟨kX, k1, k2⟩ := hZ.alike.2.2 _ _ c3
  have fX : (s.setVm vm).vm.findClass rc = some cell.cls := by show vm.findClass rc = _; rw [hZ.alike.findClass]; exact c2
  have oX : kX.kind = .ordinary := by rw [k2]; exact j3
  have zX : cell.slots.size = kX.instanceTypes.size := by rw [k2]; exact c5 j3
  have tk : ∀ {f : Field} {v : Value}, kX.instanceTypes[f.slot]? = some f.type → fits f.type v = true → Jvm.Takes (s.setVm vm) cell f v := fun {f v} q1 q2 => by
    obtain ⟨g1, g2⟩ := Takes.of_laid (s := s.setVm vm) (v := v) k1 oX q1 q2
    exact ⟨by rw [zX]; simpa using g1, by rw [hvm]; exact g2⟩
  -- what the object's fields hold
  obtain ⟨_, _, _, _, fs, s1, s2, -, -, -, -, s7⟩ := Sk
  cases c1.symm.trans s1
  obtain ⟨_, s8, -⟩ := State.fieldFound?_setVm hZ.alike s2
  cases (show (s.setVm vm).fieldFound? Bundle.tN "stackTrace" Bundle.steD = _ from s8).symm.trans F4
  obtain ⟨_, _, _, _, fb', b1, b2, -, -, -, -, b7⟩ := B
  cases c1.symm.trans b1
  obtain ⟨_, b8, -⟩ := State.fieldFound?_setVm hZ.alike b2
  obtain ⟨g8, i8, fB, q8, r8, t8, sB, -, nB, yB, ffB⟩ := Cond.ownField (t := .object "java/lang/Object") F1 LK.cls (by decide +kernel) (w 14 _ rfl) (w 26 _ rfl) e.platform hpl
  cases (show (s.setVm vm).fieldFound? Bundle.tN "backtrace" Jvm.Free.Exc.obD = _ from b8).symm.trans ffB
  -- Throwable's statics
  obtain ⟨_, _, kU, fU, st, cs, z1, -, -, z4, z5, z6, z7⟩ := SU
  obtain ⟨kU', z8, z9⟩ := State.fieldFound?_setVm hZ.alike z1
  cases (show (s.setVm vm).fieldFound? Bundle.tN "UNASSIGNED_STACK" Bundle.steD = _ from z8).symm.trans F5
  obtain rfl : st = Y.aS := Option.some.inj (z4.symm.trans ((by rw [z9] : Y.kT.statics = kU.statics).symm.trans LK.statics))
  have hne : Y.aS ≠ a := fun q => by
    rw [q, c1] at z5; cases Option.some.inj z5; rw [c4] at z6; cases z6
  -- depth
  obtain ⟨_, _, cD, kD, iD, fD, -, -, ffD, sD, -⟩ := Cond.lays_spec (w 27 _ rfl)
  cases Option.some.inj ((Cond.lays_declared (w 27 _ rfl) ffD).symm.trans F1)
  obtain ⟨aD, tD⟩ := State.fieldFound?_spec ffD
  cases Option.some.inj (aD.symm.trans LK.cls)
  obtain ⟨nD, yD⟩ := State.fieldFound?_type ffD (t := .int) (by decide +kernel)
  have fb1 := Cond.soleField_find F1 LK.cls (w 29 _ rfl) t8 nB sB
  have fd1 := Cond.soleField_find F1 LK.cls (w 30 _ rfl) tD nD sD
  obtain ⟨comp, cO, kO, -, -, hkO, hki, hO⟩ := Cond.arrayOver_spec (w 28 _ rfl)
  obtain ⟨tyS, -⟩ := Cond.laysAt fX k1 F4 (w 23 _ rfl)
  obtain ⟨tyB, -⟩ := Cond.laysAt fX k1 ffB (w 26 _ rfl)
  obtain ⟨tyD, -⟩ := Cond.laysAt fX k1 ffD (w 27 _ rfl)
  have sel0 : selectMethod e.platform (s.setVm vm).vm cell.cls Y.fill0 = .method Y.fill0 := by
    obtain ⟨_, _, _, q1, q2, q3, q4, -⟩ := Cond.selects_spec (w 20 _ rfl)
    cases Option.some.inj (q1.symm.trans fX)
    cases Option.some.inj (q2.symm.trans (State.methodFound?_of_named F3 (by decide)))
    cases Option.some.inj (q3.symm.trans F3)
    rw [Launch.admits_selectMethod X.admits]; exact q4
  have hSE := w 21 _ rfl
  obtain ⟨v, vm1, ⟨T1, L1, ce, sl⟩, -, X1, ⟨hv, C, nn, hn, hC, hCc, hCv, hCs, -, hL1, hce, hs1⟩, st⟩ := X.virtualBack hx (own := Bundle.tN) (C := rc) (index := 27) (y := Bundle.tFill) (z := Bundle.tFill) hown (w 9 _ rfl) (w 19 _ rfl) (notFace_of_selects hSE) hSE (w 2 _ rfl) (by decide)
    (Jvm.Free.Exc.fillPaysAny (l := l) (W := W) hx (by rw [hpf]; exact hl) Y LK F2 (u0 := ⟨u, hu⟩) (self := a) (cell := cell) (cellS := cs) (fun _ => by rw [hvm]; simp) (by rw [hvm]; simp) (by rw [hmo]) (by rw [hmo]) s7 sel0 hne (fun q => by rw [q] at z6; cases z6) z7 (tk tyS (by rw [F6]; exact fits_refV_array _ ⟨u, hu⟩))
      ⟨{ ci198 := g8, i198 := _, fBack := fb' }, ⟨q8, r8, t8, sB⟩, b7⟩ (hTK.alikeC hS.1.alike) (hBl.alikeC hS.1.alike) F1 hO hkO hki fb1 fd1 (fun x => tk tyB (by rw [yB]; rfl)) (fun x => tk tyD (by rw [yD]; rfl)) hf hlc)
    (b := a) (cB := cell.cls) fX ⟨cell, by rw [eT]; exact c1, rfl, c4⟩ (g := mkF m pc L (.ref a :: S)) rfl hml (Steps.refl _) (argsL := []) (rest := S)
    (fun sig q => by rw [show parseMethodDescriptor Bundle.tFill.desc = some ⟨[], some (.object Bundle.tN)⟩ from by decide +kernel] at q; rw [← Option.some.inj q]; rfl) rfl (by show 2 * 0 + _ ≤ W; rw [hW]; omega) hd
    (fun vmx _ => ⟨rfl, by show 0 + 1 ≤ R.cells; omega, by show 0 + 2752 ≤ R.slots; omega, by show T.heap[a]? = _; rw [eT]; exact c1, by show T.heap[Y.aS]? = _; rw [eT]; exact z5⟩)
  dsimp only [Pt.U, Pt.locs, Pt.cells, Pt.slots] at X1 hC hL1 hce hs1 st
  subst hv hL1 hce hs1
  have hLf : ∀ y ∈ ([⟨a, fb'.slot⟩, ⟨a, fD.slot⟩, ⟨a, Y.fStack.slot⟩] : List Loc), y.base = a := fun y hy => by
    simp only [List.mem_cons, List.not_mem_nil, or_false] at hy
    rcases hy with rfl | rfl | rfl <;> rfl
  have hKp : Keep h T1.heap [a] := by
    have z0 : h.size ≤ s.heap.size := by rw [← eT]; exact X.heapSize
    have zl : s.heap.size ≤ h.size := by rw [← eT]; exact X.same.2.1
    have old : ∀ (x : Addr) (cx : Cell), h[x]? = some cx → ∃ d, s.heap[x]? = some d ∧ cx.cls = d.cls ∧ cx.vm = d.vm ∧ cx.slots.size = d.slots.size ∧ (x ≠ a → cx = d) := fun x cx q => by
      have lt : x < s.heap.size := Nat.lt_of_lt_of_le (Array.getElem?_eq_some_iff.mp q).1 z0
      obtain ⟨d', q1, q2, q3, q4⟩ := X.same.2.2.2.2.2 x _ (Array.getElem?_eq_getElem lt)
      have q1' : T.heap[x]? = some d' := q1
      rw [eT, q] at q1'
      cases Option.some.inj q1'
      refine ⟨_, Array.getElem?_eq_getElem lt, by rw [q2], by rw [q2], q3, fun ne => ?_⟩
      have e2 : cx.slots = s.heap[x].slots := Array.ext_getElem? fun i => q4 i fun hm => ne (hlo _ hm)
      rw [q2, e2]
    have new : ∀ (x : Addr) (d : Cell), s.heap[x]? = some d → ∃ d', T1.heap[x]? = some d' ∧ d'.cls = d.cls ∧ d'.vm = d.vm ∧ d'.slots.size = d.slots.size ∧ (x ≠ a → d' = d) := fun x d q => by
      obtain ⟨d', q1, q2, q3, q4⟩ := X1.same.2.2.2.2.2 x d q
      refine ⟨d', q1, by rw [q2], by rw [q2], q3, fun ne => ?_⟩
      have e2 : d'.slots = d.slots := Array.ext_getElem? fun i => q4 i fun hm => ne ((List.mem_append.mp hm).elim (hlo _) (hLf _))
      rw [q2, e2]
    refine ⟨Nat.le_trans z0 X1.same.2.1, fun x cx q ne => ?_, fun x cx q => ?_⟩
    · have ne' : x ≠ a := fun z => ne (by rw [z]; exact List.mem_singleton.mpr rfl)
      obtain ⟨d, o1, -, -, -, o5⟩ := old x cx q
      obtain ⟨d', p1, -, -, -, p5⟩ := new x d o1
      rw [p1, p5 ne', o5 ne']
    · obtain ⟨d, o1, o2, o3, o4, -⟩ := old x cx q
      obtain ⟨d', p1, p2, p3, p4, -⟩ := new x d o1
      exact ⟨d', p1, p2.trans o2.symm, p3.trans o3.symm, p4.trans o4.symm⟩
  have E' : Exa Z T1.heap a rc := ⟨C, _, hC, by rw [hCc]; exact c2, by rw [hCc]; exact c3, by rw [hCv]; exact c4, fun q => by rw [hCs]; exact c5 q⟩
  exact OG.of (fun t q => st.trans q) (kk T1 T1.heap _ (X1.more (by omega) (by omega)) rfl hLf hKp E' (fld_laid E' ⟨C, hC, by rw [hCv, hvm]; simp⟩ wi (Or.inl (wA _ (List.mem_of_getElem? (i := 25) rfl)))))
end OwnFill
def own_dr (l c0 c1 c2 : Int32) : List Int32 := if l = 0 then [] else if l = 1 then [c0.toInt8.toInt32] else if l = 2 then [c0.toInt8.toInt32, c1.toInt8.toInt32] else [c0.toInt8.toInt32, c1.toInt8.toInt32, c2.toInt8.toInt32]
theorem own_drl {l c0 c1 c2 : Int32} : (own_dr l c0 c1 c2).length ≤ 3 := by
  unfold own_dr
  split
  · simp
  split
  · simp
  split <;> simp
theorem own_shl0 (x : Int32) : x <<< ((0 : Int32) &&& 31) = x := by
 have h := c_ishl x 0 0 (by decide)
 have r := rng32 x
 have r2 := rng32 (x <<< ((0 : Int32) &&& 31))
 apply Int32.toInt_inj.mp
 omega
theorem own_chi (x : Int32) : 0 ≤ ((x &&& 255).toUInt32.toUInt16.toUInt32.toInt32).toInt ∧ ((x &&& 255).toUInt32.toUInt16.toUInt32.toInt32).toInt ≤ 255 := by
 have h1 := c_mask x 255 8 (by decide) (by decide)
 have h : 0 ≤ (x &&& 255).toInt ∧ (x &&& 255).toInt ≤ 255 := by omega
 have e : (x &&& 255).toUInt32.toUInt16.toUInt32.toInt32 = x &&& 255 := own_nc h
 rw [e]; exact h
theorem own_fch {z x : Int32} (h : z = (x &&& 255).toUInt32.toUInt16.toUInt32.toInt32) : 0 ≤ z.toInt ∧ z.toInt ≤ 255 := h ▸ own_chi x
theorem own_nch (x : Int32) : 0 ≤ (nar .char ((x &&& 255).toUInt32.toUInt16.toUInt32.toInt32)).toInt ∧ (nar .char ((x &&& 255).toUInt32.toUInt16.toUInt32.toInt32)).toInt ≤ 255 := by
 rw [own_nc (own_chi x)]; exact own_chi x
theorem own_m3 {z x : Int32} (h : z = x &&& 3) : z = 0 ∨ z = 1 ∨ z = 2 ∨ z = 3 := by
  have h1 := c_mask x 3 2 (by decide) (by decide)
  rw [← h] at h1
  have q : z.toInt = 0 ∨ z.toInt = 1 ∨ z.toInt = 2 ∨ z.toInt = 3 := by omega
  rcases q with q | q | q | q
  · exact Or.inl (Int32.toInt_inj.mp q)
  · exact Or.inr (Or.inl (Int32.toInt_inj.mp q))
  · exact Or.inr (Or.inr (Or.inl (Int32.toInt_inj.mp q)))
  · exact Or.inr (Or.inr (Or.inr (Int32.toInt_inj.mp q)))
theorem own_t0 : (0 : Int32).toInt = 0 := by decide
theorem own_on {n : Nat} (h : n ≤ 100) : (Int32.ofNat n).toInt = n := Int32.toInt_ofNat_of_lt (by omega)
theorem own_onc {n : Nat} (h : n ≤ 100) : (Int32.ofNat n).toNatClampNeg = n := by
 unfold Int32.toNatClampNeg; rw [own_on h]; omega
theorem own_ofn {us : List Int32} (h : us.length ≤ 3) : (Int32.ofNat us.length).toNatClampNeg = us.length := own_onc (by omega)
theorem own_zneg {ms : List Int32} (h : ms.length ≤ 100) : ¬ Int32.ofNat ms.length < 0 := by
 rw [Int32.lt_iff_toInt_lt, own_on h, own_t0]; omega
theorem own_zcap {ms : List Int32} {z : Nat} (h : ms.length ≤ 100) (h2 : ms.length ≤ z) : (Int32.ofNat ms.length).toNatClampNeg ≤ z := by rw [own_onc h]; exact h2
theorem own_zlt {z : Nat} (ms : List Int32) (h : ms.length < z) (hz : z ≤ 100) : Int32.ofNat ms.length < Int32.ofNat z := by
 rw [Int32.lt_iff_toInt_lt, own_on (by omega), own_on hz]; omega
theorem own_zne {z : Nat} (ms : List Int32) (h : ms.length < z) (hz : z ≤ 100) : ¬ Int32.ofNat ms.length = Int32.ofNat z := fun q => by
 have e : (Int32.ofNat ms.length).toInt = (Int32.ofNat z).toInt := by rw [q]
 rw [own_on (by omega), own_on hz] at e; omega
theorem own_zeq (ms : List Int32) (h : ms.length = 16) : Int32.ofNat ms.length = (16 : Int32) := by rw [h]; rfl
theorem own_sub0 (x : Int32) : x - 0 = x := by simp
def own_pad (ms : List Int32) (z : Nat) : List Value := ms.map Value.int ++ List.replicate (z - ms.length) (.int 0)
theorem own_padF (ms : List Int32) (h : ms.length = 16) : own_pad ms 16 = ms.map Value.int := by simp [own_pad, h]
theorem own_padl (ms : List Int32) {z : Nat} (h : ms.length ≤ z) : (own_pad ms z).length = z := by simp [own_pad]; omega
theorem own_ec {ms ws : List Int32} (hl : ms.length + ws.length ≤ 16) : ¬ 0 < (Int32.ofNat ms.length + Int32.ofNat ws.length) - 16 := by
 have a := c_iadd (Int32.ofNat ms.length) (Int32.ofNat ws.length)
 have b := c_isub (Int32.ofNat ms.length + Int32.ofNat ws.length) 16
 have r1 := rng32 (Int32.ofNat ms.length + Int32.ofNat ws.length)
 have r2 := rng32 ((Int32.ofNat ms.length + Int32.ofNat ws.length) - 16)
 have e : (16 : Int32).toInt = 16 := by decide
 rw [own_on (by omega), own_on (by omega)] at a
 rw [e] at b
 rw [Int32.lt_iff_toInt_lt, own_t0]; omega
theorem own_cnt (ms ws : List Int32) : Int32.ofNat ms.length + Int32.ofNat ws.length = Int32.ofNat (ms ++ ws).length := by
 rw [List.length_append]; exact (Int32.ofNat_add _ _).symm
theorem own_rng0 (ws : List Int32) (vs : List Value) (n : Nat) (hn : ws.length = n) (h : ∀ i, i < n → vs[i]? = (ws[i]?).map Value.int) : ws.map Value.int = (List.range n).map fun i => vs.getD i (.int 0) := by
  apply List.ext_getElem?
  intro i
  by_cases hi : i < n
  · simp only [List.getElem?_map, List.getElem?_range hi, Option.map_some, List.getD_eq_getElem?_getD, h i hi]
    rw [List.getElem?_eq_getElem (by omega)]; rfl
  · rw [List.getElem?_eq_none (by simp; omega), List.getElem?_eq_none (by simp; omega)]
theorem own_psa (ms ws : List Int32) (hl : ms.length + ws.length ≤ 16) : (¬ Int32.ofNat ms.length < 0) ∧ (¬ Int32.ofNat ws.length < 0) ∧ ((0 : Int32).toNatClampNeg + (Int32.ofNat ws.length).toNatClampNeg ≤ (Int32.ofNat ws.length).toNatClampNeg) ∧ ((Int32.ofNat ms.length).toNatClampNeg + (Int32.ofNat ws.length).toNatClampNeg ≤ (16 : Int32).toNatClampNeg) ∧ (ws.map Value.int = (List.range (Int32.ofNat ws.length).toNatClampNeg).map fun i => (ws.map Value.int).getD ((0 : Int32).toNatClampNeg + i) (.int 0)) ∧ ((Int32.ofNat ms.length).toNatClampNeg + (Int32.ofNat ws.length).toNatClampNeg ≤ (own_pad ms 16).length) ∧ ((own_pad ms 16).take (Int32.ofNat ms.length).toNatClampNeg ++ ws.map Value.int ++ (own_pad ms 16).drop ((Int32.ofNat ms.length).toNatClampNeg + (Int32.ofNat ws.length).toNatClampNeg) = own_pad (ms ++ ws) 16) := by
  have e0 : (0 : Int32).toNatClampNeg = 0 := by decide
  have e16 : (16 : Int32).toNatClampNeg = 16 := by decide
  rw [own_onc (n := ms.length) (by omega), own_onc (n := ws.length) (by omega), e0, e16, own_padl ms (by omega)]
  refine ⟨own_zneg (by omega), own_zneg (by omega), by omega, hl, ?_, hl, ?_⟩
  · have q := own_rng0 ws (ws.map Value.int) ws.length rfl (fun i _ => by simp)
    simpa using q
  · unfold own_pad
    rw [List.take_append_of_le_length (by simp), List.take_of_length_le (by simp)]
    rw [List.drop_append, List.drop_eq_nil_of_le (by simp <;> omega)]
    simp only [List.map_append, List.length_append, List.length_map, List.nil_append, List.drop_replicate, List.append_assoc]
    congr 3
    omega
theorem own_cpy {z : Nat} (ms : List Int32) (hm : ms.length < z) (hz : z ≤ 100) : (¬ Int32.ofNat ms.length < 0) ∧ ((0 : Int32).toNatClampNeg + (Int32.ofNat ms.length).toNatClampNeg ≤ (Int32.ofNat z).toNatClampNeg) ∧ ((0 : Int32).toNatClampNeg + (Int32.ofNat ms.length).toNatClampNeg ≤ (Int32.ofNat ms.length).toNatClampNeg) ∧ (ms.map Value.int = (List.range (Int32.ofNat ms.length).toNatClampNeg).map fun i => (own_pad ms z).getD ((0 : Int32).toNatClampNeg + i) (.int 0)) ∧ ((0 : Int32).toNatClampNeg + (Int32.ofNat ms.length).toNatClampNeg ≤ (([] : List Value) ++ List.replicate ms.length (Value.int 0)).length) ∧ ((([] : List Value) ++ List.replicate ms.length (Value.int 0)).take (0 : Int32).toNatClampNeg ++ ms.map Value.int ++ (([] : List Value) ++ List.replicate ms.length (Value.int 0)).drop ((0 : Int32).toNatClampNeg + (Int32.ofNat ms.length).toNatClampNeg) = ms.map Value.int) := by
  have e0 : (0 : Int32).toNatClampNeg = 0 := by decide
  rw [own_onc (n := ms.length) (by omega), own_onc (n := z) hz, e0]
  refine ⟨own_zneg (by omega), by omega, by omega, ?_, by simp, ?_⟩
  · have q := own_rng0 ms (own_pad ms z) ms.length rfl (fun i hi => by unfold own_pad; rw [List.getElem?_append_left (by simpa using hi)]; simp)
    simpa using q
  · simp
def own_lab (us : List Int32) : List Int32 := if us = [45] then ([115, 116, 97, 110, 100, 97, 114, 100, 32, 105, 110, 112, 117, 116] : List Int32) else us
theorem own_labY {us : List Int32} (h : us = [45]) : own_lab us = ([115, 116, 97, 110, 100, 97, 114, 100, 32, 105, 110, 112, 117, 116] : List Int32) := if_pos h
theorem own_labN {us : List Int32} (h : ¬ us = [45]) : own_lab us = us := if_neg h
theorem own_labl {us : List Int32} (hu : us.length ≤ 3) : (own_lab us = ([115, 116, 97, 110, 100, 97, 114, 100, 32, 105, 110, 112, 117, 116] : List Int32) ∧ (own_lab us).length = 14) ∨ (own_lab us).length ≤ 3 := by
  by_cases h : us = [45]
  · rw [own_labY h]; exact Or.inl ⟨rfl, rfl⟩
  · rw [own_labN h]; exact Or.inr hu
theorem own_h1 {us : List Int32} (hu : us.length ≤ 3) : ([] : List Int32).length + (own_lab us).length ≤ 16 := by
 have e : ([] : List Int32).length = 0 := rfl
 rcases own_labl hu with h | h <;> omega
theorem own_h2 {us : List Int32} (hu : us.length ≤ 3) : (own_lab us).length + ([58, 32] : List Int32).length ≤ 16 := by
 have e : ([58, 32] : List Int32).length = 2 := rfl
 rcases own_labl hu with h | h <;> omega
theorem own_gr {us ws : List Int32} (hu : us.length ≤ 3) (hw : ws.length ≤ 3) (hG : ¬ (own_lab us ++ [58, 32]).length + ws.length ≤ 16) : own_lab us ++ [58, 32] = ([115, 116, 97, 110, 100, 97, 114, 100, 32, 105, 110, 112, 117, 116] : List Int32) ++ [58, 32] ∧ (ws.length = 1 ∨ ws.length = 2 ∨ ws.length = 3) := by
  have e : (own_lab us ++ [58, 32]).length = (own_lab us).length + 2 := by simp
  rw [e] at hG
  rcases own_labl hu with h | h
  · exact ⟨by rw [h.1], by omega⟩
  · omega
theorem own_lt16 {us ws : List Int32} (hG : (own_lab us ++ [58, 32]).length + ws.length ≤ 16) (hE : ¬ (own_lab us ++ [58, 32] ++ ws).length = 16) : (own_lab us ++ [58, 32] ++ ws).length < 16 := by
 rw [List.length_append] at hE ⊢; omega
theorem own_lt34 {ws : List Int32} (hw : ws.length ≤ 3) : ((([115, 116, 97, 110, 100, 97, 114, 100, 32, 105, 110, 112, 117, 116] : List Int32) ++ [58, 32]) ++ ws : List Int32).length < 34 := by
 rw [List.length_append]
 have e : (([115, 116, 97, 110, 100, 97, 114, 100, 32, 105, 110, 112, 117, 116] : List Int32) ++ [58, 32] : List Int32).length = 16 := rfl
 omega
def own_pk (ls fs : List Int32) (ll ii : Int32) : Int32 := if ii < ll then ls.getD ii.toNatClampNeg 0 else if ii = ll then (58 : Int32) else if ii = ll + (1 : Int32) then (32 : Int32) else fs.getD ((ii - ll) - (2 : Int32)).toNatClampNeg 0
theorem own_gd (ls : List Int32) (z : Int32) : (ls.map Value.int).getD z.toNatClampNeg (.int 0) = .int (ls.getD z.toNatClampNeg 0) := by
 simp only [List.getD_eq_getElem?_getD, List.getElem?_map]; cases ls[z.toNatClampNeg]? <;> rfl
theorem own_i0 {ii : Int32} (hi : 0 ≤ ii.toInt) : ¬ ii < 0 := by rw [Int32.lt_iff_toInt_lt, own_t0]; omega
theorem own_ka {ls : List Int32} {ii ll : Int32} (hi : 0 ≤ ii.toInt) (hll : 0 ≤ ll.toInt ∧ ll.toInt ≤ ls.length ∧ ls.length ≤ 14) (h : ii < ll) : ¬ ii < 0 ∧ ii < Int32.ofNat ls.length := by
 rw [Int32.lt_iff_toInt_lt] at h
 refine ⟨own_i0 hi, ?_⟩
 rw [Int32.lt_iff_toInt_lt, own_on (by omega)]; omega
theorem own_sb2 {ii ll : Int32} (hi : 0 ≤ ii.toInt) (hi2 : ii.toInt ≤ 100) (hl : 0 ≤ ll.toInt ∧ ll.toInt ≤ 14) : ((ii - ll) - (2 : Int32)).toInt = ii.toInt - ll.toInt - 2 := by
 have a := c_isub ii ll
 have b := c_isub (ii - ll) 2
 have r1 := rng32 (ii - ll)
 have r2 := rng32 ((ii - ll) - 2)
 have e : (2 : Int32).toInt = 2 := by decide
 rw [e] at b; omega
theorem own_pl1 {ll : Int32} (hl : 0 ≤ ll.toInt ∧ ll.toInt ≤ 14) : (ll + (1 : Int32)).toInt = ll.toInt + 1 := by
 have a := c_iadd ll 1
 have r := rng32 (ll + 1)
 have e : (1 : Int32).toInt = 1 := by decide
 rw [e] at a; omega
theorem own_kb {ls fs : List Int32} {ii ll : Int32} (hi : 0 ≤ ii.toInt) (hll : 0 ≤ ll.toInt ∧ ll.toInt ≤ ls.length ∧ ls.length ≤ 14) (hfs : fs.length ≤ 3) (hil : ii.toInt < ll.toInt + 2 + fs.length) (h1 : ¬ ii < ll) (h2 : ¬ ii = ll) (h3 : ¬ ii = ll + (1 : Int32)) : ¬ ((ii - ll) - (2 : Int32)) < 0 ∧ ((ii - ll) - (2 : Int32)) < Int32.ofNat fs.length := by
 have e := own_sb2 hi (by omega) ⟨hll.1, by omega⟩
 have e1 := own_pl1 (ll := ll) ⟨hll.1, by omega⟩
 rw [Int32.lt_iff_toInt_lt] at h1
 have n2 : ii.toInt ≠ ll.toInt := fun q => h2 (Int32.toInt_inj.mp q)
 have n3 : ii.toInt ≠ ll.toInt + 1 := fun q => h3 (Int32.toInt_inj.mp (q.trans e1.symm))
 rw [Int32.lt_iff_toInt_lt, Int32.lt_iff_toInt_lt, own_t0, e, own_on (by omega)]
 omega
def own_spec (ms ls fs : List Int32) (ll : Int32) : Prop := (0 ≤ ll.toInt ∧ ll.toInt ≤ ls.length ∧ ls.length ≤ 14) ∧ fs.length ≤ 3 ∧ ∀ ii : Int32, 0 ≤ ii.toInt → ii.toInt < ms.length → ii.toInt < ll.toInt + 2 + fs.length ∧ (0 ≤ (own_pk ls fs ll ii).toInt ∧ (own_pk ls fs ll ii).toInt ≤ 255) ∧ (ms.map Value.int).getD ii.toNatClampNeg (.int 0) = .int (own_pk ls fs ll ii).toInt8.toInt32
theorem own_sp {ms ls fs : List Int32} {ll ii cc : Int32} (hs : own_spec ms ls fs ll) (hi : 0 ≤ ii.toInt) (hm : ms.length ≤ 19) (h : ii < Int32.ofNat ms.length) (hr : own_pk ls fs ll ii = cc) : (0 ≤ cc.toInt ∧ cc.toInt ≤ 255) ∧ (ms.map Value.int).getD ii.toNatClampNeg (.int 0) = .int cc.toInt8.toInt32 ∧ ii.toInt < ll.toInt + 2 + fs.length := by
 rw [Int32.lt_iff_toInt_lt, own_on (by omega)] at h
 obtain ⟨a, b, c⟩ := hs.2.2 ii hi h
 subst hr; exact ⟨b, c, a⟩
def own_lsp (us ls : List Int32) (ll : Int32) : Prop := (0 ≤ ll.toInt ∧ ll.toInt ≤ ls.length ∧ ls.length ≤ 14) ∧ (∀ c ∈ ls, 0 ≤ c.toInt ∧ c.toInt ≤ 255) ∧ own_lab us = (ls.take ll.toInt.toNat).map fun c => c.toInt8.toInt32
theorem own_lY {c0 c1 c2 : Int32} (h : c0 = 45) : own_lsp (own_dr 1 c0 c1 c2) ([115, 116, 97, 110, 100, 97, 114, 100, 32, 105, 110, 112, 117, 116] : List Int32) 14 := by
 subst h
 refine ⟨by decide, by decide, ?_⟩
 have e : own_dr 1 45 c1 c2 = [45] := by
  unfold own_dr; rw [if_neg (by decide), if_pos rfl]; rfl
 rw [own_labY e]; decide
theorem own_bv {c : Int32} (h : 0 ≤ c.toInt ∧ c.toInt ≤ 255) (v : Int32) (hv : 0 ≤ v.toInt ∧ v.toInt ≤ 255) : c.toInt8.toInt32 = v.toInt8.toInt32 ↔ c = v := by
  constructor
  · intro q
    have e := own_ch h
    rw [q, own_ch hv] at e
    exact e.symm
  · intro q; rw [q]
theorem own_lN {nn c0 c1 c2 : Int32} (hn : nn = 0 ∨ nn = 1 ∨ nn = 2 ∨ nn = 3) (h0 : 0 ≤ c0.toInt ∧ c0.toInt ≤ 255) (h1 : 0 ≤ c1.toInt ∧ c1.toInt ≤ 255) (h2 : 0 ≤ c2.toInt ∧ c2.toInt ≤ 255) (h : ¬ (nn = 1 ∧ c0 = 45)) : own_lsp (own_dr nn c0 c1 c2) [c0, c1, c2] nn := by
  have hb : ∀ c ∈ [c0, c1, c2], 0 ≤ c.toInt ∧ c.toInt ≤ 255 := by
    simp only [List.mem_cons, List.not_mem_nil, or_false]; rintro c (rfl | rfl | rfl) <;> assumption
  have h3 : ∀ z : Int32, 0 ≤ z.toInt → z.toInt ≤ 3 → 0 ≤ z.toInt ∧ z.toInt ≤ ([c0, c1, c2] : List Int32).length ∧ ([c0, c1, c2] : List Int32).length ≤ 14 := fun z q1 q2 => ⟨q1, q2, by show 3 ≤ 14; decide⟩
  rcases hn with rfl | rfl | rfl | rfl
  · refine ⟨h3 _ (by decide) (by decide), hb, ?_⟩
    rw [own_labN (by show ¬ ([] : List Int32) = [45]; simp)]; rfl
  · refine ⟨h3 _ (by decide) (by decide), hb, ?_⟩
    have n : ¬ c0.toInt8.toInt32 = 45 := fun q => h ⟨rfl, (own_bv h0 45 (by decide)).mp q⟩
    rw [own_labN (by show ¬ [c0.toInt8.toInt32] = [45]; simpa using n)]; rfl
  · refine ⟨h3 _ (by decide) (by decide), hb, ?_⟩
    rw [own_labN (by show ¬ [c0.toInt8.toInt32, c1.toInt8.toInt32] = [45]; simp)]; rfl
  · refine ⟨h3 _ (by decide) (by decide), hb, ?_⟩
    rw [own_labN (by show ¬ [c0.toInt8.toInt32, c1.toInt8.toInt32, c2.toInt8.toInt32] = [45]; simp)]; rfl
theorem own_drt {kk f0 f1 f2 : Int32} (hk : kk = 0 ∨ kk = 1 ∨ kk = 2 ∨ kk = 3) : own_dr kk f0 f1 f2 = ([f0, f1, f2].take kk.toInt.toNat).map (fun c => c.toInt8.toInt32) ∧ 0 ≤ kk.toInt ∧ kk.toInt ≤ 3 := by
  rcases hk with rfl | rfl | rfl | rfl
  · exact ⟨rfl, by decide, by decide⟩
  · exact ⟨rfl, by decide, by decide⟩
  · exact ⟨rfl, by decide, by decide⟩
  · exact ⟨rfl, by decide, by decide⟩
theorem own_main {us : List Int32} {tt ll kk f0 f1 f2 : Int32} {ls : List Int32} (ht : tt = (ll + (2 : Int32)) + kk) (hL : own_lsp us ls ll) (hk : kk = 0 ∨ kk = 1 ∨ kk = 2 ∨ kk = 3) (h0 : 0 ≤ f0.toInt ∧ f0.toInt ≤ 255) (h1 : 0 ≤ f1.toInt ∧ f1.toInt ≤ 255) (h2 : 0 ≤ f2.toInt ∧ f2.toInt ≤ 255) :
    tt = Int32.ofNat (own_lab us ++ [58, 32] ++ own_dr kk f0 f1 f2).length ∧ (own_lab us ++ [58, 32] ++ own_dr kk f0 f1 f2).length ≤ 19 ∧ own_spec (own_lab us ++ [58, 32] ++ own_dr kk f0 f1 f2) ls [f0, f1, f2] ll := by
  obtain ⟨hl, hc, hu⟩ := hL
  obtain ⟨hd, k0, k3⟩ := own_drt (f0 := f0) (f1 := f1) (f2 := f2) hk
  have hb : ∀ c ∈ [f0, f1, f2], 0 ≤ c.toInt ∧ c.toInt ≤ 255 := by
    simp only [List.mem_cons, List.not_mem_nil, or_false]; rintro c (rfl | rfl | rfl) <;> assumption
  have hlen : (own_lab us ++ [58, 32] ++ own_dr kk f0 f1 f2).length = ll.toInt.toNat + 2 + kk.toInt.toNat := by
    rw [hu, hd]; simp only [List.length_append, List.length_map, List.length_take, List.length_cons, List.length_nil]; omega
  have hlt : (own_lab us).length = ll.toInt.toNat := by rw [hu, List.length_map, List.length_take]; omega
  refine ⟨?_, by rw [hlen]; omega, hl, by simp, ?_⟩
  · apply Int32.toInt_inj.mp
    rw [hlen, own_on (by omega), ht]
    have a := c_iadd ll 2
    have b := c_iadd (ll + 2) kk
    have r1 := rng32 (ll + 2)
    have r2 := rng32 ((ll + 2) + kk)
    have e : (2 : Int32).toInt = 2 := by decide
    rw [e] at a; omega
  · intro ii hi hm
    rw [hlen] at hm
    have hm' : ii.toInt < ll.toInt + 2 + kk.toInt := by omega
    have hnc : ii.toNatClampNeg = ii.toInt.toNat := rfl
    have e1 := own_pl1 (ll := ll) ⟨hl.1, by omega⟩
    have es := own_sb2 (ii := ii) (ll := ll) hi (by omega) ⟨hl.1, by omega⟩
    refine ⟨by simp; omega, ?_⟩
    have key : ∀ (x : Int32), own_pk ls [f0, f1, f2] ll ii = x → (0 ≤ x.toInt ∧ x.toInt ≤ 255) → (own_lab us ++ [58, 32] ++ own_dr kk f0 f1 f2)[ii.toInt.toNat]? = some x.toInt8.toInt32 → (0 ≤ (own_pk ls [f0, f1, f2] ll ii).toInt ∧ (own_pk ls [f0, f1, f2] ll ii).toInt ≤ 255) ∧ ((own_lab us ++ [58, 32] ++ own_dr kk f0 f1 f2).map Value.int).getD ii.toNatClampNeg (.int 0) = .int (own_pk ls [f0, f1, f2] ll ii).toInt8.toInt32 := fun x hx hb' hg => by
      rw [hx, hnc]; refine ⟨hb', ?_⟩
      rw [List.getD_eq_getElem?_getD, List.getElem?_map, hg]; rfl
    by_cases c1 : ii < ll
    · have c1' := Int32.lt_iff_toInt_lt.mp c1
      have hlt2 : ii.toInt.toNat < ls.length := by omega
      refine key (ls[ii.toInt.toNat]) (by unfold own_pk; rw [if_pos c1, hnc, List.getD_eq_getElem?_getD, List.getElem?_eq_getElem hlt2]; rfl) (hc _ (List.getElem_mem hlt2)) ?_
      rw [List.append_assoc, List.getElem?_append_left (by omega), hu, List.getElem?_map, List.getElem?_take_of_lt (by omega), List.getElem?_eq_getElem hlt2]; rfl
    · have c1' : ¬ ii.toInt < ll.toInt := fun q => c1 (Int32.lt_iff_toInt_lt.mpr q)
      by_cases c2 : ii = ll
      · refine key 58 (by unfold own_pk; rw [if_neg c1, if_pos c2]) (by decide) ?_
        subst c2
        rw [List.append_assoc, List.getElem?_append_right (by omega), hlt, Nat.sub_self]; rfl
      · have c2' : ii.toInt ≠ ll.toInt := fun q => c2 (Int32.toInt_inj.mp q)
        by_cases c3 : ii = ll + (1 : Int32)
        · refine key 32 (by unfold own_pk; rw [if_neg c1, if_neg c2, if_pos c3]) (by decide) ?_
          have c3' : ii.toInt = ll.toInt + 1 := by rw [c3]; exact e1
          rw [List.append_assoc, List.getElem?_append_right (by omega), hlt, show ii.toInt.toNat - ll.toInt.toNat = 1 by omega]; rfl
        · have c3' : ii.toInt ≠ ll.toInt + 1 := fun q => c3 (Int32.toInt_inj.mp (q.trans e1.symm))
          have hn2 : ((ii - ll) - (2 : Int32)).toNatClampNeg = ii.toInt.toNat - ll.toInt.toNat - 2 := by show ((ii - ll) - (2 : Int32)).toInt.toNat = _; rw [es]; omega
          have hlt3 : ii.toInt.toNat - ll.toInt.toNat - 2 < [f0, f1, f2].length := by show _ < 3; omega
          refine key ([f0, f1, f2][ii.toInt.toNat - ll.toInt.toNat - 2]) (by unfold own_pk; rw [if_neg c1, if_neg c2, if_neg c3, hn2, List.getD_eq_getElem?_getD, List.getElem?_eq_getElem hlt3]; rfl) (hb _ (List.getElem_mem hlt3)) ?_
          rw [List.getElem?_append_right (by rw [List.length_append, hlt]; show _ + 2 ≤ _; omega), List.length_append, hlt, show ii.toInt.toNat - (ll.toInt.toNat + ([58, 32] : List Int32).length) = ii.toInt.toNat - ll.toInt.toNat - 2 by show _ - (_ + 2) = _; omega, hd, List.getElem?_map, List.getElem?_take_of_lt (by omega), List.getElem?_eq_getElem hlt3]; rfl
theorem own_thW {a0 : Array Value} {Z : State} (hw : HW a0 Z) : ∀ d ∈ own_thA "com/example/stablebid/stablebid/cli/InputException", d.before a0 Z = true := fun d hd => hw d ((by decide +kernel : ∀ d ∈ own_thA "com/example/stablebid/stablebid/cli/InputException", d ∈ tables_1) d hd)
theorem own_held {tb : Tables} {e : Env} {args : Array Value} {s : State} (h : call_1_3 tb e args s) : ∀ p ∈ own_EL, Jvm.Lit.constHeld s p.1 p.2 := fun p hp => h p ((by decide : ∀ p ∈ own_EL, p ∈ consts_1) p hp)
theorem rm_nc (l : Launch) (Z : State) (a0 : Array Value) (hw : HW a0 Z) (kk : Int32) (h0 : Heap) (n0 : Nat) (O : Old Z n0 h0) :
  Con l Z (⟨"com/example/stablebid/stablebid/cli/InputFileRefusalPinLaw", "nameChar", "(I)C"⟩ : MethodName) method_3_code 1 (some .char) ({ frames := 0, cells := 0, slots := 0, locals := 0 } : Room) #[(.int kk)] h0 (fun v h L => ∃ z : Int32, v = some (.int z) ∧ Fr n0 L ∧ h = h0 ∧ 0 ≤ z.toInt ∧ z.toInt ≤ 255) := by
 refine own_startC opn_1 ?_
 intro p e s m below meth c T0 X0 hx hby hml hZ hown hnm hret hlk e0
 have N := Fr.nil n0
 refine OG.cast (oef0 m kk) ?_
 refine og_iloadN X0 hx rfl (hb hby d1_0) rfl ?_
 refine og_iconst (v := 1) X0 hx rfl (hb hby d1_1) rfl ?_
 refine og_iand X0 hx (hb hby d1_2) rfl ?_
 refine og_if_eq (pc1 := 11) (pc2 := 6) X0 hx (hb hby d1_3) (by decide) (by decide) rfl (fun hc3 => ?_) (fun hc3 => ?_)
 ·
  refine og_iloadN X0 hx rfl (hb hby d1_11) rfl ?_
  refine og_iconst (v := 1) X0 hx rfl (hb hby d1_12) rfl ?_
  refine og_iushr X0 hx (hb hby d1_13) rfl ?_
  refine og_sipush (v := 255) X0 hx rfl (hb hby d1_14) rfl ?_
  refine og_iand X0 hx (hb hby d1_17) rfl ?_
  refine og_i2c X0 hx (hb hby d1_18) rfl ?_
  refine og_retN X0 hx hlk hret (by simp) (hb hby d1_19) (by decide) (by decide) ?_
  rw [e0]; exact ⟨_, rfl, N, rfl, own_nch _⟩
 ·
  refine og_bipush (v := 45) X0 hx rfl (hb hby d1_6) rfl ?_
  refine og_goto (pc' := 19) X0 hx (hb hby d1_8) (by decide) (by decide) ?_
  refine og_retN X0 hx hlk hret (by simp) (hb hby d1_19) (by decide) (by decide) ?_
  rw [e0]; exact ⟨(45 : Int32), rfl, N, rfl, by decide, by decide⟩
theorem rm_sv_0 (l : Launch) (Z : State) (a0 : Array Value) (hw : HW a0 Z) (a1 ca : Addr) (h0 : Heap) (n0 : Nat) (O : Old Z n0 h0) (hEL : EW Z a0 own_EL) (E_a1 : Exa Z h0 a1 "java/lang/String") (F_value_a1 : Fld Z h0 a1 "java/lang/String" "value" "[B" .null) (F_coder_a1 : Fld Z h0 a1 "java/lang/String" "coder" "B" (.int 0)) (g_a1 : n0 ≤ a1) :
  ConW l Z own_EL [a1] (⟨"java/lang/String", "<init>", "([CIILjava/lang/Void;)V"⟩ : MethodName) jdk_42_method_149_code 6 none ({ frames := 1, cells := 4, slots := 8, locals := 12 } : Room) #[(.ref a1), (.ref ca), (.int 0), (.int 0), .null] h0 (fun v h L => ∃ b k, v = none ∧ Fr n0 L ∧ Keep h0 h [a1] ∧ Exa Z h a1 "java/lang/String" ∧ Fld Z h a1 "java/lang/String" "value" "[B" (.ref b) ∧ Fld Z h a1 "java/lang/String" "coder" "B" (.int 0) ∧ Arv Z h b k .byte (0 : Int32) [] (.int 0)) := by
 refine own_startWC opn_4 ?_
 intro p e s m below meth c T0 X0 hx hby hml hZ hown hnm hret hlk e0 es hS CR hsf
 have N := Fr.nil n0; have K := Keep.refl h0 [a1]; have hk := Nat.le_refl h0.size; have Q_a1 := hsf _ (List.mem_of_getElem? (i := 0) rfl)
 refine OG.cast (oef1 m a1 ca (0 : Int32) (0 : Int32)) ?_
 refine og_aloadN X0 hx rfl rfl (hb hby d4_0) rfl ?_
 refine og_initO (pc' := 4) X0 hx hZ (W := 0) (by rw [hml]; rfl) hown (ow18 hw) (ow19 hw) (ow20 hw) e0 rfl (by decide) (by decide) (hb hby d4_1) rfl (fun T11 X11 e11 => ?_)
 refine og_iloadN X11 hx rfl (hb hby d4_4) rfl ?_
 refine og_if_ne (pc1 := 27) (pc2 := 8) X11 hx (hb hby d4_5) (by decide) (by decide) rfl (fun q => absurd q (by decide)) (fun _ => ?_)
 refine og_aloadN X11 hx rfl rfl (hb hby d4_8) rfl ?_
 refine og_ldcS (pc' := 11) (cells' := 2) (slots' := 4) (n := 0) (z := (0 : Int32)) (vs := []) X11 hx hZ hown (hw _ (List.mem_of_getElem? (i := 21) rfl)) (own_wS hw) e11 hS hk hEL (by decide) CR.1 ⟨by decide, by decide⟩ (by decide) (by decide) (by decide) (by decide) (hb hby d4_9) rfl rfl rfl (by decide) (by decide) (fun na12 T12 h12 kk12 nb12 k12 X12 e12 E12 hS hk hZ hown E_na12 F_coder_na12 F_value_na12 V_nb12 cr12 hne12 => ?_)
 have Q_a1 := cr12.safe E_a1.lt Q_a1; have E_a1 := E_a1.ext E12; have F_value_a1 := F_value_a1.ext E12; have F_coder_a1 := F_coder_a1.ext E12; have K := K.ext E12
 have CR := CR.trans cr12
 have ne_a1_nb12 := (hne12 _ Q_a1).2
 refine og_getfield X12 hx hZ (host := "") hown (Or.inl (ow27 hw)) Via.refl e12 F_value_na12 (hb hby d4_11) rfl (fun T13 X13 e13 => ?_)
 refine og_putfield X13 hx hZ (ty := (.array .byte)) (host := "") hown (Or.inl (ow27 hw)) Via.refl e13 F_value_a1 E_a1 (Or.inr ⟨(ow23 hw), rfl, hnm⟩) (ow8 hw) (by decide) rfl rfl (hb hby d4_14) rfl (fun T14 h14 X14 e14 W14 => ?_)
 have F_value_a1_ := F_value_a1.same W14
 have sf14 : Safe Z own_EL T12.vm h12 a1 := Q_a1; have Q_a1 := Safe.wr W14 sf14 CR.1 Q_a1; have E_a1 := E_a1.wr W14; have F_coder_a1 := F_coder_a1.other W14 (Or.inr (slot_ne (Or.inr (ow24 hw)) (Or.inr (ow23 hw)) (by decide) (t := .byte) (t' := (.array .byte)) (by decide) (by decide)))
 have V_nb12 := V_nb12.other W14 (Ne.symm ne_a1_nb12); have K := K.wr W14 (Or.inl (List.mem_of_getElem? (i := 0) rfl)); have hk := Nat.le_trans hk (Keep.of_wr W14).1; have CR := CR.trans (CHr.wr W14 sf14 CR.1)
 have N := Fr.snoc X14 N g_a1; have F_value_a1 := F_value_a1_
 refine og_aloadN X14 hx rfl rfl (hb hby d4_17) rfl ?_
 refine og_ldcS (pc' := 20) (cells' := 4) (slots' := 8) (n := 0) (z := (0 : Int32)) (vs := []) X14 hx hZ hown (hw _ (List.mem_of_getElem? (i := 21) rfl)) (own_wS hw) e14 hS hk hEL (by decide) CR.1 ⟨by decide, by decide⟩ (by decide) (by decide) (by decide) (by decide) (hb hby d4_18) rfl rfl rfl (by decide) (by decide) (fun na15 T15 h15 kk15 nb15 k15 X15 e15 E15 hS hk hZ hown E_na15 F_coder_na15 F_value_na15 V_nb15 cr15 hne15 => ?_)
 have Q_a1 := cr15.safe E_a1.lt Q_a1; have E_a1 := E_a1.ext E15; have F_coder_a1 := F_coder_a1.ext E15
 have V_nb12 := V_nb12.ext E15; have F_value_a1 := F_value_a1.ext E15; have K := K.ext E15; have CR := CR.trans cr15
 refine og_getfield X15 hx hZ (host := "") hown (Or.inl (ow28 hw)) Via.refl e15 F_coder_na15 (hb hby d4_20) rfl (fun T16 X16 e16 => ?_)
 refine og_putfield X16 hx hZ (ty := .byte) (host := "") hown (Or.inl (ow28 hw)) Via.refl e16 F_coder_a1 E_a1 (Or.inr ⟨(ow24 hw), rfl, hnm⟩) (ow8 hw) (by decide) rfl rfl (hb hby d4_23) rfl (fun T17 h17 X17 e17 W17 => ?_)
 have F_coder_a1_ := F_coder_a1.same W17
 have sf17 : Safe Z own_EL T15.vm h15 a1 := Q_a1; have E_a1 := E_a1.wr W17
 have V_nb12 := V_nb12.other W17 (Ne.symm ne_a1_nb12); have F_value_a1 := F_value_a1.other W17 (Or.inr (slot_ne (Or.inr (ow23 hw)) (Or.inr (ow24 hw)) (by decide) (t := (.array .byte)) (t' := .byte) (by decide) (by decide)))
 have K := K.wr W17 (Or.inl (List.mem_of_getElem? (i := 0) rfl)); have hk := Nat.le_trans hk (Keep.of_wr W17).1; have CR := CR.trans (CHr.wr W17 sf17 CR.1)
 have N := Fr.snoc X17 N g_a1; have F_coder_a1 := F_coder_a1_
 refine og_retVW X17 hx hZ hlk hEL hS e17 es hk CR hret (hb hby d4_26) (by decide) (by decide) ?_
 rw [e17]; exact ⟨_, _, rfl, N, K, E_a1, F_value_a1, F_coder_a1, V_nb12⟩
theorem rm_sn_0 (l : Launch) (Z : State) (a0 : Array Value) (hw : HW a0 Z) (a1 ca : Addr) (kc : ClassId) (h0 : Heap) (n0 : Nat) (O : Old Z n0 h0) (hEL : EW Z a0 own_EL) (E_a1 : Exa Z h0 a1 "java/lang/String") (F_value_a1 : Fld Z h0 a1 "java/lang/String" "value" "[B" .null) (F_coder_a1 : Fld Z h0 a1 "java/lang/String" "coder" "B" (.int 0)) (V_ca : Arv Z h0 ca kc .char (0 : Int32) [] (.int 0)) (g_a1 : n0 ≤ a1) (ne_ca_a1 : ca ≠ a1) :
  ConW l Z own_EL [a1] (⟨"java/lang/String", "<init>", "([C)V"⟩ : MethodName) jdk_42_method_3_code 2 none ({ frames := 2, cells := 4, slots := 8, locals := 29 } : Room) #[(.ref a1), (.ref ca)] h0 (fun v h L => ∃ b k, v = none ∧ Fr n0 L ∧ Keep h0 h [a1] ∧ Exa Z h a1 "java/lang/String" ∧ Fld Z h a1 "java/lang/String" "value" "[B" (.ref b) ∧ Fld Z h a1 "java/lang/String" "coder" "B" (.int 0) ∧ Arv Z h b k .byte (0 : Int32) [] (.int 0)) := by
 refine own_startWC opn_3 ?_
 intro p e s m below meth c T0 X0 hx hby hml hZ hown hnm hret hlk e0 es hS CR hsf
 have N := Fr.nil n0; have K := Keep.refl h0 [a1]; have hk := Nat.le_refl h0.size; have Q_a1 := hsf _ (List.mem_of_getElem? (i := 0) rfl)
 refine OG.cast (oef2 m a1 ca) ?_
 refine og_aloadN X0 hx rfl rfl (hb hby d3_0) rfl ?_
 refine og_aloadN X0 hx rfl rfl (hb hby d3_1) rfl ?_
 refine og_iconst (v := 0) X0 hx rfl (hb hby d3_2) rfl ?_
 refine og_aloadN X0 hx rfl rfl (hb hby d3_3) rfl ?_
 refine og_arraylength X0 hx hZ e0 V_ca (hb hby d3_4) rfl ?_
 refine og_aconst_null X0 hx (hb hby d3_5) rfl ?_
 refine og_specialW (pc' := 9) (cells' := 4) (slots' := 8) (W := 0) X0 hx hZ (rm_sv_0 l Z a0 hw a1 ca h0 n0 O hEL E_a1 F_value_a1 F_coder_a1 g_a1) hEL hS hk CR.1 (allS (P := fun x => x < _ ∧ Safe Z own_EL _ _ x) ⟨E_a1.lt, Q_a1⟩ all0) rfl hown (ow14 hw) (ow15 hw) (ow9 hw) (ow17 hw) (by decide) (by rw [hml]; rfl) e0 opd_0 [(.ref ca), (.int 0), (.int 0), .null] [] rfl rfl rfl rfl (by decide) (by decide) rfl rfl (by decide) (by decide) (hb hby d3_6) rfl (fun v11 T11 h11 L11 kk11 X11 e11 hS hk hZ hown cr11 z11 => ?_)
 obtain ⟨nb11, k11, rfl, Nq11, K11, E_a1', F_value_a1', F_coder_a1', V_nb11⟩ := z11; have N := Fr.app N Nq11
 have K := K.trans K11 (allS (Or.inl (List.mem_of_getElem? (i := 0) rfl)) all0); have CR := CR.trans cr11
 have E_a1 := E_a1'; have F_value_a1 := F_value_a1'; have F_coder_a1 := F_coder_a1'
 refine og_retVW X11 hx hZ hlk hEL hS e11 es hk CR hret (hb hby d3_9) (by decide) (by decide) ?_
 rw [e11]; exact ⟨_, _, rfl, N, K, E_a1, F_value_a1, F_coder_a1, V_nb11⟩
theorem rm_c2_1 (l : Launch) (Z : State) (a0 : Array Value) (hw : HW a0 Z) (ca ba : Addr) (kc kb : ClassId) (c0 : Int32) (hb0 : ¬ 255 < c0) (h0 : Heap) (n0 : Nat) (O : Old Z n0 h0) (V_ca : Arv Z h0 ca kc .char (1 : Int32) [(.int c0)] (.int 0)) (V_ba : Arv Z h0 ba kb .byte (1 : Int32) [(.int 0)] (.int 0)) (g_ba : n0 ≤ ba) (ne_ca_ba : ca ≠ ba) :
  Con l Z (⟨"java/lang/StringUTF16", "compress", "([CI[BII)I"⟩ : MethodName) jdk_52_method_21_code 7 (some .int) ({ frames := 0, cells := 0, slots := 0, locals := 0 } : Room) #[(.ref ca), (.int 0), (.ref ba), (.int 0), (.int 1)] h0 (fun v h L => v = some (.int 1) ∧ Fr n0 L ∧ Keep h0 h [ba] ∧ Arv Z h ba kb .byte (1 : Int32) [(.int c0.toInt8.toInt32)] (.int 0)) := by
 refine own_startC opn_7 ?_
 intro p e s m below meth c T0 X0 hx hby hml hZ hown hnm hret hlk e0
 have N := Fr.nil n0; have K := Keep.refl h0 [ba]
 refine OG.cast (oef3 m ca (0 : Int32) ba (0 : Int32) (1 : Int32)) ?_
 refine og_iconst (v := 0) X0 hx rfl (hb hby d7_0) rfl ?_
 refine og_istore (L' := #[.val (.ref ca), .val (.int 0), .val (.ref ba), .val (.int 0), .val (.int 1), .val (.int 0), .unset]) X0 hx rfl (hb hby d7_1) rfl ?_
 refine og_iload X0 hx rfl (hb hby d7_3) rfl ?_
 refine og_iload X0 hx rfl (hb hby d7_5) rfl ?_
 refine og_icmp_ge (pc1 := 44) (pc2 := 10) X0 hx (hb hby d7_7) (by decide) (by decide) rfl (fun q => absurd q (by decide)) (fun _ => ?_)
 refine og_aloadN X0 hx rfl rfl (hb hby d7_10) rfl ?_
 refine og_iloadN X0 hx rfl (hb hby d7_11) rfl ?_
 refine og_caload (v := (.int c0)) X0 hx hZ e0 V_ca ⟨by decide, by decide⟩ rfl (hb hby d7_12) rfl ?_
 refine og_istore (L' := #[.val (.ref ca), .val (.int 0), .val (.ref ba), .val (.int 0), .val (.int 1), .val (.int 0), .val (.int c0)]) X0 hx rfl (hb hby d7_13) rfl ?_
 refine og_iload X0 hx rfl (hb hby d7_15) rfl ?_
 refine og_sipush (v := 255) X0 hx rfl (hb hby d7_17) rfl ?_
 refine og_icmp_le (pc1 := 26) (pc2 := 23) X0 hx (hb hby d7_20) (by decide) (by decide) rfl (fun _ => ?_) (fun q => absurd q hb0)
 refine og_aloadN X0 hx rfl rfl (hb hby d7_26) rfl ?_
 refine og_iloadN X0 hx rfl (hb hby d7_27) rfl ?_
 refine og_iload X0 hx rfl (hb hby d7_28) rfl ?_
 refine og_i2b X0 hx (hb hby d7_30) rfl ?_
 refine og_bastore X0 hx hZ e0 V_ba ⟨by decide, by decide⟩ 0 (by decide) (Nat.le_of_ble_eq_true rfl) (hb hby d7_31) rfl (fun T11 h11 X11 e11 W11 V11 => ?_)
 have K := K.wr W11 (Or.inl (List.mem_of_getElem? (i := 0) rfl))
 have N := Fr.snoc X11 N g_ba
 have V_ba : Arv Z h11 ba kb .byte (1 : Int32) [(.int (nar .byte (c0.toInt8.toInt32)))] (.int 0) := V11
 rw [own_nb] at V_ba
 refine og_iinc (L' := #[.val (.ref ca), .val (.int 1), .val (.ref ba), .val (.int 0), .val (.int 1), .val (.int 0), .val (.int c0)]) (w := 1) X11 hx rfl rfl rfl (hb hby d7_32) rfl ?_
 refine og_iinc (L' := #[.val (.ref ca), .val (.int 1), .val (.ref ba), .val (.int 1), .val (.int 1), .val (.int 0), .val (.int c0)]) (w := 1) X11 hx rfl rfl rfl (hb hby d7_35) rfl ?_
 refine og_iinc (L' := #[.val (.ref ca), .val (.int 1), .val (.ref ba), .val (.int 1), .val (.int 1), .val (.int 1), .val (.int c0)]) (w := 1) X11 hx rfl rfl rfl (hb hby d7_38) rfl ?_
 refine og_goto (pc' := 3) X11 hx (hb hby d7_41) (by decide) (by decide) ?_
 refine og_iload X11 hx rfl (hb hby d7_3) rfl ?_
 refine og_iload X11 hx rfl (hb hby d7_5) rfl ?_
 refine og_icmp_ge (pc1 := 44) (pc2 := 10) X11 hx (hb hby d7_7) (by decide) (by decide) rfl (fun _ => ?_) (fun q => absurd q (by decide))
 refine og_iload X11 hx rfl (hb hby d7_44) rfl ?_
 refine og_retI X11 hx hlk hret (hb hby d7_46) (by decide) (by decide) ?_
 rw [e11]; exact ⟨rfl, N, K, V_ba⟩
theorem rm_c1_1 (l : Launch) (Z : State) (a0 : Array Value) (hw : HW a0 Z) (ca : Addr) (kc : ClassId) (c0 : Int32) (hb0 : ¬ 255 < c0) (h0 : Heap) (n0 : Nat) (O : Old Z n0 h0) (V_ca : Arv Z h0 ca kc .char (1 : Int32) [(.int c0)] (.int 0)) :
  Con l Z (⟨"java/lang/StringUTF16", "compress", "([CII)[B"⟩ : MethodName) jdk_52_method_16_code 6 (some (.array .byte)) ({ frames := 1, cells := 1, slots := 1, locals := 18 } : Room) #[(.ref ca), (.int 0), (.int 1)] h0 (fun v h L => ∃ b k, v = some (.ref b) ∧ Fr n0 L ∧ Keep h0 h [] ∧ h0.size ≤ b ∧ Arv Z h b k .byte (1 : Int32) [(.int c0.toInt8.toInt32)] (.int 0)) := by
 refine own_startC opn_6 ?_
 intro p e s m below meth c T0 X0 hx hby hml hZ hown hnm hret hlk e0
 have N := Fr.nil n0; have K := Keep.refl h0 []
 refine OG.cast (oef4 m ca (0 : Int32) (1 : Int32)) ?_
 refine og_iloadN X0 hx rfl (hb hby d6_0) rfl ?_
 refine og_newarray (pc' := 3) (cells' := 1) (slots' := 1) (cap := 1) (ty := .byte) X0 hx hZ rfl (ow22 hw) e0 (by decide) (by decide) (by decide) (hb hby d6_1) rfl rfl rfl (by decide) (by decide) (fun T11 h11 nb11 kA11 X11 e11 E11 q11 V_nb11 => ?_)
 have s_nb11 : h0.size ≤ nb11 := Nat.le_of_eq q11.symm; have g_nb11 : n0 ≤ nb11 := Nat.le_trans (own_n0 O) s_nb11; have sz_nb11 : h0.size ≤ nb11 := Nat.le_trans K.1 s_nb11; have ne_ca_nb11 : ca ≠ nb11 := Nat.ne_of_lt (Nat.lt_of_lt_of_le V_ca.lt s_nb11)
 have V_ca := V_ca.ext E11; have O := O.ext E11; have K := K.ext E11
 have V_nb11 : Arv Z h11 nb11 kA11 .byte (1 : Int32) [(.int 0)] (.int 0) := V_nb11.pad (pad_rep [] (.int 0) 1)
 refine og_astoreN (L' := #[.val (.ref ca), .val (.int 0), .val (.int 1), .val (.ref nb11), .unset, .unset]) X11 hx rfl rfl (hb hby d6_3) rfl ?_
 refine og_aloadN X11 hx rfl rfl (hb hby d6_4) rfl ?_
 refine og_iloadN X11 hx rfl (hb hby d6_5) rfl ?_
 refine og_aloadN X11 hx rfl rfl (hb hby d6_6) rfl ?_
 refine og_iconst (v := 0) X11 hx rfl (hb hby d6_7) rfl ?_
 refine og_iloadN X11 hx rfl (hb hby d6_8) rfl ?_
 refine og_static (pc' := 12) (cells' := 1) (slots' := 1) (W := 0) X11 hx hZ (rm_c2_1 l Z a0 hw ca nb11 kc kA11 c0 hb0 h11 n0 O V_ca V_nb11 g_nb11 ne_ca_nb11) hown (ow34 hw) (ow35 hw) (ow32 hw) (ow36 hw) (by decide) (by rw [hml]; rfl) e11 opd_1 [(.ref ca), (.int 0), (.ref nb11), (.int 0), (.int 1)] [] rfl rfl rfl rfl (by decide) (by decide) rfl rfl (by decide) (by decide) (hb hby d6_9) rfl (fun v12 T12 h12 L12 X12 e12 z12 => ?_)
 obtain ⟨rfl, Nq12, K12, V_nb11'⟩ := z12; have N := Fr.app N Nq12
 have K := K.trans K12 (allS (Or.inr sz_nb11) all0)
 have V_nb11 := V_nb11'
 refine og_istore (L' := #[.val (.ref ca), .val (.int 0), .val (.int 1), .val (.ref nb11), .val (.int 1), .unset]) X12 hx rfl (hb hby d6_12) rfl ?_
 refine og_iload X12 hx rfl (hb hby d6_14) rfl ?_
 refine og_iloadN X12 hx rfl (hb hby d6_16) rfl ?_
 refine og_icmp_eq (pc1 := 57) (pc2 := 20) X12 hx (hb hby d6_17) (by decide) (by decide) rfl (fun _ => ?_) (fun q => absurd q (by decide))
 refine og_aloadN X12 hx rfl rfl (hb hby d6_57) rfl ?_
 refine og_retR X12 hx hlk hret rfl rfl rfl (hb hby d6_58) (by decide) (by decide) ?_
 rw [e12]; exact ⟨_, _, rfl, N, K, sz_nb11, V_nb11⟩
theorem rm_cfa_1 (l : Launch) (Z : State) (a0 : Array Value) (hw : HW a0 Z) (ba : Addr) (kb : ClassId) (vs : List Value) (h0 : Heap) (n0 : Nat) (O : Old Z n0 h0) (V_ba : Arv Z h0 ba kb .byte (1 : Int32) vs (.int 0)) :
  Con l Z (⟨"java/lang/StringUTF16", "coderFromArrayLen", "([BI)B"⟩ : MethodName) jdk_52_method_15_code 2 (some .byte) ({ frames := 0, cells := 0, slots := 0, locals := 0 } : Room) #[(.ref ba), (.int 1)] h0 (fun v h L => v = some (.int 0) ∧ Fr n0 L ∧ h = h0) := by
 refine own_startC opn_8 ?_
 intro p e s m below meth c T0 X0 hx hby hml hZ hown hnm hret hlk e0
 have N := Fr.nil n0
 refine OG.cast (oef5 m ba (1 : Int32)) ?_
 refine og_iloadN X0 hx rfl (hb hby d8_0) rfl ?_
 refine og_aloadN X0 hx rfl rfl (hb hby d8_1) rfl ?_
 refine og_arraylength X0 hx hZ e0 V_ba (hb hby d8_2) rfl ?_
 refine og_isub X0 hx (hb hby d8_3) rfl ?_
 show OG p e below _ (T0.setTop (mkF m 4 #[.val (.ref ba), .val (.int 1)] [(.int 0)]))
 refine og_bipush (v := 31) X0 hx rfl (hb hby d8_4) rfl ?_
 refine og_iushr X0 hx (hb hby d8_6) rfl ?_
 show OG p e below _ (T0.setTop (mkF m 7 #[.val (.ref ba), .val (.int 1)] [(.int 0)]))
 refine og_i2b X0 hx (hb hby d8_7) rfl ?_
 show OG p e below _ (T0.setTop (mkF m 8 #[.val (.ref ba), .val (.int 1)] [(.int 0)]))
 refine og_retN X0 hx hlk hret (by simp) (hb hby d8_8) (by decide) (by decide) ?_
 rw [e0]; exact ⟨rfl, N, rfl⟩
theorem rm_sv_1 (l : Launch) (Z : State) (a0 : Array Value) (hw : HW a0 Z) (a1 ca : Addr) (kc : ClassId) (c0 : Int32) (hb0 : ¬ 255 < c0) (cs : Int32) (hcs : ¬ cs = 0) (h0 : Heap) (n0 : Nat) (O : Old Z n0 h0) (E_a1 : Exa Z h0 a1 "java/lang/String") (F_value_a1 : Fld Z h0 a1 "java/lang/String" "value" "[B" .null) (F_coder_a1 : Fld Z h0 a1 "java/lang/String" "coder" "B" (.int 0)) (V_ca : Arv Z h0 ca kc .char (1 : Int32) [(.int c0)] (.int 0)) (S_CS : Sta Z Z.heap "java/lang/String" "COMPACT_STRINGS" "Z" (.int cs)) (g_a1 : n0 ≤ a1) (ne_ca_a1 : ca ≠ a1) :
  Con l Z (⟨"java/lang/String", "<init>", "([CIILjava/lang/Void;)V"⟩ : MethodName) jdk_42_method_149_code 6 none ({ frames := 2, cells := 1, slots := 1, locals := 35 } : Room) #[(.ref a1), (.ref ca), (.int 0), (.int 1), .null] h0 (fun v h L => ∃ b k, v = none ∧ Fr n0 L ∧ Keep h0 h [a1] ∧ h0.size ≤ b ∧ Exa Z h a1 "java/lang/String" ∧ Fld Z h a1 "java/lang/String" "value" "[B" (.ref b) ∧ Fld Z h a1 "java/lang/String" "coder" "B" (.int 0) ∧ Arv Z h b k .byte (1 : Int32) [(.int c0.toInt8.toInt32)] (.int 0)) := by
 refine own_startC opn_4 ?_
 intro p e s m below meth c T0 X0 hx hby hml hZ hown hnm hret hlk e0
 have N := Fr.nil n0; have K := Keep.refl h0 [a1]
 refine OG.cast (oef1 m a1 ca (0 : Int32) (1 : Int32)) ?_
 refine og_aloadN X0 hx rfl rfl (hb hby d4_0) rfl ?_
 refine og_initO (pc' := 4) X0 hx hZ (W := 0) (by rw [hml]; rfl) hown (ow18 hw) (ow19 hw) (ow20 hw) e0 rfl (by decide) (by decide) (hb hby d4_1) rfl (fun T11 X11 e11 => ?_)
 refine og_iloadN X11 hx rfl (hb hby d4_4) rfl ?_
 refine og_if_ne (pc1 := 27) (pc2 := 8) X11 hx (hb hby d4_5) (by decide) (by decide) rfl (fun _ => ?_) (fun q => absurd q (by decide))
 refine og_getstatic X11 hx hZ (host := "") hown (Or.inl (ow29 hw)) Via.refl e11 (S_CS.ext O.2) (hb hby d4_27) rfl (fun T12 X12 e12 => ?_)
 refine og_if_eq (pc1 := 58) (pc2 := 33) X12 hx (hb hby d4_30) (by decide) (by decide) rfl (fun q => absurd q hcs) (fun _ => ?_)
 refine og_aloadN X12 hx rfl rfl (hb hby d4_33) rfl ?_
 refine og_iloadN X12 hx rfl (hb hby d4_34) rfl ?_
 refine og_iloadN X12 hx rfl (hb hby d4_35) rfl ?_
 refine og_static (pc' := 39) (cells' := 1) (slots' := 1) (W := 0) X12 hx hZ (rm_c1_1 l Z a0 hw ca kc c0 hb0 h0 n0 O V_ca) hown (ow30 hw) (ow31 hw) (ow32 hw) (ow33 hw) (by decide) (by rw [hml]; rfl) e12 opd_2 [(.ref ca), (.int 0), (.int 1)] [] rfl rfl rfl rfl (by decide) (by decide) rfl rfl (by decide) (by decide) (hb hby d4_36) rfl (fun v13 T13 h13 L13 X13 e13 z13 => ?_)
 obtain ⟨nb13, k13, rfl, Nq13, K13, sb13, V_nb13⟩ := z13; have N := Fr.app N Nq13
 have s_nb13 : h0.size ≤ nb13 := sb13; have sz_nb13 : h0.size ≤ nb13 := Nat.le_trans K.1 s_nb13; have ne_a1_nb13 : a1 ≠ nb13 := Nat.ne_of_lt (Nat.lt_of_lt_of_le E_a1.lt s_nb13)
 have E_a1 := E_a1.keep K13; have F_value_a1 := F_value_a1.keep K13 nin0; have F_coder_a1 := F_coder_a1.keep K13 nin0; have O := O.keep K13 all0; have K := K.trans K13 all0
 refine og_astore (L' := #[.val (.ref a1), .val (.ref ca), .val (.int 0), .val (.int 1), .val .null, .val (.ref nb13)]) X13 hx rfl rfl (hb hby d4_39) rfl ?_
 refine og_aloadN X13 hx rfl rfl (hb hby d4_41) rfl ?_
 refine og_aload X13 hx rfl rfl (hb hby d4_42) rfl ?_
 refine og_iloadN X13 hx rfl (hb hby d4_44) rfl ?_
 refine og_static (pc' := 48) (cells' := 1) (slots' := 1) (W := 1) X13 hx hZ (rm_cfa_1 l Z a0 hw nb13 k13 _ h13 n0 O V_nb13) hown (ow37 hw) (ow38 hw) (ow32 hw) (ow39 hw) (by decide) (by rw [hml]; rfl) e13 opd_3 [(.ref nb13), (.int 1)] [(.ref a1)] rfl rfl rfl rfl (by decide) (by decide) rfl rfl (by decide) (by decide) (hb hby d4_45) rfl (fun v14 T14 h14 L14 X14 e14 z14 => ?_)
 obtain ⟨rfl, Nq14, hq14⟩ := z14; replace e14 := e14.trans hq14; have N := Fr.app N Nq14
 refine og_putfield X14 hx hZ (ty := .byte) (host := "") hown (Or.inl (ow28 hw)) Via.refl e14 F_coder_a1 E_a1 (Or.inr ⟨(ow24 hw), rfl, hnm⟩) (ow8 hw) (by decide) rfl rfl (hb hby d4_48) rfl (fun T15 h15 X15 e15 W15 => ?_)
 have F_coder_a1_ := F_coder_a1.same W15
 have E_a1 := E_a1.wr W15; have F_value_a1 := F_value_a1.other W15 (Or.inr (slot_ne (Or.inr (ow23 hw)) (Or.inr (ow24 hw)) (by decide) (t := (.array .byte)) (t' := .byte) (by decide) (by decide))); have V_nb13 := V_nb13.other W15 (Ne.symm ne_a1_nb13); have K := K.wr W15 (Or.inl (List.mem_of_getElem? (i := 0) rfl))
 have N := Fr.snoc X15 N g_a1; have F_coder_a1 := F_coder_a1_
 refine og_aloadN X15 hx rfl rfl (hb hby d4_51) rfl ?_
 refine og_aload X15 hx rfl rfl (hb hby d4_52) rfl ?_
 refine og_putfield X15 hx hZ (ty := (.array .byte)) (host := "") hown (Or.inl (ow27 hw)) Via.refl e15 F_value_a1 E_a1 (Or.inr ⟨(ow23 hw), rfl, hnm⟩) (ow8 hw) (by decide) rfl rfl (hb hby d4_54) rfl (fun T16 h16 X16 e16 W16 => ?_)
 have F_value_a1_ := F_value_a1.same W16
 have E_a1 := E_a1.wr W16; have V_nb13 := V_nb13.other W16 (Ne.symm ne_a1_nb13); have F_coder_a1 := F_coder_a1.other W16 (Or.inr (slot_ne (Or.inr (ow24 hw)) (Or.inr (ow23 hw)) (by decide) (t := .byte) (t' := (.array .byte)) (by decide) (by decide))); have K := K.wr W16 (Or.inl (List.mem_of_getElem? (i := 0) rfl))
 have N := Fr.snoc X16 N g_a1; have F_value_a1 := F_value_a1_
 refine og_retV X16 hx hlk hret (hb hby d4_57) (by decide) (by decide) ?_
 rw [e16]; exact ⟨_, _, rfl, N, K, sz_nb13, E_a1, F_value_a1, F_coder_a1, V_nb13⟩
theorem rm_sn_1 (l : Launch) (Z : State) (a0 : Array Value) (hw : HW a0 Z) (a1 ca : Addr) (kc : ClassId) (c0 : Int32) (hb0 : ¬ 255 < c0) (cs : Int32) (hcs : ¬ cs = 0) (h0 : Heap) (n0 : Nat) (O : Old Z n0 h0) (E_a1 : Exa Z h0 a1 "java/lang/String") (F_value_a1 : Fld Z h0 a1 "java/lang/String" "value" "[B" .null) (F_coder_a1 : Fld Z h0 a1 "java/lang/String" "coder" "B" (.int 0)) (V_ca : Arv Z h0 ca kc .char (1 : Int32) [(.int c0)] (.int 0)) (S_CS : Sta Z Z.heap "java/lang/String" "COMPACT_STRINGS" "Z" (.int cs)) (g_a1 : n0 ≤ a1) (ne_ca_a1 : ca ≠ a1) :
  Con l Z (⟨"java/lang/String", "<init>", "([C)V"⟩ : MethodName) jdk_42_method_3_code 2 none ({ frames := 3, cells := 1, slots := 1, locals := 52 } : Room) #[(.ref a1), (.ref ca)] h0 (fun v h L => ∃ b k, v = none ∧ Fr n0 L ∧ Keep h0 h [a1] ∧ h0.size ≤ b ∧ Exa Z h a1 "java/lang/String" ∧ Fld Z h a1 "java/lang/String" "value" "[B" (.ref b) ∧ Fld Z h a1 "java/lang/String" "coder" "B" (.int 0) ∧ Arv Z h b k .byte (1 : Int32) [(.int c0.toInt8.toInt32)] (.int 0)) := by
 refine own_startC opn_3 ?_
 intro p e s m below meth c T0 X0 hx hby hml hZ hown hnm hret hlk e0
 have N := Fr.nil n0; have K := Keep.refl h0 [a1]
 refine OG.cast (oef2 m a1 ca) ?_
 refine og_aloadN X0 hx rfl rfl (hb hby d3_0) rfl ?_
 refine og_aloadN X0 hx rfl rfl (hb hby d3_1) rfl ?_
 refine og_iconst (v := 0) X0 hx rfl (hb hby d3_2) rfl ?_
 refine og_aloadN X0 hx rfl rfl (hb hby d3_3) rfl ?_
 refine og_arraylength X0 hx hZ e0 V_ca (hb hby d3_4) rfl ?_
 refine og_aconst_null X0 hx (hb hby d3_5) rfl ?_
 refine og_special (pc' := 9) (cells' := 1) (slots' := 1) (W := 0) X0 hx hZ (rm_sv_1 l Z a0 hw a1 ca kc c0 hb0 cs hcs h0 n0 O E_a1 F_value_a1 F_coder_a1 V_ca S_CS g_a1 ne_ca_a1) rfl hown (ow14 hw) (ow15 hw) (ow9 hw) (ow17 hw) (by decide) (by rw [hml]; rfl) e0 opd_0 [(.ref ca), (.int 0), (.int 1), .null] [] rfl rfl rfl rfl (by decide) (by decide) rfl rfl (by decide) (by decide) (hb hby d3_6) rfl (fun v11 T11 h11 L11 X11 e11 z11 => ?_)
 obtain ⟨nb11, k11, rfl, Nq11, K11, sb11, E_a1', F_value_a1', F_coder_a1', V_nb11⟩ := z11; have N := Fr.app N Nq11
 have s_nb11 : h0.size ≤ nb11 := sb11; have sz_nb11 : h0.size ≤ nb11 := Nat.le_trans K.1 s_nb11
 have K := K.trans K11 (allS (Or.inl (List.mem_of_getElem? (i := 0) rfl)) all0)
 have E_a1 := E_a1'; have F_value_a1 := F_value_a1'; have F_coder_a1 := F_coder_a1'
 refine og_retV X11 hx hlk hret (hb hby d3_9) (by decide) (by decide) ?_
 rw [e11]; exact ⟨_, _, rfl, N, K, sz_nb11, E_a1, F_value_a1, F_coder_a1, V_nb11⟩
theorem rm_c2_2 (l : Launch) (Z : State) (a0 : Array Value) (hw : HW a0 Z) (ca ba : Addr) (kc kb : ClassId) (c0 c1 : Int32) (hb0 : ¬ 255 < c0) (hb1 : ¬ 255 < c1) (h0 : Heap) (n0 : Nat) (O : Old Z n0 h0) (V_ca : Arv Z h0 ca kc .char (2 : Int32) [(.int c0), (.int c1)] (.int 0)) (V_ba : Arv Z h0 ba kb .byte (2 : Int32) [(.int 0), (.int 0)] (.int 0)) (g_ba : n0 ≤ ba) (ne_ca_ba : ca ≠ ba) :
  Con l Z (⟨"java/lang/StringUTF16", "compress", "([CI[BII)I"⟩ : MethodName) jdk_52_method_21_code 7 (some .int) ({ frames := 0, cells := 0, slots := 0, locals := 0 } : Room) #[(.ref ca), (.int 0), (.ref ba), (.int 0), (.int 2)] h0 (fun v h L => v = some (.int 2) ∧ Fr n0 L ∧ Keep h0 h [ba] ∧ Arv Z h ba kb .byte (2 : Int32) [(.int c0.toInt8.toInt32), (.int c1.toInt8.toInt32)] (.int 0)) := by
 refine own_startC opn_7 ?_
 intro p e s m below meth c T0 X0 hx hby hml hZ hown hnm hret hlk e0
 have N := Fr.nil n0; have K := Keep.refl h0 [ba]
 refine OG.cast (oef3 m ca (0 : Int32) ba (0 : Int32) (2 : Int32)) ?_
 refine og_iconst (v := 0) X0 hx rfl (hb hby d7_0) rfl ?_
 refine og_istore (L' := #[.val (.ref ca), .val (.int 0), .val (.ref ba), .val (.int 0), .val (.int 2), .val (.int 0), .unset]) X0 hx rfl (hb hby d7_1) rfl ?_
 refine og_iload X0 hx rfl (hb hby d7_3) rfl ?_
 refine og_iload X0 hx rfl (hb hby d7_5) rfl ?_
 refine og_icmp_ge (pc1 := 44) (pc2 := 10) X0 hx (hb hby d7_7) (by decide) (by decide) rfl (fun q => absurd q (by decide)) (fun _ => ?_)
 refine og_aloadN X0 hx rfl rfl (hb hby d7_10) rfl ?_
 refine og_iloadN X0 hx rfl (hb hby d7_11) rfl ?_
 refine og_caload (v := (.int c0)) X0 hx hZ e0 V_ca ⟨by decide, by decide⟩ rfl (hb hby d7_12) rfl ?_
 refine og_istore (L' := #[.val (.ref ca), .val (.int 0), .val (.ref ba), .val (.int 0), .val (.int 2), .val (.int 0), .val (.int c0)]) X0 hx rfl (hb hby d7_13) rfl ?_
 refine og_iload X0 hx rfl (hb hby d7_15) rfl ?_
 refine og_sipush (v := 255) X0 hx rfl (hb hby d7_17) rfl ?_
 refine og_icmp_le (pc1 := 26) (pc2 := 23) X0 hx (hb hby d7_20) (by decide) (by decide) rfl (fun _ => ?_) (fun q => absurd q hb0)
 refine og_aloadN X0 hx rfl rfl (hb hby d7_26) rfl ?_
 refine og_iloadN X0 hx rfl (hb hby d7_27) rfl ?_
 refine og_iload X0 hx rfl (hb hby d7_28) rfl ?_
 refine og_i2b X0 hx (hb hby d7_30) rfl ?_
 refine og_bastore X0 hx hZ e0 V_ba ⟨by decide, by decide⟩ 0 (by decide) (Nat.le_of_ble_eq_true rfl) (hb hby d7_31) rfl (fun T11 h11 X11 e11 W11 V11 => ?_)
 have V_ca := V_ca.other W11 ne_ca_ba; have K := K.wr W11 (Or.inl (List.mem_of_getElem? (i := 0) rfl))
 have N := Fr.snoc X11 N g_ba
 have V_ba : Arv Z h11 ba kb .byte (2 : Int32) [(.int (nar .byte (c0.toInt8.toInt32))), (.int 0)] (.int 0) := V11
 rw [own_nb] at V_ba
 refine og_iinc (L' := #[.val (.ref ca), .val (.int 1), .val (.ref ba), .val (.int 0), .val (.int 2), .val (.int 0), .val (.int c0)]) (w := 1) X11 hx rfl rfl rfl (hb hby d7_32) rfl ?_
 refine og_iinc (L' := #[.val (.ref ca), .val (.int 1), .val (.ref ba), .val (.int 1), .val (.int 2), .val (.int 0), .val (.int c0)]) (w := 1) X11 hx rfl rfl rfl (hb hby d7_35) rfl ?_
 refine og_iinc (L' := #[.val (.ref ca), .val (.int 1), .val (.ref ba), .val (.int 1), .val (.int 2), .val (.int 1), .val (.int c0)]) (w := 1) X11 hx rfl rfl rfl (hb hby d7_38) rfl ?_
 refine og_goto (pc' := 3) X11 hx (hb hby d7_41) (by decide) (by decide) ?_
 refine og_iload X11 hx rfl (hb hby d7_3) rfl ?_
 refine og_iload X11 hx rfl (hb hby d7_5) rfl ?_
 refine og_icmp_ge (pc1 := 44) (pc2 := 10) X11 hx (hb hby d7_7) (by decide) (by decide) rfl (fun q => absurd q (by decide)) (fun _ => ?_)
 refine og_aloadN X11 hx rfl rfl (hb hby d7_10) rfl ?_
 refine og_iloadN X11 hx rfl (hb hby d7_11) rfl ?_
 refine og_caload (v := (.int c1)) X11 hx hZ e11 V_ca ⟨by decide, by decide⟩ rfl (hb hby d7_12) rfl ?_
 refine og_istore (L' := #[.val (.ref ca), .val (.int 1), .val (.ref ba), .val (.int 1), .val (.int 2), .val (.int 1), .val (.int c1)]) X11 hx rfl (hb hby d7_13) rfl ?_
 refine og_iload X11 hx rfl (hb hby d7_15) rfl ?_
 refine og_sipush (v := 255) X11 hx rfl (hb hby d7_17) rfl ?_
 refine og_icmp_le (pc1 := 26) (pc2 := 23) X11 hx (hb hby d7_20) (by decide) (by decide) rfl (fun _ => ?_) (fun q => absurd q hb1)
 refine og_aloadN X11 hx rfl rfl (hb hby d7_26) rfl ?_
 refine og_iloadN X11 hx rfl (hb hby d7_27) rfl ?_
 refine og_iload X11 hx rfl (hb hby d7_28) rfl ?_
 refine og_i2b X11 hx (hb hby d7_30) rfl ?_
 refine og_bastore X11 hx hZ e11 V_ba ⟨by decide, by decide⟩ 1 (by decide) (Nat.le_of_ble_eq_true rfl) (hb hby d7_31) rfl (fun T12 h12 X12 e12 W12 V12 => ?_)
 have K := K.wr W12 (Or.inl (List.mem_of_getElem? (i := 0) rfl))
 have N := Fr.snoc X12 N g_ba
 have V_ba : Arv Z h12 ba kb .byte (2 : Int32) [(.int c0.toInt8.toInt32), (.int (nar .byte (c1.toInt8.toInt32)))] (.int 0) := V12
 rw [own_nb] at V_ba
 refine og_iinc (L' := #[.val (.ref ca), .val (.int 2), .val (.ref ba), .val (.int 1), .val (.int 2), .val (.int 1), .val (.int c1)]) (w := 1) X12 hx rfl rfl rfl (hb hby d7_32) rfl ?_
 refine og_iinc (L' := #[.val (.ref ca), .val (.int 2), .val (.ref ba), .val (.int 2), .val (.int 2), .val (.int 1), .val (.int c1)]) (w := 1) X12 hx rfl rfl rfl (hb hby d7_35) rfl ?_
 refine og_iinc (L' := #[.val (.ref ca), .val (.int 2), .val (.ref ba), .val (.int 2), .val (.int 2), .val (.int 2), .val (.int c1)]) (w := 1) X12 hx rfl rfl rfl (hb hby d7_38) rfl ?_
 refine og_goto (pc' := 3) X12 hx (hb hby d7_41) (by decide) (by decide) ?_
 refine og_iload X12 hx rfl (hb hby d7_3) rfl ?_
 refine og_iload X12 hx rfl (hb hby d7_5) rfl ?_
 refine og_icmp_ge (pc1 := 44) (pc2 := 10) X12 hx (hb hby d7_7) (by decide) (by decide) rfl (fun _ => ?_) (fun q => absurd q (by decide))
 refine og_iload X12 hx rfl (hb hby d7_44) rfl ?_
 refine og_retI X12 hx hlk hret (hb hby d7_46) (by decide) (by decide) ?_
 rw [e12]; exact ⟨rfl, N, K, V_ba⟩
theorem rm_c1_2 (l : Launch) (Z : State) (a0 : Array Value) (hw : HW a0 Z) (ca : Addr) (kc : ClassId) (c0 c1 : Int32) (hb0 : ¬ 255 < c0) (hb1 : ¬ 255 < c1) (h0 : Heap) (n0 : Nat) (O : Old Z n0 h0) (V_ca : Arv Z h0 ca kc .char (2 : Int32) [(.int c0), (.int c1)] (.int 0)) :
  Con l Z (⟨"java/lang/StringUTF16", "compress", "([CII)[B"⟩ : MethodName) jdk_52_method_16_code 6 (some (.array .byte)) ({ frames := 1, cells := 1, slots := 2, locals := 18 } : Room) #[(.ref ca), (.int 0), (.int 2)] h0 (fun v h L => ∃ b k, v = some (.ref b) ∧ Fr n0 L ∧ Keep h0 h [] ∧ h0.size ≤ b ∧ Arv Z h b k .byte (2 : Int32) [(.int c0.toInt8.toInt32), (.int c1.toInt8.toInt32)] (.int 0)) := by
 refine own_startC opn_6 ?_
 intro p e s m below meth c T0 X0 hx hby hml hZ hown hnm hret hlk e0
 have N := Fr.nil n0; have K := Keep.refl h0 []
 refine OG.cast (oef4 m ca (0 : Int32) (2 : Int32)) ?_
 refine og_iloadN X0 hx rfl (hb hby d6_0) rfl ?_
 refine og_newarray (pc' := 3) (cells' := 1) (slots' := 2) (cap := 2) (ty := .byte) X0 hx hZ rfl (ow22 hw) e0 (by decide) (by decide) (by decide) (hb hby d6_1) rfl rfl rfl (by decide) (by decide) (fun T11 h11 nb11 kA11 X11 e11 E11 q11 V_nb11 => ?_)
 have s_nb11 : h0.size ≤ nb11 := Nat.le_of_eq q11.symm; have g_nb11 : n0 ≤ nb11 := Nat.le_trans (own_n0 O) s_nb11; have sz_nb11 : h0.size ≤ nb11 := Nat.le_trans K.1 s_nb11; have ne_ca_nb11 : ca ≠ nb11 := Nat.ne_of_lt (Nat.lt_of_lt_of_le V_ca.lt s_nb11)
 have V_ca := V_ca.ext E11; have O := O.ext E11; have K := K.ext E11
 have V_nb11 : Arv Z h11 nb11 kA11 .byte (2 : Int32) [(.int 0), (.int 0)] (.int 0) := V_nb11.pad (pad_rep [] (.int 0) 2)
 refine og_astoreN (L' := #[.val (.ref ca), .val (.int 0), .val (.int 2), .val (.ref nb11), .unset, .unset]) X11 hx rfl rfl (hb hby d6_3) rfl ?_
 refine og_aloadN X11 hx rfl rfl (hb hby d6_4) rfl ?_
 refine og_iloadN X11 hx rfl (hb hby d6_5) rfl ?_
 refine og_aloadN X11 hx rfl rfl (hb hby d6_6) rfl ?_
 refine og_iconst (v := 0) X11 hx rfl (hb hby d6_7) rfl ?_
 refine og_iloadN X11 hx rfl (hb hby d6_8) rfl ?_
 refine og_static (pc' := 12) (cells' := 1) (slots' := 2) (W := 0) X11 hx hZ (rm_c2_2 l Z a0 hw ca nb11 kc kA11 c0 c1 hb0 hb1 h11 n0 O V_ca V_nb11 g_nb11 ne_ca_nb11) hown (ow34 hw) (ow35 hw) (ow32 hw) (ow36 hw) (by decide) (by rw [hml]; rfl) e11 opd_1 [(.ref ca), (.int 0), (.ref nb11), (.int 0), (.int 2)] [] rfl rfl rfl rfl (by decide) (by decide) rfl rfl (by decide) (by decide) (hb hby d6_9) rfl (fun v12 T12 h12 L12 X12 e12 z12 => ?_)
 obtain ⟨rfl, Nq12, K12, V_nb11'⟩ := z12; have N := Fr.app N Nq12
 have K := K.trans K12 (allS (Or.inr sz_nb11) all0)
 have V_nb11 := V_nb11'
 refine og_istore (L' := #[.val (.ref ca), .val (.int 0), .val (.int 2), .val (.ref nb11), .val (.int 2), .unset]) X12 hx rfl (hb hby d6_12) rfl ?_
 refine og_iload X12 hx rfl (hb hby d6_14) rfl ?_
 refine og_iloadN X12 hx rfl (hb hby d6_16) rfl ?_
 refine og_icmp_eq (pc1 := 57) (pc2 := 20) X12 hx (hb hby d6_17) (by decide) (by decide) rfl (fun _ => ?_) (fun q => absurd q (by decide))
 refine og_aloadN X12 hx rfl rfl (hb hby d6_57) rfl ?_
 refine og_retR X12 hx hlk hret rfl rfl rfl (hb hby d6_58) (by decide) (by decide) ?_
 rw [e12]; exact ⟨_, _, rfl, N, K, sz_nb11, V_nb11⟩
theorem rm_cfa_2 (l : Launch) (Z : State) (a0 : Array Value) (hw : HW a0 Z) (ba : Addr) (kb : ClassId) (vs : List Value) (h0 : Heap) (n0 : Nat) (O : Old Z n0 h0) (V_ba : Arv Z h0 ba kb .byte (2 : Int32) vs (.int 0)) :
  Con l Z (⟨"java/lang/StringUTF16", "coderFromArrayLen", "([BI)B"⟩ : MethodName) jdk_52_method_15_code 2 (some .byte) ({ frames := 0, cells := 0, slots := 0, locals := 0 } : Room) #[(.ref ba), (.int 2)] h0 (fun v h L => v = some (.int 0) ∧ Fr n0 L ∧ h = h0) := by
 refine own_startC opn_8 ?_
 intro p e s m below meth c T0 X0 hx hby hml hZ hown hnm hret hlk e0
 have N := Fr.nil n0
 refine OG.cast (oef5 m ba (2 : Int32)) ?_
 refine og_iloadN X0 hx rfl (hb hby d8_0) rfl ?_
 refine og_aloadN X0 hx rfl rfl (hb hby d8_1) rfl ?_
 refine og_arraylength X0 hx hZ e0 V_ba (hb hby d8_2) rfl ?_
 refine og_isub X0 hx (hb hby d8_3) rfl ?_
 show OG p e below _ (T0.setTop (mkF m 4 #[.val (.ref ba), .val (.int 2)] [(.int 0)]))
 refine og_bipush (v := 31) X0 hx rfl (hb hby d8_4) rfl ?_
 refine og_iushr X0 hx (hb hby d8_6) rfl ?_
 show OG p e below _ (T0.setTop (mkF m 7 #[.val (.ref ba), .val (.int 2)] [(.int 0)]))
 refine og_i2b X0 hx (hb hby d8_7) rfl ?_
 show OG p e below _ (T0.setTop (mkF m 8 #[.val (.ref ba), .val (.int 2)] [(.int 0)]))
 refine og_retN X0 hx hlk hret (by simp) (hb hby d8_8) (by decide) (by decide) ?_
 rw [e0]; exact ⟨rfl, N, rfl⟩
theorem rm_sv_2 (l : Launch) (Z : State) (a0 : Array Value) (hw : HW a0 Z) (a1 ca : Addr) (kc : ClassId) (c0 c1 : Int32) (hb0 : ¬ 255 < c0) (hb1 : ¬ 255 < c1) (cs : Int32) (hcs : ¬ cs = 0) (h0 : Heap) (n0 : Nat) (O : Old Z n0 h0) (E_a1 : Exa Z h0 a1 "java/lang/String") (F_value_a1 : Fld Z h0 a1 "java/lang/String" "value" "[B" .null) (F_coder_a1 : Fld Z h0 a1 "java/lang/String" "coder" "B" (.int 0)) (V_ca : Arv Z h0 ca kc .char (2 : Int32) [(.int c0), (.int c1)] (.int 0)) (S_CS : Sta Z Z.heap "java/lang/String" "COMPACT_STRINGS" "Z" (.int cs)) (g_a1 : n0 ≤ a1) (ne_ca_a1 : ca ≠ a1) :
  Con l Z (⟨"java/lang/String", "<init>", "([CIILjava/lang/Void;)V"⟩ : MethodName) jdk_42_method_149_code 6 none ({ frames := 2, cells := 1, slots := 2, locals := 35 } : Room) #[(.ref a1), (.ref ca), (.int 0), (.int 2), .null] h0 (fun v h L => ∃ b k, v = none ∧ Fr n0 L ∧ Keep h0 h [a1] ∧ h0.size ≤ b ∧ Exa Z h a1 "java/lang/String" ∧ Fld Z h a1 "java/lang/String" "value" "[B" (.ref b) ∧ Fld Z h a1 "java/lang/String" "coder" "B" (.int 0) ∧ Arv Z h b k .byte (2 : Int32) [(.int c0.toInt8.toInt32), (.int c1.toInt8.toInt32)] (.int 0)) := by
 refine own_startC opn_4 ?_
 intro p e s m below meth c T0 X0 hx hby hml hZ hown hnm hret hlk e0
 have N := Fr.nil n0; have K := Keep.refl h0 [a1]
 refine OG.cast (oef1 m a1 ca (0 : Int32) (2 : Int32)) ?_
 refine og_aloadN X0 hx rfl rfl (hb hby d4_0) rfl ?_
 refine og_initO (pc' := 4) X0 hx hZ (W := 0) (by rw [hml]; rfl) hown (ow18 hw) (ow19 hw) (ow20 hw) e0 rfl (by decide) (by decide) (hb hby d4_1) rfl (fun T11 X11 e11 => ?_)
 refine og_iloadN X11 hx rfl (hb hby d4_4) rfl ?_
 refine og_if_ne (pc1 := 27) (pc2 := 8) X11 hx (hb hby d4_5) (by decide) (by decide) rfl (fun _ => ?_) (fun q => absurd q (by decide))
 refine og_getstatic X11 hx hZ (host := "") hown (Or.inl (ow29 hw)) Via.refl e11 (S_CS.ext O.2) (hb hby d4_27) rfl (fun T12 X12 e12 => ?_)
 refine og_if_eq (pc1 := 58) (pc2 := 33) X12 hx (hb hby d4_30) (by decide) (by decide) rfl (fun q => absurd q hcs) (fun _ => ?_)
 refine og_aloadN X12 hx rfl rfl (hb hby d4_33) rfl ?_
 refine og_iloadN X12 hx rfl (hb hby d4_34) rfl ?_
 refine og_iloadN X12 hx rfl (hb hby d4_35) rfl ?_
 refine og_static (pc' := 39) (cells' := 1) (slots' := 2) (W := 0) X12 hx hZ (rm_c1_2 l Z a0 hw ca kc c0 c1 hb0 hb1 h0 n0 O V_ca) hown (ow30 hw) (ow31 hw) (ow32 hw) (ow33 hw) (by decide) (by rw [hml]; rfl) e12 opd_2 [(.ref ca), (.int 0), (.int 2)] [] rfl rfl rfl rfl (by decide) (by decide) rfl rfl (by decide) (by decide) (hb hby d4_36) rfl (fun v13 T13 h13 L13 X13 e13 z13 => ?_)
 obtain ⟨nb13, k13, rfl, Nq13, K13, sb13, V_nb13⟩ := z13; have N := Fr.app N Nq13
 have s_nb13 : h0.size ≤ nb13 := sb13; have sz_nb13 : h0.size ≤ nb13 := Nat.le_trans K.1 s_nb13; have ne_a1_nb13 : a1 ≠ nb13 := Nat.ne_of_lt (Nat.lt_of_lt_of_le E_a1.lt s_nb13)
 have E_a1 := E_a1.keep K13; have F_value_a1 := F_value_a1.keep K13 nin0; have F_coder_a1 := F_coder_a1.keep K13 nin0; have O := O.keep K13 all0; have K := K.trans K13 all0
 refine og_astore (L' := #[.val (.ref a1), .val (.ref ca), .val (.int 0), .val (.int 2), .val .null, .val (.ref nb13)]) X13 hx rfl rfl (hb hby d4_39) rfl ?_
 refine og_aloadN X13 hx rfl rfl (hb hby d4_41) rfl ?_
 refine og_aload X13 hx rfl rfl (hb hby d4_42) rfl ?_
 refine og_iloadN X13 hx rfl (hb hby d4_44) rfl ?_
 refine og_static (pc' := 48) (cells' := 1) (slots' := 2) (W := 1) X13 hx hZ (rm_cfa_2 l Z a0 hw nb13 k13 _ h13 n0 O V_nb13) hown (ow37 hw) (ow38 hw) (ow32 hw) (ow39 hw) (by decide) (by rw [hml]; rfl) e13 opd_3 [(.ref nb13), (.int 2)] [(.ref a1)] rfl rfl rfl rfl (by decide) (by decide) rfl rfl (by decide) (by decide) (hb hby d4_45) rfl (fun v14 T14 h14 L14 X14 e14 z14 => ?_)
 obtain ⟨rfl, Nq14, hq14⟩ := z14; replace e14 := e14.trans hq14; have N := Fr.app N Nq14
 refine og_putfield X14 hx hZ (ty := .byte) (host := "") hown (Or.inl (ow28 hw)) Via.refl e14 F_coder_a1 E_a1 (Or.inr ⟨(ow24 hw), rfl, hnm⟩) (ow8 hw) (by decide) rfl rfl (hb hby d4_48) rfl (fun T15 h15 X15 e15 W15 => ?_)
 have F_coder_a1_ := F_coder_a1.same W15
 have E_a1 := E_a1.wr W15; have F_value_a1 := F_value_a1.other W15 (Or.inr (slot_ne (Or.inr (ow23 hw)) (Or.inr (ow24 hw)) (by decide) (t := (.array .byte)) (t' := .byte) (by decide) (by decide))); have V_nb13 := V_nb13.other W15 (Ne.symm ne_a1_nb13); have K := K.wr W15 (Or.inl (List.mem_of_getElem? (i := 0) rfl))
 have N := Fr.snoc X15 N g_a1; have F_coder_a1 := F_coder_a1_
 refine og_aloadN X15 hx rfl rfl (hb hby d4_51) rfl ?_
 refine og_aload X15 hx rfl rfl (hb hby d4_52) rfl ?_
 refine og_putfield X15 hx hZ (ty := (.array .byte)) (host := "") hown (Or.inl (ow27 hw)) Via.refl e15 F_value_a1 E_a1 (Or.inr ⟨(ow23 hw), rfl, hnm⟩) (ow8 hw) (by decide) rfl rfl (hb hby d4_54) rfl (fun T16 h16 X16 e16 W16 => ?_)
 have F_value_a1_ := F_value_a1.same W16
 have E_a1 := E_a1.wr W16; have V_nb13 := V_nb13.other W16 (Ne.symm ne_a1_nb13); have F_coder_a1 := F_coder_a1.other W16 (Or.inr (slot_ne (Or.inr (ow24 hw)) (Or.inr (ow23 hw)) (by decide) (t := .byte) (t' := (.array .byte)) (by decide) (by decide))); have K := K.wr W16 (Or.inl (List.mem_of_getElem? (i := 0) rfl))
 have N := Fr.snoc X16 N g_a1; have F_value_a1 := F_value_a1_
 refine og_retV X16 hx hlk hret (hb hby d4_57) (by decide) (by decide) ?_
 rw [e16]; exact ⟨_, _, rfl, N, K, sz_nb13, E_a1, F_value_a1, F_coder_a1, V_nb13⟩
theorem rm_sn_2 (l : Launch) (Z : State) (a0 : Array Value) (hw : HW a0 Z) (a1 ca : Addr) (kc : ClassId) (c0 c1 : Int32) (hb0 : ¬ 255 < c0) (hb1 : ¬ 255 < c1) (cs : Int32) (hcs : ¬ cs = 0) (h0 : Heap) (n0 : Nat) (O : Old Z n0 h0) (E_a1 : Exa Z h0 a1 "java/lang/String") (F_value_a1 : Fld Z h0 a1 "java/lang/String" "value" "[B" .null) (F_coder_a1 : Fld Z h0 a1 "java/lang/String" "coder" "B" (.int 0)) (V_ca : Arv Z h0 ca kc .char (2 : Int32) [(.int c0), (.int c1)] (.int 0)) (S_CS : Sta Z Z.heap "java/lang/String" "COMPACT_STRINGS" "Z" (.int cs)) (g_a1 : n0 ≤ a1) (ne_ca_a1 : ca ≠ a1) :
  Con l Z (⟨"java/lang/String", "<init>", "([C)V"⟩ : MethodName) jdk_42_method_3_code 2 none ({ frames := 3, cells := 1, slots := 2, locals := 52 } : Room) #[(.ref a1), (.ref ca)] h0 (fun v h L => ∃ b k, v = none ∧ Fr n0 L ∧ Keep h0 h [a1] ∧ h0.size ≤ b ∧ Exa Z h a1 "java/lang/String" ∧ Fld Z h a1 "java/lang/String" "value" "[B" (.ref b) ∧ Fld Z h a1 "java/lang/String" "coder" "B" (.int 0) ∧ Arv Z h b k .byte (2 : Int32) [(.int c0.toInt8.toInt32), (.int c1.toInt8.toInt32)] (.int 0)) := by
 refine own_startC opn_3 ?_
 intro p e s m below meth c T0 X0 hx hby hml hZ hown hnm hret hlk e0
 have N := Fr.nil n0; have K := Keep.refl h0 [a1]
 refine OG.cast (oef2 m a1 ca) ?_
 refine og_aloadN X0 hx rfl rfl (hb hby d3_0) rfl ?_
 refine og_aloadN X0 hx rfl rfl (hb hby d3_1) rfl ?_
 refine og_iconst (v := 0) X0 hx rfl (hb hby d3_2) rfl ?_
 refine og_aloadN X0 hx rfl rfl (hb hby d3_3) rfl ?_
 refine og_arraylength X0 hx hZ e0 V_ca (hb hby d3_4) rfl ?_
 refine og_aconst_null X0 hx (hb hby d3_5) rfl ?_
 refine og_special (pc' := 9) (cells' := 1) (slots' := 2) (W := 0) X0 hx hZ (rm_sv_2 l Z a0 hw a1 ca kc c0 c1 hb0 hb1 cs hcs h0 n0 O E_a1 F_value_a1 F_coder_a1 V_ca S_CS g_a1 ne_ca_a1) rfl hown (ow14 hw) (ow15 hw) (ow9 hw) (ow17 hw) (by decide) (by rw [hml]; rfl) e0 opd_0 [(.ref ca), (.int 0), (.int 2), .null] [] rfl rfl rfl rfl (by decide) (by decide) rfl rfl (by decide) (by decide) (hb hby d3_6) rfl (fun v11 T11 h11 L11 X11 e11 z11 => ?_)
 obtain ⟨nb11, k11, rfl, Nq11, K11, sb11, E_a1', F_value_a1', F_coder_a1', V_nb11⟩ := z11; have N := Fr.app N Nq11
 have s_nb11 : h0.size ≤ nb11 := sb11; have sz_nb11 : h0.size ≤ nb11 := Nat.le_trans K.1 s_nb11
 have K := K.trans K11 (allS (Or.inl (List.mem_of_getElem? (i := 0) rfl)) all0)
 have E_a1 := E_a1'; have F_value_a1 := F_value_a1'; have F_coder_a1 := F_coder_a1'
 refine og_retV X11 hx hlk hret (hb hby d3_9) (by decide) (by decide) ?_
 rw [e11]; exact ⟨_, _, rfl, N, K, sz_nb11, E_a1, F_value_a1, F_coder_a1, V_nb11⟩
theorem rm_c2_3 (l : Launch) (Z : State) (a0 : Array Value) (hw : HW a0 Z) (ca ba : Addr) (kc kb : ClassId) (c0 c1 c2 : Int32) (hb0 : ¬ 255 < c0) (hb1 : ¬ 255 < c1) (hb2 : ¬ 255 < c2) (h0 : Heap) (n0 : Nat) (O : Old Z n0 h0) (V_ca : Arv Z h0 ca kc .char (3 : Int32) [(.int c0), (.int c1), (.int c2)] (.int 0)) (V_ba : Arv Z h0 ba kb .byte (3 : Int32) [(.int 0), (.int 0), (.int 0)] (.int 0)) (g_ba : n0 ≤ ba) (ne_ca_ba : ca ≠ ba) :
  Con l Z (⟨"java/lang/StringUTF16", "compress", "([CI[BII)I"⟩ : MethodName) jdk_52_method_21_code 7 (some .int) ({ frames := 0, cells := 0, slots := 0, locals := 0 } : Room) #[(.ref ca), (.int 0), (.ref ba), (.int 0), (.int 3)] h0 (fun v h L => v = some (.int 3) ∧ Fr n0 L ∧ Keep h0 h [ba] ∧ Arv Z h ba kb .byte (3 : Int32) [(.int c0.toInt8.toInt32), (.int c1.toInt8.toInt32), (.int c2.toInt8.toInt32)] (.int 0)) := by
 refine own_startC opn_7 ?_
 intro p e s m below meth c T0 X0 hx hby hml hZ hown hnm hret hlk e0
 have N := Fr.nil n0; have K := Keep.refl h0 [ba]
 refine OG.cast (oef3 m ca (0 : Int32) ba (0 : Int32) (3 : Int32)) ?_
 refine og_iconst (v := 0) X0 hx rfl (hb hby d7_0) rfl ?_
 refine og_istore (L' := #[.val (.ref ca), .val (.int 0), .val (.ref ba), .val (.int 0), .val (.int 3), .val (.int 0), .unset]) X0 hx rfl (hb hby d7_1) rfl ?_
 refine og_iload X0 hx rfl (hb hby d7_3) rfl ?_
 refine og_iload X0 hx rfl (hb hby d7_5) rfl ?_
 refine og_icmp_ge (pc1 := 44) (pc2 := 10) X0 hx (hb hby d7_7) (by decide) (by decide) rfl (fun q => absurd q (by decide)) (fun _ => ?_)
 refine og_aloadN X0 hx rfl rfl (hb hby d7_10) rfl ?_
 refine og_iloadN X0 hx rfl (hb hby d7_11) rfl ?_
 refine og_caload (v := (.int c0)) X0 hx hZ e0 V_ca ⟨by decide, by decide⟩ rfl (hb hby d7_12) rfl ?_
 refine og_istore (L' := #[.val (.ref ca), .val (.int 0), .val (.ref ba), .val (.int 0), .val (.int 3), .val (.int 0), .val (.int c0)]) X0 hx rfl (hb hby d7_13) rfl ?_
 refine og_iload X0 hx rfl (hb hby d7_15) rfl ?_
 refine og_sipush (v := 255) X0 hx rfl (hb hby d7_17) rfl ?_
 refine og_icmp_le (pc1 := 26) (pc2 := 23) X0 hx (hb hby d7_20) (by decide) (by decide) rfl (fun _ => ?_) (fun q => absurd q hb0)
 refine og_aloadN X0 hx rfl rfl (hb hby d7_26) rfl ?_
 refine og_iloadN X0 hx rfl (hb hby d7_27) rfl ?_
 refine og_iload X0 hx rfl (hb hby d7_28) rfl ?_
 refine og_i2b X0 hx (hb hby d7_30) rfl ?_
 refine og_bastore X0 hx hZ e0 V_ba ⟨by decide, by decide⟩ 0 (by decide) (Nat.le_of_ble_eq_true rfl) (hb hby d7_31) rfl (fun T11 h11 X11 e11 W11 V11 => ?_)
 have V_ca := V_ca.other W11 ne_ca_ba; have K := K.wr W11 (Or.inl (List.mem_of_getElem? (i := 0) rfl))
 have N := Fr.snoc X11 N g_ba
 have V_ba : Arv Z h11 ba kb .byte (3 : Int32) [(.int (nar .byte (c0.toInt8.toInt32))), (.int 0), (.int 0)] (.int 0) := V11
 rw [own_nb] at V_ba
 refine og_iinc (L' := #[.val (.ref ca), .val (.int 1), .val (.ref ba), .val (.int 0), .val (.int 3), .val (.int 0), .val (.int c0)]) (w := 1) X11 hx rfl rfl rfl (hb hby d7_32) rfl ?_
 refine og_iinc (L' := #[.val (.ref ca), .val (.int 1), .val (.ref ba), .val (.int 1), .val (.int 3), .val (.int 0), .val (.int c0)]) (w := 1) X11 hx rfl rfl rfl (hb hby d7_35) rfl ?_
 refine og_iinc (L' := #[.val (.ref ca), .val (.int 1), .val (.ref ba), .val (.int 1), .val (.int 3), .val (.int 1), .val (.int c0)]) (w := 1) X11 hx rfl rfl rfl (hb hby d7_38) rfl ?_
 refine og_goto (pc' := 3) X11 hx (hb hby d7_41) (by decide) (by decide) ?_
 refine og_iload X11 hx rfl (hb hby d7_3) rfl ?_
 refine og_iload X11 hx rfl (hb hby d7_5) rfl ?_
 refine og_icmp_ge (pc1 := 44) (pc2 := 10) X11 hx (hb hby d7_7) (by decide) (by decide) rfl (fun q => absurd q (by decide)) (fun _ => ?_)
 refine og_aloadN X11 hx rfl rfl (hb hby d7_10) rfl ?_
 refine og_iloadN X11 hx rfl (hb hby d7_11) rfl ?_
 refine og_caload (v := (.int c1)) X11 hx hZ e11 V_ca ⟨by decide, by decide⟩ rfl (hb hby d7_12) rfl ?_
 refine og_istore (L' := #[.val (.ref ca), .val (.int 1), .val (.ref ba), .val (.int 1), .val (.int 3), .val (.int 1), .val (.int c1)]) X11 hx rfl (hb hby d7_13) rfl ?_
 refine og_iload X11 hx rfl (hb hby d7_15) rfl ?_
 refine og_sipush (v := 255) X11 hx rfl (hb hby d7_17) rfl ?_
 refine og_icmp_le (pc1 := 26) (pc2 := 23) X11 hx (hb hby d7_20) (by decide) (by decide) rfl (fun _ => ?_) (fun q => absurd q hb1)
 refine og_aloadN X11 hx rfl rfl (hb hby d7_26) rfl ?_
 refine og_iloadN X11 hx rfl (hb hby d7_27) rfl ?_
 refine og_iload X11 hx rfl (hb hby d7_28) rfl ?_
 refine og_i2b X11 hx (hb hby d7_30) rfl ?_
 refine og_bastore X11 hx hZ e11 V_ba ⟨by decide, by decide⟩ 1 (by decide) (Nat.le_of_ble_eq_true rfl) (hb hby d7_31) rfl (fun T12 h12 X12 e12 W12 V12 => ?_)
 have V_ca := V_ca.other W12 ne_ca_ba; have K := K.wr W12 (Or.inl (List.mem_of_getElem? (i := 0) rfl))
 have N := Fr.snoc X12 N g_ba
 have V_ba : Arv Z h12 ba kb .byte (3 : Int32) [(.int c0.toInt8.toInt32), (.int (nar .byte (c1.toInt8.toInt32))), (.int 0)] (.int 0) := V12
 rw [own_nb] at V_ba
 refine og_iinc (L' := #[.val (.ref ca), .val (.int 2), .val (.ref ba), .val (.int 1), .val (.int 3), .val (.int 1), .val (.int c1)]) (w := 1) X12 hx rfl rfl rfl (hb hby d7_32) rfl ?_
 refine og_iinc (L' := #[.val (.ref ca), .val (.int 2), .val (.ref ba), .val (.int 2), .val (.int 3), .val (.int 1), .val (.int c1)]) (w := 1) X12 hx rfl rfl rfl (hb hby d7_35) rfl ?_
 refine og_iinc (L' := #[.val (.ref ca), .val (.int 2), .val (.ref ba), .val (.int 2), .val (.int 3), .val (.int 2), .val (.int c1)]) (w := 1) X12 hx rfl rfl rfl (hb hby d7_38) rfl ?_
 refine og_goto (pc' := 3) X12 hx (hb hby d7_41) (by decide) (by decide) ?_
 refine og_iload X12 hx rfl (hb hby d7_3) rfl ?_
 refine og_iload X12 hx rfl (hb hby d7_5) rfl ?_
 refine og_icmp_ge (pc1 := 44) (pc2 := 10) X12 hx (hb hby d7_7) (by decide) (by decide) rfl (fun q => absurd q (by decide)) (fun _ => ?_)
 refine og_aloadN X12 hx rfl rfl (hb hby d7_10) rfl ?_
 refine og_iloadN X12 hx rfl (hb hby d7_11) rfl ?_
 refine og_caload (v := (.int c2)) X12 hx hZ e12 V_ca ⟨by decide, by decide⟩ rfl (hb hby d7_12) rfl ?_
 refine og_istore (L' := #[.val (.ref ca), .val (.int 2), .val (.ref ba), .val (.int 2), .val (.int 3), .val (.int 2), .val (.int c2)]) X12 hx rfl (hb hby d7_13) rfl ?_
 refine og_iload X12 hx rfl (hb hby d7_15) rfl ?_
 refine og_sipush (v := 255) X12 hx rfl (hb hby d7_17) rfl ?_
 refine og_icmp_le (pc1 := 26) (pc2 := 23) X12 hx (hb hby d7_20) (by decide) (by decide) rfl (fun _ => ?_) (fun q => absurd q hb2)
 refine og_aloadN X12 hx rfl rfl (hb hby d7_26) rfl ?_
 refine og_iloadN X12 hx rfl (hb hby d7_27) rfl ?_
 refine og_iload X12 hx rfl (hb hby d7_28) rfl ?_
 refine og_i2b X12 hx (hb hby d7_30) rfl ?_
 refine og_bastore X12 hx hZ e12 V_ba ⟨by decide, by decide⟩ 2 (by decide) (Nat.le_of_ble_eq_true rfl) (hb hby d7_31) rfl (fun T13 h13 X13 e13 W13 V13 => ?_)
 have K := K.wr W13 (Or.inl (List.mem_of_getElem? (i := 0) rfl))
 have N := Fr.snoc X13 N g_ba
 have V_ba : Arv Z h13 ba kb .byte (3 : Int32) [(.int c0.toInt8.toInt32), (.int c1.toInt8.toInt32), (.int (nar .byte (c2.toInt8.toInt32)))] (.int 0) := V13
 rw [own_nb] at V_ba
 refine og_iinc (L' := #[.val (.ref ca), .val (.int 3), .val (.ref ba), .val (.int 2), .val (.int 3), .val (.int 2), .val (.int c2)]) (w := 1) X13 hx rfl rfl rfl (hb hby d7_32) rfl ?_
 refine og_iinc (L' := #[.val (.ref ca), .val (.int 3), .val (.ref ba), .val (.int 3), .val (.int 3), .val (.int 2), .val (.int c2)]) (w := 1) X13 hx rfl rfl rfl (hb hby d7_35) rfl ?_
 refine og_iinc (L' := #[.val (.ref ca), .val (.int 3), .val (.ref ba), .val (.int 3), .val (.int 3), .val (.int 3), .val (.int c2)]) (w := 1) X13 hx rfl rfl rfl (hb hby d7_38) rfl ?_
 refine og_goto (pc' := 3) X13 hx (hb hby d7_41) (by decide) (by decide) ?_
 refine og_iload X13 hx rfl (hb hby d7_3) rfl ?_
 refine og_iload X13 hx rfl (hb hby d7_5) rfl ?_
 refine og_icmp_ge (pc1 := 44) (pc2 := 10) X13 hx (hb hby d7_7) (by decide) (by decide) rfl (fun _ => ?_) (fun q => absurd q (by decide))
 refine og_iload X13 hx rfl (hb hby d7_44) rfl ?_
 refine og_retI X13 hx hlk hret (hb hby d7_46) (by decide) (by decide) ?_
 rw [e13]; exact ⟨rfl, N, K, V_ba⟩
theorem rm_c1_3 (l : Launch) (Z : State) (a0 : Array Value) (hw : HW a0 Z) (ca : Addr) (kc : ClassId) (c0 c1 c2 : Int32) (hb0 : ¬ 255 < c0) (hb1 : ¬ 255 < c1) (hb2 : ¬ 255 < c2) (h0 : Heap) (n0 : Nat) (O : Old Z n0 h0) (V_ca : Arv Z h0 ca kc .char (3 : Int32) [(.int c0), (.int c1), (.int c2)] (.int 0)) :
  Con l Z (⟨"java/lang/StringUTF16", "compress", "([CII)[B"⟩ : MethodName) jdk_52_method_16_code 6 (some (.array .byte)) ({ frames := 1, cells := 1, slots := 3, locals := 18 } : Room) #[(.ref ca), (.int 0), (.int 3)] h0 (fun v h L => ∃ b k, v = some (.ref b) ∧ Fr n0 L ∧ Keep h0 h [] ∧ h0.size ≤ b ∧ Arv Z h b k .byte (3 : Int32) [(.int c0.toInt8.toInt32), (.int c1.toInt8.toInt32), (.int c2.toInt8.toInt32)] (.int 0)) := by
 refine own_startC opn_6 ?_
 intro p e s m below meth c T0 X0 hx hby hml hZ hown hnm hret hlk e0
 have N := Fr.nil n0; have K := Keep.refl h0 []
 refine OG.cast (oef4 m ca (0 : Int32) (3 : Int32)) ?_
 refine og_iloadN X0 hx rfl (hb hby d6_0) rfl ?_
 refine og_newarray (pc' := 3) (cells' := 1) (slots' := 3) (cap := 3) (ty := .byte) X0 hx hZ rfl (ow22 hw) e0 (by decide) (by decide) (by decide) (hb hby d6_1) rfl rfl rfl (by decide) (by decide) (fun T11 h11 nb11 kA11 X11 e11 E11 q11 V_nb11 => ?_)
 have s_nb11 : h0.size ≤ nb11 := Nat.le_of_eq q11.symm; have g_nb11 : n0 ≤ nb11 := Nat.le_trans (own_n0 O) s_nb11; have sz_nb11 : h0.size ≤ nb11 := Nat.le_trans K.1 s_nb11; have ne_ca_nb11 : ca ≠ nb11 := Nat.ne_of_lt (Nat.lt_of_lt_of_le V_ca.lt s_nb11)
 have V_ca := V_ca.ext E11; have O := O.ext E11; have K := K.ext E11
 have V_nb11 : Arv Z h11 nb11 kA11 .byte (3 : Int32) [(.int 0), (.int 0), (.int 0)] (.int 0) := V_nb11.pad (pad_rep [] (.int 0) 3)
 refine og_astoreN (L' := #[.val (.ref ca), .val (.int 0), .val (.int 3), .val (.ref nb11), .unset, .unset]) X11 hx rfl rfl (hb hby d6_3) rfl ?_
 refine og_aloadN X11 hx rfl rfl (hb hby d6_4) rfl ?_
 refine og_iloadN X11 hx rfl (hb hby d6_5) rfl ?_
 refine og_aloadN X11 hx rfl rfl (hb hby d6_6) rfl ?_
 refine og_iconst (v := 0) X11 hx rfl (hb hby d6_7) rfl ?_
 refine og_iloadN X11 hx rfl (hb hby d6_8) rfl ?_
 refine og_static (pc' := 12) (cells' := 1) (slots' := 3) (W := 0) X11 hx hZ (rm_c2_3 l Z a0 hw ca nb11 kc kA11 c0 c1 c2 hb0 hb1 hb2 h11 n0 O V_ca V_nb11 g_nb11 ne_ca_nb11) hown (ow34 hw) (ow35 hw) (ow32 hw) (ow36 hw) (by decide) (by rw [hml]; rfl) e11 opd_1 [(.ref ca), (.int 0), (.ref nb11), (.int 0), (.int 3)] [] rfl rfl rfl rfl (by decide) (by decide) rfl rfl (by decide) (by decide) (hb hby d6_9) rfl (fun v12 T12 h12 L12 X12 e12 z12 => ?_)
 obtain ⟨rfl, Nq12, K12, V_nb11'⟩ := z12; have N := Fr.app N Nq12
 have K := K.trans K12 (allS (Or.inr sz_nb11) all0)
 have V_nb11 := V_nb11'
 refine og_istore (L' := #[.val (.ref ca), .val (.int 0), .val (.int 3), .val (.ref nb11), .val (.int 3), .unset]) X12 hx rfl (hb hby d6_12) rfl ?_
 refine og_iload X12 hx rfl (hb hby d6_14) rfl ?_
 refine og_iloadN X12 hx rfl (hb hby d6_16) rfl ?_
 refine og_icmp_eq (pc1 := 57) (pc2 := 20) X12 hx (hb hby d6_17) (by decide) (by decide) rfl (fun _ => ?_) (fun q => absurd q (by decide))
 refine og_aloadN X12 hx rfl rfl (hb hby d6_57) rfl ?_
 refine og_retR X12 hx hlk hret rfl rfl rfl (hb hby d6_58) (by decide) (by decide) ?_
 rw [e12]; exact ⟨_, _, rfl, N, K, sz_nb11, V_nb11⟩
theorem rm_cfa_3 (l : Launch) (Z : State) (a0 : Array Value) (hw : HW a0 Z) (ba : Addr) (kb : ClassId) (vs : List Value) (h0 : Heap) (n0 : Nat) (O : Old Z n0 h0) (V_ba : Arv Z h0 ba kb .byte (3 : Int32) vs (.int 0)) :
  Con l Z (⟨"java/lang/StringUTF16", "coderFromArrayLen", "([BI)B"⟩ : MethodName) jdk_52_method_15_code 2 (some .byte) ({ frames := 0, cells := 0, slots := 0, locals := 0 } : Room) #[(.ref ba), (.int 3)] h0 (fun v h L => v = some (.int 0) ∧ Fr n0 L ∧ h = h0) := by
 refine own_startC opn_8 ?_
 intro p e s m below meth c T0 X0 hx hby hml hZ hown hnm hret hlk e0
 have N := Fr.nil n0
 refine OG.cast (oef5 m ba (3 : Int32)) ?_
 refine og_iloadN X0 hx rfl (hb hby d8_0) rfl ?_
 refine og_aloadN X0 hx rfl rfl (hb hby d8_1) rfl ?_
 refine og_arraylength X0 hx hZ e0 V_ba (hb hby d8_2) rfl ?_
 refine og_isub X0 hx (hb hby d8_3) rfl ?_
 show OG p e below _ (T0.setTop (mkF m 4 #[.val (.ref ba), .val (.int 3)] [(.int 0)]))
 refine og_bipush (v := 31) X0 hx rfl (hb hby d8_4) rfl ?_
 refine og_iushr X0 hx (hb hby d8_6) rfl ?_
 show OG p e below _ (T0.setTop (mkF m 7 #[.val (.ref ba), .val (.int 3)] [(.int 0)]))
 refine og_i2b X0 hx (hb hby d8_7) rfl ?_
 show OG p e below _ (T0.setTop (mkF m 8 #[.val (.ref ba), .val (.int 3)] [(.int 0)]))
 refine og_retN X0 hx hlk hret (by simp) (hb hby d8_8) (by decide) (by decide) ?_
 rw [e0]; exact ⟨rfl, N, rfl⟩
theorem rm_sv_3 (l : Launch) (Z : State) (a0 : Array Value) (hw : HW a0 Z) (a1 ca : Addr) (kc : ClassId) (c0 c1 c2 : Int32) (hb0 : ¬ 255 < c0) (hb1 : ¬ 255 < c1) (hb2 : ¬ 255 < c2) (cs : Int32) (hcs : ¬ cs = 0) (h0 : Heap) (n0 : Nat) (O : Old Z n0 h0) (E_a1 : Exa Z h0 a1 "java/lang/String") (F_value_a1 : Fld Z h0 a1 "java/lang/String" "value" "[B" .null) (F_coder_a1 : Fld Z h0 a1 "java/lang/String" "coder" "B" (.int 0)) (V_ca : Arv Z h0 ca kc .char (3 : Int32) [(.int c0), (.int c1), (.int c2)] (.int 0)) (S_CS : Sta Z Z.heap "java/lang/String" "COMPACT_STRINGS" "Z" (.int cs)) (g_a1 : n0 ≤ a1) (ne_ca_a1 : ca ≠ a1) :
  Con l Z (⟨"java/lang/String", "<init>", "([CIILjava/lang/Void;)V"⟩ : MethodName) jdk_42_method_149_code 6 none ({ frames := 2, cells := 1, slots := 3, locals := 35 } : Room) #[(.ref a1), (.ref ca), (.int 0), (.int 3), .null] h0 (fun v h L => ∃ b k, v = none ∧ Fr n0 L ∧ Keep h0 h [a1] ∧ h0.size ≤ b ∧ Exa Z h a1 "java/lang/String" ∧ Fld Z h a1 "java/lang/String" "value" "[B" (.ref b) ∧ Fld Z h a1 "java/lang/String" "coder" "B" (.int 0) ∧ Arv Z h b k .byte (3 : Int32) [(.int c0.toInt8.toInt32), (.int c1.toInt8.toInt32), (.int c2.toInt8.toInt32)] (.int 0)) := by
 refine own_startC opn_4 ?_
 intro p e s m below meth c T0 X0 hx hby hml hZ hown hnm hret hlk e0
 have N := Fr.nil n0; have K := Keep.refl h0 [a1]
 refine OG.cast (oef1 m a1 ca (0 : Int32) (3 : Int32)) ?_
 refine og_aloadN X0 hx rfl rfl (hb hby d4_0) rfl ?_
 refine og_initO (pc' := 4) X0 hx hZ (W := 0) (by rw [hml]; rfl) hown (ow18 hw) (ow19 hw) (ow20 hw) e0 rfl (by decide) (by decide) (hb hby d4_1) rfl (fun T11 X11 e11 => ?_)
 refine og_iloadN X11 hx rfl (hb hby d4_4) rfl ?_
 refine og_if_ne (pc1 := 27) (pc2 := 8) X11 hx (hb hby d4_5) (by decide) (by decide) rfl (fun _ => ?_) (fun q => absurd q (by decide))
 refine og_getstatic X11 hx hZ (host := "") hown (Or.inl (ow29 hw)) Via.refl e11 (S_CS.ext O.2) (hb hby d4_27) rfl (fun T12 X12 e12 => ?_)
 refine og_if_eq (pc1 := 58) (pc2 := 33) X12 hx (hb hby d4_30) (by decide) (by decide) rfl (fun q => absurd q hcs) (fun _ => ?_)
 refine og_aloadN X12 hx rfl rfl (hb hby d4_33) rfl ?_
 refine og_iloadN X12 hx rfl (hb hby d4_34) rfl ?_
 refine og_iloadN X12 hx rfl (hb hby d4_35) rfl ?_
 refine og_static (pc' := 39) (cells' := 1) (slots' := 3) (W := 0) X12 hx hZ (rm_c1_3 l Z a0 hw ca kc c0 c1 c2 hb0 hb1 hb2 h0 n0 O V_ca) hown (ow30 hw) (ow31 hw) (ow32 hw) (ow33 hw) (by decide) (by rw [hml]; rfl) e12 opd_2 [(.ref ca), (.int 0), (.int 3)] [] rfl rfl rfl rfl (by decide) (by decide) rfl rfl (by decide) (by decide) (hb hby d4_36) rfl (fun v13 T13 h13 L13 X13 e13 z13 => ?_)
 obtain ⟨nb13, k13, rfl, Nq13, K13, sb13, V_nb13⟩ := z13; have N := Fr.app N Nq13
 have s_nb13 : h0.size ≤ nb13 := sb13; have sz_nb13 : h0.size ≤ nb13 := Nat.le_trans K.1 s_nb13; have ne_a1_nb13 : a1 ≠ nb13 := Nat.ne_of_lt (Nat.lt_of_lt_of_le E_a1.lt s_nb13)
 have E_a1 := E_a1.keep K13; have F_value_a1 := F_value_a1.keep K13 nin0; have F_coder_a1 := F_coder_a1.keep K13 nin0; have O := O.keep K13 all0; have K := K.trans K13 all0
 refine og_astore (L' := #[.val (.ref a1), .val (.ref ca), .val (.int 0), .val (.int 3), .val .null, .val (.ref nb13)]) X13 hx rfl rfl (hb hby d4_39) rfl ?_
 refine og_aloadN X13 hx rfl rfl (hb hby d4_41) rfl ?_
 refine og_aload X13 hx rfl rfl (hb hby d4_42) rfl ?_
 refine og_iloadN X13 hx rfl (hb hby d4_44) rfl ?_
 refine og_static (pc' := 48) (cells' := 1) (slots' := 3) (W := 1) X13 hx hZ (rm_cfa_3 l Z a0 hw nb13 k13 _ h13 n0 O V_nb13) hown (ow37 hw) (ow38 hw) (ow32 hw) (ow39 hw) (by decide) (by rw [hml]; rfl) e13 opd_3 [(.ref nb13), (.int 3)] [(.ref a1)] rfl rfl rfl rfl (by decide) (by decide) rfl rfl (by decide) (by decide) (hb hby d4_45) rfl (fun v14 T14 h14 L14 X14 e14 z14 => ?_)
 obtain ⟨rfl, Nq14, hq14⟩ := z14; replace e14 := e14.trans hq14; have N := Fr.app N Nq14
 refine og_putfield X14 hx hZ (ty := .byte) (host := "") hown (Or.inl (ow28 hw)) Via.refl e14 F_coder_a1 E_a1 (Or.inr ⟨(ow24 hw), rfl, hnm⟩) (ow8 hw) (by decide) rfl rfl (hb hby d4_48) rfl (fun T15 h15 X15 e15 W15 => ?_)
 have F_coder_a1_ := F_coder_a1.same W15
 have E_a1 := E_a1.wr W15; have F_value_a1 := F_value_a1.other W15 (Or.inr (slot_ne (Or.inr (ow23 hw)) (Or.inr (ow24 hw)) (by decide) (t := (.array .byte)) (t' := .byte) (by decide) (by decide))); have V_nb13 := V_nb13.other W15 (Ne.symm ne_a1_nb13); have K := K.wr W15 (Or.inl (List.mem_of_getElem? (i := 0) rfl))
 have N := Fr.snoc X15 N g_a1; have F_coder_a1 := F_coder_a1_
 refine og_aloadN X15 hx rfl rfl (hb hby d4_51) rfl ?_
 refine og_aload X15 hx rfl rfl (hb hby d4_52) rfl ?_
 refine og_putfield X15 hx hZ (ty := (.array .byte)) (host := "") hown (Or.inl (ow27 hw)) Via.refl e15 F_value_a1 E_a1 (Or.inr ⟨(ow23 hw), rfl, hnm⟩) (ow8 hw) (by decide) rfl rfl (hb hby d4_54) rfl (fun T16 h16 X16 e16 W16 => ?_)
 have F_value_a1_ := F_value_a1.same W16
 have E_a1 := E_a1.wr W16; have V_nb13 := V_nb13.other W16 (Ne.symm ne_a1_nb13); have F_coder_a1 := F_coder_a1.other W16 (Or.inr (slot_ne (Or.inr (ow24 hw)) (Or.inr (ow23 hw)) (by decide) (t := .byte) (t' := (.array .byte)) (by decide) (by decide))); have K := K.wr W16 (Or.inl (List.mem_of_getElem? (i := 0) rfl))
 have N := Fr.snoc X16 N g_a1; have F_value_a1 := F_value_a1_
 refine og_retV X16 hx hlk hret (hb hby d4_57) (by decide) (by decide) ?_
 rw [e16]; exact ⟨_, _, rfl, N, K, sz_nb13, E_a1, F_value_a1, F_coder_a1, V_nb13⟩
theorem rm_sn_3 (l : Launch) (Z : State) (a0 : Array Value) (hw : HW a0 Z) (a1 ca : Addr) (kc : ClassId) (c0 c1 c2 : Int32) (hb0 : ¬ 255 < c0) (hb1 : ¬ 255 < c1) (hb2 : ¬ 255 < c2) (cs : Int32) (hcs : ¬ cs = 0) (h0 : Heap) (n0 : Nat) (O : Old Z n0 h0) (E_a1 : Exa Z h0 a1 "java/lang/String") (F_value_a1 : Fld Z h0 a1 "java/lang/String" "value" "[B" .null) (F_coder_a1 : Fld Z h0 a1 "java/lang/String" "coder" "B" (.int 0)) (V_ca : Arv Z h0 ca kc .char (3 : Int32) [(.int c0), (.int c1), (.int c2)] (.int 0)) (S_CS : Sta Z Z.heap "java/lang/String" "COMPACT_STRINGS" "Z" (.int cs)) (g_a1 : n0 ≤ a1) (ne_ca_a1 : ca ≠ a1) :
  Con l Z (⟨"java/lang/String", "<init>", "([C)V"⟩ : MethodName) jdk_42_method_3_code 2 none ({ frames := 3, cells := 1, slots := 3, locals := 52 } : Room) #[(.ref a1), (.ref ca)] h0 (fun v h L => ∃ b k, v = none ∧ Fr n0 L ∧ Keep h0 h [a1] ∧ h0.size ≤ b ∧ Exa Z h a1 "java/lang/String" ∧ Fld Z h a1 "java/lang/String" "value" "[B" (.ref b) ∧ Fld Z h a1 "java/lang/String" "coder" "B" (.int 0) ∧ Arv Z h b k .byte (3 : Int32) [(.int c0.toInt8.toInt32), (.int c1.toInt8.toInt32), (.int c2.toInt8.toInt32)] (.int 0)) := by
 refine own_startC opn_3 ?_
 intro p e s m below meth c T0 X0 hx hby hml hZ hown hnm hret hlk e0
 have N := Fr.nil n0; have K := Keep.refl h0 [a1]
 refine OG.cast (oef2 m a1 ca) ?_
 refine og_aloadN X0 hx rfl rfl (hb hby d3_0) rfl ?_
 refine og_aloadN X0 hx rfl rfl (hb hby d3_1) rfl ?_
 refine og_iconst (v := 0) X0 hx rfl (hb hby d3_2) rfl ?_
 refine og_aloadN X0 hx rfl rfl (hb hby d3_3) rfl ?_
 refine og_arraylength X0 hx hZ e0 V_ca (hb hby d3_4) rfl ?_
 refine og_aconst_null X0 hx (hb hby d3_5) rfl ?_
 refine og_special (pc' := 9) (cells' := 1) (slots' := 3) (W := 0) X0 hx hZ (rm_sv_3 l Z a0 hw a1 ca kc c0 c1 c2 hb0 hb1 hb2 cs hcs h0 n0 O E_a1 F_value_a1 F_coder_a1 V_ca S_CS g_a1 ne_ca_a1) rfl hown (ow14 hw) (ow15 hw) (ow9 hw) (ow17 hw) (by decide) (by rw [hml]; rfl) e0 opd_0 [(.ref ca), (.int 0), (.int 3), .null] [] rfl rfl rfl rfl (by decide) (by decide) rfl rfl (by decide) (by decide) (hb hby d3_6) rfl (fun v11 T11 h11 L11 X11 e11 z11 => ?_)
 obtain ⟨nb11, k11, rfl, Nq11, K11, sb11, E_a1', F_value_a1', F_coder_a1', V_nb11⟩ := z11; have N := Fr.app N Nq11
 have s_nb11 : h0.size ≤ nb11 := sb11; have sz_nb11 : h0.size ≤ nb11 := Nat.le_trans K.1 s_nb11
 have K := K.trans K11 (allS (Or.inl (List.mem_of_getElem? (i := 0) rfl)) all0)
 have E_a1 := E_a1'; have F_value_a1 := F_value_a1'; have F_coder_a1 := F_coder_a1'
 refine og_retV X11 hx hlk hret (hb hby d3_9) (by decide) (by decide) ?_
 rw [e11]; exact ⟨_, _, rfl, N, K, sz_nb11, E_a1, F_value_a1, F_coder_a1, V_nb11⟩
theorem rm_leG (l : Launch) (Z : State) (a0 : Array Value) (hw : HW a0 Z) (b1 b2 : Addr) (k1 k2 : ClassId) (us ws : List Int32) (n1 n2 : Int32) (hn1 : n1.toNatClampNeg = us.length) (hn2 : n2.toNatClampNeg = ws.length) (hp1 : ¬ n1 < 0) (hp2 : ¬ n2 < 0) (r : Int32) (hr : r = if us = ws then 1 else 0) (h0 : Heap) (n0 : Nat) (O : Old Z n0 h0) (V_b1 : Arv Z h0 b1 k1 .byte n1 (us.map Value.int) (.int 0)) (V_b2 : Arv Z h0 b2 k2 .byte n2 (ws.map Value.int) (.int 0)) :
    Con l Z (⟨"java/lang/StringLatin1", "equals", "([B[B)Z"⟩ : MethodName) jdk_43_method_13_code 3 (some .boolean) ({ frames := 0, cells := 0, slots := 0, locals := 0 } : Room) #[(.ref b1), (.ref b2)] h0 (fun v h L => v = some (.int r) ∧ Fr n0 L ∧ h = h0) := by
  refine own_startC opn_14 ?_
  intro p e s m below meth c T0 X0 hx hby hml hZ hown hnm hret hlk e0
  have N := Fr.nil n0
  refine OG.cast (oef6 m b1 b2) ?_
  refine og_aloadN X0 hx rfl rfl (hb hby d14_0) rfl ?_
  refine og_arraylength X0 hx hZ e0 V_b1 (hb hby d14_1) rfl ?_
  refine og_aloadN X0 hx rfl rfl (hb hby d14_2) rfl ?_
  refine og_arraylength X0 hx hZ e0 V_b2 (hb hby d14_3) rfl ?_
  refine og_icmp_ne (pc1 := 34) (pc2 := 7) X0 hx (hb hby d14_4) (by decide) (by decide) rfl (fun hc4 => ?_) (fun hc4 => ?_)
  ·
    refine og_iconst (v := 0) X0 hx rfl (hb hby d14_34) rfl ?_
    refine og_retN X0 hx hlk hret (by simp) (hb hby d14_35) (by decide) (by decide) ?_
    rw [e0]; refine ⟨?_, N, rfl⟩
    show some (Value.int 0) = _
    rw [hr, if_neg (fun q => hc4 (own_len_ne q hn1 hn2 hp1 hp2))]
  ·
    have hnn : n1 = n2 := hc4
    have hle : us.length = ws.length := by rw [← hn1, ← hn2, hnn]
    refine og_iconst (v := 0) X0 hx rfl (hb hby d14_7) rfl ?_
    refine og_istoreN (L' := #[.val (.ref b1), .val (.ref b2), .val (.int 0)]) X0 hx rfl (hb hby d14_8) rfl ?_
    have LOOP : ∀ (k i : Nat) (T11 : State) (l11 : List Loc) (X11 : Stand p l e ({ frames := 0, cells := 0, slots := 0, locals := 0 } : Room) s m #[(.ref b1), (.ref b2)] below meth c T11 l11 0 0) (e11 : T11.heap = h0) (N : Fr n0 l11), i + k = us.length → (∀ j, j < i → us[j]? = ws[j]?) → ∀ z : Int32, (¬ z < 0 ∧ z.toNatClampNeg = i) → OG p e below (OFin s (fun v h L => v = some (.int r) ∧ Fr n0 L ∧ h = h0) 0 0) (T11.setTop (mkF m 9 #[.val (.ref b1), .val (.ref b2), .val (.int z)] [])) := by
      intro k
      induction k with
      | zero =>
        intro i T11 l11 X11 e11 N hik hj z hi
        have hlt : ¬ z < n1 := own_nlt hi hn1 (by omega)
        refine og_iloadN X11 hx rfl (hb hby d14_9) rfl ?_
        refine og_aloadN X11 hx rfl rfl (hb hby d14_10) rfl ?_
        refine og_arraylength X11 hx hZ e11 V_b1 (hb hby d14_11) rfl ?_
        refine og_icmp_ge (pc1 := 32) (pc2 := 15) X11 hx (hb hby d14_12) (by decide) (by decide) rfl (fun _ => ?_) (fun q => absurd q hlt)
        refine og_iconst (v := 1) X11 hx rfl (hb hby d14_32) rfl ?_
        refine og_retN X11 hx hlk hret (by simp) (hb hby d14_33) (by decide) (by decide) ?_
        rw [e11]; refine ⟨?_, N, rfl⟩
        show some (Value.int 1) = _
        rw [hr, if_pos (own_eqall hle (by omega) hj)]
      | succ k ih =>
        intro i T11 l11 X11 e11 N hik hj z hi
        have hlt : i < us.length := by omega
        have hlt1 : z < n1 := own_lt1 hi hn1 hp1 hlt
        have hlt2 : z < n2 := hnn ▸ hlt1
        refine og_iloadN X11 hx rfl (hb hby d14_9) rfl ?_
        refine og_aloadN X11 hx rfl rfl (hb hby d14_10) rfl ?_
        refine og_arraylength X11 hx hZ e11 V_b1 (hb hby d14_11) rfl ?_
        refine og_icmp_ge (pc1 := 32) (pc2 := 15) X11 hx (hb hby d14_12) (by decide) (by decide) rfl (fun q => absurd hlt1 q) (fun _ => ?_)
        refine og_aloadN X11 hx rfl rfl (hb hby d14_15) rfl ?_
        refine og_iloadN X11 hx rfl (hb hby d14_16) rfl ?_
        refine og_baload (v := (.int (us.getD i 0))) X11 hx hZ e11 V_b1 ⟨hi.1, hlt1⟩ (own_getD us hi.2) (hb hby d14_17) rfl ?_
        refine og_aloadN X11 hx rfl rfl (hb hby d14_18) rfl ?_
        refine og_iloadN X11 hx rfl (hb hby d14_19) rfl ?_
        refine og_baload (v := (.int (ws.getD i 0))) X11 hx hZ e11 V_b2 ⟨hi.1, hlt2⟩ (own_getD ws hi.2) (hb hby d14_20) rfl ?_
        refine og_icmp_eq (pc1 := 26) (pc2 := 24) X11 hx (hb hby d14_21) (by decide) (by decide) rfl (fun hc21 => ?_) (fun hc21 => ?_)
        ·
          refine og_iinc (L' := #[.val (.ref b1), .val (.ref b2), .val (.int (z + (1 : Int32)))]) (w := 1) X11 hx rfl rfl rfl (hb hby d14_26) rfl ?_
          refine og_goto (pc' := 9) X11 hx (hb hby d14_29) (by decide) (by decide) ?_
          exact ih (i + 1) T11 _ X11 e11 N (by omega) (own_eqstep hj hlt hle hc21) _ (own_iinc hi (by rw [← hn1] at hlt; exact hlt) hp1)
        ·
          refine og_iconst (v := 0) X11 hx rfl (hb hby d14_24) rfl ?_
          refine og_retN X11 hx hlk hret (by simp) (hb hby d14_25) (by decide) (by decide) ?_
          rw [e11]; refine ⟨?_, N, rfl⟩
          show some (Value.int 0) = _
          rw [hr, if_neg (fun q => hc21 (by rw [q]))]
    exact LOOP us.length 0 T0 _ X0 e0 N (by omega) (fun j hj => absurd hj (Nat.not_lt_zero j)) 0 (by decide)
theorem rm_eqG (l : Launch) (Z : State) (a0 : Array Value) (hw : HW a0 Z) (a1 a2 b1 b2 : Addr) (k1 k2 : ClassId) (us ws : List Int32) (n1 n2 : Int32) (hn1 : n1.toNatClampNeg = us.length) (hn2 : n2.toNatClampNeg = ws.length) (hp1 : ¬ n1 < 0) (hp2 : ¬ n2 < 0) (r : Int32) (hr : r = if us = ws then 1 else 0) (cs : Int32) (hcs : ¬ cs = 0) (h0 : Heap) (n0 : Nat) (O : Old Z n0 h0) (E_a1 : Exa Z h0 a1 "java/lang/String") (F_value_a1 : Fld Z h0 a1 "java/lang/String" "value" "[B" (.ref b1)) (F_coder_a1 : Fld Z h0 a1 "java/lang/String" "coder" "B" (.int 0)) (V_b1 : Arv Z h0 b1 k1 .byte n1 (us.map Value.int) (.int 0)) (E_a2 : Exa Z h0 a2 "java/lang/String") (F_value_a2 : Fld Z h0 a2 "java/lang/String" "value" "[B" (.ref b2)) (F_coder_a2 : Fld Z h0 a2 "java/lang/String" "coder" "B" (.int 0)) (V_b2 : Arv Z h0 b2 k2 .byte n2 (ws.map Value.int) (.int 0)) (S_CS : Sta Z Z.heap "java/lang/String" "COMPACT_STRINGS" "Z" (.int cs)) :
  Con l Z (⟨"java/lang/String", "equals", "(Ljava/lang/Object;)Z"⟩ : MethodName) jdk_42_method_66_code 3 (some .boolean) ({ frames := 1, cells := 0, slots := 0, locals := 14 } : Room) #[(.ref a1), (.ref a2)] h0 (fun v h L => v = some (.int r) ∧ Fr n0 L ∧ h = h0) := by
 refine own_startC opn_13 ?_
 intro p e s m below meth c T0 X0 hx hby hml hZ hown hnm hret hlk e0
 have N := Fr.nil n0
 refine OG.cast (oef6 m a1 a2) ?_
 refine og_aloadN X0 hx rfl rfl (hb hby d13_0) rfl ?_
 refine og_aloadN X0 hx rfl rfl (hb hby d13_1) rfl ?_
 refine og_acmp_ne (pc1 := 7) (pc2 := 5) X0 hx rfl rfl (hb hby d13_2) (by decide) (by decide) rfl (fun hc2 => ?_) (fun hc2 => ?_)
 ·
  refine og_aloadN X0 hx rfl rfl (hb hby d13_7) rfl ?_
  obtain ⟨T11, X11, e11, st11⟩ := instY X0 hx hZ hown (ow74 hw) e0 (Ins.self E_a2) (g := (mkF m 8 #[.val (.ref a1), .val (.ref a2), .unset] [(.ref a2)])) rfl rfl (hb hby d13_8)
  refine OG.of st11 ?_
  show OG p e below _ (T11.setTop (mkF m 11 #[.val (.ref a1), .val (.ref a2), .unset] [(.int 1)]))
  refine og_if_eq (pc1 := 54) (pc2 := 14) X11 hx (hb hby d13_11) (by decide) (by decide) rfl (fun q => absurd q (by decide)) (fun _ => ?_)
  refine og_aloadN X11 hx rfl rfl (hb hby d13_14) rfl ?_
  obtain ⟨T12, X12, e12, st12⟩ := castY X11 hx hZ hown (ow74 hw) e11 (Ins.self E_a2) (g := (mkF m 15 #[.val (.ref a1), .val (.ref a2), .unset] [(.ref a2)])) rfl rfl (hb hby d13_15)
  refine OG.of st12 ?_
  show OG p e below _ (T12.setTop (mkF m 18 #[.val (.ref a1), .val (.ref a2), .unset] [(.ref a2)]))
  refine og_astoreN (L' := #[.val (.ref a1), .val (.ref a2), .val (.ref a2)]) X12 hx rfl rfl (hb hby d13_18) rfl ?_
  refine og_getstatic X12 hx hZ (host := "") hown (Or.inl (ow29 hw)) Via.refl e12 (S_CS.ext O.2) (hb hby d13_19) rfl (fun T13 X13 e13 => ?_)
  refine og_if_eq (pc1 := 36) (pc2 := 25) X13 hx (hb hby d13_22) (by decide) (by decide) rfl (fun q => absurd q hcs) (fun _ => ?_)
  refine og_aloadN X13 hx rfl rfl (hb hby d13_25) rfl ?_
  refine og_getfield X13 hx hZ (host := "") hown (Or.inl (ow28 hw)) Via.refl e13 F_coder_a1 (hb hby d13_26) rfl (fun T14 X14 e14 => ?_)
  refine og_aloadN X14 hx rfl rfl (hb hby d13_29) rfl ?_
  refine og_getfield X14 hx hZ (host := "") hown (Or.inl (ow28 hw)) Via.refl e14 F_coder_a2 (hb hby d13_30) rfl (fun T15 X15 e15 => ?_)
  refine og_icmp_ne (pc1 := 54) (pc2 := 36) X15 hx (hb hby d13_33) (by decide) (by decide) rfl (fun q => absurd q (by decide)) (fun _ => ?_)
  refine og_aloadN X15 hx rfl rfl (hb hby d13_36) rfl ?_
  refine og_getfield X15 hx hZ (host := "") hown (Or.inl (ow27 hw)) Via.refl e15 F_value_a1 (hb hby d13_37) rfl (fun T16 X16 e16 => ?_)
  refine og_aloadN X16 hx rfl rfl (hb hby d13_40) rfl ?_
  refine og_getfield X16 hx hZ (host := "") hown (Or.inl (ow27 hw)) Via.refl e16 F_value_a2 (hb hby d13_41) rfl (fun T17 X17 e17 => ?_)
  by_cases hQ : us = ws
  ·
   refine og_static (pc' := 47) (cells' := 0) (slots' := 0) (W := 0) X17 hx hZ (rm_leG l Z a0 hw b1 b2 k1 k2 us ws n1 n2 hn1 hn2 hp1 hp2 1 (if_pos hQ).symm h0 n0 O V_b1 V_b2) hown (ow75 hw) (ow76 hw) (ow77 hw) (ow78 hw) (by decide) (by rw [hml]; rfl) e17 opd_4 [(.ref b1), (.ref b2)] [] rfl rfl rfl rfl (by decide) (by decide) rfl rfl (by decide) (by decide) (hb hby d13_44) rfl (fun v18 T18 h18 L18 X18 e18 z18 => ?_)
   obtain ⟨rfl, Nq18, hq18⟩ := z18; replace e18 := e18.trans hq18; have N := Fr.app N Nq18
   refine og_if_eq (pc1 := 54) (pc2 := 50) X18 hx (hb hby d13_47) (by decide) (by decide) rfl (fun q => absurd q (by decide)) (fun _ => ?_)
   refine og_iconst (v := 1) X18 hx rfl (hb hby d13_50) rfl ?_
   refine og_goto (pc' := 55) X18 hx (hb hby d13_51) (by decide) (by decide) ?_
   refine og_retN X18 hx hlk hret (by simp) (hb hby d13_55) (by decide) (by decide) ?_
   rw [e18]; refine ⟨?_, N, rfl⟩
   show some (Value.int 1) = _
   rw [hr, if_pos hQ]
  ·
   refine og_static (pc' := 47) (cells' := 0) (slots' := 0) (W := 0) X17 hx hZ (rm_leG l Z a0 hw b1 b2 k1 k2 us ws n1 n2 hn1 hn2 hp1 hp2 0 (if_neg hQ).symm h0 n0 O V_b1 V_b2) hown (ow75 hw) (ow76 hw) (ow77 hw) (ow78 hw) (by decide) (by rw [hml]; rfl) e17 opd_4 [(.ref b1), (.ref b2)] [] rfl rfl rfl rfl (by decide) (by decide) rfl rfl (by decide) (by decide) (hb hby d13_44) rfl (fun v19 T19 h19 L19 X19 e19 z19 => ?_)
   obtain ⟨rfl, Nq19, hq19⟩ := z19; replace e19 := e19.trans hq19; have N := Fr.app N Nq19
   refine og_if_eq (pc1 := 54) (pc2 := 50) X19 hx (hb hby d13_47) (by decide) (by decide) rfl (fun _ => ?_) (fun q => absurd q (by decide))
   refine og_iconst (v := 0) X19 hx rfl (hb hby d13_54) rfl ?_
   refine og_retN X19 hx hlk hret (by simp) (hb hby d13_55) (by decide) (by decide) ?_
   rw [e19]; refine ⟨?_, N, rfl⟩
   show some (Value.int 0) = _
   rw [hr, if_neg hQ]
 ·
  refine og_iconst (v := 1) X0 hx rfl (hb hby d13_5) rfl ?_
  refine og_retN X0 hx hlk hret (by simp) (hb hby d13_6) (by decide) (by decide) ?_
  rw [e0]; refine ⟨?_, N, rfl⟩
  show some (Value.int 1) = _
  rw [hr, if_pos (own_eqsame (Value.ref.inj hc2) F_value_a1 F_value_a2 V_b1 V_b2 hn1 hn2)]
theorem rm_cod (l : Launch) (Z : State) (a0 : Array Value) (hw : HW a0 Z) (a1 : Addr) (cs : Int32) (hcs : ¬ cs = 0) (h0 : Heap) (n0 : Nat) (O : Old Z n0 h0) (F_coder_a1 : Fld Z h0 a1 "java/lang/String" "coder" "B" (.int 0)) (S_CS : Sta Z Z.heap "java/lang/String" "COMPACT_STRINGS" "Z" (.int cs)) :
  Con l Z (⟨"java/lang/String", "coder", "()B"⟩ : MethodName) jdk_42_method_152_code 1 (some .byte) ({ frames := 0, cells := 0, slots := 0, locals := 0 } : Room) #[(.ref a1)] h0 (fun v h L => v = some (.int 0) ∧ Fr n0 L ∧ h = h0) := by
 refine own_startC opn_18 ?_
 intro p e s m below meth c T0 X0 hx hby hml hZ hown hnm hret hlk e0
 have N := Fr.nil n0
 refine OG.cast (oef7 m a1) ?_
 refine og_getstatic X0 hx hZ (host := "") hown (Or.inl (ow29 hw)) Via.refl e0 (S_CS.ext O.2) (hb hby d18_0) rfl (fun T11 X11 e11 => ?_)
 refine og_if_eq (pc1 := 13) (pc2 := 6) X11 hx (hb hby d18_3) (by decide) (by decide) rfl (fun q => absurd q hcs) (fun _ => ?_)
 refine og_aloadN X11 hx rfl rfl (hb hby d18_6) rfl ?_
 refine og_getfield X11 hx hZ (host := "") hown (Or.inl (ow28 hw)) Via.refl e11 F_coder_a1 (hb hby d18_7) rfl (fun T12 X12 e12 => ?_)
 refine og_goto (pc' := 14) X12 hx (hb hby d18_10) (by decide) (by decide) ?_
 refine og_retN X12 hx hlk hret (by simp) (hb hby d18_14) (by decide) (by decide) ?_
 rw [e12]; exact ⟨rfl, N, rfl⟩
theorem rm_len (l : Launch) (Z : State) (a0 : Array Value) (hw : HW a0 Z) (a1 ba : Addr) (kb : ClassId) (nn : Int32) (vs : List Value) (cs : Int32) (hcs : ¬ cs = 0) (h0 : Heap) (n0 : Nat) (O : Old Z n0 h0) (E_a1 : Exa Z h0 a1 "java/lang/String") (F_value_a1 : Fld Z h0 a1 "java/lang/String" "value" "[B" (.ref ba)) (F_coder_a1 : Fld Z h0 a1 "java/lang/String" "coder" "B" (.int 0)) (V_ba : Arv Z h0 ba kb .byte nn vs (.int 0)) (S_CS : Sta Z Z.heap "java/lang/String" "COMPACT_STRINGS" "Z" (.int cs)) :
  Con l Z (⟨"java/lang/String", "length", "()I"⟩ : MethodName) jdk_42_method_54_code 1 (some .int) ({ frames := 1, cells := 0, slots := 0, locals := 13 } : Room) #[(.ref a1)] h0 (fun v h L => v = some (.int nn) ∧ Fr n0 L ∧ h = h0) := by
 refine own_startC opn_17 ?_
 intro p e s m below meth c T0 X0 hx hby hml hZ hown hnm hret hlk e0
 have N := Fr.nil n0
 refine OG.cast (oef7 m a1) ?_
 refine og_aloadN X0 hx rfl rfl (hb hby d17_0) rfl ?_
 refine og_getfield X0 hx hZ (host := "") hown (Or.inl (ow27 hw)) Via.refl e0 F_value_a1 (hb hby d17_1) rfl (fun T11 X11 e11 => ?_)
 refine og_arraylength X11 hx hZ e11 V_ba (hb hby d17_4) rfl ?_
 refine og_aloadN X11 hx rfl rfl (hb hby d17_5) rfl ?_
 refine og_virtual (pc' := 9) (cells' := 0) (slots' := 0) (W := 1) X11 hx hZ (rm_cod l Z a0 hw a1 cs hcs h0 n0 O F_coder_a1 S_CS) hown (ow94 hw) (ow95 hw) (own_nf hZ (ow97 hw)) (ow97 hw) (ow96 hw) (ow9 hw) (ow98 hw) (by decide) (by rw [hml]; rfl) e11 opd_5 [] [(.int nn)] rfl rfl rfl rfl (by decide) (by decide) rfl rfl (by decide) (by decide) E_a1 (hb hby d17_6) rfl (fun v12 T12 h12 L12 X12 e12 z12 => ?_)
 obtain ⟨rfl, Nq12, hq12⟩ := z12; replace e12 := e12.trans hq12; have N := Fr.app N Nq12
 refine og_ishr X12 hx (hb hby d17_9) rfl ?_
 refine og_retI X12 hx hlk hret (hb hby d17_10) (by decide) (by decide) ?_
 rw [e12, own_shr0]; exact ⟨rfl, N, rfl⟩
theorem rm_pc (l : Launch) (Z : State) (a0 : Array Value) (hw : HW a0 Z) (nn ii : Int32) (hi : ¬ ii < 0 ∧ ii < nn) (fm : Value) (hfm : fm.isRef = true) (h0 : Heap) (n0 : Nat) (O : Old Z n0 h0) :
  Con l Z (⟨"jdk/internal/util/Preconditions", "checkIndex", "(IILjava/util/function/BiFunction;)I"⟩ : MethodName) jdk_41_method_11_code 3 (some .int) ({ frames := 0, cells := 0, slots := 0, locals := 0 } : Room) #[(.int ii), (.int nn), fm] h0 (fun v h L => v = some (.int ii) ∧ Fr n0 L ∧ h = h0) := by
 refine own_startC opn_45 ?_
 intro p e s m below meth c T0 X0 hx hby hml hZ hown hnm hret hlk e0
 have N := Fr.nil n0
 refine OG.cast (oef8 m ii nn fm hfm) ?_
 refine og_iloadN X0 hx rfl (hb hby d45_0) rfl ?_
 refine og_if_lt (pc1 := 9) (pc2 := 4) X0 hx (hb hby d45_1) (by decide) (by decide) rfl (fun q => absurd q hi.1) (fun _ => ?_)
 refine og_iloadN X0 hx rfl (hb hby d45_4) rfl ?_
 refine og_iloadN X0 hx rfl (hb hby d45_5) rfl ?_
 refine og_icmp_lt (pc1 := 16) (pc2 := 9) X0 hx (hb hby d45_6) (by decide) (by decide) rfl (fun _ => ?_) (fun q => absurd hi.2 q)
 refine og_iloadN X0 hx rfl (hb hby d45_16) rfl ?_
 refine og_retI X0 hx hlk hret (hb hby d45_17) (by decide) (by decide) ?_
 rw [e0]; exact ⟨rfl, N, rfl⟩
theorem rm_ci (l : Launch) (Z : State) (a0 : Array Value) (hw : HW a0 Z) (nn ii : Int32) (hi : ¬ ii < 0 ∧ ii < nn) (fm : Value) (hfm : fm.isRef = true) (h0 : Heap) (n0 : Nat) (O : Old Z n0 h0) (S_FM : Sta Z Z.heap "jdk/internal/util/Preconditions" "SIOOBE_FORMATTER" "Ljava/util/function/BiFunction;" fm) :
  Con l Z (⟨"java/lang/String", "checkIndex", "(II)V"⟩ : MethodName) jdk_42_method_155_code 2 none ({ frames := 1, cells := 0, slots := 0, locals := 14 } : Room) #[(.int ii), (.int nn)] h0 (fun v h L => v = none ∧ Fr n0 L ∧ h = h0) := by
 refine own_startC opn_44 ?_
 intro p e s m below meth c T0 X0 hx hby hml hZ hown hnm hret hlk e0
 have N := Fr.nil n0
 refine OG.cast (oef9 m ii nn) ?_
 refine og_iloadN X0 hx rfl (hb hby d44_0) rfl ?_
 refine og_iloadN X0 hx rfl (hb hby d44_1) rfl ?_
 refine og_getstatic X0 hx hZ (host := "") hown (Or.inl (ow249 hw)) Via.refl e0 (S_FM.ext O.2) (hb hby d44_2) rfl (fun T11 X11 e11 => ?_)
 refine og_static (pc' := 8) (cells' := 0) (slots' := 0) (W := 0) X11 hx hZ (rm_pc l Z a0 hw nn ii hi fm hfm h0 n0 O) hown (ow251 hw) (ow252 hw) (ow250 hw) (ow253 hw) (by decide) (by rw [hml]; rfl) e11 opd_6 [(.int ii), (.int nn), fm] [] rfl rfl rfl rfl (by decide) (by decide) rfl rfl (by decide) (by decide) (hb hby d44_5) rfl (fun v12 T12 h12 L12 X12 e12 z12 => ?_)
 obtain ⟨rfl, Nq12, hq12⟩ := z12; replace e12 := e12.trans hq12; have N := Fr.app N Nq12
 refine og_pop X12 hx rfl (hb hby d44_8) rfl ?_
 refine og_retV X12 hx hlk hret (hb hby d44_9) (by decide) (by decide) ?_
 rw [e12]; exact ⟨rfl, N, rfl⟩
theorem rm_lc (l : Launch) (Z : State) (a0 : Array Value) (hw : HW a0 Z) (ba : Addr) (kb : ClassId) (nn ii : Int32) (hi : ¬ ii < 0 ∧ ii < nn) (vs : List Value) (cc : Int32) (hv : vs.getD ii.toNatClampNeg (.int 0) = .int cc.toInt8.toInt32) (hcc : 0 ≤ cc.toInt ∧ cc.toInt ≤ 255) (fm : Value) (hfm : fm.isRef = true) (h0 : Heap) (n0 : Nat) (O : Old Z n0 h0) (V_ba : Arv Z h0 ba kb .byte nn vs (.int 0)) (S_FM : Sta Z Z.heap "jdk/internal/util/Preconditions" "SIOOBE_FORMATTER" "Ljava/util/function/BiFunction;" fm) :
  Con l Z (⟨"java/lang/StringLatin1", "charAt", "([BI)C"⟩ : MethodName) jdk_43_method_2_code 2 (some .char) ({ frames := 2, cells := 0, slots := 0, locals := 27 } : Room) #[(.ref ba), (.int ii)] h0 (fun v h L => v = some (.int cc) ∧ Fr n0 L ∧ h = h0) := by
 refine own_startC opn_43 ?_
 intro p e s m below meth c T0 X0 hx hby hml hZ hown hnm hret hlk e0
 have N := Fr.nil n0
 refine OG.cast (oef5 m ba ii) ?_
 refine og_iloadN X0 hx rfl (hb hby d43_0) rfl ?_
 refine og_aloadN X0 hx rfl rfl (hb hby d43_1) rfl ?_
 refine og_arraylength X0 hx hZ e0 V_ba (hb hby d43_2) rfl ?_
 refine og_static (pc' := 6) (cells' := 0) (slots' := 0) (W := 0) X0 hx hZ (rm_ci l Z a0 hw nn ii hi fm hfm h0 n0 O S_FM) hown (ow246 hw) (ow247 hw) (ow9 hw) (ow248 hw) (by decide) (by rw [hml]; rfl) e0 opd_7 [(.int ii), (.int nn)] [] rfl rfl rfl rfl (by decide) (by decide) rfl rfl (by decide) (by decide) (hb hby d43_3) rfl (fun v11 T11 h11 L11 X11 e11 z11 => ?_)
 obtain ⟨rfl, Nq11, hq11⟩ := z11; replace e11 := e11.trans hq11; have N := Fr.app N Nq11
 refine og_aloadN X11 hx rfl rfl (hb hby d43_6) rfl ?_
 refine og_iloadN X11 hx rfl (hb hby d43_7) rfl ?_
 refine og_baload (v := (.int cc.toInt8.toInt32)) X11 hx hZ e11 V_ba hi hv (hb hby d43_8) rfl ?_
 refine og_sipush (v := 255) X11 hx rfl (hb hby d43_9) rfl ?_
 refine og_iand X11 hx (hb hby d43_12) rfl ?_
 refine og_i2c X11 hx (hb hby d43_13) rfl ?_
 refine og_retN X11 hx hlk hret (by simp) (hb hby d43_14) (by decide) (by decide) ?_
 rw [e11, own_ch hcc]; exact ⟨rfl, N, rfl⟩
theorem rm_il (l : Launch) (Z : State) (a0 : Array Value) (hw : HW a0 Z) (a1 : Addr) (cs : Int32) (hcs : ¬ cs = 0) (h0 : Heap) (n0 : Nat) (O : Old Z n0 h0) (F_coder_a1 : Fld Z h0 a1 "java/lang/String" "coder" "B" (.int 0)) (S_CS : Sta Z Z.heap "java/lang/String" "COMPACT_STRINGS" "Z" (.int cs)) :
  Con l Z (⟨"java/lang/String", "isLatin1", "()Z"⟩ : MethodName) jdk_42_method_154_code 1 (some .boolean) ({ frames := 0, cells := 0, slots := 0, locals := 0 } : Room) #[(.ref a1)] h0 (fun v h L => v = some (.int 1) ∧ Fr n0 L ∧ h = h0) := by
 refine own_startC opn_42 ?_
 intro p e s m below meth c T0 X0 hx hby hml hZ hown hnm hret hlk e0
 have N := Fr.nil n0
 refine OG.cast (oef7 m a1) ?_
 refine og_getstatic X0 hx hZ (host := "") hown (Or.inl (ow29 hw)) Via.refl e0 (S_CS.ext O.2) (hb hby d42_0) rfl (fun T11 X11 e11 => ?_)
 refine og_if_eq (pc1 := 17) (pc2 := 6) X11 hx (hb hby d42_3) (by decide) (by decide) rfl (fun q => absurd q hcs) (fun _ => ?_)
 refine og_aloadN X11 hx rfl rfl (hb hby d42_6) rfl ?_
 refine og_getfield X11 hx hZ (host := "") hown (Or.inl (ow28 hw)) Via.refl e11 F_coder_a1 (hb hby d42_7) rfl (fun T12 X12 e12 => ?_)
 refine og_if_ne (pc1 := 17) (pc2 := 13) X12 hx (hb hby d42_10) (by decide) (by decide) rfl (fun q => absurd q (by decide)) (fun _ => ?_)
 refine og_iconst (v := 1) X12 hx rfl (hb hby d42_13) rfl ?_
 refine og_goto (pc' := 18) X12 hx (hb hby d42_14) (by decide) (by decide) ?_
 refine og_retN X12 hx hlk hret (by simp) (hb hby d42_18) (by decide) (by decide) ?_
 rw [e12]; exact ⟨rfl, N, rfl⟩
theorem rm_ch (l : Launch) (Z : State) (a0 : Array Value) (hw : HW a0 Z) (a1 ba : Addr) (kb : ClassId) (nn ii : Int32) (hi : ¬ ii < 0 ∧ ii < nn) (vs : List Value) (cc : Int32) (hv : vs.getD ii.toNatClampNeg (.int 0) = .int cc.toInt8.toInt32) (hcc : 0 ≤ cc.toInt ∧ cc.toInt ≤ 255) (cs : Int32) (hcs : ¬ cs = 0) (fm : Value) (hfm : fm.isRef = true) (h0 : Heap) (n0 : Nat) (O : Old Z n0 h0) (E_a1 : Exa Z h0 a1 "java/lang/String") (F_value_a1 : Fld Z h0 a1 "java/lang/String" "value" "[B" (.ref ba)) (F_coder_a1 : Fld Z h0 a1 "java/lang/String" "coder" "B" (.int 0)) (V_ba : Arv Z h0 ba kb .byte nn vs (.int 0)) (S_CS : Sta Z Z.heap "java/lang/String" "COMPACT_STRINGS" "Z" (.int cs)) (S_FM : Sta Z Z.heap "jdk/internal/util/Preconditions" "SIOOBE_FORMATTER" "Ljava/util/function/BiFunction;" fm) :
  Con l Z (⟨"java/lang/String", "charAt", "(I)C"⟩ : MethodName) jdk_42_method_56_code 2 (some .char) ({ frames := 3, cells := 0, slots := 0, locals := 40 } : Room) #[(.ref a1), (.int ii)] h0 (fun v h L => v = some (.int cc) ∧ Fr n0 L ∧ h = h0) := by
 refine own_startC opn_41 ?_
 intro p e s m below meth c T0 X0 hx hby hml hZ hown hnm hret hlk e0
 have N := Fr.nil n0
 refine OG.cast (oef5 m a1 ii) ?_
 refine og_aloadN X0 hx rfl rfl (hb hby d41_0) rfl ?_
 refine og_virtual (pc' := 4) (cells' := 0) (slots' := 0) (W := 0) X0 hx hZ (rm_il l Z a0 hw a1 cs hcs h0 n0 O F_coder_a1 S_CS) hown (ow238 hw) (ow239 hw) (own_nf hZ (ow241 hw)) (ow241 hw) (ow240 hw) (ow9 hw) (ow242 hw) (by decide) (by rw [hml]; rfl) e0 opd_8 [] [] rfl rfl rfl rfl (by decide) (by decide) rfl rfl (by decide) (by decide) E_a1 (hb hby d41_1) rfl (fun v11 T11 h11 L11 X11 e11 z11 => ?_)
 obtain ⟨rfl, Nq11, hq11⟩ := z11; replace e11 := e11.trans hq11; have N := Fr.app N Nq11
 refine og_if_eq (pc1 := 16) (pc2 := 7) X11 hx (hb hby d41_4) (by decide) (by decide) rfl (fun q => absurd q (by decide)) (fun _ => ?_)
 refine og_aloadN X11 hx rfl rfl (hb hby d41_7) rfl ?_
 refine og_getfield X11 hx hZ (host := "") hown (Or.inl (ow27 hw)) Via.refl e11 F_value_a1 (hb hby d41_8) rfl (fun T12 X12 e12 => ?_)
 refine og_iloadN X12 hx rfl (hb hby d41_11) rfl ?_
 refine og_static (pc' := 15) (cells' := 0) (slots' := 0) (W := 0) X12 hx hZ (rm_lc l Z a0 hw ba kb nn ii hi vs cc hv hcc fm hfm h0 n0 O V_ba S_FM) hown (ow243 hw) (ow244 hw) (ow77 hw) (ow245 hw) (by decide) (by rw [hml]; rfl) e12 opd_9 [(.ref ba), (.int ii)] [] rfl rfl rfl rfl (by decide) (by decide) rfl rfl (by decide) (by decide) (hb hby d41_12) rfl (fun v13 T13 h13 L13 X13 e13 z13 => ?_)
 obtain ⟨rfl, Nq13, hq13⟩ := z13; replace e13 := e13.trans hq13; have N := Fr.app N Nq13
 refine og_retN X13 hx hlk hret (by simp) (hb hby d41_15) (by decide) (by decide) ?_
 rw [e13, own_nc hcc]; exact ⟨rfl, N, rfl⟩
theorem rm_str0 (l : Launch) (Z : State) (a0 : Array Value) (hw : HW a0 Z) (c0 c1 c2 : Int32) (hc0 : 0 ≤ c0.toInt ∧ c0.toInt ≤ 255) (hc1 : 0 ≤ c1.toInt ∧ c1.toInt ≤ 255) (hc2 : 0 ≤ c2.toInt ∧ c2.toInt ≤ 255) (cs : Int32) (hcs : ¬ cs = 0) (h0 : Heap) (n0 : Nat) (O : Old Z n0 h0) (hEL : EW Z a0 own_EL) (S_CS : Sta Z Z.heap "java/lang/String" "COMPACT_STRINGS" "Z" (.int cs)) :
  ConW l Z own_EL [] (⟨"com/example/stablebid/stablebid/cli/InputFileRefusalPinLaw", "str", "(ICCC)Ljava/lang/String;"⟩ : MethodName) method_4_code 4 (some (.object "java/lang/String")) ({ frames := 4, cells := 6, slots := 12, locals := 66 } : Room) #[(.int 0), (.int c0), (.int c1), (.int c2)] h0 (fun v h L => ∃ a b k, v = some (.ref a) ∧ Fr n0 L ∧ Keep h0 h [] ∧ Exa Z h a "java/lang/String" ∧ Fld Z h a "java/lang/String" "value" "[B" (.ref b) ∧ Fld Z h a "java/lang/String" "coder" "B" (.int 0) ∧ Arv Z h b k .byte (Int32.ofNat (own_dr 0 c0 c1 c2).length) ((own_dr 0 c0 c1 c2).map Value.int) (.int 0)) := by
 refine own_startWC opn_2 ?_
 intro p e s m below meth c T0 X0 hx hby hml hZ hown hnm hret hlk e0 es hS CR hsf
 have N := Fr.nil n0; have K := Keep.refl h0 []; have hk := Nat.le_refl h0.size
 refine OG.cast (oef10 m (0 : Int32) c0 c1 c2) ?_
 refine og_iloadN X0 hx rfl (hb hby d2_0) rfl ?_
 refine og_if_ne (pc1 := 15) (pc2 := 4) X0 hx (hb hby d2_1) (by decide) (by decide) rfl (fun q => absurd q (by decide)) (fun _ => ?_)
 refine og_new (pc' := 7) (cells' := 1) (slots' := 4) X0 hx hZ hown (ow7 hw) (ow8 hw) (ow9 hw) e0 (hb hby d2_4) rfl rfl rfl (by decide) (by decide) (fun T11 h11 nb11 X11 e11 E11 q11 E_nb11 D11 B11 => ?_)
 have s_nb11 : h0.size ≤ nb11 := Nat.le_of_eq q11.symm; have g_nb11 : n0 ≤ nb11 := Nat.le_trans (own_n0 O) s_nb11; have sz_nb11 : h0.size ≤ nb11 := Nat.le_trans K.1 s_nb11; have Q_nb11 : Safe Z own_EL _ _ nb11 := Safe.new (Z := Z) (EL := own_EL) (vm := s.vm) s_nb11
 have Q_nb11 := Safe.ext E11 CR.1 Q_nb11; have O := O.ext E11; have K := K.ext E11; have hk := Nat.le_trans hk E11.1; have CR := CR.trans (CHr.ext E11 CR.1)
 have F_value_nb11 : Fld Z h11 nb11 "java/lang/String" "value" "[B" .null := D11 (Or.inr (ow23 hw)) (ty := (.array .byte)) (by decide)
 have F_coder_nb11 : Fld Z h11 nb11 "java/lang/String" "coder" "B" (.int 0) := D11 (Or.inr (ow24 hw)) (ty := .byte) (by decide)
 refine og_dup X11 hx rfl (hb hby d2_7) rfl ?_
 refine og_iconst (v := 0) X11 hx rfl (hb hby d2_8) rfl ?_
 refine og_newarray (pc' := 11) (cells' := 2) (slots' := 4) (cap := 0) (ty := .char) X11 hx hZ rfl (ow10 hw) e11 (by decide) (by decide) (by decide) (hb hby d2_9) rfl rfl rfl (by decide) (by decide) (fun T12 h12 nb12 kA12 X12 e12 E12 q12 V_nb12 => ?_)
 have s_nb12 : h11.size ≤ nb12 := Nat.le_of_eq q12.symm; have ne_nb11_nb12 : nb11 ≠ nb12 := Nat.ne_of_lt (Nat.lt_of_lt_of_le E_nb11.lt s_nb12)
 have Q_nb11 := Safe.ext E12 CR.1 Q_nb11; have E_nb11 := E_nb11.ext E12; have F_value_nb11 := F_value_nb11.ext E12; have F_coder_nb11 := F_coder_nb11.ext E12; have O := O.ext E12
 have K := K.ext E12; have hk := Nat.le_trans hk E12.1; have CR := CR.trans (CHr.ext E12 CR.1)
 refine og_specialW (pc' := 14) (cells' := 6) (slots' := 12) (W := 1) X12 hx hZ (rm_sn_0 l Z a0 hw nb11 nb12 kA12 h12 n0 O hEL E_nb11 F_value_nb11 F_coder_nb11 V_nb12 g_nb11 (Ne.symm ne_nb11_nb12)) hEL hS hk CR.1 (allS (P := fun x => x < _ ∧ Safe Z own_EL _ _ x) ⟨E_nb11.lt, Q_nb11⟩ all0) rfl hown (ow11 hw) (ow12 hw) (ow9 hw) (ow13 hw) (by decide) (by rw [hml]; rfl) e12 opd_10 [(.ref nb12)] [(.ref nb11)] rfl rfl rfl rfl (by decide) (by decide) rfl rfl (by decide) (by decide) (hb hby d2_11) rfl (fun v13 T13 h13 L13 kk13 X13 e13 hS hk hZ hown cr13 z13 => ?_)
 obtain ⟨nb13, k13, rfl, Nq13, K13, E_nb11', F_value_nb11', F_coder_nb11', V_nb13⟩ := z13; have N := Fr.app N Nq13
 have K := K.trans K13 (allS (Or.inr sz_nb11) all0)
 have CR := CR.trans cr13
 have E_nb11 := E_nb11'; have F_value_nb11 := F_value_nb11'; have F_coder_nb11 := F_coder_nb11'
 refine og_retRW X13 hx hZ hlk hEL hS e13 es hk CR hret rfl rfl rfl (hb hby d2_14) (by decide) (by decide) ?_
 rw [e13]; exact ⟨_, _, _, rfl, N, K, E_nb11, F_value_nb11, F_coder_nb11, V_nb13⟩
theorem rm_str1 (l : Launch) (Z : State) (a0 : Array Value) (hw : HW a0 Z) (c0 c1 c2 : Int32) (hc0 : 0 ≤ c0.toInt ∧ c0.toInt ≤ 255) (hc1 : 0 ≤ c1.toInt ∧ c1.toInt ≤ 255) (hc2 : 0 ≤ c2.toInt ∧ c2.toInt ≤ 255) (cs : Int32) (hcs : ¬ cs = 0) (h0 : Heap) (n0 : Nat) (O : Old Z n0 h0) (hEL : EW Z a0 own_EL) (S_CS : Sta Z Z.heap "java/lang/String" "COMPACT_STRINGS" "Z" (.int cs)) :
  ConW l Z own_EL [] (⟨"com/example/stablebid/stablebid/cli/InputFileRefusalPinLaw", "str", "(ICCC)Ljava/lang/String;"⟩ : MethodName) method_4_code 4 (some (.object "java/lang/String")) ({ frames := 4, cells := 6, slots := 12, locals := 66 } : Room) #[(.int 1), (.int c0), (.int c1), (.int c2)] h0 (fun v h L => ∃ a b k, v = some (.ref a) ∧ Fr n0 L ∧ Keep h0 h [] ∧ Exa Z h a "java/lang/String" ∧ Fld Z h a "java/lang/String" "value" "[B" (.ref b) ∧ Fld Z h a "java/lang/String" "coder" "B" (.int 0) ∧ Arv Z h b k .byte (Int32.ofNat (own_dr 1 c0 c1 c2).length) ((own_dr 1 c0 c1 c2).map Value.int) (.int 0)) := by
 refine own_startWC opn_2 ?_
 intro p e s m below meth c T0 X0 hx hby hml hZ hown hnm hret hlk e0 es hS CR hsf
 have N := Fr.nil n0; have K := Keep.refl h0 []; have hk := Nat.le_refl h0.size
 refine OG.cast (oef10 m (1 : Int32) c0 c1 c2) ?_
 refine og_iloadN X0 hx rfl (hb hby d2_0) rfl ?_
 refine og_if_ne (pc1 := 15) (pc2 := 4) X0 hx (hb hby d2_1) (by decide) (by decide) rfl (fun _ => ?_) (fun q => absurd q (by decide))
 refine og_iloadN X0 hx rfl (hb hby d2_15) rfl ?_
 refine og_iconst (v := 1) X0 hx rfl (hb hby d2_16) rfl ?_
 refine og_icmp_ne (pc1 := 35) (pc2 := 20) X0 hx (hb hby d2_17) (by decide) (by decide) rfl (fun q => absurd q (by decide)) (fun _ => ?_)
 refine og_new (pc' := 23) (cells' := 1) (slots' := 4) X0 hx hZ hown (ow7 hw) (ow8 hw) (ow9 hw) e0 (hb hby d2_20) rfl rfl rfl (by decide) (by decide) (fun T11 h11 nb11 X11 e11 E11 q11 E_nb11 D11 B11 => ?_)
 have s_nb11 : h0.size ≤ nb11 := Nat.le_of_eq q11.symm; have g_nb11 : n0 ≤ nb11 := Nat.le_trans (own_n0 O) s_nb11; have sz_nb11 : h0.size ≤ nb11 := Nat.le_trans K.1 s_nb11; have Q_nb11 : Safe Z own_EL _ _ nb11 := Safe.new (Z := Z) (EL := own_EL) (vm := s.vm) s_nb11
 have Q_nb11 := Safe.ext E11 CR.1 Q_nb11; have O := O.ext E11; have K := K.ext E11; have hk := Nat.le_trans hk E11.1; have CR := CR.trans (CHr.ext E11 CR.1)
 have F_value_nb11 : Fld Z h11 nb11 "java/lang/String" "value" "[B" .null := D11 (Or.inr (ow23 hw)) (ty := (.array .byte)) (by decide)
 have F_coder_nb11 : Fld Z h11 nb11 "java/lang/String" "coder" "B" (.int 0) := D11 (Or.inr (ow24 hw)) (ty := .byte) (by decide)
 refine og_dup X11 hx rfl (hb hby d2_23) rfl ?_
 refine og_iconst (v := 1) X11 hx rfl (hb hby d2_24) rfl ?_
 refine og_newarray (pc' := 27) (cells' := 2) (slots' := 5) (cap := 1) (ty := .char) X11 hx hZ rfl (ow10 hw) e11 (by decide) (by decide) (by decide) (hb hby d2_25) rfl rfl rfl (by decide) (by decide) (fun T12 h12 nb12 kA12 X12 e12 E12 q12 V_nb12 => ?_)
 have s_nb12 : h11.size ≤ nb12 := Nat.le_of_eq q12.symm; have g_nb12 : n0 ≤ nb12 := Nat.le_trans (own_n0 O) s_nb12; have sz_nb12 : h0.size ≤ nb12 := Nat.le_trans K.1 s_nb12; have ne_nb11_nb12 : nb11 ≠ nb12 := Nat.ne_of_lt (Nat.lt_of_lt_of_le E_nb11.lt s_nb12); have Q_nb12 : Safe Z own_EL _ _ nb12 := Safe.new (Z := Z) (EL := own_EL) (vm := s.vm) s_nb12
 have Q_nb11 := Safe.ext E12 CR.1 Q_nb11; have Q_nb12 := Safe.ext E12 CR.1 Q_nb12; have E_nb11 := E_nb11.ext E12; have F_value_nb11 := F_value_nb11.ext E12; have F_coder_nb11 := F_coder_nb11.ext E12; have O := O.ext E12
 have K := K.ext E12; have hk := Nat.le_trans hk E12.1; have CR := CR.trans (CHr.ext E12 CR.1)
 have V_nb12 : Arv Z h12 nb12 kA12 .char (1 : Int32) [(.int 0)] (.int 0) := V_nb12.pad (pad_rep [] (.int 0) 1)
 refine og_dup X12 hx rfl (hb hby d2_27) rfl ?_
 refine og_iconst (v := 0) X12 hx rfl (hb hby d2_28) rfl ?_
 refine og_iloadN X12 hx rfl (hb hby d2_29) rfl ?_
 refine og_castore X12 hx hZ e12 V_nb12 ⟨by decide, by decide⟩ 0 (by decide) (Nat.le_of_ble_eq_true rfl) (hb hby d2_30) rfl (fun T13 h13 X13 e13 W13 V13 => ?_)
 have sf13 : Safe Z own_EL s.vm h12 nb12 := Q_nb12; have Q_nb11 := Safe.wr W13 sf13 CR.1 Q_nb11; have E_nb11 := E_nb11.wr W13; have F_value_nb11 := F_value_nb11.other W13 (Or.inl ne_nb11_nb12); have F_coder_nb11 := F_coder_nb11.other W13 (Or.inl ne_nb11_nb12)
 have O := O.wr W13 g_nb12; have K := K.wr W13 (Or.inr sz_nb12); have hk := Nat.le_trans hk (Keep.of_wr W13).1; have CR := CR.trans (CHr.wr W13 sf13 CR.1)
 have N := Fr.snoc X13 N g_nb12
 have V_nb12 : Arv Z h13 nb12 kA12 .char (1 : Int32) [(.int (nar .char c0))] (.int 0) := V13
 rw [own_nc hc0] at V_nb12
 refine og_special (pc' := 34) (cells' := 3) (slots' := 6) (W := 1) X13 hx hZ (rm_sn_1 l Z a0 hw nb11 nb12 kA12 c0 (own_le255 hc0) cs hcs h13 n0 O E_nb11 F_value_nb11 F_coder_nb11 V_nb12 S_CS g_nb11 (Ne.symm ne_nb11_nb12)) rfl hown (ow11 hw) (ow12 hw) (ow9 hw) (ow13 hw) (by decide) (by rw [hml]; rfl) e13 opd_10 [(.ref nb12)] [(.ref nb11)] rfl rfl rfl rfl (by decide) (by decide) rfl rfl (by decide) (by decide) (hb hby d2_31) rfl (fun v14 T14 h14 L14 X14 e14 z14 => ?_)
 obtain ⟨nb14, k14, rfl, Nq14, K14, sb14, E_nb11', F_value_nb11', F_coder_nb11', V_nb14⟩ := z14; have N := Fr.app N Nq14
 have sf14 : ∀ x ∈ ([nb11] : List Addr), Safe Z own_EL s.vm h13 x := (sfS Q_nb11 sf0)
 have K := K.trans K14 (allS (Or.inr sz_nb11) all0); have hk := Nat.le_trans hk K14.1; have CR := CR.trans (CHr.keep K14 sf14 CR.1)
 have E_nb11 := E_nb11'; have F_value_nb11 := F_value_nb11'; have F_coder_nb11 := F_coder_nb11'
 refine og_retRW X14 hx hZ hlk hEL hS e14 es hk CR hret rfl rfl rfl (hb hby d2_34) (by decide) (by decide) ?_
 rw [e14]; exact ⟨_, _, _, rfl, N, K, E_nb11, F_value_nb11, F_coder_nb11, V_nb14⟩
theorem rm_str2 (l : Launch) (Z : State) (a0 : Array Value) (hw : HW a0 Z) (c0 c1 c2 : Int32) (hc0 : 0 ≤ c0.toInt ∧ c0.toInt ≤ 255) (hc1 : 0 ≤ c1.toInt ∧ c1.toInt ≤ 255) (hc2 : 0 ≤ c2.toInt ∧ c2.toInt ≤ 255) (cs : Int32) (hcs : ¬ cs = 0) (h0 : Heap) (n0 : Nat) (O : Old Z n0 h0) (hEL : EW Z a0 own_EL) (S_CS : Sta Z Z.heap "java/lang/String" "COMPACT_STRINGS" "Z" (.int cs)) :
  ConW l Z own_EL [] (⟨"com/example/stablebid/stablebid/cli/InputFileRefusalPinLaw", "str", "(ICCC)Ljava/lang/String;"⟩ : MethodName) method_4_code 4 (some (.object "java/lang/String")) ({ frames := 4, cells := 6, slots := 12, locals := 66 } : Room) #[(.int 2), (.int c0), (.int c1), (.int c2)] h0 (fun v h L => ∃ a b k, v = some (.ref a) ∧ Fr n0 L ∧ Keep h0 h [] ∧ Exa Z h a "java/lang/String" ∧ Fld Z h a "java/lang/String" "value" "[B" (.ref b) ∧ Fld Z h a "java/lang/String" "coder" "B" (.int 0) ∧ Arv Z h b k .byte (Int32.ofNat (own_dr 2 c0 c1 c2).length) ((own_dr 2 c0 c1 c2).map Value.int) (.int 0)) := by
 refine own_startWC opn_2 ?_
 intro p e s m below meth c T0 X0 hx hby hml hZ hown hnm hret hlk e0 es hS CR hsf
 have N := Fr.nil n0; have K := Keep.refl h0 []; have hk := Nat.le_refl h0.size
 refine OG.cast (oef10 m (2 : Int32) c0 c1 c2) ?_
 refine og_iloadN X0 hx rfl (hb hby d2_0) rfl ?_
 refine og_if_ne (pc1 := 15) (pc2 := 4) X0 hx (hb hby d2_1) (by decide) (by decide) rfl (fun _ => ?_) (fun q => absurd q (by decide))
 refine og_iloadN X0 hx rfl (hb hby d2_15) rfl ?_
 refine og_iconst (v := 1) X0 hx rfl (hb hby d2_16) rfl ?_
 refine og_icmp_ne (pc1 := 35) (pc2 := 20) X0 hx (hb hby d2_17) (by decide) (by decide) rfl (fun _ => ?_) (fun q => absurd q (by decide))
 refine og_iloadN X0 hx rfl (hb hby d2_35) rfl ?_
 refine og_iconst (v := 2) X0 hx rfl (hb hby d2_36) rfl ?_
 refine og_icmp_ne (pc1 := 59) (pc2 := 40) X0 hx (hb hby d2_37) (by decide) (by decide) rfl (fun q => absurd q (by decide)) (fun _ => ?_)
 refine og_new (pc' := 43) (cells' := 1) (slots' := 4) X0 hx hZ hown (ow7 hw) (ow8 hw) (ow9 hw) e0 (hb hby d2_40) rfl rfl rfl (by decide) (by decide) (fun T11 h11 nb11 X11 e11 E11 q11 E_nb11 D11 B11 => ?_)
 have s_nb11 : h0.size ≤ nb11 := Nat.le_of_eq q11.symm; have g_nb11 : n0 ≤ nb11 := Nat.le_trans (own_n0 O) s_nb11; have sz_nb11 : h0.size ≤ nb11 := Nat.le_trans K.1 s_nb11; have Q_nb11 : Safe Z own_EL _ _ nb11 := Safe.new (Z := Z) (EL := own_EL) (vm := s.vm) s_nb11
 have Q_nb11 := Safe.ext E11 CR.1 Q_nb11; have O := O.ext E11; have K := K.ext E11; have hk := Nat.le_trans hk E11.1; have CR := CR.trans (CHr.ext E11 CR.1)
 have F_value_nb11 : Fld Z h11 nb11 "java/lang/String" "value" "[B" .null := D11 (Or.inr (ow23 hw)) (ty := (.array .byte)) (by decide)
 have F_coder_nb11 : Fld Z h11 nb11 "java/lang/String" "coder" "B" (.int 0) := D11 (Or.inr (ow24 hw)) (ty := .byte) (by decide)
 refine og_dup X11 hx rfl (hb hby d2_43) rfl ?_
 refine og_iconst (v := 2) X11 hx rfl (hb hby d2_44) rfl ?_
 refine og_newarray (pc' := 47) (cells' := 2) (slots' := 6) (cap := 2) (ty := .char) X11 hx hZ rfl (ow10 hw) e11 (by decide) (by decide) (by decide) (hb hby d2_45) rfl rfl rfl (by decide) (by decide) (fun T12 h12 nb12 kA12 X12 e12 E12 q12 V_nb12 => ?_)
 have s_nb12 : h11.size ≤ nb12 := Nat.le_of_eq q12.symm; have g_nb12 : n0 ≤ nb12 := Nat.le_trans (own_n0 O) s_nb12; have sz_nb12 : h0.size ≤ nb12 := Nat.le_trans K.1 s_nb12; have ne_nb11_nb12 : nb11 ≠ nb12 := Nat.ne_of_lt (Nat.lt_of_lt_of_le E_nb11.lt s_nb12); have Q_nb12 : Safe Z own_EL _ _ nb12 := Safe.new (Z := Z) (EL := own_EL) (vm := s.vm) s_nb12
 have Q_nb11 := Safe.ext E12 CR.1 Q_nb11; have Q_nb12 := Safe.ext E12 CR.1 Q_nb12; have E_nb11 := E_nb11.ext E12; have F_value_nb11 := F_value_nb11.ext E12; have F_coder_nb11 := F_coder_nb11.ext E12; have O := O.ext E12
 have K := K.ext E12; have hk := Nat.le_trans hk E12.1; have CR := CR.trans (CHr.ext E12 CR.1)
 have V_nb12 : Arv Z h12 nb12 kA12 .char (2 : Int32) [(.int 0), (.int 0)] (.int 0) := V_nb12.pad (pad_rep [] (.int 0) 2)
 refine og_dup X12 hx rfl (hb hby d2_47) rfl ?_
 refine og_iconst (v := 0) X12 hx rfl (hb hby d2_48) rfl ?_
 refine og_iloadN X12 hx rfl (hb hby d2_49) rfl ?_
 refine og_castore X12 hx hZ e12 V_nb12 ⟨by decide, by decide⟩ 0 (by decide) (Nat.le_of_ble_eq_true rfl) (hb hby d2_50) rfl (fun T13 h13 X13 e13 W13 V13 => ?_)
 have sf13 : Safe Z own_EL s.vm h12 nb12 := Q_nb12; have Q_nb11 := Safe.wr W13 sf13 CR.1 Q_nb11; have Q_nb12 := Safe.wr W13 sf13 CR.1 Q_nb12; have E_nb11 := E_nb11.wr W13; have F_value_nb11 := F_value_nb11.other W13 (Or.inl ne_nb11_nb12); have F_coder_nb11 := F_coder_nb11.other W13 (Or.inl ne_nb11_nb12)
 have O := O.wr W13 g_nb12; have K := K.wr W13 (Or.inr sz_nb12); have hk := Nat.le_trans hk (Keep.of_wr W13).1; have CR := CR.trans (CHr.wr W13 sf13 CR.1)
 have N := Fr.snoc X13 N g_nb12
 have V_nb12 : Arv Z h13 nb12 kA12 .char (2 : Int32) [(.int (nar .char c0)), (.int 0)] (.int 0) := V13
 rw [own_nc hc0] at V_nb12
 refine og_dup X13 hx rfl (hb hby d2_51) rfl ?_
 refine og_iconst (v := 1) X13 hx rfl (hb hby d2_52) rfl ?_
 refine og_iloadN X13 hx rfl (hb hby d2_53) rfl ?_
 refine og_castore X13 hx hZ e13 V_nb12 ⟨by decide, by decide⟩ 1 (by decide) (Nat.le_of_ble_eq_true rfl) (hb hby d2_54) rfl (fun T14 h14 X14 e14 W14 V14 => ?_)
 have sf14 : Safe Z own_EL s.vm h13 nb12 := Q_nb12; have Q_nb11 := Safe.wr W14 sf14 CR.1 Q_nb11; have E_nb11 := E_nb11.wr W14; have F_value_nb11 := F_value_nb11.other W14 (Or.inl ne_nb11_nb12); have F_coder_nb11 := F_coder_nb11.other W14 (Or.inl ne_nb11_nb12)
 have O := O.wr W14 g_nb12; have K := K.wr W14 (Or.inr sz_nb12); have hk := Nat.le_trans hk (Keep.of_wr W14).1; have CR := CR.trans (CHr.wr W14 sf14 CR.1)
 have N := Fr.snoc X14 N g_nb12
 have V_nb12 : Arv Z h14 nb12 kA12 .char (2 : Int32) [(.int c0), (.int (nar .char c1))] (.int 0) := V14
 rw [own_nc hc1] at V_nb12
 refine og_special (pc' := 58) (cells' := 3) (slots' := 8) (W := 1) X14 hx hZ (rm_sn_2 l Z a0 hw nb11 nb12 kA12 c0 c1 (own_le255 hc0) (own_le255 hc1) cs hcs h14 n0 O E_nb11 F_value_nb11 F_coder_nb11 V_nb12 S_CS g_nb11 (Ne.symm ne_nb11_nb12)) rfl hown (ow11 hw) (ow12 hw) (ow9 hw) (ow13 hw) (by decide) (by rw [hml]; rfl) e14 opd_10 [(.ref nb12)] [(.ref nb11)] rfl rfl rfl rfl (by decide) (by decide) rfl rfl (by decide) (by decide) (hb hby d2_55) rfl (fun v15 T15 h15 L15 X15 e15 z15 => ?_)
 obtain ⟨nb15, k15, rfl, Nq15, K15, sb15, E_nb11', F_value_nb11', F_coder_nb11', V_nb15⟩ := z15; have N := Fr.app N Nq15
 have sf15 : ∀ x ∈ ([nb11] : List Addr), Safe Z own_EL s.vm h14 x := (sfS Q_nb11 sf0)
 have K := K.trans K15 (allS (Or.inr sz_nb11) all0); have hk := Nat.le_trans hk K15.1; have CR := CR.trans (CHr.keep K15 sf15 CR.1)
 have E_nb11 := E_nb11'; have F_value_nb11 := F_value_nb11'; have F_coder_nb11 := F_coder_nb11'
 refine og_retRW X15 hx hZ hlk hEL hS e15 es hk CR hret rfl rfl rfl (hb hby d2_58) (by decide) (by decide) ?_
 rw [e15]; exact ⟨_, _, _, rfl, N, K, E_nb11, F_value_nb11, F_coder_nb11, V_nb15⟩
theorem rm_str3 (l : Launch) (Z : State) (a0 : Array Value) (hw : HW a0 Z) (c0 c1 c2 : Int32) (hc0 : 0 ≤ c0.toInt ∧ c0.toInt ≤ 255) (hc1 : 0 ≤ c1.toInt ∧ c1.toInt ≤ 255) (hc2 : 0 ≤ c2.toInt ∧ c2.toInt ≤ 255) (cs : Int32) (hcs : ¬ cs = 0) (h0 : Heap) (n0 : Nat) (O : Old Z n0 h0) (hEL : EW Z a0 own_EL) (S_CS : Sta Z Z.heap "java/lang/String" "COMPACT_STRINGS" "Z" (.int cs)) :
  ConW l Z own_EL [] (⟨"com/example/stablebid/stablebid/cli/InputFileRefusalPinLaw", "str", "(ICCC)Ljava/lang/String;"⟩ : MethodName) method_4_code 4 (some (.object "java/lang/String")) ({ frames := 4, cells := 6, slots := 12, locals := 66 } : Room) #[(.int 3), (.int c0), (.int c1), (.int c2)] h0 (fun v h L => ∃ a b k, v = some (.ref a) ∧ Fr n0 L ∧ Keep h0 h [] ∧ Exa Z h a "java/lang/String" ∧ Fld Z h a "java/lang/String" "value" "[B" (.ref b) ∧ Fld Z h a "java/lang/String" "coder" "B" (.int 0) ∧ Arv Z h b k .byte (Int32.ofNat (own_dr 3 c0 c1 c2).length) ((own_dr 3 c0 c1 c2).map Value.int) (.int 0)) := by
 refine own_startWC opn_2 ?_
 intro p e s m below meth c T0 X0 hx hby hml hZ hown hnm hret hlk e0 es hS CR hsf
 have N := Fr.nil n0; have K := Keep.refl h0 []; have hk := Nat.le_refl h0.size
 refine OG.cast (oef10 m (3 : Int32) c0 c1 c2) ?_
 refine og_iloadN X0 hx rfl (hb hby d2_0) rfl ?_
 refine og_if_ne (pc1 := 15) (pc2 := 4) X0 hx (hb hby d2_1) (by decide) (by decide) rfl (fun _ => ?_) (fun q => absurd q (by decide))
 refine og_iloadN X0 hx rfl (hb hby d2_15) rfl ?_
 refine og_iconst (v := 1) X0 hx rfl (hb hby d2_16) rfl ?_
 refine og_icmp_ne (pc1 := 35) (pc2 := 20) X0 hx (hb hby d2_17) (by decide) (by decide) rfl (fun _ => ?_) (fun q => absurd q (by decide))
 refine og_iloadN X0 hx rfl (hb hby d2_35) rfl ?_
 refine og_iconst (v := 2) X0 hx rfl (hb hby d2_36) rfl ?_
 refine og_icmp_ne (pc1 := 59) (pc2 := 40) X0 hx (hb hby d2_37) (by decide) (by decide) rfl (fun _ => ?_) (fun q => absurd q (by decide))
 refine og_new (pc' := 62) (cells' := 1) (slots' := 4) X0 hx hZ hown (ow7 hw) (ow8 hw) (ow9 hw) e0 (hb hby d2_59) rfl rfl rfl (by decide) (by decide) (fun T11 h11 nb11 X11 e11 E11 q11 E_nb11 D11 B11 => ?_)
 have s_nb11 : h0.size ≤ nb11 := Nat.le_of_eq q11.symm; have g_nb11 : n0 ≤ nb11 := Nat.le_trans (own_n0 O) s_nb11; have sz_nb11 : h0.size ≤ nb11 := Nat.le_trans K.1 s_nb11; have Q_nb11 : Safe Z own_EL _ _ nb11 := Safe.new (Z := Z) (EL := own_EL) (vm := s.vm) s_nb11
 have Q_nb11 := Safe.ext E11 CR.1 Q_nb11; have O := O.ext E11; have K := K.ext E11; have hk := Nat.le_trans hk E11.1; have CR := CR.trans (CHr.ext E11 CR.1)
 have F_value_nb11 : Fld Z h11 nb11 "java/lang/String" "value" "[B" .null := D11 (Or.inr (ow23 hw)) (ty := (.array .byte)) (by decide)
 have F_coder_nb11 : Fld Z h11 nb11 "java/lang/String" "coder" "B" (.int 0) := D11 (Or.inr (ow24 hw)) (ty := .byte) (by decide)
 refine og_dup X11 hx rfl (hb hby d2_62) rfl ?_
 refine og_iconst (v := 3) X11 hx rfl (hb hby d2_63) rfl ?_
 refine og_newarray (pc' := 66) (cells' := 2) (slots' := 7) (cap := 3) (ty := .char) X11 hx hZ rfl (ow10 hw) e11 (by decide) (by decide) (by decide) (hb hby d2_64) rfl rfl rfl (by decide) (by decide) (fun T12 h12 nb12 kA12 X12 e12 E12 q12 V_nb12 => ?_)
 have s_nb12 : h11.size ≤ nb12 := Nat.le_of_eq q12.symm; have g_nb12 : n0 ≤ nb12 := Nat.le_trans (own_n0 O) s_nb12; have sz_nb12 : h0.size ≤ nb12 := Nat.le_trans K.1 s_nb12; have ne_nb11_nb12 : nb11 ≠ nb12 := Nat.ne_of_lt (Nat.lt_of_lt_of_le E_nb11.lt s_nb12); have Q_nb12 : Safe Z own_EL _ _ nb12 := Safe.new (Z := Z) (EL := own_EL) (vm := s.vm) s_nb12
 have Q_nb11 := Safe.ext E12 CR.1 Q_nb11; have Q_nb12 := Safe.ext E12 CR.1 Q_nb12; have E_nb11 := E_nb11.ext E12; have F_value_nb11 := F_value_nb11.ext E12; have F_coder_nb11 := F_coder_nb11.ext E12; have O := O.ext E12
 have K := K.ext E12; have hk := Nat.le_trans hk E12.1; have CR := CR.trans (CHr.ext E12 CR.1)
 have V_nb12 : Arv Z h12 nb12 kA12 .char (3 : Int32) [(.int 0), (.int 0), (.int 0)] (.int 0) := V_nb12.pad (pad_rep [] (.int 0) 3)
 refine og_dup X12 hx rfl (hb hby d2_66) rfl ?_
 refine og_iconst (v := 0) X12 hx rfl (hb hby d2_67) rfl ?_
 refine og_iloadN X12 hx rfl (hb hby d2_68) rfl ?_
 refine og_castore X12 hx hZ e12 V_nb12 ⟨by decide, by decide⟩ 0 (by decide) (Nat.le_of_ble_eq_true rfl) (hb hby d2_69) rfl (fun T13 h13 X13 e13 W13 V13 => ?_)
 have sf13 : Safe Z own_EL s.vm h12 nb12 := Q_nb12; have Q_nb11 := Safe.wr W13 sf13 CR.1 Q_nb11; have Q_nb12 := Safe.wr W13 sf13 CR.1 Q_nb12; have E_nb11 := E_nb11.wr W13; have F_value_nb11 := F_value_nb11.other W13 (Or.inl ne_nb11_nb12); have F_coder_nb11 := F_coder_nb11.other W13 (Or.inl ne_nb11_nb12)
 have O := O.wr W13 g_nb12; have K := K.wr W13 (Or.inr sz_nb12); have hk := Nat.le_trans hk (Keep.of_wr W13).1; have CR := CR.trans (CHr.wr W13 sf13 CR.1)
 have N := Fr.snoc X13 N g_nb12
 have V_nb12 : Arv Z h13 nb12 kA12 .char (3 : Int32) [(.int (nar .char c0)), (.int 0), (.int 0)] (.int 0) := V13
 rw [own_nc hc0] at V_nb12
 refine og_dup X13 hx rfl (hb hby d2_70) rfl ?_
 refine og_iconst (v := 1) X13 hx rfl (hb hby d2_71) rfl ?_
 refine og_iloadN X13 hx rfl (hb hby d2_72) rfl ?_
 refine og_castore X13 hx hZ e13 V_nb12 ⟨by decide, by decide⟩ 1 (by decide) (Nat.le_of_ble_eq_true rfl) (hb hby d2_73) rfl (fun T14 h14 X14 e14 W14 V14 => ?_)
 have sf14 : Safe Z own_EL s.vm h13 nb12 := Q_nb12; have Q_nb11 := Safe.wr W14 sf14 CR.1 Q_nb11; have Q_nb12 := Safe.wr W14 sf14 CR.1 Q_nb12; have E_nb11 := E_nb11.wr W14; have F_value_nb11 := F_value_nb11.other W14 (Or.inl ne_nb11_nb12); have F_coder_nb11 := F_coder_nb11.other W14 (Or.inl ne_nb11_nb12)
 have O := O.wr W14 g_nb12; have K := K.wr W14 (Or.inr sz_nb12); have hk := Nat.le_trans hk (Keep.of_wr W14).1; have CR := CR.trans (CHr.wr W14 sf14 CR.1)
 have N := Fr.snoc X14 N g_nb12
 have V_nb12 : Arv Z h14 nb12 kA12 .char (3 : Int32) [(.int c0), (.int (nar .char c1)), (.int 0)] (.int 0) := V14
 rw [own_nc hc1] at V_nb12
 refine og_dup X14 hx rfl (hb hby d2_74) rfl ?_
 refine og_iconst (v := 2) X14 hx rfl (hb hby d2_75) rfl ?_
 refine og_iloadN X14 hx rfl (hb hby d2_76) rfl ?_
 refine og_castore X14 hx hZ e14 V_nb12 ⟨by decide, by decide⟩ 2 (by decide) (Nat.le_of_ble_eq_true rfl) (hb hby d2_77) rfl (fun T15 h15 X15 e15 W15 V15 => ?_)
 have sf15 : Safe Z own_EL s.vm h14 nb12 := Q_nb12; have Q_nb11 := Safe.wr W15 sf15 CR.1 Q_nb11; have E_nb11 := E_nb11.wr W15; have F_value_nb11 := F_value_nb11.other W15 (Or.inl ne_nb11_nb12); have F_coder_nb11 := F_coder_nb11.other W15 (Or.inl ne_nb11_nb12)
 have O := O.wr W15 g_nb12; have K := K.wr W15 (Or.inr sz_nb12); have hk := Nat.le_trans hk (Keep.of_wr W15).1; have CR := CR.trans (CHr.wr W15 sf15 CR.1)
 have N := Fr.snoc X15 N g_nb12
 have V_nb12 : Arv Z h15 nb12 kA12 .char (3 : Int32) [(.int c0), (.int c1), (.int (nar .char c2))] (.int 0) := V15
 rw [own_nc hc2] at V_nb12
 refine og_special (pc' := 81) (cells' := 3) (slots' := 10) (W := 1) X15 hx hZ (rm_sn_3 l Z a0 hw nb11 nb12 kA12 c0 c1 c2 (own_le255 hc0) (own_le255 hc1) (own_le255 hc2) cs hcs h15 n0 O E_nb11 F_value_nb11 F_coder_nb11 V_nb12 S_CS g_nb11 (Ne.symm ne_nb11_nb12)) rfl hown (ow11 hw) (ow12 hw) (ow9 hw) (ow13 hw) (by decide) (by rw [hml]; rfl) e15 opd_10 [(.ref nb12)] [(.ref nb11)] rfl rfl rfl rfl (by decide) (by decide) rfl rfl (by decide) (by decide) (hb hby d2_78) rfl (fun v16 T16 h16 L16 X16 e16 z16 => ?_)
 obtain ⟨nb16, k16, rfl, Nq16, K16, sb16, E_nb11', F_value_nb11', F_coder_nb11', V_nb16⟩ := z16; have N := Fr.app N Nq16
 have sf16 : ∀ x ∈ ([nb11] : List Addr), Safe Z own_EL s.vm h15 x := (sfS Q_nb11 sf0)
 have K := K.trans K16 (allS (Or.inr sz_nb11) all0); have hk := Nat.le_trans hk K16.1; have CR := CR.trans (CHr.keep K16 sf16 CR.1)
 have E_nb11 := E_nb11'; have F_value_nb11 := F_value_nb11'; have F_coder_nb11 := F_coder_nb11'
 refine og_retRW X16 hx hZ hlk hEL hS e16 es hk CR hret rfl rfl rfl (hb hby d2_81) (by decide) (by decide) ?_
 rw [e16]; exact ⟨_, _, _, rfl, N, K, E_nb11, F_value_nb11, F_coder_nb11, V_nb16⟩
theorem rm_str (l : Launch) (Z : State) (a0 : Array Value) (hw : HW a0 Z) (ll : Int32) (hl : ll = 0 ∨ ll = 1 ∨ ll = 2 ∨ ll = 3) (c0 c1 c2 : Int32) (hc0 : 0 ≤ c0.toInt ∧ c0.toInt ≤ 255) (hc1 : 0 ≤ c1.toInt ∧ c1.toInt ≤ 255) (hc2 : 0 ≤ c2.toInt ∧ c2.toInt ≤ 255) (cs : Int32) (hcs : ¬ cs = 0) (h0 : Heap) (n0 : Nat) (O : Old Z n0 h0) (hEL : EW Z a0 own_EL) (S_CS : Sta Z Z.heap "java/lang/String" "COMPACT_STRINGS" "Z" (.int cs)) :
    ConW l Z own_EL [] (⟨"com/example/stablebid/stablebid/cli/InputFileRefusalPinLaw", "str", "(ICCC)Ljava/lang/String;"⟩ : MethodName) method_4_code 4 (some (.object "java/lang/String")) ({ frames := 4, cells := 6, slots := 12, locals := 66 } : Room) #[(.int ll), (.int c0), (.int c1), (.int c2)] h0 (fun v h L => ∃ a b k, v = some (.ref a) ∧ Fr n0 L ∧ Keep h0 h [] ∧ Exa Z h a "java/lang/String" ∧ Fld Z h a "java/lang/String" "value" "[B" (.ref b) ∧ Fld Z h a "java/lang/String" "coder" "B" (.int 0) ∧ Arv Z h b k .byte (Int32.ofNat (own_dr ll c0 c1 c2).length) ((own_dr ll c0 c1 c2).map Value.int) (.int 0)) := by
  rcases hl with rfl | rfl | rfl | rfl
  · exact rm_str0 l Z a0 hw c0 c1 c2 hc0 hc1 hc2 cs hcs h0 n0 O hEL S_CS
  · exact rm_str1 l Z a0 hw c0 c1 c2 hc0 hc1 hc2 cs hcs h0 n0 O hEL S_CS
  · exact rm_str2 l Z a0 hw c0 c1 c2 hc0 hc1 hc2 cs hcs h0 n0 O hEL S_CS
  · exact rm_str3 l Z a0 hw c0 c1 c2 hc0 hc1 hc2 cs hcs h0 n0 O hEL S_CS
theorem rm_asi (l : Launch) (Z : State) (a0 : Array Value) (hw : HW a0 Z) (a1 : Addr) (cs : Int32) (hcs : ¬ cs = 0) (h0 : Heap) (n0 : Nat) (O : Old Z n0 h0) (E_a1 : Exa Z h0 a1 "java/lang/StringBuilder") (F_value_a1 : Fld Z h0 a1 "java/lang/AbstractStringBuilder" "value" "[B" .null) (F_coder_a1 : Fld Z h0 a1 "java/lang/AbstractStringBuilder" "coder" "B" (.int 0)) (F_count_a1 : Fld Z h0 a1 "java/lang/AbstractStringBuilder" "count" "I" (.int 0)) (S_CS : Sta Z Z.heap "java/lang/String" "COMPACT_STRINGS" "Z" (.int cs)) (g_a1 : n0 ≤ a1) :
  Con l Z (⟨"java/lang/AbstractStringBuilder", "<init>", "(I)V"⟩ : MethodName) jdk_68_method_2_code 2 none ({ frames := 1, cells := 1, slots := 16, locals := 12 } : Room) #[(.ref a1), (.int 16)] h0 (fun v h L => ∃ b k, v = none ∧ Fr n0 L ∧ Keep h0 h [a1] ∧ h0.size ≤ b ∧ Exa Z h a1 "java/lang/StringBuilder" ∧ Fld Z h a1 "java/lang/AbstractStringBuilder" "value" "[B" (.ref b) ∧ Fld Z h a1 "java/lang/AbstractStringBuilder" "coder" "B" (.int 0) ∧ Fld Z h a1 "java/lang/AbstractStringBuilder" "count" "I" (.int 0) ∧ Arv Z h b k .byte (16 : Int32) [(.int 0), (.int 0), (.int 0), (.int 0), (.int 0), (.int 0), (.int 0), (.int 0), (.int 0), (.int 0), (.int 0), (.int 0), (.int 0), (.int 0), (.int 0), (.int 0)] (.int 0) ∧ Exa Z h b "[B") := by
 refine own_startC opn_11 ?_
 intro p e s m below meth c T0 X0 hx hby hml hZ hown hnm hret hlk e0
 have N := Fr.nil n0; have K := Keep.refl h0 [a1]
 refine OG.cast (oef5 m a1 (16 : Int32)) ?_
 refine og_aloadN X0 hx rfl rfl (hb hby d11_0) rfl ?_
 refine og_initO (pc' := 4) X0 hx hZ (W := 0) (by rw [hml]; rfl) hown (ow59 hw) (ow19 hw) (ow20 hw) e0 rfl (by decide) (by decide) (hb hby d11_1) rfl (fun T11 X11 e11 => ?_)
 refine og_getstatic X11 hx hZ (host := "") hown (Or.inl (ow60 hw)) Via.refl e11 (S_CS.ext O.2) (hb hby d11_4) rfl (fun T12 X12 e12 => ?_)
 refine og_if_eq (pc1 := 25) (pc2 := 10) X12 hx (hb hby d11_7) (by decide) (by decide) rfl (fun q => absurd q hcs) (fun _ => ?_)
 refine og_aloadN X12 hx rfl rfl (hb hby d11_10) rfl ?_
 refine og_iloadN X12 hx rfl (hb hby d11_11) rfl ?_
 refine og_newarrayE (pc' := 14) (cells' := 1) (slots' := 16) (cap := 16) (ty := .byte) X12 hx hZ rfl (ow22 hw) e12 (by decide) (by decide) (by decide) rfl (hb hby d11_12) rfl rfl rfl (by decide) (by decide) (fun T13 h13 nb13 kA13 X13 e13 E13 q13 V_nb13 E_nb13 => ?_)
 have s_nb13 : h0.size ≤ nb13 := Nat.le_of_eq q13.symm; have sz_nb13 : h0.size ≤ nb13 := Nat.le_trans K.1 s_nb13; have ne_a1_nb13 : a1 ≠ nb13 := Nat.ne_of_lt (Nat.lt_of_lt_of_le E_a1.lt s_nb13)
 have E_a1 := E_a1.ext E13; have F_value_a1 := F_value_a1.ext E13; have F_coder_a1 := F_coder_a1.ext E13; have F_count_a1 := F_count_a1.ext E13; have K := K.ext E13
 have V_nb13 : Arv Z h13 nb13 kA13 .byte (16 : Int32) [(.int 0), (.int 0), (.int 0), (.int 0), (.int 0), (.int 0), (.int 0), (.int 0), (.int 0), (.int 0), (.int 0), (.int 0), (.int 0), (.int 0), (.int 0), (.int 0)] (.int 0) := V_nb13.pad (pad_rep [] (.int 0) 16)
 refine og_putfield X13 hx hZ (ty := (.array .byte)) (host := "") hown (Or.inl (ow61 hw)) Via.refl e13 F_value_a1 E_a1 (Or.inl (ow62 hw)) (ow48 hw) (by decide) rfl rfl (hb hby d11_14) rfl (fun T14 h14 X14 e14 W14 => ?_)
 have F_value_a1_ := F_value_a1.same W14
 have E_a1 := E_a1.wr W14; have F_coder_a1 := F_coder_a1.other W14 (Or.inr (slot_ne (Or.inl (ow64 hw)) (Or.inl (ow62 hw)) (by decide) (t := .byte) (t' := (.array .byte)) (by decide) (by decide))); have F_count_a1 := F_count_a1.other W14 (Or.inr (slot_ne (Or.inl (ow100 hw)) (Or.inl (ow62 hw)) (by decide) (t := .int) (t' := (.array .byte)) (by decide) (by decide))); have V_nb13 := V_nb13.other W14 (Ne.symm ne_a1_nb13); have E_nb13 := E_nb13.wr W14
 have K := K.wr W14 (Or.inl (List.mem_of_getElem? (i := 0) rfl))
 have N := Fr.snoc X14 N g_a1; have F_value_a1 := F_value_a1_
 refine og_aloadN X14 hx rfl rfl (hb hby d11_17) rfl ?_
 refine og_iconst (v := 0) X14 hx rfl (hb hby d11_18) rfl ?_
 refine og_putfield X14 hx hZ (ty := .byte) (host := "") hown (Or.inl (ow63 hw)) Via.refl e14 F_coder_a1 E_a1 (Or.inl (ow64 hw)) (ow48 hw) (by decide) rfl rfl (hb hby d11_19) rfl (fun T15 h15 X15 e15 W15 => ?_)
 have F_coder_a1_ := F_coder_a1.same W15
 have E_a1 := E_a1.wr W15; have F_count_a1 := F_count_a1.other W15 (Or.inr (slot_ne (Or.inl (ow100 hw)) (Or.inl (ow64 hw)) (by decide) (t := .int) (t' := .byte) (by decide) (by decide))); have V_nb13 := V_nb13.other W15 (Ne.symm ne_a1_nb13); have E_nb13 := E_nb13.wr W15; have F_value_a1 := F_value_a1.other W15 (Or.inr (slot_ne (Or.inl (ow62 hw)) (Or.inl (ow64 hw)) (by decide) (t := (.array .byte)) (t' := .byte) (by decide) (by decide)))
 have K := K.wr W15 (Or.inl (List.mem_of_getElem? (i := 0) rfl))
 have N := Fr.snoc X15 N g_a1; have F_coder_a1 := F_coder_a1_
 refine og_goto (pc' := 38) X15 hx (hb hby d11_22) (by decide) (by decide) ?_
 refine og_retV X15 hx hlk hret (hb hby d11_38) (by decide) (by decide) ?_
 rw [e15]; exact ⟨_, _, rfl, N, K, sz_nb13, E_a1, F_value_a1, F_coder_a1, F_count_a1, V_nb13, E_nb13⟩
theorem rm_sb0 (l : Launch) (Z : State) (a0 : Array Value) (hw : HW a0 Z) (a1 : Addr) (cs : Int32) (hcs : ¬ cs = 0) (h0 : Heap) (n0 : Nat) (O : Old Z n0 h0) (E_a1 : Exa Z h0 a1 "java/lang/StringBuilder") (F_value_a1 : Fld Z h0 a1 "java/lang/AbstractStringBuilder" "value" "[B" .null) (F_coder_a1 : Fld Z h0 a1 "java/lang/AbstractStringBuilder" "coder" "B" (.int 0)) (F_count_a1 : Fld Z h0 a1 "java/lang/AbstractStringBuilder" "count" "I" (.int 0)) (S_CS : Sta Z Z.heap "java/lang/String" "COMPACT_STRINGS" "Z" (.int cs)) (g_a1 : n0 ≤ a1) :
  Con l Z (⟨"java/lang/StringBuilder", "<init>", "()V"⟩ : MethodName) jdk_67_method_1_code 1 none ({ frames := 2, cells := 1, slots := 16, locals := 25 } : Room) #[(.ref a1)] h0 (fun v h L => ∃ b k, v = none ∧ Fr n0 L ∧ Keep h0 h [a1] ∧ h0.size ≤ b ∧ Exa Z h a1 "java/lang/StringBuilder" ∧ Fld Z h a1 "java/lang/AbstractStringBuilder" "value" "[B" (.ref b) ∧ Fld Z h a1 "java/lang/AbstractStringBuilder" "coder" "B" (.int 0) ∧ Fld Z h a1 "java/lang/AbstractStringBuilder" "count" "I" (.int 0) ∧ Arv Z h b k .byte (16 : Int32) [(.int 0), (.int 0), (.int 0), (.int 0), (.int 0), (.int 0), (.int 0), (.int 0), (.int 0), (.int 0), (.int 0), (.int 0), (.int 0), (.int 0), (.int 0), (.int 0)] (.int 0) ∧ Exa Z h b "[B") := by
 refine own_startC opn_10 ?_
 intro p e s m below meth c T0 X0 hx hby hml hZ hown hnm hret hlk e0
 have N := Fr.nil n0; have K := Keep.refl h0 [a1]
 refine OG.cast (oef7 m a1) ?_
 refine og_aloadN X0 hx rfl rfl (hb hby d10_0) rfl ?_
 refine og_bipush (v := 16) X0 hx rfl (hb hby d10_1) rfl ?_
 refine og_special (pc' := 6) (cells' := 1) (slots' := 16) (W := 0) X0 hx hZ (rm_asi l Z a0 hw a1 cs hcs h0 n0 O E_a1 F_value_a1 F_coder_a1 F_count_a1 S_CS g_a1) rfl hown (ow53 hw) (ow54 hw) (ow57 hw) (ow58 hw) (by decide) (by rw [hml]; rfl) e0 opd_11 [(.int 16)] [] rfl rfl rfl rfl (by decide) (by decide) rfl rfl (by decide) (by decide) (hb hby d10_3) rfl (fun v11 T11 h11 L11 X11 e11 z11 => ?_)
 obtain ⟨nb11, k11, rfl, Nq11, K11, sb11, E_a1', F_value_a1', F_coder_a1', F_count_a1', V_nb11, E_nb11⟩ := z11; have N := Fr.app N Nq11
 have s_nb11 : h0.size ≤ nb11 := sb11; have sz_nb11 : h0.size ≤ nb11 := Nat.le_trans K.1 s_nb11
 have K := K.trans K11 (allS (Or.inl (List.mem_of_getElem? (i := 0) rfl)) all0)
 have E_a1 := E_a1'; have F_value_a1 := F_value_a1'; have F_coder_a1 := F_coder_a1'; have F_count_a1 := F_count_a1'
 refine og_retV X11 hx hlk hret (hb hby d10_6) (by decide) (by decide) ?_
 rw [e11]; exact ⟨_, _, rfl, N, K, sz_nb11, E_a1, F_value_a1, F_coder_a1, F_count_a1, V_nb11, E_nb11⟩
theorem rm_ecN (l : Launch) (Z : State) (a0 : Array Value) (hw : HW a0 Z) (a1 bv : Addr) (kb : ClassId) (nn tt : Int32) (vs : List Value) (ht : ¬ 0 < tt - nn) (h0 : Heap) (n0 : Nat) (O : Old Z n0 h0) (F_value_a1 : Fld Z h0 a1 "java/lang/AbstractStringBuilder" "value" "[B" (.ref bv)) (F_coder_a1 : Fld Z h0 a1 "java/lang/AbstractStringBuilder" "coder" "B" (.int 0)) (V_bv : Arv Z h0 bv kb .byte nn vs (.int 0)) :
  Con l Z (⟨"java/lang/AbstractStringBuilder", "ensureCapacityInternal", "(I)V"⟩ : MethodName) jdk_68_method_9_code 3 none ({ frames := 0, cells := 0, slots := 0, locals := 0 } : Room) #[(.ref a1), (.int tt)] h0 (fun v h L => v = none ∧ Fr n0 L ∧ h = h0) := by
 refine own_startC opn_19 ?_
 intro p e s m below meth c T0 X0 hx hby hml hZ hown hnm hret hlk e0
 have N := Fr.nil n0
 refine OG.cast (oef11 m a1 tt) ?_
 refine og_aloadN X0 hx rfl rfl (hb hby d19_0) rfl ?_
 refine og_getfield X0 hx hZ (host := "") hown (Or.inl (ow61 hw)) Via.refl e0 F_value_a1 (hb hby d19_1) rfl (fun T11 X11 e11 => ?_)
 refine og_arraylength X11 hx hZ e11 V_bv (hb hby d19_4) rfl ?_
 refine og_aloadN X11 hx rfl rfl (hb hby d19_5) rfl ?_
 refine og_getfield X11 hx hZ (host := "") hown (Or.inl (ow63 hw)) Via.refl e11 F_coder_a1 (hb hby d19_6) rfl (fun T12 X12 e12 => ?_)
 refine og_ishr X12 hx (hb hby d19_9) rfl ?_
 rw [own_shr0]
 refine og_istoreN (L' := #[.val (.ref a1), .val (.int tt), .val (.int nn)]) X12 hx rfl (hb hby d19_10) rfl ?_
 refine og_iloadN X12 hx rfl (hb hby d19_11) rfl ?_
 refine og_iloadN X12 hx rfl (hb hby d19_12) rfl ?_
 refine og_isub X12 hx (hb hby d19_13) rfl ?_
 refine og_if_le (pc1 := 38) (pc2 := 17) X12 hx (hb hby d19_14) (by decide) (by decide) rfl (fun _ => ?_) (fun q => absurd q ht)
 refine og_retV X12 hx hlk hret (hb hby d19_38) (by decide) (by decide) ?_
 rw [e12]; exact ⟨rfl, N, rfl⟩
theorem rm_max_1_18 (l : Launch) (Z : State) (a0 : Array Value) (hw : HW a0 Z)  (h0 : Heap) (n0 : Nat) (O : Old Z n0 h0) :
  Con l Z (⟨"java/lang/Math", "max", "(II)I"⟩ : MethodName) jdk_29_method_65_code 2 (some .int) ({ frames := 0, cells := 0, slots := 0, locals := 0 } : Room) #[(.int 1), (.int 18)] h0 (fun v h L => v = some (.int 18) ∧ Fr n0 L ∧ h = h0) := by
 refine own_startC opn_49 ?_
 intro p e s m below meth c T0 X0 hx hby hml hZ hown hnm hret hlk e0
 have N := Fr.nil n0
 refine OG.cast (oef9 m (1 : Int32) (18 : Int32)) ?_
 refine og_iloadN X0 hx rfl (hb hby d49_0) rfl ?_
 refine og_iloadN X0 hx rfl (hb hby d49_1) rfl ?_
 refine og_icmp_lt (pc1 := 9) (pc2 := 5) X0 hx (hb hby d49_2) (by decide) (by decide) rfl (fun _ => ?_) (fun q => absurd q (by decide))
 refine og_iloadN X0 hx rfl (hb hby d49_9) rfl ?_
 refine og_retI X0 hx hlk hret (hb hby d49_10) (by decide) (by decide) ?_
 rw [e0]; exact ⟨rfl, N, rfl⟩
theorem rm_nl_17 (l : Launch) (Z : State) (a0 : Array Value) (hw : HW a0 Z)  (h0 : Heap) (n0 : Nat) (O : Old Z n0 h0) :
  Con l Z (⟨"jdk/internal/util/ArraysSupport", "newLength", "(III)I"⟩ : MethodName) jdk_48_method_27_code 4 (some .int) ({ frames := 1, cells := 0, slots := 0, locals := 14 } : Room) #[(.int 16), (.int 1), (.int 18)] h0 (fun v h L => v = some (.int 34) ∧ Fr n0 L ∧ h = h0) := by
 refine own_startC opn_48 ?_
 intro p e s m below meth c T0 X0 hx hby hml hZ hown hnm hret hlk e0
 have N := Fr.nil n0
 refine OG.cast (oef12 m (16 : Int32) (1 : Int32) (18 : Int32)) ?_
 refine og_iloadN X0 hx rfl (hb hby d48_0) rfl ?_
 refine og_iloadN X0 hx rfl (hb hby d48_1) rfl ?_
 refine og_iloadN X0 hx rfl (hb hby d48_2) rfl ?_
 refine og_static (pc' := 6) (cells' := 0) (slots' := 0) (W := 1) X0 hx hZ (rm_max_1_18 l Z a0 hw h0 n0 O) hown (ow267 hw) (ow268 hw) (ow169 hw) (ow269 hw) (by decide) (by rw [hml]; rfl) e0 opd_12 [(.int 1), (.int 18)] [(.int 16)] rfl rfl rfl rfl (by decide) (by decide) rfl rfl (by decide) (by decide) (hb hby d48_3) rfl (fun v11 T11 h11 L11 X11 e11 z11 => ?_)
 obtain ⟨rfl, Nq11, hq11⟩ := z11; replace e11 := e11.trans hq11; have N := Fr.app N Nq11
 refine og_iadd X11 hx (hb hby d48_6) rfl ?_
 show OG p e below _ (T11.setTop (mkF m 7 #[.val (.int 16), .val (.int 1), .val (.int 18), .unset] [(.int 34)]))
 refine og_istoreN (L' := #[.val (.int 16), .val (.int 1), .val (.int 18), .val (.int 34)]) X11 hx rfl (hb hby d48_7) rfl ?_
 refine og_iconst (v := 0) X11 hx rfl (hb hby d48_8) rfl ?_
 refine og_iloadN X11 hx rfl (hb hby d48_9) rfl ?_
 refine og_icmp_ge (pc1 := 21) (pc2 := 13) X11 hx (hb hby d48_10) (by decide) (by decide) rfl (fun q => absurd q (by decide)) (fun _ => ?_)
 refine og_iloadN X11 hx rfl (hb hby d48_13) rfl ?_
 refine og_ldc X11 hx hZ hown (ow270 hw) (hb hby d48_14) rfl ?_
 refine og_icmp_gt (pc1 := 21) (pc2 := 19) X11 hx (hb hby d48_16) (by decide) (by decide) rfl (fun q => absurd q (by decide)) (fun _ => ?_)
 refine og_iloadN X11 hx rfl (hb hby d48_19) rfl ?_
 refine og_retI X11 hx hlk hret (hb hby d48_20) (by decide) (by decide) ?_
 rw [e11]; exact ⟨rfl, N, rfl⟩
theorem rm_ncp_17 (l : Launch) (Z : State) (a0 : Array Value) (hw : HW a0 Z) (a1 bv : Addr) (kb : ClassId) (vs : List Value) (h0 : Heap) (n0 : Nat) (O : Old Z n0 h0) (F_value_a1 : Fld Z h0 a1 "java/lang/AbstractStringBuilder" "value" "[B" (.ref bv)) (F_coder_a1 : Fld Z h0 a1 "java/lang/AbstractStringBuilder" "coder" "B" (.int 0)) (V_bv : Arv Z h0 bv kb .byte (16 : Int32) vs (.int 0)) :
  Con l Z (⟨"java/lang/AbstractStringBuilder", "newCapacity", "(I)I"⟩ : MethodName) jdk_68_method_10_code 6 (some .int) ({ frames := 2, cells := 0, slots := 0, locals := 29 } : Room) #[(.ref a1), (.int 17)] h0 (fun v h L => v = some (.int 34) ∧ Fr n0 L ∧ h = h0) := by
 refine own_startC opn_47 ?_
 intro p e s m below meth c T0 X0 hx hby hml hZ hown hnm hret hlk e0
 have N := Fr.nil n0
 refine OG.cast (oef13 m a1 (17 : Int32)) ?_
 refine og_aloadN X0 hx rfl rfl (hb hby d47_0) rfl ?_
 refine og_getfield X0 hx hZ (host := "") hown (Or.inl (ow61 hw)) Via.refl e0 F_value_a1 (hb hby d47_1) rfl (fun T11 X11 e11 => ?_)
 refine og_arraylength X11 hx hZ e11 V_bv (hb hby d47_4) rfl ?_
 refine og_istoreN (L' := #[.val (.ref a1), .val (.int 17), .val (.int 16), .unset, .unset, .unset]) X11 hx rfl (hb hby d47_5) rfl ?_
 refine og_iloadN X11 hx rfl (hb hby d47_6) rfl ?_
 refine og_aloadN X11 hx rfl rfl (hb hby d47_7) rfl ?_
 refine og_getfield X11 hx hZ (host := "") hown (Or.inl (ow63 hw)) Via.refl e11 F_coder_a1 (hb hby d47_8) rfl (fun T12 X12 e12 => ?_)
 refine og_ishl X12 hx (hb hby d47_11) rfl ?_
 show OG p e below _ (T12.setTop (mkF m 12 #[.val (.ref a1), .val (.int 17), .val (.int 16), .unset, .unset, .unset] [(.int 17)]))
 refine og_istoreN (L' := #[.val (.ref a1), .val (.int 17), .val (.int 16), .val (.int 17), .unset, .unset]) X12 hx rfl (hb hby d47_12) rfl ?_
 refine og_iloadN X12 hx rfl (hb hby d47_13) rfl ?_
 refine og_iloadN X12 hx rfl (hb hby d47_14) rfl ?_
 refine og_isub X12 hx (hb hby d47_15) rfl ?_
 show OG p e below _ (T12.setTop (mkF m 16 #[.val (.ref a1), .val (.int 17), .val (.int 16), .val (.int 17), .unset, .unset] [(.int 1)]))
 refine og_istore (L' := #[.val (.ref a1), .val (.int 17), .val (.int 16), .val (.int 17), .val (.int 1), .unset]) X12 hx rfl (hb hby d47_16) rfl ?_
 refine og_iloadN X12 hx rfl (hb hby d47_18) rfl ?_
 refine og_iload X12 hx rfl (hb hby d47_19) rfl ?_
 refine og_iloadN X12 hx rfl (hb hby d47_21) rfl ?_
 refine og_iconst (v := 2) X12 hx rfl (hb hby d47_22) rfl ?_
 refine og_aloadN X12 hx rfl rfl (hb hby d47_23) rfl ?_
 refine og_getfield X12 hx hZ (host := "") hown (Or.inl (ow63 hw)) Via.refl e12 F_coder_a1 (hb hby d47_24) rfl (fun T13 X13 e13 => ?_)
 refine og_ishl X13 hx (hb hby d47_27) rfl ?_
 show OG p e below _ (T13.setTop (mkF m 28 #[.val (.ref a1), .val (.int 17), .val (.int 16), .val (.int 17), .val (.int 1), .unset] [(.int 2), (.int 16), (.int 1), (.int 16)]))
 refine og_iadd X13 hx (hb hby d47_28) rfl ?_
 show OG p e below _ (T13.setTop (mkF m 29 #[.val (.ref a1), .val (.int 17), .val (.int 16), .val (.int 17), .val (.int 1), .unset] [(.int 18), (.int 1), (.int 16)]))
 refine og_static (pc' := 32) (cells' := 0) (slots' := 0) (W := 0) X13 hx hZ (rm_nl_17 l Z a0 hw h0 n0 O) hown (ow263 hw) (ow264 hw) (ow265 hw) (ow266 hw) (by decide) (by rw [hml]; rfl) e13 opd_13 [(.int 16), (.int 1), (.int 18)] [] rfl rfl rfl rfl (by decide) (by decide) rfl rfl (by decide) (by decide) (hb hby d47_29) rfl (fun v14 T14 h14 L14 X14 e14 z14 => ?_)
 obtain ⟨rfl, Nq14, hq14⟩ := z14; replace e14 := e14.trans hq14; have N := Fr.app N Nq14
 refine og_istore (L' := #[.val (.ref a1), .val (.int 17), .val (.int 16), .val (.int 17), .val (.int 1), .val (.int 34)]) X14 hx rfl (hb hby d47_32) rfl ?_
 refine og_iload X14 hx rfl (hb hby d47_34) rfl ?_
 refine og_ldc X14 hx hZ hown (ow271 hw) (hb hby d47_36) rfl ?_
 refine og_icmp_ne (pc1 := 51) (pc2 := 41) X14 hx (hb hby d47_38) (by decide) (by decide) rfl (fun _ => ?_) (fun q => absurd q (by decide))
 refine og_iload X14 hx rfl (hb hby d47_51) rfl ?_
 refine og_aloadN X14 hx rfl rfl (hb hby d47_53) rfl ?_
 refine og_getfield X14 hx hZ (host := "") hown (Or.inl (ow63 hw)) Via.refl e14 F_coder_a1 (hb hby d47_54) rfl (fun T15 X15 e15 => ?_)
 refine og_ishr X15 hx (hb hby d47_57) rfl ?_
 show OG p e below _ (T15.setTop (mkF m 58 #[.val (.ref a1), .val (.int 17), .val (.int 16), .val (.int 17), .val (.int 1), .val (.int 34)] [(.int 34)]))
 refine og_retI X15 hx hlk hret (hb hby d47_58) (by decide) (by decide) ?_
 rw [e15]; exact ⟨rfl, N, rfl⟩
theorem rm_min_16_34 (l : Launch) (Z : State) (a0 : Array Value) (hw : HW a0 Z)  (h0 : Heap) (n0 : Nat) (O : Old Z n0 h0) :
  Con l Z (⟨"java/lang/Math", "min", "(II)I"⟩ : MethodName) jdk_29_method_69_code 2 (some .int) ({ frames := 0, cells := 0, slots := 0, locals := 0 } : Room) #[(.int 16), (.int 34)] h0 (fun v h L => v = some (.int 16) ∧ Fr n0 L ∧ h = h0) := by
 refine own_startC opn_33 ?_
 intro p e s m below meth c T0 X0 hx hby hml hZ hown hnm hret hlk e0
 have N := Fr.nil n0
 refine OG.cast (oef9 m (16 : Int32) (34 : Int32)) ?_
 refine og_iloadN X0 hx rfl (hb hby d33_0) rfl ?_
 refine og_iloadN X0 hx rfl (hb hby d33_1) rfl ?_
 refine og_icmp_gt (pc1 := 9) (pc2 := 5) X0 hx (hb hby d33_2) (by decide) (by decide) rfl (fun q => absurd q (by decide)) (fun _ => ?_)
 refine og_iloadN X0 hx rfl (hb hby d33_5) rfl ?_
 refine og_goto (pc' := 10) X0 hx (hb hby d33_6) (by decide) (by decide) ?_
 refine og_retI X0 hx hlk hret (hb hby d33_10) (by decide) (by decide) ?_
 rw [e0]; exact ⟨rfl, N, rfl⟩
theorem rm_cpo_16_34 (l : Launch) (Z : State) (a0 : Array Value) (hw : HW a0 Z) (ba : Addr) (kb : ClassId) (v0 v1 v2 v3 v4 v5 v6 v7 v8 v9 v10 v11 v12 v13 v14 v15 : Int32) (h0 : Heap) (n0 : Nat) (O : Old Z n0 h0) (V_ba : Arv Z h0 ba kb .byte (16 : Int32) [(.int v0), (.int v1), (.int v2), (.int v3), (.int v4), (.int v5), (.int v6), (.int v7), (.int v8), (.int v9), (.int v10), (.int v11), (.int v12), (.int v13), (.int v14), (.int v15)] (.int 0)) :
  Con l Z (⟨"java/util/Arrays", "copyOf", "([BI)[B"⟩ : MethodName) jdk_65_method_121_code 3 (some (.array .byte)) ({ frames := 1, cells := 1, slots := 34, locals := 18 } : Room) #[(.ref ba), (.int 34)] h0 (fun v h L => ∃ b k, v = some (.ref b) ∧ Fr n0 L ∧ Keep h0 h [] ∧ h0.size ≤ b ∧ Arv Z h b k .byte (34 : Int32) [(.int v0), (.int v1), (.int v2), (.int v3), (.int v4), (.int v5), (.int v6), (.int v7), (.int v8), (.int v9), (.int v10), (.int v11), (.int v12), (.int v13), (.int v14), (.int v15), (.int 0), (.int 0), (.int 0), (.int 0), (.int 0), (.int 0), (.int 0), (.int 0), (.int 0), (.int 0), (.int 0), (.int 0), (.int 0), (.int 0), (.int 0), (.int 0), (.int 0), (.int 0)] (.int 0) ∧ Exa Z h b "[B") := by
 refine own_startC opn_50 ?_
 intro p e s m below meth c T0 X0 hx hby hml hZ hown hnm hret hlk e0
 have N := Fr.nil n0; have K := Keep.refl h0 []
 refine OG.cast (oef11 m ba (34 : Int32)) ?_
 refine og_iloadN X0 hx rfl (hb hby d50_0) rfl ?_
 refine og_aloadN X0 hx rfl rfl (hb hby d50_1) rfl ?_
 refine og_arraylength X0 hx hZ e0 V_ba (hb hby d50_2) rfl ?_
 refine og_icmp_ne (pc1 := 14) (pc2 := 6) X0 hx (hb hby d50_3) (by decide) (by decide) rfl (fun _ => ?_) (fun q => absurd q (by decide))
 refine og_iloadN X0 hx rfl (hb hby d50_14) rfl ?_
 refine og_newarrayE (pc' := 17) (cells' := 1) (slots' := 34) (cap := 34) (ty := .byte) X0 hx hZ rfl (ow22 hw) e0 (by decide) (by decide) (by decide) rfl (hb hby d50_15) rfl rfl rfl (by decide) (by decide) (fun T11 h11 nb11 kA11 X11 e11 E11 q11 V_nb11 E_nb11 => ?_)
 have s_nb11 : h0.size ≤ nb11 := Nat.le_of_eq q11.symm; have g_nb11 : n0 ≤ nb11 := Nat.le_trans (own_n0 O) s_nb11; have sz_nb11 : h0.size ≤ nb11 := Nat.le_trans K.1 s_nb11
 have V_ba := V_ba.ext E11; have O := O.ext E11; have K := K.ext E11
 have V_nb11 : Arv Z h11 nb11 kA11 .byte (34 : Int32) [(.int 0), (.int 0), (.int 0), (.int 0), (.int 0), (.int 0), (.int 0), (.int 0), (.int 0), (.int 0), (.int 0), (.int 0), (.int 0), (.int 0), (.int 0), (.int 0), (.int 0), (.int 0), (.int 0), (.int 0), (.int 0), (.int 0), (.int 0), (.int 0), (.int 0), (.int 0), (.int 0), (.int 0), (.int 0), (.int 0), (.int 0), (.int 0), (.int 0), (.int 0)] (.int 0) := V_nb11.pad (pad_rep [] (.int 0) 34)
 refine og_astoreN (L' := #[.val (.ref ba), .val (.int 34), .val (.ref nb11)]) X11 hx rfl rfl (hb hby d50_17) rfl ?_
 refine og_aloadN X11 hx rfl rfl (hb hby d50_18) rfl ?_
 refine og_iconst (v := 0) X11 hx rfl (hb hby d50_19) rfl ?_
 refine og_aloadN X11 hx rfl rfl (hb hby d50_20) rfl ?_
 refine og_iconst (v := 0) X11 hx rfl (hb hby d50_21) rfl ?_
 refine og_aloadN X11 hx rfl rfl (hb hby d50_22) rfl ?_
 refine og_arraylength X11 hx hZ e11 V_ba (hb hby d50_23) rfl ?_
 refine og_iloadN X11 hx rfl (hb hby d50_24) rfl ?_
 refine og_static (pc' := 28) (cells' := 1) (slots' := 34) (W := 4) X11 hx hZ (rm_min_16_34 l Z a0 hw h11 n0 O) hown (ow167 hw) (ow168 hw) (ow169 hw) (ow170 hw) (by decide) (by rw [hml]; rfl) e11 opd_12 [(.int 16), (.int 34)] [(.int 0), (.ref nb11), (.int 0), (.ref ba)] rfl rfl rfl rfl (by decide) (by decide) rfl rfl (by decide) (by decide) (hb hby d50_25) rfl (fun v12 T12 h12 L12 X12 e12 z12 => ?_)
 obtain ⟨rfl, Nq12, hq12⟩ := z12; replace e12 := e12.trans hq12; have N := Fr.app N Nq12
 refine og_arraycopy (pc' := 31) (W := 0) (us := [(.int v0), (.int v1), (.int v2), (.int v3), (.int v4), (.int v5), (.int v6), (.int v7), (.int v8), (.int v9), (.int v10), (.int v11), (.int v12), (.int v13), (.int v14), (.int v15)]) X12 hx hZ (by rw [hml]; rfl) hown (ow171 hw) (ow125 hw) (ow123 hw) (ow124 hw) e12 V_ba V_nb11 rfl (by decide) (by decide) (by decide) (by decide) (by decide) rfl (Nat.le_of_ble_eq_true rfl) N g_nb11 rfl (by decide) (by decide) (hb hby d50_28) rfl (fun T13 h13 l13 X13 e13 N K13 V13 => ?_)
 have E_nb11 := E_nb11.keep K13; have K := K.trans K13 (allS (Or.inr sz_nb11) all0)
 have V_nb11 : Arv Z h13 nb11 kA11 .byte (34 : Int32) [(.int v0), (.int v1), (.int v2), (.int v3), (.int v4), (.int v5), (.int v6), (.int v7), (.int v8), (.int v9), (.int v10), (.int v11), (.int v12), (.int v13), (.int v14), (.int v15), (.int 0), (.int 0), (.int 0), (.int 0), (.int 0), (.int 0), (.int 0), (.int 0), (.int 0), (.int 0), (.int 0), (.int 0), (.int 0), (.int 0), (.int 0), (.int 0), (.int 0), (.int 0)] (.int 0) := V13
 refine og_aloadN X13 hx rfl rfl (hb hby d50_31) rfl ?_
 refine og_retR X13 hx hlk hret rfl rfl rfl (hb hby d50_32) (by decide) (by decide) ?_
 rw [e13]; exact ⟨_, _, rfl, N, K, sz_nb11, V_nb11, E_nb11⟩
theorem rm_ec_17 (l : Launch) (Z : State) (a0 : Array Value) (hw : HW a0 Z) (a1 bv : Addr) (kb : ClassId) (cn v0 v1 v2 v3 v4 v5 v6 v7 v8 v9 v10 v11 v12 v13 v14 v15 : Int32) (h0 : Heap) (n0 : Nat) (O : Old Z n0 h0) (E_a1 : Exa Z h0 a1 "java/lang/StringBuilder") (F_value_a1 : Fld Z h0 a1 "java/lang/AbstractStringBuilder" "value" "[B" (.ref bv)) (F_coder_a1 : Fld Z h0 a1 "java/lang/AbstractStringBuilder" "coder" "B" (.int 0)) (F_count_a1 : Fld Z h0 a1 "java/lang/AbstractStringBuilder" "count" "I" (.int cn)) (V_bv : Arv Z h0 bv kb .byte (16 : Int32) [(.int v0), (.int v1), (.int v2), (.int v3), (.int v4), (.int v5), (.int v6), (.int v7), (.int v8), (.int v9), (.int v10), (.int v11), (.int v12), (.int v13), (.int v14), (.int v15)] (.int 0)) (g_a1 : n0 ≤ a1) (ne_a1_bv : a1 ≠ bv) :
  Con l Z (⟨"java/lang/AbstractStringBuilder", "ensureCapacityInternal", "(I)V"⟩ : MethodName) jdk_68_method_9_code 3 none ({ frames := 3, cells := 1, slots := 34, locals := 48 } : Room) #[(.ref a1), (.int 17)] h0 (fun v h L => ∃ b k, v = none ∧ Fr n0 L ∧ Keep h0 h [a1] ∧ h0.size ≤ b ∧ Exa Z h a1 "java/lang/StringBuilder" ∧ Fld Z h a1 "java/lang/AbstractStringBuilder" "value" "[B" (.ref b) ∧ Fld Z h a1 "java/lang/AbstractStringBuilder" "coder" "B" (.int 0) ∧ Fld Z h a1 "java/lang/AbstractStringBuilder" "count" "I" (.int cn) ∧ Arv Z h b k .byte (34 : Int32) [(.int v0), (.int v1), (.int v2), (.int v3), (.int v4), (.int v5), (.int v6), (.int v7), (.int v8), (.int v9), (.int v10), (.int v11), (.int v12), (.int v13), (.int v14), (.int v15), (.int 0), (.int 0), (.int 0), (.int 0), (.int 0), (.int 0), (.int 0), (.int 0), (.int 0), (.int 0), (.int 0), (.int 0), (.int 0), (.int 0), (.int 0), (.int 0), (.int 0), (.int 0)] (.int 0) ∧ Exa Z h b "[B") := by
 refine own_startC opn_19 ?_
 intro p e s m below meth c T0 X0 hx hby hml hZ hown hnm hret hlk e0
 have N := Fr.nil n0; have K := Keep.refl h0 [a1]
 refine OG.cast (oef11 m a1 (17 : Int32)) ?_
 refine og_aloadN X0 hx rfl rfl (hb hby d19_0) rfl ?_
 refine og_getfield X0 hx hZ (host := "") hown (Or.inl (ow61 hw)) Via.refl e0 F_value_a1 (hb hby d19_1) rfl (fun T11 X11 e11 => ?_)
 refine og_arraylength X11 hx hZ e11 V_bv (hb hby d19_4) rfl ?_
 refine og_aloadN X11 hx rfl rfl (hb hby d19_5) rfl ?_
 refine og_getfield X11 hx hZ (host := "") hown (Or.inl (ow63 hw)) Via.refl e11 F_coder_a1 (hb hby d19_6) rfl (fun T12 X12 e12 => ?_)
 refine og_ishr X12 hx (hb hby d19_9) rfl ?_
 show OG p e below _ (T12.setTop (mkF m 10 #[.val (.ref a1), .val (.int 17), .unset] [(.int 16)]))
 refine og_istoreN (L' := #[.val (.ref a1), .val (.int 17), .val (.int 16)]) X12 hx rfl (hb hby d19_10) rfl ?_
 refine og_iloadN X12 hx rfl (hb hby d19_11) rfl ?_
 refine og_iloadN X12 hx rfl (hb hby d19_12) rfl ?_
 refine og_isub X12 hx (hb hby d19_13) rfl ?_
 show OG p e below _ (T12.setTop (mkF m 14 #[.val (.ref a1), .val (.int 17), .val (.int 16)] [(.int 1)]))
 refine og_if_le (pc1 := 38) (pc2 := 17) X12 hx (hb hby d19_14) (by decide) (by decide) rfl (fun q => absurd q (by decide)) (fun _ => ?_)
 refine og_aloadN X12 hx rfl rfl (hb hby d19_17) rfl ?_
 refine og_aloadN X12 hx rfl rfl (hb hby d19_18) rfl ?_
 refine og_getfield X12 hx hZ (host := "") hown (Or.inl (ow61 hw)) Via.refl e12 F_value_a1 (hb hby d19_19) rfl (fun T13 X13 e13 => ?_)
 refine og_aloadN X13 hx rfl rfl (hb hby d19_22) rfl ?_
 refine og_iloadN X13 hx rfl (hb hby d19_23) rfl ?_
 refine og_private (pc' := 27) (cells' := 0) (slots' := 0) (W := 2) X13 hx hZ (rm_ncp_17 l Z a0 hw a1 bv kb _ h0 n0 O F_value_a1 F_coder_a1 V_bv) hown (ow258 hw) (ow259 hw) (own_selfp (ow261 hw) (ow259 hw) (ow260 hw) (by decide)) (ow260 hw) (ow57 hw) (ow262 hw) (by decide) (by rw [hml]; rfl) e13 opd_14 [(.int 17)] [(.ref bv), (.ref a1)] rfl rfl rfl rfl (by decide) (by decide) rfl rfl (by decide) (by decide) E_a1 (hb hby d19_24) rfl (fun v14 T14 h14 L14 X14 e14 z14 => ?_)
 obtain ⟨rfl, Nq14, hq14⟩ := z14; replace e14 := e14.trans hq14; have N := Fr.app N Nq14
 refine og_aloadN X14 hx rfl rfl (hb hby d19_27) rfl ?_
 refine og_getfield X14 hx hZ (host := "") hown (Or.inl (ow63 hw)) Via.refl e14 F_coder_a1 (hb hby d19_28) rfl (fun T15 X15 e15 => ?_)
 refine og_ishl X15 hx (hb hby d19_31) rfl ?_
 show OG p e below _ (T15.setTop (mkF m 32 #[.val (.ref a1), .val (.int 17), .val (.int 16)] [(.int 34), (.ref bv), (.ref a1)]))
 refine og_static (pc' := 35) (cells' := 1) (slots' := 34) (W := 1) X15 hx hZ (rm_cpo_16_34 l Z a0 hw bv kb v0 v1 v2 v3 v4 v5 v6 v7 v8 v9 v10 v11 v12 v13 v14 v15 h0 n0 O V_bv) hown (ow272 hw) (ow273 hw) (ow159 hw) (ow274 hw) (by decide) (by rw [hml]; rfl) e15 opd_15 [(.ref bv), (.int 34)] [(.ref a1)] rfl rfl rfl rfl (by decide) (by decide) rfl rfl (by decide) (by decide) (hb hby d19_32) rfl (fun v16 T16 h16 L16 X16 e16 z16 => ?_)
 obtain ⟨nb16, k16, rfl, Nq16, K16, sb16, V_nb16, E_nb16⟩ := z16; have N := Fr.app N Nq16
 have s_nb16 : h0.size ≤ nb16 := sb16; have sz_nb16 : h0.size ≤ nb16 := Nat.le_trans K.1 s_nb16; have ne_a1_nb16 : a1 ≠ nb16 := Nat.ne_of_lt (Nat.lt_of_lt_of_le E_a1.lt s_nb16)
 have E_a1 := E_a1.keep K16; have F_value_a1 := F_value_a1.keep K16 nin0; have F_coder_a1 := F_coder_a1.keep K16 nin0; have F_count_a1 := F_count_a1.keep K16 nin0
 have K := K.trans K16 all0
 refine og_putfield X16 hx hZ (ty := (.array .byte)) (host := "") hown (Or.inl (ow61 hw)) Via.refl e16 F_value_a1 E_a1 (Or.inl (ow62 hw)) (ow48 hw) (by decide) rfl rfl (hb hby d19_35) rfl (fun T17 h17 X17 e17 W17 => ?_)
 have F_value_a1_ := F_value_a1.same W17
 have E_a1 := E_a1.wr W17; have F_coder_a1 := F_coder_a1.other W17 (Or.inr (slot_ne (Or.inl (ow64 hw)) (Or.inl (ow62 hw)) (by decide) (t := .byte) (t' := (.array .byte)) (by decide) (by decide))); have F_count_a1 := F_count_a1.other W17 (Or.inr (slot_ne (Or.inl (ow100 hw)) (Or.inl (ow62 hw)) (by decide) (t := .int) (t' := (.array .byte)) (by decide) (by decide))); have V_nb16 := V_nb16.other W17 (Ne.symm ne_a1_nb16); have E_nb16 := E_nb16.wr W17
 have K := K.wr W17 (Or.inl (List.mem_of_getElem? (i := 0) rfl))
 have N := Fr.snoc X17 N g_a1; have F_value_a1 := F_value_a1_
 refine og_retV X17 hx hlk hret (hb hby d19_38) (by decide) (by decide) ?_
 rw [e17]; exact ⟨_, _, rfl, N, K, sz_nb16, E_a1, F_value_a1, F_coder_a1, F_count_a1, V_nb16, E_nb16⟩
theorem rm_max_2_18 (l : Launch) (Z : State) (a0 : Array Value) (hw : HW a0 Z)  (h0 : Heap) (n0 : Nat) (O : Old Z n0 h0) :
  Con l Z (⟨"java/lang/Math", "max", "(II)I"⟩ : MethodName) jdk_29_method_65_code 2 (some .int) ({ frames := 0, cells := 0, slots := 0, locals := 0 } : Room) #[(.int 2), (.int 18)] h0 (fun v h L => v = some (.int 18) ∧ Fr n0 L ∧ h = h0) := by
 refine own_startC opn_49 ?_
 intro p e s m below meth c T0 X0 hx hby hml hZ hown hnm hret hlk e0
 have N := Fr.nil n0
 refine OG.cast (oef9 m (2 : Int32) (18 : Int32)) ?_
 refine og_iloadN X0 hx rfl (hb hby d49_0) rfl ?_
 refine og_iloadN X0 hx rfl (hb hby d49_1) rfl ?_
 refine og_icmp_lt (pc1 := 9) (pc2 := 5) X0 hx (hb hby d49_2) (by decide) (by decide) rfl (fun _ => ?_) (fun q => absurd q (by decide))
 refine og_iloadN X0 hx rfl (hb hby d49_9) rfl ?_
 refine og_retI X0 hx hlk hret (hb hby d49_10) (by decide) (by decide) ?_
 rw [e0]; exact ⟨rfl, N, rfl⟩
theorem rm_nl_18 (l : Launch) (Z : State) (a0 : Array Value) (hw : HW a0 Z)  (h0 : Heap) (n0 : Nat) (O : Old Z n0 h0) :
  Con l Z (⟨"jdk/internal/util/ArraysSupport", "newLength", "(III)I"⟩ : MethodName) jdk_48_method_27_code 4 (some .int) ({ frames := 1, cells := 0, slots := 0, locals := 14 } : Room) #[(.int 16), (.int 2), (.int 18)] h0 (fun v h L => v = some (.int 34) ∧ Fr n0 L ∧ h = h0) := by
 refine own_startC opn_48 ?_
 intro p e s m below meth c T0 X0 hx hby hml hZ hown hnm hret hlk e0
 have N := Fr.nil n0
 refine OG.cast (oef12 m (16 : Int32) (2 : Int32) (18 : Int32)) ?_
 refine og_iloadN X0 hx rfl (hb hby d48_0) rfl ?_
 refine og_iloadN X0 hx rfl (hb hby d48_1) rfl ?_
 refine og_iloadN X0 hx rfl (hb hby d48_2) rfl ?_
 refine og_static (pc' := 6) (cells' := 0) (slots' := 0) (W := 1) X0 hx hZ (rm_max_2_18 l Z a0 hw h0 n0 O) hown (ow267 hw) (ow268 hw) (ow169 hw) (ow269 hw) (by decide) (by rw [hml]; rfl) e0 opd_12 [(.int 2), (.int 18)] [(.int 16)] rfl rfl rfl rfl (by decide) (by decide) rfl rfl (by decide) (by decide) (hb hby d48_3) rfl (fun v11 T11 h11 L11 X11 e11 z11 => ?_)
 obtain ⟨rfl, Nq11, hq11⟩ := z11; replace e11 := e11.trans hq11; have N := Fr.app N Nq11
 refine og_iadd X11 hx (hb hby d48_6) rfl ?_
 show OG p e below _ (T11.setTop (mkF m 7 #[.val (.int 16), .val (.int 2), .val (.int 18), .unset] [(.int 34)]))
 refine og_istoreN (L' := #[.val (.int 16), .val (.int 2), .val (.int 18), .val (.int 34)]) X11 hx rfl (hb hby d48_7) rfl ?_
 refine og_iconst (v := 0) X11 hx rfl (hb hby d48_8) rfl ?_
 refine og_iloadN X11 hx rfl (hb hby d48_9) rfl ?_
 refine og_icmp_ge (pc1 := 21) (pc2 := 13) X11 hx (hb hby d48_10) (by decide) (by decide) rfl (fun q => absurd q (by decide)) (fun _ => ?_)
 refine og_iloadN X11 hx rfl (hb hby d48_13) rfl ?_
 refine og_ldc X11 hx hZ hown (ow270 hw) (hb hby d48_14) rfl ?_
 refine og_icmp_gt (pc1 := 21) (pc2 := 19) X11 hx (hb hby d48_16) (by decide) (by decide) rfl (fun q => absurd q (by decide)) (fun _ => ?_)
 refine og_iloadN X11 hx rfl (hb hby d48_19) rfl ?_
 refine og_retI X11 hx hlk hret (hb hby d48_20) (by decide) (by decide) ?_
 rw [e11]; exact ⟨rfl, N, rfl⟩
theorem rm_ncp_18 (l : Launch) (Z : State) (a0 : Array Value) (hw : HW a0 Z) (a1 bv : Addr) (kb : ClassId) (vs : List Value) (h0 : Heap) (n0 : Nat) (O : Old Z n0 h0) (F_value_a1 : Fld Z h0 a1 "java/lang/AbstractStringBuilder" "value" "[B" (.ref bv)) (F_coder_a1 : Fld Z h0 a1 "java/lang/AbstractStringBuilder" "coder" "B" (.int 0)) (V_bv : Arv Z h0 bv kb .byte (16 : Int32) vs (.int 0)) :
  Con l Z (⟨"java/lang/AbstractStringBuilder", "newCapacity", "(I)I"⟩ : MethodName) jdk_68_method_10_code 6 (some .int) ({ frames := 2, cells := 0, slots := 0, locals := 29 } : Room) #[(.ref a1), (.int 18)] h0 (fun v h L => v = some (.int 34) ∧ Fr n0 L ∧ h = h0) := by
 refine own_startC opn_47 ?_
 intro p e s m below meth c T0 X0 hx hby hml hZ hown hnm hret hlk e0
 have N := Fr.nil n0
 refine OG.cast (oef13 m a1 (18 : Int32)) ?_
 refine og_aloadN X0 hx rfl rfl (hb hby d47_0) rfl ?_
 refine og_getfield X0 hx hZ (host := "") hown (Or.inl (ow61 hw)) Via.refl e0 F_value_a1 (hb hby d47_1) rfl (fun T11 X11 e11 => ?_)
 refine og_arraylength X11 hx hZ e11 V_bv (hb hby d47_4) rfl ?_
 refine og_istoreN (L' := #[.val (.ref a1), .val (.int 18), .val (.int 16), .unset, .unset, .unset]) X11 hx rfl (hb hby d47_5) rfl ?_
 refine og_iloadN X11 hx rfl (hb hby d47_6) rfl ?_
 refine og_aloadN X11 hx rfl rfl (hb hby d47_7) rfl ?_
 refine og_getfield X11 hx hZ (host := "") hown (Or.inl (ow63 hw)) Via.refl e11 F_coder_a1 (hb hby d47_8) rfl (fun T12 X12 e12 => ?_)
 refine og_ishl X12 hx (hb hby d47_11) rfl ?_
 show OG p e below _ (T12.setTop (mkF m 12 #[.val (.ref a1), .val (.int 18), .val (.int 16), .unset, .unset, .unset] [(.int 18)]))
 refine og_istoreN (L' := #[.val (.ref a1), .val (.int 18), .val (.int 16), .val (.int 18), .unset, .unset]) X12 hx rfl (hb hby d47_12) rfl ?_
 refine og_iloadN X12 hx rfl (hb hby d47_13) rfl ?_
 refine og_iloadN X12 hx rfl (hb hby d47_14) rfl ?_
 refine og_isub X12 hx (hb hby d47_15) rfl ?_
 show OG p e below _ (T12.setTop (mkF m 16 #[.val (.ref a1), .val (.int 18), .val (.int 16), .val (.int 18), .unset, .unset] [(.int 2)]))
 refine og_istore (L' := #[.val (.ref a1), .val (.int 18), .val (.int 16), .val (.int 18), .val (.int 2), .unset]) X12 hx rfl (hb hby d47_16) rfl ?_
 refine og_iloadN X12 hx rfl (hb hby d47_18) rfl ?_
 refine og_iload X12 hx rfl (hb hby d47_19) rfl ?_
 refine og_iloadN X12 hx rfl (hb hby d47_21) rfl ?_
 refine og_iconst (v := 2) X12 hx rfl (hb hby d47_22) rfl ?_
 refine og_aloadN X12 hx rfl rfl (hb hby d47_23) rfl ?_
 refine og_getfield X12 hx hZ (host := "") hown (Or.inl (ow63 hw)) Via.refl e12 F_coder_a1 (hb hby d47_24) rfl (fun T13 X13 e13 => ?_)
 refine og_ishl X13 hx (hb hby d47_27) rfl ?_
 show OG p e below _ (T13.setTop (mkF m 28 #[.val (.ref a1), .val (.int 18), .val (.int 16), .val (.int 18), .val (.int 2), .unset] [(.int 2), (.int 16), (.int 2), (.int 16)]))
 refine og_iadd X13 hx (hb hby d47_28) rfl ?_
 show OG p e below _ (T13.setTop (mkF m 29 #[.val (.ref a1), .val (.int 18), .val (.int 16), .val (.int 18), .val (.int 2), .unset] [(.int 18), (.int 2), (.int 16)]))
 refine og_static (pc' := 32) (cells' := 0) (slots' := 0) (W := 0) X13 hx hZ (rm_nl_18 l Z a0 hw h0 n0 O) hown (ow263 hw) (ow264 hw) (ow265 hw) (ow266 hw) (by decide) (by rw [hml]; rfl) e13 opd_13 [(.int 16), (.int 2), (.int 18)] [] rfl rfl rfl rfl (by decide) (by decide) rfl rfl (by decide) (by decide) (hb hby d47_29) rfl (fun v14 T14 h14 L14 X14 e14 z14 => ?_)
 obtain ⟨rfl, Nq14, hq14⟩ := z14; replace e14 := e14.trans hq14; have N := Fr.app N Nq14
 refine og_istore (L' := #[.val (.ref a1), .val (.int 18), .val (.int 16), .val (.int 18), .val (.int 2), .val (.int 34)]) X14 hx rfl (hb hby d47_32) rfl ?_
 refine og_iload X14 hx rfl (hb hby d47_34) rfl ?_
 refine og_ldc X14 hx hZ hown (ow271 hw) (hb hby d47_36) rfl ?_
 refine og_icmp_ne (pc1 := 51) (pc2 := 41) X14 hx (hb hby d47_38) (by decide) (by decide) rfl (fun _ => ?_) (fun q => absurd q (by decide))
 refine og_iload X14 hx rfl (hb hby d47_51) rfl ?_
 refine og_aloadN X14 hx rfl rfl (hb hby d47_53) rfl ?_
 refine og_getfield X14 hx hZ (host := "") hown (Or.inl (ow63 hw)) Via.refl e14 F_coder_a1 (hb hby d47_54) rfl (fun T15 X15 e15 => ?_)
 refine og_ishr X15 hx (hb hby d47_57) rfl ?_
 show OG p e below _ (T15.setTop (mkF m 58 #[.val (.ref a1), .val (.int 18), .val (.int 16), .val (.int 18), .val (.int 2), .val (.int 34)] [(.int 34)]))
 refine og_retI X15 hx hlk hret (hb hby d47_58) (by decide) (by decide) ?_
 rw [e15]; exact ⟨rfl, N, rfl⟩
theorem rm_ec_18 (l : Launch) (Z : State) (a0 : Array Value) (hw : HW a0 Z) (a1 bv : Addr) (kb : ClassId) (cn v0 v1 v2 v3 v4 v5 v6 v7 v8 v9 v10 v11 v12 v13 v14 v15 : Int32) (h0 : Heap) (n0 : Nat) (O : Old Z n0 h0) (E_a1 : Exa Z h0 a1 "java/lang/StringBuilder") (F_value_a1 : Fld Z h0 a1 "java/lang/AbstractStringBuilder" "value" "[B" (.ref bv)) (F_coder_a1 : Fld Z h0 a1 "java/lang/AbstractStringBuilder" "coder" "B" (.int 0)) (F_count_a1 : Fld Z h0 a1 "java/lang/AbstractStringBuilder" "count" "I" (.int cn)) (V_bv : Arv Z h0 bv kb .byte (16 : Int32) [(.int v0), (.int v1), (.int v2), (.int v3), (.int v4), (.int v5), (.int v6), (.int v7), (.int v8), (.int v9), (.int v10), (.int v11), (.int v12), (.int v13), (.int v14), (.int v15)] (.int 0)) (g_a1 : n0 ≤ a1) (ne_a1_bv : a1 ≠ bv) :
  Con l Z (⟨"java/lang/AbstractStringBuilder", "ensureCapacityInternal", "(I)V"⟩ : MethodName) jdk_68_method_9_code 3 none ({ frames := 3, cells := 1, slots := 34, locals := 48 } : Room) #[(.ref a1), (.int 18)] h0 (fun v h L => ∃ b k, v = none ∧ Fr n0 L ∧ Keep h0 h [a1] ∧ h0.size ≤ b ∧ Exa Z h a1 "java/lang/StringBuilder" ∧ Fld Z h a1 "java/lang/AbstractStringBuilder" "value" "[B" (.ref b) ∧ Fld Z h a1 "java/lang/AbstractStringBuilder" "coder" "B" (.int 0) ∧ Fld Z h a1 "java/lang/AbstractStringBuilder" "count" "I" (.int cn) ∧ Arv Z h b k .byte (34 : Int32) [(.int v0), (.int v1), (.int v2), (.int v3), (.int v4), (.int v5), (.int v6), (.int v7), (.int v8), (.int v9), (.int v10), (.int v11), (.int v12), (.int v13), (.int v14), (.int v15), (.int 0), (.int 0), (.int 0), (.int 0), (.int 0), (.int 0), (.int 0), (.int 0), (.int 0), (.int 0), (.int 0), (.int 0), (.int 0), (.int 0), (.int 0), (.int 0), (.int 0), (.int 0)] (.int 0) ∧ Exa Z h b "[B") := by
 refine own_startC opn_19 ?_
 intro p e s m below meth c T0 X0 hx hby hml hZ hown hnm hret hlk e0
 have N := Fr.nil n0; have K := Keep.refl h0 [a1]
 refine OG.cast (oef11 m a1 (18 : Int32)) ?_
 refine og_aloadN X0 hx rfl rfl (hb hby d19_0) rfl ?_
 refine og_getfield X0 hx hZ (host := "") hown (Or.inl (ow61 hw)) Via.refl e0 F_value_a1 (hb hby d19_1) rfl (fun T11 X11 e11 => ?_)
 refine og_arraylength X11 hx hZ e11 V_bv (hb hby d19_4) rfl ?_
 refine og_aloadN X11 hx rfl rfl (hb hby d19_5) rfl ?_
 refine og_getfield X11 hx hZ (host := "") hown (Or.inl (ow63 hw)) Via.refl e11 F_coder_a1 (hb hby d19_6) rfl (fun T12 X12 e12 => ?_)
 refine og_ishr X12 hx (hb hby d19_9) rfl ?_
 show OG p e below _ (T12.setTop (mkF m 10 #[.val (.ref a1), .val (.int 18), .unset] [(.int 16)]))
 refine og_istoreN (L' := #[.val (.ref a1), .val (.int 18), .val (.int 16)]) X12 hx rfl (hb hby d19_10) rfl ?_
 refine og_iloadN X12 hx rfl (hb hby d19_11) rfl ?_
 refine og_iloadN X12 hx rfl (hb hby d19_12) rfl ?_
 refine og_isub X12 hx (hb hby d19_13) rfl ?_
 show OG p e below _ (T12.setTop (mkF m 14 #[.val (.ref a1), .val (.int 18), .val (.int 16)] [(.int 2)]))
 refine og_if_le (pc1 := 38) (pc2 := 17) X12 hx (hb hby d19_14) (by decide) (by decide) rfl (fun q => absurd q (by decide)) (fun _ => ?_)
 refine og_aloadN X12 hx rfl rfl (hb hby d19_17) rfl ?_
 refine og_aloadN X12 hx rfl rfl (hb hby d19_18) rfl ?_
 refine og_getfield X12 hx hZ (host := "") hown (Or.inl (ow61 hw)) Via.refl e12 F_value_a1 (hb hby d19_19) rfl (fun T13 X13 e13 => ?_)
 refine og_aloadN X13 hx rfl rfl (hb hby d19_22) rfl ?_
 refine og_iloadN X13 hx rfl (hb hby d19_23) rfl ?_
 refine og_private (pc' := 27) (cells' := 0) (slots' := 0) (W := 2) X13 hx hZ (rm_ncp_18 l Z a0 hw a1 bv kb _ h0 n0 O F_value_a1 F_coder_a1 V_bv) hown (ow258 hw) (ow259 hw) (own_selfp (ow261 hw) (ow259 hw) (ow260 hw) (by decide)) (ow260 hw) (ow57 hw) (ow262 hw) (by decide) (by rw [hml]; rfl) e13 opd_14 [(.int 18)] [(.ref bv), (.ref a1)] rfl rfl rfl rfl (by decide) (by decide) rfl rfl (by decide) (by decide) E_a1 (hb hby d19_24) rfl (fun v14 T14 h14 L14 X14 e14 z14 => ?_)
 obtain ⟨rfl, Nq14, hq14⟩ := z14; replace e14 := e14.trans hq14; have N := Fr.app N Nq14
 refine og_aloadN X14 hx rfl rfl (hb hby d19_27) rfl ?_
 refine og_getfield X14 hx hZ (host := "") hown (Or.inl (ow63 hw)) Via.refl e14 F_coder_a1 (hb hby d19_28) rfl (fun T15 X15 e15 => ?_)
 refine og_ishl X15 hx (hb hby d19_31) rfl ?_
 show OG p e below _ (T15.setTop (mkF m 32 #[.val (.ref a1), .val (.int 18), .val (.int 16)] [(.int 34), (.ref bv), (.ref a1)]))
 refine og_static (pc' := 35) (cells' := 1) (slots' := 34) (W := 1) X15 hx hZ (rm_cpo_16_34 l Z a0 hw bv kb v0 v1 v2 v3 v4 v5 v6 v7 v8 v9 v10 v11 v12 v13 v14 v15 h0 n0 O V_bv) hown (ow272 hw) (ow273 hw) (ow159 hw) (ow274 hw) (by decide) (by rw [hml]; rfl) e15 opd_15 [(.ref bv), (.int 34)] [(.ref a1)] rfl rfl rfl rfl (by decide) (by decide) rfl rfl (by decide) (by decide) (hb hby d19_32) rfl (fun v16 T16 h16 L16 X16 e16 z16 => ?_)
 obtain ⟨nb16, k16, rfl, Nq16, K16, sb16, V_nb16, E_nb16⟩ := z16; have N := Fr.app N Nq16
 have s_nb16 : h0.size ≤ nb16 := sb16; have sz_nb16 : h0.size ≤ nb16 := Nat.le_trans K.1 s_nb16; have ne_a1_nb16 : a1 ≠ nb16 := Nat.ne_of_lt (Nat.lt_of_lt_of_le E_a1.lt s_nb16)
 have E_a1 := E_a1.keep K16; have F_value_a1 := F_value_a1.keep K16 nin0; have F_coder_a1 := F_coder_a1.keep K16 nin0; have F_count_a1 := F_count_a1.keep K16 nin0
 have K := K.trans K16 all0
 refine og_putfield X16 hx hZ (ty := (.array .byte)) (host := "") hown (Or.inl (ow61 hw)) Via.refl e16 F_value_a1 E_a1 (Or.inl (ow62 hw)) (ow48 hw) (by decide) rfl rfl (hb hby d19_35) rfl (fun T17 h17 X17 e17 W17 => ?_)
 have F_value_a1_ := F_value_a1.same W17
 have E_a1 := E_a1.wr W17; have F_coder_a1 := F_coder_a1.other W17 (Or.inr (slot_ne (Or.inl (ow64 hw)) (Or.inl (ow62 hw)) (by decide) (t := .byte) (t' := (.array .byte)) (by decide) (by decide))); have F_count_a1 := F_count_a1.other W17 (Or.inr (slot_ne (Or.inl (ow100 hw)) (Or.inl (ow62 hw)) (by decide) (t := .int) (t' := (.array .byte)) (by decide) (by decide))); have V_nb16 := V_nb16.other W17 (Ne.symm ne_a1_nb16); have E_nb16 := E_nb16.wr W17
 have K := K.wr W17 (Or.inl (List.mem_of_getElem? (i := 0) rfl))
 have N := Fr.snoc X17 N g_a1; have F_value_a1 := F_value_a1_
 refine og_retV X17 hx hlk hret (hb hby d19_38) (by decide) (by decide) ?_
 rw [e17]; exact ⟨_, _, rfl, N, K, sz_nb16, E_a1, F_value_a1, F_coder_a1, F_count_a1, V_nb16, E_nb16⟩
theorem rm_max_3_18 (l : Launch) (Z : State) (a0 : Array Value) (hw : HW a0 Z)  (h0 : Heap) (n0 : Nat) (O : Old Z n0 h0) :
  Con l Z (⟨"java/lang/Math", "max", "(II)I"⟩ : MethodName) jdk_29_method_65_code 2 (some .int) ({ frames := 0, cells := 0, slots := 0, locals := 0 } : Room) #[(.int 3), (.int 18)] h0 (fun v h L => v = some (.int 18) ∧ Fr n0 L ∧ h = h0) := by
 refine own_startC opn_49 ?_
 intro p e s m below meth c T0 X0 hx hby hml hZ hown hnm hret hlk e0
 have N := Fr.nil n0
 refine OG.cast (oef9 m (3 : Int32) (18 : Int32)) ?_
 refine og_iloadN X0 hx rfl (hb hby d49_0) rfl ?_
 refine og_iloadN X0 hx rfl (hb hby d49_1) rfl ?_
 refine og_icmp_lt (pc1 := 9) (pc2 := 5) X0 hx (hb hby d49_2) (by decide) (by decide) rfl (fun _ => ?_) (fun q => absurd q (by decide))
 refine og_iloadN X0 hx rfl (hb hby d49_9) rfl ?_
 refine og_retI X0 hx hlk hret (hb hby d49_10) (by decide) (by decide) ?_
 rw [e0]; exact ⟨rfl, N, rfl⟩
theorem rm_nl_19 (l : Launch) (Z : State) (a0 : Array Value) (hw : HW a0 Z)  (h0 : Heap) (n0 : Nat) (O : Old Z n0 h0) :
  Con l Z (⟨"jdk/internal/util/ArraysSupport", "newLength", "(III)I"⟩ : MethodName) jdk_48_method_27_code 4 (some .int) ({ frames := 1, cells := 0, slots := 0, locals := 14 } : Room) #[(.int 16), (.int 3), (.int 18)] h0 (fun v h L => v = some (.int 34) ∧ Fr n0 L ∧ h = h0) := by
 refine own_startC opn_48 ?_
 intro p e s m below meth c T0 X0 hx hby hml hZ hown hnm hret hlk e0
 have N := Fr.nil n0
 refine OG.cast (oef12 m (16 : Int32) (3 : Int32) (18 : Int32)) ?_
 refine og_iloadN X0 hx rfl (hb hby d48_0) rfl ?_
 refine og_iloadN X0 hx rfl (hb hby d48_1) rfl ?_
 refine og_iloadN X0 hx rfl (hb hby d48_2) rfl ?_
 refine og_static (pc' := 6) (cells' := 0) (slots' := 0) (W := 1) X0 hx hZ (rm_max_3_18 l Z a0 hw h0 n0 O) hown (ow267 hw) (ow268 hw) (ow169 hw) (ow269 hw) (by decide) (by rw [hml]; rfl) e0 opd_12 [(.int 3), (.int 18)] [(.int 16)] rfl rfl rfl rfl (by decide) (by decide) rfl rfl (by decide) (by decide) (hb hby d48_3) rfl (fun v11 T11 h11 L11 X11 e11 z11 => ?_)
 obtain ⟨rfl, Nq11, hq11⟩ := z11; replace e11 := e11.trans hq11; have N := Fr.app N Nq11
 refine og_iadd X11 hx (hb hby d48_6) rfl ?_
 show OG p e below _ (T11.setTop (mkF m 7 #[.val (.int 16), .val (.int 3), .val (.int 18), .unset] [(.int 34)]))
 refine og_istoreN (L' := #[.val (.int 16), .val (.int 3), .val (.int 18), .val (.int 34)]) X11 hx rfl (hb hby d48_7) rfl ?_
 refine og_iconst (v := 0) X11 hx rfl (hb hby d48_8) rfl ?_
 refine og_iloadN X11 hx rfl (hb hby d48_9) rfl ?_
 refine og_icmp_ge (pc1 := 21) (pc2 := 13) X11 hx (hb hby d48_10) (by decide) (by decide) rfl (fun q => absurd q (by decide)) (fun _ => ?_)
 refine og_iloadN X11 hx rfl (hb hby d48_13) rfl ?_
 refine og_ldc X11 hx hZ hown (ow270 hw) (hb hby d48_14) rfl ?_
 refine og_icmp_gt (pc1 := 21) (pc2 := 19) X11 hx (hb hby d48_16) (by decide) (by decide) rfl (fun q => absurd q (by decide)) (fun _ => ?_)
 refine og_iloadN X11 hx rfl (hb hby d48_19) rfl ?_
 refine og_retI X11 hx hlk hret (hb hby d48_20) (by decide) (by decide) ?_
 rw [e11]; exact ⟨rfl, N, rfl⟩
theorem rm_ncp_19 (l : Launch) (Z : State) (a0 : Array Value) (hw : HW a0 Z) (a1 bv : Addr) (kb : ClassId) (vs : List Value) (h0 : Heap) (n0 : Nat) (O : Old Z n0 h0) (F_value_a1 : Fld Z h0 a1 "java/lang/AbstractStringBuilder" "value" "[B" (.ref bv)) (F_coder_a1 : Fld Z h0 a1 "java/lang/AbstractStringBuilder" "coder" "B" (.int 0)) (V_bv : Arv Z h0 bv kb .byte (16 : Int32) vs (.int 0)) :
  Con l Z (⟨"java/lang/AbstractStringBuilder", "newCapacity", "(I)I"⟩ : MethodName) jdk_68_method_10_code 6 (some .int) ({ frames := 2, cells := 0, slots := 0, locals := 29 } : Room) #[(.ref a1), (.int 19)] h0 (fun v h L => v = some (.int 34) ∧ Fr n0 L ∧ h = h0) := by
 refine own_startC opn_47 ?_
 intro p e s m below meth c T0 X0 hx hby hml hZ hown hnm hret hlk e0
 have N := Fr.nil n0
 refine OG.cast (oef13 m a1 (19 : Int32)) ?_
 refine og_aloadN X0 hx rfl rfl (hb hby d47_0) rfl ?_
 refine og_getfield X0 hx hZ (host := "") hown (Or.inl (ow61 hw)) Via.refl e0 F_value_a1 (hb hby d47_1) rfl (fun T11 X11 e11 => ?_)
 refine og_arraylength X11 hx hZ e11 V_bv (hb hby d47_4) rfl ?_
 refine og_istoreN (L' := #[.val (.ref a1), .val (.int 19), .val (.int 16), .unset, .unset, .unset]) X11 hx rfl (hb hby d47_5) rfl ?_
 refine og_iloadN X11 hx rfl (hb hby d47_6) rfl ?_
 refine og_aloadN X11 hx rfl rfl (hb hby d47_7) rfl ?_
 refine og_getfield X11 hx hZ (host := "") hown (Or.inl (ow63 hw)) Via.refl e11 F_coder_a1 (hb hby d47_8) rfl (fun T12 X12 e12 => ?_)
 refine og_ishl X12 hx (hb hby d47_11) rfl ?_
 show OG p e below _ (T12.setTop (mkF m 12 #[.val (.ref a1), .val (.int 19), .val (.int 16), .unset, .unset, .unset] [(.int 19)]))
 refine og_istoreN (L' := #[.val (.ref a1), .val (.int 19), .val (.int 16), .val (.int 19), .unset, .unset]) X12 hx rfl (hb hby d47_12) rfl ?_
 refine og_iloadN X12 hx rfl (hb hby d47_13) rfl ?_
 refine og_iloadN X12 hx rfl (hb hby d47_14) rfl ?_
 refine og_isub X12 hx (hb hby d47_15) rfl ?_
 show OG p e below _ (T12.setTop (mkF m 16 #[.val (.ref a1), .val (.int 19), .val (.int 16), .val (.int 19), .unset, .unset] [(.int 3)]))
 refine og_istore (L' := #[.val (.ref a1), .val (.int 19), .val (.int 16), .val (.int 19), .val (.int 3), .unset]) X12 hx rfl (hb hby d47_16) rfl ?_
 refine og_iloadN X12 hx rfl (hb hby d47_18) rfl ?_
 refine og_iload X12 hx rfl (hb hby d47_19) rfl ?_
 refine og_iloadN X12 hx rfl (hb hby d47_21) rfl ?_
 refine og_iconst (v := 2) X12 hx rfl (hb hby d47_22) rfl ?_
 refine og_aloadN X12 hx rfl rfl (hb hby d47_23) rfl ?_
 refine og_getfield X12 hx hZ (host := "") hown (Or.inl (ow63 hw)) Via.refl e12 F_coder_a1 (hb hby d47_24) rfl (fun T13 X13 e13 => ?_)
 refine og_ishl X13 hx (hb hby d47_27) rfl ?_
 show OG p e below _ (T13.setTop (mkF m 28 #[.val (.ref a1), .val (.int 19), .val (.int 16), .val (.int 19), .val (.int 3), .unset] [(.int 2), (.int 16), (.int 3), (.int 16)]))
 refine og_iadd X13 hx (hb hby d47_28) rfl ?_
 show OG p e below _ (T13.setTop (mkF m 29 #[.val (.ref a1), .val (.int 19), .val (.int 16), .val (.int 19), .val (.int 3), .unset] [(.int 18), (.int 3), (.int 16)]))
 refine og_static (pc' := 32) (cells' := 0) (slots' := 0) (W := 0) X13 hx hZ (rm_nl_19 l Z a0 hw h0 n0 O) hown (ow263 hw) (ow264 hw) (ow265 hw) (ow266 hw) (by decide) (by rw [hml]; rfl) e13 opd_13 [(.int 16), (.int 3), (.int 18)] [] rfl rfl rfl rfl (by decide) (by decide) rfl rfl (by decide) (by decide) (hb hby d47_29) rfl (fun v14 T14 h14 L14 X14 e14 z14 => ?_)
 obtain ⟨rfl, Nq14, hq14⟩ := z14; replace e14 := e14.trans hq14; have N := Fr.app N Nq14
 refine og_istore (L' := #[.val (.ref a1), .val (.int 19), .val (.int 16), .val (.int 19), .val (.int 3), .val (.int 34)]) X14 hx rfl (hb hby d47_32) rfl ?_
 refine og_iload X14 hx rfl (hb hby d47_34) rfl ?_
 refine og_ldc X14 hx hZ hown (ow271 hw) (hb hby d47_36) rfl ?_
 refine og_icmp_ne (pc1 := 51) (pc2 := 41) X14 hx (hb hby d47_38) (by decide) (by decide) rfl (fun _ => ?_) (fun q => absurd q (by decide))
 refine og_iload X14 hx rfl (hb hby d47_51) rfl ?_
 refine og_aloadN X14 hx rfl rfl (hb hby d47_53) rfl ?_
 refine og_getfield X14 hx hZ (host := "") hown (Or.inl (ow63 hw)) Via.refl e14 F_coder_a1 (hb hby d47_54) rfl (fun T15 X15 e15 => ?_)
 refine og_ishr X15 hx (hb hby d47_57) rfl ?_
 show OG p e below _ (T15.setTop (mkF m 58 #[.val (.ref a1), .val (.int 19), .val (.int 16), .val (.int 19), .val (.int 3), .val (.int 34)] [(.int 34)]))
 refine og_retI X15 hx hlk hret (hb hby d47_58) (by decide) (by decide) ?_
 rw [e15]; exact ⟨rfl, N, rfl⟩
theorem rm_ec_19 (l : Launch) (Z : State) (a0 : Array Value) (hw : HW a0 Z) (a1 bv : Addr) (kb : ClassId) (cn v0 v1 v2 v3 v4 v5 v6 v7 v8 v9 v10 v11 v12 v13 v14 v15 : Int32) (h0 : Heap) (n0 : Nat) (O : Old Z n0 h0) (E_a1 : Exa Z h0 a1 "java/lang/StringBuilder") (F_value_a1 : Fld Z h0 a1 "java/lang/AbstractStringBuilder" "value" "[B" (.ref bv)) (F_coder_a1 : Fld Z h0 a1 "java/lang/AbstractStringBuilder" "coder" "B" (.int 0)) (F_count_a1 : Fld Z h0 a1 "java/lang/AbstractStringBuilder" "count" "I" (.int cn)) (V_bv : Arv Z h0 bv kb .byte (16 : Int32) [(.int v0), (.int v1), (.int v2), (.int v3), (.int v4), (.int v5), (.int v6), (.int v7), (.int v8), (.int v9), (.int v10), (.int v11), (.int v12), (.int v13), (.int v14), (.int v15)] (.int 0)) (g_a1 : n0 ≤ a1) (ne_a1_bv : a1 ≠ bv) :
  Con l Z (⟨"java/lang/AbstractStringBuilder", "ensureCapacityInternal", "(I)V"⟩ : MethodName) jdk_68_method_9_code 3 none ({ frames := 3, cells := 1, slots := 34, locals := 48 } : Room) #[(.ref a1), (.int 19)] h0 (fun v h L => ∃ b k, v = none ∧ Fr n0 L ∧ Keep h0 h [a1] ∧ h0.size ≤ b ∧ Exa Z h a1 "java/lang/StringBuilder" ∧ Fld Z h a1 "java/lang/AbstractStringBuilder" "value" "[B" (.ref b) ∧ Fld Z h a1 "java/lang/AbstractStringBuilder" "coder" "B" (.int 0) ∧ Fld Z h a1 "java/lang/AbstractStringBuilder" "count" "I" (.int cn) ∧ Arv Z h b k .byte (34 : Int32) [(.int v0), (.int v1), (.int v2), (.int v3), (.int v4), (.int v5), (.int v6), (.int v7), (.int v8), (.int v9), (.int v10), (.int v11), (.int v12), (.int v13), (.int v14), (.int v15), (.int 0), (.int 0), (.int 0), (.int 0), (.int 0), (.int 0), (.int 0), (.int 0), (.int 0), (.int 0), (.int 0), (.int 0), (.int 0), (.int 0), (.int 0), (.int 0), (.int 0), (.int 0)] (.int 0) ∧ Exa Z h b "[B") := by
 refine own_startC opn_19 ?_
 intro p e s m below meth c T0 X0 hx hby hml hZ hown hnm hret hlk e0
 have N := Fr.nil n0; have K := Keep.refl h0 [a1]
 refine OG.cast (oef11 m a1 (19 : Int32)) ?_
 refine og_aloadN X0 hx rfl rfl (hb hby d19_0) rfl ?_
 refine og_getfield X0 hx hZ (host := "") hown (Or.inl (ow61 hw)) Via.refl e0 F_value_a1 (hb hby d19_1) rfl (fun T11 X11 e11 => ?_)
 refine og_arraylength X11 hx hZ e11 V_bv (hb hby d19_4) rfl ?_
 refine og_aloadN X11 hx rfl rfl (hb hby d19_5) rfl ?_
 refine og_getfield X11 hx hZ (host := "") hown (Or.inl (ow63 hw)) Via.refl e11 F_coder_a1 (hb hby d19_6) rfl (fun T12 X12 e12 => ?_)
 refine og_ishr X12 hx (hb hby d19_9) rfl ?_
 show OG p e below _ (T12.setTop (mkF m 10 #[.val (.ref a1), .val (.int 19), .unset] [(.int 16)]))
 refine og_istoreN (L' := #[.val (.ref a1), .val (.int 19), .val (.int 16)]) X12 hx rfl (hb hby d19_10) rfl ?_
 refine og_iloadN X12 hx rfl (hb hby d19_11) rfl ?_
 refine og_iloadN X12 hx rfl (hb hby d19_12) rfl ?_
 refine og_isub X12 hx (hb hby d19_13) rfl ?_
 show OG p e below _ (T12.setTop (mkF m 14 #[.val (.ref a1), .val (.int 19), .val (.int 16)] [(.int 3)]))
 refine og_if_le (pc1 := 38) (pc2 := 17) X12 hx (hb hby d19_14) (by decide) (by decide) rfl (fun q => absurd q (by decide)) (fun _ => ?_)
 refine og_aloadN X12 hx rfl rfl (hb hby d19_17) rfl ?_
 refine og_aloadN X12 hx rfl rfl (hb hby d19_18) rfl ?_
 refine og_getfield X12 hx hZ (host := "") hown (Or.inl (ow61 hw)) Via.refl e12 F_value_a1 (hb hby d19_19) rfl (fun T13 X13 e13 => ?_)
 refine og_aloadN X13 hx rfl rfl (hb hby d19_22) rfl ?_
 refine og_iloadN X13 hx rfl (hb hby d19_23) rfl ?_
 refine og_private (pc' := 27) (cells' := 0) (slots' := 0) (W := 2) X13 hx hZ (rm_ncp_19 l Z a0 hw a1 bv kb _ h0 n0 O F_value_a1 F_coder_a1 V_bv) hown (ow258 hw) (ow259 hw) (own_selfp (ow261 hw) (ow259 hw) (ow260 hw) (by decide)) (ow260 hw) (ow57 hw) (ow262 hw) (by decide) (by rw [hml]; rfl) e13 opd_14 [(.int 19)] [(.ref bv), (.ref a1)] rfl rfl rfl rfl (by decide) (by decide) rfl rfl (by decide) (by decide) E_a1 (hb hby d19_24) rfl (fun v14 T14 h14 L14 X14 e14 z14 => ?_)
 obtain ⟨rfl, Nq14, hq14⟩ := z14; replace e14 := e14.trans hq14; have N := Fr.app N Nq14
 refine og_aloadN X14 hx rfl rfl (hb hby d19_27) rfl ?_
 refine og_getfield X14 hx hZ (host := "") hown (Or.inl (ow63 hw)) Via.refl e14 F_coder_a1 (hb hby d19_28) rfl (fun T15 X15 e15 => ?_)
 refine og_ishl X15 hx (hb hby d19_31) rfl ?_
 show OG p e below _ (T15.setTop (mkF m 32 #[.val (.ref a1), .val (.int 19), .val (.int 16)] [(.int 34), (.ref bv), (.ref a1)]))
 refine og_static (pc' := 35) (cells' := 1) (slots' := 34) (W := 1) X15 hx hZ (rm_cpo_16_34 l Z a0 hw bv kb v0 v1 v2 v3 v4 v5 v6 v7 v8 v9 v10 v11 v12 v13 v14 v15 h0 n0 O V_bv) hown (ow272 hw) (ow273 hw) (ow159 hw) (ow274 hw) (by decide) (by rw [hml]; rfl) e15 opd_15 [(.ref bv), (.int 34)] [(.ref a1)] rfl rfl rfl rfl (by decide) (by decide) rfl rfl (by decide) (by decide) (hb hby d19_32) rfl (fun v16 T16 h16 L16 X16 e16 z16 => ?_)
 obtain ⟨nb16, k16, rfl, Nq16, K16, sb16, V_nb16, E_nb16⟩ := z16; have N := Fr.app N Nq16
 have s_nb16 : h0.size ≤ nb16 := sb16; have sz_nb16 : h0.size ≤ nb16 := Nat.le_trans K.1 s_nb16; have ne_a1_nb16 : a1 ≠ nb16 := Nat.ne_of_lt (Nat.lt_of_lt_of_le E_a1.lt s_nb16)
 have E_a1 := E_a1.keep K16; have F_value_a1 := F_value_a1.keep K16 nin0; have F_coder_a1 := F_coder_a1.keep K16 nin0; have F_count_a1 := F_count_a1.keep K16 nin0
 have K := K.trans K16 all0
 refine og_putfield X16 hx hZ (ty := (.array .byte)) (host := "") hown (Or.inl (ow61 hw)) Via.refl e16 F_value_a1 E_a1 (Or.inl (ow62 hw)) (ow48 hw) (by decide) rfl rfl (hb hby d19_35) rfl (fun T17 h17 X17 e17 W17 => ?_)
 have F_value_a1_ := F_value_a1.same W17
 have E_a1 := E_a1.wr W17; have F_coder_a1 := F_coder_a1.other W17 (Or.inr (slot_ne (Or.inl (ow64 hw)) (Or.inl (ow62 hw)) (by decide) (t := .byte) (t' := (.array .byte)) (by decide) (by decide))); have F_count_a1 := F_count_a1.other W17 (Or.inr (slot_ne (Or.inl (ow100 hw)) (Or.inl (ow62 hw)) (by decide) (t := .int) (t' := (.array .byte)) (by decide) (by decide))); have V_nb16 := V_nb16.other W17 (Ne.symm ne_a1_nb16); have E_nb16 := E_nb16.wr W17
 have K := K.wr W17 (Or.inl (List.mem_of_getElem? (i := 0) rfl))
 have N := Fr.snoc X17 N g_a1; have F_value_a1 := F_value_a1_
 refine og_retV X17 hx hlk hret (hb hby d19_38) (by decide) (by decide) ?_
 rw [e17]; exact ⟨_, _, rfl, N, K, sz_nb16, E_a1, F_value_a1, F_coder_a1, F_count_a1, V_nb16, E_nb16⟩
theorem rm_ail (l : Launch) (Z : State) (a0 : Array Value) (hw : HW a0 Z) (a1 : Addr) (cs : Int32) (hcs : ¬ cs = 0) (h0 : Heap) (n0 : Nat) (O : Old Z n0 h0) (F_coder_a1 : Fld Z h0 a1 "java/lang/AbstractStringBuilder" "coder" "B" (.int 0)) (S_CS : Sta Z Z.heap "java/lang/String" "COMPACT_STRINGS" "Z" (.int cs)) :
  Con l Z (⟨"java/lang/AbstractStringBuilder", "isLatin1", "()Z"⟩ : MethodName) jdk_68_method_68_code 1 (some .boolean) ({ frames := 0, cells := 0, slots := 0, locals := 0 } : Room) #[(.ref a1)] h0 (fun v h L => v = some (.int 1) ∧ Fr n0 L ∧ h = h0) := by
 refine own_startC opn_29 ?_
 intro p e s m below meth c T0 X0 hx hby hml hZ hown hnm hret hlk e0
 have N := Fr.nil n0
 refine OG.cast (oef7 m a1) ?_
 refine og_getstatic X0 hx hZ (host := "") hown (Or.inl (ow60 hw)) Via.refl e0 (S_CS.ext O.2) (hb hby d29_0) rfl (fun T11 X11 e11 => ?_)
 refine og_if_eq (pc1 := 17) (pc2 := 6) X11 hx (hb hby d29_3) (by decide) (by decide) rfl (fun q => absurd q hcs) (fun _ => ?_)
 refine og_aloadN X11 hx rfl rfl (hb hby d29_6) rfl ?_
 refine og_getfield X11 hx hZ (host := "") hown (Or.inl (ow63 hw)) Via.refl e11 F_coder_a1 (hb hby d29_7) rfl (fun T12 X12 e12 => ?_)
 refine og_if_ne (pc1 := 17) (pc2 := 13) X12 hx (hb hby d29_10) (by decide) (by decide) rfl (fun q => absurd q (by decide)) (fun _ => ?_)
 refine og_iconst (v := 1) X12 hx rfl (hb hby d29_13) rfl ?_
 refine og_goto (pc' := 18) X12 hx (hb hby d29_14) (by decide) (by decide) ?_
 refine og_retN X12 hx hlk hret (by simp) (hb hby d29_18) (by decide) (by decide) ?_
 rw [e12]; exact ⟨rfl, N, rfl⟩
theorem rm_gb (l : Launch) (Z : State) (a0 : Array Value) (hw : HW a0 Z) (a1 ba bv : Addr) (kb kv : ClassId) (dp nn zz : Int32) (vs vd us vd' : List Value) (h2 : ¬ dp < 0) (h3 : ¬ nn < 0) (h4 : (0 : Int32).toNatClampNeg + nn.toNatClampNeg ≤ nn.toNatClampNeg) (h5 : dp.toNatClampNeg + nn.toNatClampNeg ≤ zz.toNatClampNeg) (hus : us = (List.range nn.toNatClampNeg).map fun i => vs.getD ((0 : Int32).toNatClampNeg + i) (.int 0)) (hl : dp.toNatClampNeg + nn.toNatClampNeg ≤ vd.length) (hvd : vd.take dp.toNatClampNeg ++ us ++ vd.drop (dp.toNatClampNeg + nn.toNatClampNeg) = vd') (cs : Int32) (hcs : ¬ cs = 0) (h0 : Heap) (n0 : Nat) (O : Old Z n0 h0) (E_a1 : Exa Z h0 a1 "java/lang/String") (F_value_a1 : Fld Z h0 a1 "java/lang/String" "value" "[B" (.ref ba)) (F_coder_a1 : Fld Z h0 a1 "java/lang/String" "coder" "B" (.int 0)) (V_ba : Arv Z h0 ba kb .byte nn vs (.int 0)) (V_bv : Arv Z h0 bv kv .byte zz vd (.int 0)) (S_CS : Sta Z Z.heap "java/lang/String" "COMPACT_STRINGS" "Z" (.int cs)) (g_bv : n0 ≤ bv) (ne_a1_bv : a1 ≠ bv) (ne_ba_bv : ba ≠ bv) :
  Con l Z (⟨"java/lang/String", "getBytes", "([BIB)V"⟩ : MethodName) jdk_42_method_147_code 4 none ({ frames := 1, cells := 0, slots := 0, locals := 18 } : Room) #[(.ref a1), (.ref bv), (.int dp), (.int 0)] h0 (fun v h L => v = none ∧ Fr n0 L ∧ Keep h0 h [bv] ∧ Arv Z h bv kv .byte zz vd' (.int 0)) := by
 refine own_startC opn_22 ?_
 intro p e s m below meth c T0 X0 hx hby hml hZ hown hnm hret hlk e0
 have N := Fr.nil n0; have K := Keep.refl h0 [bv]
 refine OG.cast (oef14 m a1 bv dp (0 : Int32)) ?_
 refine og_aloadN X0 hx rfl rfl (hb hby d22_0) rfl ?_
 refine og_virtual (pc' := 4) (cells' := 0) (slots' := 0) (W := 0) X0 hx hZ (rm_cod l Z a0 hw a1 cs hcs h0 n0 O F_coder_a1 S_CS) hown (ow94 hw) (ow95 hw) (own_nf hZ (ow97 hw)) (ow97 hw) (ow96 hw) (ow9 hw) (ow98 hw) (by decide) (by rw [hml]; rfl) e0 opd_5 [] [] rfl rfl rfl rfl (by decide) (by decide) rfl rfl (by decide) (by decide) E_a1 (hb hby d22_1) rfl (fun v11 T11 h11 L11 X11 e11 z11 => ?_)
 obtain ⟨rfl, Nq11, hq11⟩ := z11; replace e11 := e11.trans hq11; have N := Fr.app N Nq11
 refine og_iloadN X11 hx rfl (hb hby d22_4) rfl ?_
 refine og_icmp_ne (pc1 := 28) (pc2 := 8) X11 hx (hb hby d22_5) (by decide) (by decide) rfl (fun q => absurd q (by decide)) (fun _ => ?_)
 refine og_aloadN X11 hx rfl rfl (hb hby d22_8) rfl ?_
 refine og_getfield X11 hx hZ (host := "") hown (Or.inl (ow27 hw)) Via.refl e11 F_value_a1 (hb hby d22_9) rfl (fun T12 X12 e12 => ?_)
 refine og_iconst (v := 0) X12 hx rfl (hb hby d22_12) rfl ?_
 refine og_aloadN X12 hx rfl rfl (hb hby d22_13) rfl ?_
 refine og_iloadN X12 hx rfl (hb hby d22_14) rfl ?_
 refine og_iloadN X12 hx rfl (hb hby d22_15) rfl ?_
 refine og_ishl X12 hx (hb hby d22_16) rfl ?_
 rw [own_shl0]
 refine og_aloadN X12 hx rfl rfl (hb hby d22_17) rfl ?_
 refine og_getfield X12 hx hZ (host := "") hown (Or.inl (ow27 hw)) Via.refl e12 F_value_a1 (hb hby d22_18) rfl (fun T13 X13 e13 => ?_)
 refine og_arraylength X13 hx hZ e13 V_ba (hb hby d22_21) rfl ?_
 refine og_arraycopy (pc' := 25) (W := 0) (us := us) X13 hx hZ (by rw [hml]; rfl) hown (ow122 hw) (ow125 hw) (ow123 hw) (ow124 hw) e13 V_ba V_bv rfl (by decide) h2 h3 h4 h5 hus hl N g_bv rfl (by decide) (by decide) (hb hby d22_22) rfl (fun T14 h14 l14 X14 e14 N K14 V14 => ?_)
 have K := K.trans K14 (allS (Or.inl (List.mem_of_getElem? (i := 0) rfl)) all0)
 rw [hvd] at V14; have V_bv := V14
 refine og_goto (pc' := 43) X14 hx (hb hby d22_25) (by decide) (by decide) ?_
 refine og_retV X14 hx hlk hret (hb hby d22_43) (by decide) (by decide) ?_
 rw [e14]; exact ⟨rfl, N, K, V_bv⟩
theorem rm_inf (l : Launch) (Z : State) (a0 : Array Value) (hw : HW a0 Z) (a1 a2 : Addr) (cs : Int32) (hcs : ¬ cs = 0) (h0 : Heap) (n0 : Nat) (O : Old Z n0 h0) (F_coder_a1 : Fld Z h0 a1 "java/lang/AbstractStringBuilder" "coder" "B" (.int 0)) (E_a2 : Exa Z h0 a2 "java/lang/String") (F_coder_a2 : Fld Z h0 a2 "java/lang/String" "coder" "B" (.int 0)) (S_CS : Sta Z Z.heap "java/lang/String" "COMPACT_STRINGS" "Z" (.int cs)) :
  Con l Z (⟨"java/lang/AbstractStringBuilder", "inflateIfNeededFor", "(Ljava/lang/String;)V"⟩ : MethodName) jdk_68_method_71_code 2 none ({ frames := 1, cells := 0, slots := 0, locals := 13 } : Room) #[(.ref a1), (.ref a2)] h0 (fun v h L => v = none ∧ Fr n0 L ∧ h = h0) := by
 refine own_startC opn_21 ?_
 intro p e s m below meth c T0 X0 hx hby hml hZ hown hnm hret hlk e0
 have N := Fr.nil n0
 refine OG.cast (oef2 m a1 a2) ?_
 refine og_getstatic X0 hx hZ (host := "") hown (Or.inl (ow60 hw)) Via.refl e0 (S_CS.ext O.2) (hb hby d21_0) rfl (fun T11 X11 e11 => ?_)
 refine og_if_eq (pc1 := 21) (pc2 := 6) X11 hx (hb hby d21_3) (by decide) (by decide) rfl (fun q => absurd q hcs) (fun _ => ?_)
 refine og_aloadN X11 hx rfl rfl (hb hby d21_6) rfl ?_
 refine og_getfield X11 hx hZ (host := "") hown (Or.inl (ow63 hw)) Via.refl e11 F_coder_a1 (hb hby d21_7) rfl (fun T12 X12 e12 => ?_)
 refine og_aloadN X12 hx rfl rfl (hb hby d21_10) rfl ?_
 refine og_virtual (pc' := 14) (cells' := 0) (slots' := 0) (W := 1) X12 hx hZ (rm_cod l Z a0 hw a2 cs hcs h0 n0 O F_coder_a2 S_CS) hown (ow116 hw) (ow95 hw) (own_nf hZ (ow97 hw)) (ow97 hw) (ow96 hw) (ow9 hw) (ow98 hw) (by decide) (by rw [hml]; rfl) e12 opd_5 [] [(.int 0)] rfl rfl rfl rfl (by decide) (by decide) rfl rfl (by decide) (by decide) E_a2 (hb hby d21_11) rfl (fun v13 T13 h13 L13 X13 e13 z13 => ?_)
 obtain ⟨rfl, Nq13, hq13⟩ := z13; replace e13 := e13.trans hq13; have N := Fr.app N Nq13
 refine og_icmp_eq (pc1 := 21) (pc2 := 17) X13 hx (hb hby d21_14) (by decide) (by decide) rfl (fun _ => ?_) (fun q => absurd q (by decide))
 refine og_retV X13 hx hlk hret (hb hby d21_21) (by decide) (by decide) ?_
 rw [e13]; exact ⟨rfl, N, rfl⟩
theorem rm_psa (l : Launch) (Z : State) (a0 : Array Value) (hw : HW a0 Z) (a1 a2 ba bv : Addr) (kb kv : ClassId) (dp nn zz : Int32) (vs vd us vd' : List Value) (h2 : ¬ dp < 0) (h3 : ¬ nn < 0) (h4 : (0 : Int32).toNatClampNeg + nn.toNatClampNeg ≤ nn.toNatClampNeg) (h5 : dp.toNatClampNeg + nn.toNatClampNeg ≤ zz.toNatClampNeg) (hus : us = (List.range nn.toNatClampNeg).map fun i => vs.getD ((0 : Int32).toNatClampNeg + i) (.int 0)) (hl : dp.toNatClampNeg + nn.toNatClampNeg ≤ vd.length) (hvd : vd.take dp.toNatClampNeg ++ us ++ vd.drop (dp.toNatClampNeg + nn.toNatClampNeg) = vd') (cs : Int32) (hcs : ¬ cs = 0) (h0 : Heap) (n0 : Nat) (O : Old Z n0 h0) (E_a1 : Exa Z h0 a1 "java/lang/StringBuilder") (F_value_a1 : Fld Z h0 a1 "java/lang/AbstractStringBuilder" "value" "[B" (.ref bv)) (F_coder_a1 : Fld Z h0 a1 "java/lang/AbstractStringBuilder" "coder" "B" (.int 0)) (E_a2 : Exa Z h0 a2 "java/lang/String") (F_value_a2 : Fld Z h0 a2 "java/lang/String" "value" "[B" (.ref ba)) (F_coder_a2 : Fld Z h0 a2 "java/lang/String" "coder" "B" (.int 0)) (V_ba : Arv Z h0 ba kb .byte nn vs (.int 0)) (V_bv : Arv Z h0 bv kv .byte zz vd (.int 0)) (S_CS : Sta Z Z.heap "java/lang/String" "COMPACT_STRINGS" "Z" (.int cs)) (g_bv : n0 ≤ bv) (ne_a1_bv : a1 ≠ bv) (ne_a2_bv : a2 ≠ bv) (ne_ba_bv : ba ≠ bv) :
  Con l Z (⟨"java/lang/AbstractStringBuilder", "putStringAt", "(ILjava/lang/String;)V"⟩ : MethodName) jdk_68_method_73_code 3 none ({ frames := 2, cells := 0, slots := 0, locals := 33 } : Room) #[(.ref a1), (.int dp), (.ref a2)] h0 (fun v h L => v = none ∧ Fr n0 L ∧ Keep h0 h [bv] ∧ Arv Z h bv kv .byte zz vd' (.int 0)) := by
 refine own_startC opn_20 ?_
 intro p e s m below meth c T0 X0 hx hby hml hZ hown hnm hret hlk e0
 have N := Fr.nil n0; have K := Keep.refl h0 [bv]
 refine OG.cast (oef15 m a1 dp a2) ?_
 refine og_aloadN X0 hx rfl rfl (hb hby d20_0) rfl ?_
 refine og_aloadN X0 hx rfl rfl (hb hby d20_1) rfl ?_
 refine og_private (pc' := 5) (cells' := 0) (slots' := 0) (W := 0) X0 hx hZ (rm_inf l Z a0 hw a1 a2 cs hcs h0 n0 O F_coder_a1 E_a2 F_coder_a2 S_CS) hown (ow111 hw) (ow112 hw) (own_selfp (ow114 hw) (ow112 hw) (ow113 hw) (by decide)) (ow113 hw) (ow57 hw) (ow115 hw) (by decide) (by rw [hml]; rfl) e0 opd_16 [(.ref a2)] [] rfl rfl rfl rfl (by decide) (by decide) rfl rfl (by decide) (by decide) E_a1 (hb hby d20_2) rfl (fun v11 T11 h11 L11 X11 e11 z11 => ?_)
 obtain ⟨rfl, Nq11, hq11⟩ := z11; replace e11 := e11.trans hq11; have N := Fr.app N Nq11
 refine og_aloadN X11 hx rfl rfl (hb hby d20_5) rfl ?_
 refine og_aloadN X11 hx rfl rfl (hb hby d20_6) rfl ?_
 refine og_getfield X11 hx hZ (host := "") hown (Or.inl (ow61 hw)) Via.refl e11 F_value_a1 (hb hby d20_7) rfl (fun T12 X12 e12 => ?_)
 refine og_iloadN X12 hx rfl (hb hby d20_10) rfl ?_
 refine og_aloadN X12 hx rfl rfl (hb hby d20_11) rfl ?_
 refine og_getfield X12 hx hZ (host := "") hown (Or.inl (ow63 hw)) Via.refl e12 F_coder_a1 (hb hby d20_12) rfl (fun T13 X13 e13 => ?_)
 refine og_virtual (pc' := 18) (cells' := 0) (slots' := 0) (W := 0) X13 hx hZ (rm_gb l Z a0 hw a2 ba bv kb kv dp nn zz vs vd us vd' h2 h3 h4 h5 hus hl hvd cs hcs h0 n0 O E_a2 F_value_a2 F_coder_a2 V_ba V_bv S_CS g_bv ne_a2_bv ne_ba_bv) hown (ow117 hw) (ow118 hw) (own_nf hZ (ow120 hw)) (ow120 hw) (ow119 hw) (ow9 hw) (ow121 hw) (by decide) (by rw [hml]; rfl) e13 opd_17 [(.ref bv), (.int dp), (.int 0)] [] rfl rfl rfl rfl (by decide) (by decide) rfl rfl (by decide) (by decide) E_a2 (hb hby d20_15) rfl (fun v14 T14 h14 L14 X14 e14 z14 => ?_)
 obtain ⟨rfl, Nq14, K14, V_bv'⟩ := z14; have N := Fr.app N Nq14
 have K := K.trans K14 (allS (Or.inl (List.mem_of_getElem? (i := 0) rfl)) all0)
 have V_bv := V_bv'
 refine og_retV X14 hx hlk hret (hb hby d20_18) (by decide) (by decide) ?_
 rw [e14]; exact ⟨rfl, N, K, V_bv⟩
theorem rm_apG (l : Launch) (Z : State) (a0 : Array Value) (hw : HW a0 Z) (a1 a2 bv b2 : Addr) (kb k2 : ClassId) (ms ws : List Int32) (hl : ms.length + ws.length ≤ 16) (cs : Int32) (hcs : ¬ cs = 0) (h0 : Heap) (n0 : Nat) (O : Old Z n0 h0) (E_a1 : Exa Z h0 a1 "java/lang/StringBuilder") (F_value_a1 : Fld Z h0 a1 "java/lang/AbstractStringBuilder" "value" "[B" (.ref bv)) (F_coder_a1 : Fld Z h0 a1 "java/lang/AbstractStringBuilder" "coder" "B" (.int 0)) (F_count_a1 : Fld Z h0 a1 "java/lang/AbstractStringBuilder" "count" "I" (.int (Int32.ofNat (ms).length))) (E_bv : Exa Z h0 bv "[B") (V_bv : Arv Z h0 bv kb .byte (16 : Int32) (own_pad (ms) 16) (.int 0)) (E_a2 : Exa Z h0 a2 "java/lang/String") (F_value_a2 : Fld Z h0 a2 "java/lang/String" "value" "[B" (.ref b2)) (F_coder_a2 : Fld Z h0 a2 "java/lang/String" "coder" "B" (.int 0)) (V_b2 : Arv Z h0 b2 k2 .byte (Int32.ofNat (ws).length) ((ws).map Value.int) (.int 0)) (S_CS : Sta Z Z.heap "java/lang/String" "COMPACT_STRINGS" "Z" (.int cs)) (g_a1 : n0 ≤ a1) (g_bv : n0 ≤ bv) (ne_a1_bv : a1 ≠ bv) (ne_a2_bv : a2 ≠ bv) (ne_b2_bv : b2 ≠ bv) (ne_a2_a1 : a2 ≠ a1) (ne_b2_a1 : b2 ≠ a1) :
  Con l Z (⟨"java/lang/AbstractStringBuilder", "append", "(Ljava/lang/String;)Ljava/lang/AbstractStringBuilder;"⟩ : MethodName) jdk_68_method_22_code 3 (some (.object "java/lang/AbstractStringBuilder")) ({ frames := 3, cells := 0, slots := 0, locals := 47 } : Room) #[(.ref a1), (.ref a2)] h0 (fun v h L => v = some (.ref a1) ∧ Fr n0 L ∧ Keep h0 h [a1, bv] ∧ Exa Z h a1 "java/lang/StringBuilder" ∧ Fld Z h a1 "java/lang/AbstractStringBuilder" "value" "[B" (.ref bv) ∧ Fld Z h a1 "java/lang/AbstractStringBuilder" "coder" "B" (.int 0) ∧ Fld Z h a1 "java/lang/AbstractStringBuilder" "count" "I" (.int (Int32.ofNat (ms ++ ws).length)) ∧ Arv Z h bv kb .byte (16 : Int32) (own_pad (ms ++ ws) 16) (.int 0)) := by
 refine own_startC opn_16 ?_
 intro p e s m below meth c T0 X0 hx hby hml hZ hown hnm hret hlk e0
 have N := Fr.nil n0; have K := Keep.refl h0 [a1, bv]
 refine OG.cast (oef6 m a1 a2) ?_
 refine og_aloadN X0 hx rfl rfl (hb hby d16_0) rfl ?_
 refine og_ifnonnull (pc1 := 9) (pc2 := 4) X0 hx rfl (hb hby d16_1) (by decide) (by decide) rfl (fun _ => ?_) (fun q => absurd q nofun)
 refine og_aloadN X0 hx rfl rfl (hb hby d16_9) rfl ?_
 refine og_virtual (pc' := 13) (cells' := 0) (slots' := 0) (W := 0) X0 hx hZ (rm_len l Z a0 hw a2 b2 k2 (Int32.ofNat (ws).length) _ cs hcs h0 n0 O E_a2 F_value_a2 F_coder_a2 V_b2 S_CS) hown (ow89 hw) (ow90 hw) (own_nf hZ (ow92 hw)) (ow92 hw) (ow91 hw) (ow9 hw) (ow93 hw) (by decide) (by rw [hml]; rfl) e0 opd_18 [] [] rfl rfl rfl rfl (by decide) (by decide) rfl rfl (by decide) (by decide) E_a2 (hb hby d16_10) rfl (fun v11 T11 h11 L11 X11 e11 z11 => ?_)
 obtain ⟨rfl, Nq11, hq11⟩ := z11; replace e11 := e11.trans hq11; have N := Fr.app N Nq11
 refine og_istoreN (L' := #[.val (.ref a1), .val (.ref a2), .val (.int (Int32.ofNat (ws).length))]) X11 hx rfl (hb hby d16_13) rfl ?_
 refine og_aloadN X11 hx rfl rfl (hb hby d16_14) rfl ?_
 refine og_aloadN X11 hx rfl rfl (hb hby d16_15) rfl ?_
 refine og_getfield X11 hx hZ (host := "") hown (Or.inl (ow99 hw)) Via.refl e11 F_count_a1 (hb hby d16_16) rfl (fun T12 X12 e12 => ?_)
 refine og_iloadN X12 hx rfl (hb hby d16_19) rfl ?_
 refine og_iadd X12 hx (hb hby d16_20) rfl ?_
 refine og_private (pc' := 24) (cells' := 0) (slots' := 0) (W := 0) X12 hx hZ (rm_ecN l Z a0 hw a1 bv kb (16 : Int32) ((Int32.ofNat (ms).length) + (Int32.ofNat (ws).length)) _ (own_ec hl) h0 n0 O F_value_a1 F_coder_a1 V_bv) hown (ow101 hw) (ow102 hw) (own_selfp (ow104 hw) (ow102 hw) (ow103 hw) (by decide)) (ow103 hw) (ow57 hw) (ow105 hw) (by decide) (by rw [hml]; rfl) e12 opd_11 [(.int ((Int32.ofNat (ms).length) + (Int32.ofNat (ws).length)))] [] rfl rfl rfl rfl (by decide) (by decide) rfl rfl (by decide) (by decide) E_a1 (hb hby d16_21) rfl (fun v13 T13 h13 L13 X13 e13 z13 => ?_)
 obtain ⟨rfl, Nq13, hq13⟩ := z13; replace e13 := e13.trans hq13; have N := Fr.app N Nq13
 refine og_aloadN X13 hx rfl rfl (hb hby d16_24) rfl ?_
 refine og_aloadN X13 hx rfl rfl (hb hby d16_25) rfl ?_
 refine og_getfield X13 hx hZ (host := "") hown (Or.inl (ow99 hw)) Via.refl e13 F_count_a1 (hb hby d16_26) rfl (fun T14 X14 e14 => ?_)
 refine og_aloadN X14 hx rfl rfl (hb hby d16_29) rfl ?_
 obtain ⟨hg2, hg3, hg4, hg5, hgu, hgl, hgv⟩ := own_psa ms ws hl
 refine og_private (pc' := 33) (cells' := 0) (slots' := 0) (W := 0) X14 hx hZ (rm_psa l Z a0 hw a1 a2 b2 bv k2 kb (Int32.ofNat (ms).length) (Int32.ofNat (ws).length) (16 : Int32) (ws.map Value.int) (own_pad (ms) 16) (ws.map Value.int) (own_pad (ms ++ ws) 16) hg2 hg3 hg4 hg5 hgu hgl hgv cs hcs h0 n0 O E_a1 F_value_a1 F_coder_a1 E_a2 F_value_a2 F_coder_a2 V_b2 V_bv S_CS g_bv ne_a1_bv ne_a2_bv ne_b2_bv) hown (ow106 hw) (ow107 hw) (own_selfp (ow109 hw) (ow107 hw) (ow108 hw) (by decide)) (ow108 hw) (ow57 hw) (ow110 hw) (by decide) (by rw [hml]; rfl) e14 opd_19 [(.int (Int32.ofNat (ms).length)), (.ref a2)] [] rfl rfl rfl rfl (by decide) (by decide) rfl rfl (by decide) (by decide) E_a1 (hb hby d16_30) rfl (fun v15 T15 h15 L15 X15 e15 z15 => ?_)
 obtain ⟨rfl, Nq15, K15, V_bv'⟩ := z15; have N := Fr.app N Nq15
 have E_a1 := E_a1.keep K15; have F_value_a1 := F_value_a1.keep K15 (ninS ne_a1_bv nin0); have F_coder_a1 := F_coder_a1.keep K15 (ninS ne_a1_bv nin0); have F_count_a1 := F_count_a1.keep K15 (ninS ne_a1_bv nin0)
 have K := K.trans K15 (allS (Or.inl (List.mem_of_getElem? (i := 1) rfl)) all0)
 have V_bv := V_bv'
 refine og_aloadN X15 hx rfl rfl (hb hby d16_33) rfl ?_
 refine og_dup X15 hx rfl (hb hby d16_34) rfl ?_
 refine og_getfield X15 hx hZ (host := "") hown (Or.inl (ow99 hw)) Via.refl e15 F_count_a1 (hb hby d16_35) rfl (fun T16 X16 e16 => ?_)
 refine og_iloadN X16 hx rfl (hb hby d16_38) rfl ?_
 refine og_iadd X16 hx (hb hby d16_39) rfl ?_
 refine og_putfield X16 hx hZ (ty := .int) (host := "") hown (Or.inl (ow99 hw)) Via.refl e16 F_count_a1 E_a1 (Or.inl (ow100 hw)) (ow48 hw) (by decide) rfl rfl (hb hby d16_40) rfl (fun T17 h17 X17 e17 W17 => ?_)
 have F_count_a1_ := F_count_a1.same W17
 have E_a1 := E_a1.wr W17; have F_value_a1 := F_value_a1.other W17 (Or.inr (slot_ne (Or.inl (ow62 hw)) (Or.inl (ow100 hw)) (by decide) (t := (.array .byte)) (t' := .int) (by decide) (by decide))); have F_coder_a1 := F_coder_a1.other W17 (Or.inr (slot_ne (Or.inl (ow64 hw)) (Or.inl (ow100 hw)) (by decide) (t := .byte) (t' := .int) (by decide) (by decide)))
 have V_bv := V_bv.other W17 (Ne.symm ne_a1_bv); have K := K.wr W17 (Or.inl (List.mem_of_getElem? (i := 0) rfl))
 have N := Fr.snoc X17 N g_a1; have F_count_a1 := F_count_a1_
 rw [own_cnt ms ws] at F_count_a1
 refine og_aloadN X17 hx rfl rfl (hb hby d16_43) rfl ?_
 refine og_retR X17 hx hlk hret rfl rfl rfl (hb hby d16_44) (by decide) (by decide) ?_
 rw [e17]; exact ⟨rfl, N, K, E_a1, F_value_a1, F_coder_a1, F_count_a1, V_bv⟩
theorem rm_spG (l : Launch) (Z : State) (a0 : Array Value) (hw : HW a0 Z) (a1 a2 bv b2 : Addr) (kb k2 : ClassId) (ms ws : List Int32) (hl : ms.length + ws.length ≤ 16) (cs : Int32) (hcs : ¬ cs = 0) (h0 : Heap) (n0 : Nat) (O : Old Z n0 h0) (E_a1 : Exa Z h0 a1 "java/lang/StringBuilder") (F_value_a1 : Fld Z h0 a1 "java/lang/AbstractStringBuilder" "value" "[B" (.ref bv)) (F_coder_a1 : Fld Z h0 a1 "java/lang/AbstractStringBuilder" "coder" "B" (.int 0)) (F_count_a1 : Fld Z h0 a1 "java/lang/AbstractStringBuilder" "count" "I" (.int (Int32.ofNat (ms).length))) (E_bv : Exa Z h0 bv "[B") (V_bv : Arv Z h0 bv kb .byte (16 : Int32) (own_pad (ms) 16) (.int 0)) (E_a2 : Exa Z h0 a2 "java/lang/String") (F_value_a2 : Fld Z h0 a2 "java/lang/String" "value" "[B" (.ref b2)) (F_coder_a2 : Fld Z h0 a2 "java/lang/String" "coder" "B" (.int 0)) (V_b2 : Arv Z h0 b2 k2 .byte (Int32.ofNat (ws).length) ((ws).map Value.int) (.int 0)) (S_CS : Sta Z Z.heap "java/lang/String" "COMPACT_STRINGS" "Z" (.int cs)) (g_a1 : n0 ≤ a1) (g_bv : n0 ≤ bv) (ne_a1_bv : a1 ≠ bv) (ne_a2_bv : a2 ≠ bv) (ne_b2_bv : b2 ≠ bv) (ne_a2_a1 : a2 ≠ a1) (ne_b2_a1 : b2 ≠ a1) :
  Con l Z (⟨"java/lang/StringBuilder", "append", "(Ljava/lang/String;)Ljava/lang/StringBuilder;"⟩ : MethodName) jdk_67_method_7_code 2 (some (.object "java/lang/StringBuilder")) ({ frames := 4, cells := 0, slots := 0, locals := 61 } : Room) #[(.ref a1), (.ref a2)] h0 (fun v h L => v = some (.ref a1) ∧ Fr n0 L ∧ Keep h0 h [a1, bv] ∧ Exa Z h a1 "java/lang/StringBuilder" ∧ Fld Z h a1 "java/lang/AbstractStringBuilder" "value" "[B" (.ref bv) ∧ Fld Z h a1 "java/lang/AbstractStringBuilder" "coder" "B" (.int 0) ∧ Fld Z h a1 "java/lang/AbstractStringBuilder" "count" "I" (.int (Int32.ofNat (ms ++ ws).length)) ∧ Arv Z h bv kb .byte (16 : Int32) (own_pad (ms ++ ws) 16) (.int 0)) := by
 refine own_startC opn_15 ?_
 intro p e s m below meth c T0 X0 hx hby hml hZ hown hnm hret hlk e0
 have N := Fr.nil n0; have K := Keep.refl h0 [a1, bv]
 refine OG.cast (oef2 m a1 a2) ?_
 refine og_aloadN X0 hx rfl rfl (hb hby d15_0) rfl ?_
 refine og_aloadN X0 hx rfl rfl (hb hby d15_1) rfl ?_
 refine og_super (pc' := 5) (cells' := 0) (slots' := 0) (W := 0) X0 hx hZ (y := (⟨"java/lang/AbstractStringBuilder", "append", "(Ljava/lang/String;)Ljava/lang/AbstractStringBuilder;"⟩ : MethodName)) (rm_apG l Z a0 hw a1 a2 bv b2 kb k2 ms ws hl cs hcs h0 n0 O E_a1 F_value_a1 F_coder_a1 F_count_a1 E_bv V_bv E_a2 F_value_a2 F_coder_a2 V_b2 S_CS g_a1 g_bv ne_a1_bv ne_a2_bv ne_b2_bv ne_a2_a1 ne_b2_a1) hown (ow84 hw) (own_sameM (ow87 hw) (own_nfc (ow140 hw) (ow142 hw) rfl) (by decide)) (ow85 hw) (ow86 hw) (by decide) (ow57 hw) (ow88 hw) (by decide) (by rw [hml]; rfl) e0 opd_20 [(.ref a2)] [] rfl rfl rfl rfl (by decide) (by decide) rfl rfl (by decide) (by decide) E_a1 (hb hby d15_2) rfl (fun v11 T11 h11 L11 X11 e11 z11 => ?_)
 obtain ⟨rfl, Nq11, K11, E_a1', F_value_a1', F_coder_a1', F_count_a1', V_bv'⟩ := z11; have N := Fr.app N Nq11
 have K := K.trans K11 (allS (Or.inl (List.mem_of_getElem? (i := 0) rfl)) (allS (Or.inl (List.mem_of_getElem? (i := 1) rfl)) all0))
 have V_bv := V_bv'; have E_a1 := E_a1'; have F_value_a1 := F_value_a1'; have F_coder_a1 := F_coder_a1'; have F_count_a1 := F_count_a1'
 refine og_pop X11 hx rfl (hb hby d15_5) rfl ?_
 refine og_aloadN X11 hx rfl rfl (hb hby d15_6) rfl ?_
 refine og_retR X11 hx hlk hret rfl rfl rfl (hb hby d15_7) (by decide) (by decide) ?_
 rw [e11]; exact ⟨rfl, N, K, E_a1, F_value_a1, F_coder_a1, F_count_a1, V_bv⟩
theorem rm_aas_g1 (l : Launch) (Z : State) (a0 : Array Value) (hw : HW a0 Z) (a1 a2 bv b2 : Addr) (kb k2 : ClassId) (w0 : Int32) (cs : Int32) (hcs : ¬ cs = 0) (h0 : Heap) (n0 : Nat) (O : Old Z n0 h0) (E_a1 : Exa Z h0 a1 "java/lang/StringBuilder") (F_value_a1 : Fld Z h0 a1 "java/lang/AbstractStringBuilder" "value" "[B" (.ref bv)) (F_coder_a1 : Fld Z h0 a1 "java/lang/AbstractStringBuilder" "coder" "B" (.int 0)) (F_count_a1 : Fld Z h0 a1 "java/lang/AbstractStringBuilder" "count" "I" (.int 16)) (E_bv : Exa Z h0 bv "[B") (V_bv : Arv Z h0 bv kb .byte (16 : Int32) [(.int 115), (.int 116), (.int 97), (.int 110), (.int 100), (.int 97), (.int 114), (.int 100), (.int 32), (.int 105), (.int 110), (.int 112), (.int 117), (.int 116), (.int 58), (.int 32)] (.int 0)) (E_a2 : Exa Z h0 a2 "java/lang/String") (F_value_a2 : Fld Z h0 a2 "java/lang/String" "value" "[B" (.ref b2)) (F_coder_a2 : Fld Z h0 a2 "java/lang/String" "coder" "B" (.int 0)) (V_b2 : Arv Z h0 b2 k2 .byte (1 : Int32) [(.int w0)] (.int 0)) (S_CS : Sta Z Z.heap "java/lang/String" "COMPACT_STRINGS" "Z" (.int cs)) (g_a1 : n0 ≤ a1) (g_bv : n0 ≤ bv) (ne_a1_bv : a1 ≠ bv) (ne_a2_bv : a2 ≠ bv) (ne_b2_bv : b2 ≠ bv) (ne_a2_a1 : a2 ≠ a1) (ne_b2_a1 : b2 ≠ a1) :
  Con l Z (⟨"java/lang/AbstractStringBuilder", "append", "(Ljava/lang/String;)Ljava/lang/AbstractStringBuilder;"⟩ : MethodName) jdk_68_method_22_code 3 (some (.object "java/lang/AbstractStringBuilder")) ({ frames := 4, cells := 1, slots := 34, locals := 62 } : Room) #[(.ref a1), (.ref a2)] h0 (fun v h L => ∃ b k, v = some (.ref a1) ∧ Fr n0 L ∧ Keep h0 h [a1, bv] ∧ h0.size ≤ b ∧ Exa Z h a1 "java/lang/StringBuilder" ∧ Fld Z h a1 "java/lang/AbstractStringBuilder" "value" "[B" (.ref b) ∧ Fld Z h a1 "java/lang/AbstractStringBuilder" "coder" "B" (.int 0) ∧ Fld Z h a1 "java/lang/AbstractStringBuilder" "count" "I" (.int 17) ∧ Arv Z h b k .byte (34 : Int32) [(.int 115), (.int 116), (.int 97), (.int 110), (.int 100), (.int 97), (.int 114), (.int 100), (.int 32), (.int 105), (.int 110), (.int 112), (.int 117), (.int 116), (.int 58), (.int 32), (.int w0), (.int 0), (.int 0), (.int 0), (.int 0), (.int 0), (.int 0), (.int 0), (.int 0), (.int 0), (.int 0), (.int 0), (.int 0), (.int 0), (.int 0), (.int 0), (.int 0), (.int 0)] (.int 0) ∧ Exa Z h b "[B") := by
 refine own_startC opn_16 ?_
 intro p e s m below meth c T0 X0 hx hby hml hZ hown hnm hret hlk e0
 have N := Fr.nil n0; have K := Keep.refl h0 [a1, bv]
 refine OG.cast (oef6 m a1 a2) ?_
 refine og_aloadN X0 hx rfl rfl (hb hby d16_0) rfl ?_
 refine og_ifnonnull (pc1 := 9) (pc2 := 4) X0 hx rfl (hb hby d16_1) (by decide) (by decide) rfl (fun _ => ?_) (fun q => absurd q nofun)
 refine og_aloadN X0 hx rfl rfl (hb hby d16_9) rfl ?_
 refine og_virtual (pc' := 13) (cells' := 0) (slots' := 0) (W := 0) X0 hx hZ (rm_len l Z a0 hw a2 b2 k2 (1 : Int32) _ cs hcs h0 n0 O E_a2 F_value_a2 F_coder_a2 V_b2 S_CS) hown (ow89 hw) (ow90 hw) (own_nf hZ (ow92 hw)) (ow92 hw) (ow91 hw) (ow9 hw) (ow93 hw) (by decide) (by rw [hml]; rfl) e0 opd_18 [] [] rfl rfl rfl rfl (by decide) (by decide) rfl rfl (by decide) (by decide) E_a2 (hb hby d16_10) rfl (fun v11 T11 h11 L11 X11 e11 z11 => ?_)
 obtain ⟨rfl, Nq11, hq11⟩ := z11; replace e11 := e11.trans hq11; have N := Fr.app N Nq11
 refine og_istoreN (L' := #[.val (.ref a1), .val (.ref a2), .val (.int 1)]) X11 hx rfl (hb hby d16_13) rfl ?_
 refine og_aloadN X11 hx rfl rfl (hb hby d16_14) rfl ?_
 refine og_aloadN X11 hx rfl rfl (hb hby d16_15) rfl ?_
 refine og_getfield X11 hx hZ (host := "") hown (Or.inl (ow99 hw)) Via.refl e11 F_count_a1 (hb hby d16_16) rfl (fun T12 X12 e12 => ?_)
 refine og_iloadN X12 hx rfl (hb hby d16_19) rfl ?_
 refine og_iadd X12 hx (hb hby d16_20) rfl ?_
 show OG p e below _ (T12.setTop (mkF m 21 #[.val (.ref a1), .val (.ref a2), .val (.int 1)] [(.int 17), (.ref a1)]))
 refine og_private (pc' := 24) (cells' := 1) (slots' := 34) (W := 0) X12 hx hZ (rm_ec_17 l Z a0 hw a1 bv kb (16 : Int32) (115 : Int32) (116 : Int32) (97 : Int32) (110 : Int32) (100 : Int32) (97 : Int32) (114 : Int32) (100 : Int32) (32 : Int32) (105 : Int32) (110 : Int32) (112 : Int32) (117 : Int32) (116 : Int32) (58 : Int32) (32 : Int32) h0 n0 O E_a1 F_value_a1 F_coder_a1 F_count_a1 V_bv g_a1 ne_a1_bv) hown (ow101 hw) (ow102 hw) (own_selfp (ow104 hw) (ow102 hw) (ow103 hw) (by decide)) (ow103 hw) (ow57 hw) (ow105 hw) (by decide) (by rw [hml]; rfl) e12 opd_11 [(.int 17)] [] rfl rfl rfl rfl (by decide) (by decide) rfl rfl (by decide) (by decide) E_a1 (hb hby d16_21) rfl (fun v13 T13 h13 L13 X13 e13 z13 => ?_)
 obtain ⟨nb13, k13, rfl, Nq13, K13, sb13, E_a1', F_value_a1', F_coder_a1', F_count_a1', V_nb13, E_nb13⟩ := z13; have N := Fr.app N Nq13
 have s_nb13 : h0.size ≤ nb13 := sb13; have g_nb13 : n0 ≤ nb13 := Nat.le_trans (own_n0 O) s_nb13; have sz_nb13 : h0.size ≤ nb13 := Nat.le_trans K.1 s_nb13; have ne_a1_nb13 : a1 ≠ nb13 := Nat.ne_of_lt (Nat.lt_of_lt_of_le E_a1.lt s_nb13); have ne_a2_nb13 : a2 ≠ nb13 := Nat.ne_of_lt (Nat.lt_of_lt_of_le E_a2.lt s_nb13)
 have ne_b2_nb13 : b2 ≠ nb13 := Nat.ne_of_lt (Nat.lt_of_lt_of_le V_b2.lt s_nb13)
 have E_a2 := E_a2.keep K13; have F_value_a2 := F_value_a2.keep K13 (ninS ne_a2_a1 nin0); have F_coder_a2 := F_coder_a2.keep K13 (ninS ne_a2_a1 nin0)
 have V_b2 := V_b2.keep K13 (ninS ne_b2_a1 nin0); have O := O.keep K13 (allS g_a1 all0); have K := K.trans K13 (allS (Or.inl (List.mem_of_getElem? (i := 0) rfl)) all0)
 have E_a1 := E_a1'; have F_value_a1 := F_value_a1'; have F_coder_a1 := F_coder_a1'; have F_count_a1 := F_count_a1'
 refine og_aloadN X13 hx rfl rfl (hb hby d16_24) rfl ?_
 refine og_aloadN X13 hx rfl rfl (hb hby d16_25) rfl ?_
 refine og_getfield X13 hx hZ (host := "") hown (Or.inl (ow99 hw)) Via.refl e13 F_count_a1 (hb hby d16_26) rfl (fun T14 X14 e14 => ?_)
 refine og_aloadN X14 hx rfl rfl (hb hby d16_29) rfl ?_
 refine og_private (pc' := 33) (cells' := 1) (slots' := 34) (W := 0) X14 hx hZ (rm_psa l Z a0 hw a1 a2 b2 nb13 k2 k13 (16 : Int32) (1 : Int32) (34 : Int32) [(.int w0)] [(.int 115), (.int 116), (.int 97), (.int 110), (.int 100), (.int 97), (.int 114), (.int 100), (.int 32), (.int 105), (.int 110), (.int 112), (.int 117), (.int 116), (.int 58), (.int 32), (.int 0), (.int 0), (.int 0), (.int 0), (.int 0), (.int 0), (.int 0), (.int 0), (.int 0), (.int 0), (.int 0), (.int 0), (.int 0), (.int 0), (.int 0), (.int 0), (.int 0), (.int 0)] [(.int w0)] [(.int 115), (.int 116), (.int 97), (.int 110), (.int 100), (.int 97), (.int 114), (.int 100), (.int 32), (.int 105), (.int 110), (.int 112), (.int 117), (.int 116), (.int 58), (.int 32), (.int w0), (.int 0), (.int 0), (.int 0), (.int 0), (.int 0), (.int 0), (.int 0), (.int 0), (.int 0), (.int 0), (.int 0), (.int 0), (.int 0), (.int 0), (.int 0), (.int 0), (.int 0)] (by decide) (by decide) (by decide) (by decide) rfl (Nat.le_of_ble_eq_true rfl) rfl cs hcs h13 n0 O E_a1 F_value_a1 F_coder_a1 E_a2 F_value_a2 F_coder_a2 V_b2 V_nb13 S_CS g_nb13 ne_a1_nb13 ne_a2_nb13 ne_b2_nb13) hown (ow106 hw) (ow107 hw) (own_selfp (ow109 hw) (ow107 hw) (ow108 hw) (by decide)) (ow108 hw) (ow57 hw) (ow110 hw) (by decide) (by rw [hml]; rfl) e14 opd_19 [(.int 16), (.ref a2)] [] rfl rfl rfl rfl (by decide) (by decide) rfl rfl (by decide) (by decide) E_a1 (hb hby d16_30) rfl (fun v15 T15 h15 L15 X15 e15 z15 => ?_)
 obtain ⟨rfl, Nq15, K15, V_nb13'⟩ := z15; have N := Fr.app N Nq15
 have E_a1 := E_a1.keep K15
 have F_value_a1 := F_value_a1.keep K15 (ninS ne_a1_nb13 nin0); have F_coder_a1 := F_coder_a1.keep K15 (ninS ne_a1_nb13 nin0); have F_count_a1 := F_count_a1.keep K15 (ninS ne_a1_nb13 nin0); have E_nb13 := E_nb13.keep K15
 have K := K.trans K15 (allS (Or.inr sz_nb13) all0)
 have V_nb13 := V_nb13'
 refine og_aloadN X15 hx rfl rfl (hb hby d16_33) rfl ?_
 refine og_dup X15 hx rfl (hb hby d16_34) rfl ?_
 refine og_getfield X15 hx hZ (host := "") hown (Or.inl (ow99 hw)) Via.refl e15 F_count_a1 (hb hby d16_35) rfl (fun T16 X16 e16 => ?_)
 refine og_iloadN X16 hx rfl (hb hby d16_38) rfl ?_
 refine og_iadd X16 hx (hb hby d16_39) rfl ?_
 show OG p e below _ (T16.setTop (mkF m 40 #[.val (.ref a1), .val (.ref a2), .val (.int 1)] [(.int 17), (.ref a1)]))
 refine og_putfield X16 hx hZ (ty := .int) (host := "") hown (Or.inl (ow99 hw)) Via.refl e16 F_count_a1 E_a1 (Or.inl (ow100 hw)) (ow48 hw) (by decide) rfl rfl (hb hby d16_40) rfl (fun T17 h17 X17 e17 W17 => ?_)
 have F_count_a1_ := F_count_a1.same W17
 have E_a1 := E_a1.wr W17
 have F_value_a1 := F_value_a1.other W17 (Or.inr (slot_ne (Or.inl (ow62 hw)) (Or.inl (ow100 hw)) (by decide) (t := (.array .byte)) (t' := .int) (by decide) (by decide))); have F_coder_a1 := F_coder_a1.other W17 (Or.inr (slot_ne (Or.inl (ow64 hw)) (Or.inl (ow100 hw)) (by decide) (t := .byte) (t' := .int) (by decide) (by decide))); have E_nb13 := E_nb13.wr W17; have V_nb13 := V_nb13.other W17 (Ne.symm ne_a1_nb13)
 have K := K.wr W17 (Or.inl (List.mem_of_getElem? (i := 0) rfl))
 have N := Fr.snoc X17 N g_a1; have F_count_a1 := F_count_a1_
 refine og_aloadN X17 hx rfl rfl (hb hby d16_43) rfl ?_
 refine og_retR X17 hx hlk hret rfl rfl rfl (hb hby d16_44) (by decide) (by decide) ?_
 rw [e17]; exact ⟨_, _, rfl, N, K, sz_nb13, E_a1, F_value_a1, F_coder_a1, F_count_a1, V_nb13, E_nb13⟩
theorem rm_sas_g1 (l : Launch) (Z : State) (a0 : Array Value) (hw : HW a0 Z) (a1 a2 bv b2 : Addr) (kb k2 : ClassId) (w0 : Int32) (cs : Int32) (hcs : ¬ cs = 0) (h0 : Heap) (n0 : Nat) (O : Old Z n0 h0) (E_a1 : Exa Z h0 a1 "java/lang/StringBuilder") (F_value_a1 : Fld Z h0 a1 "java/lang/AbstractStringBuilder" "value" "[B" (.ref bv)) (F_coder_a1 : Fld Z h0 a1 "java/lang/AbstractStringBuilder" "coder" "B" (.int 0)) (F_count_a1 : Fld Z h0 a1 "java/lang/AbstractStringBuilder" "count" "I" (.int 16)) (E_bv : Exa Z h0 bv "[B") (V_bv : Arv Z h0 bv kb .byte (16 : Int32) [(.int 115), (.int 116), (.int 97), (.int 110), (.int 100), (.int 97), (.int 114), (.int 100), (.int 32), (.int 105), (.int 110), (.int 112), (.int 117), (.int 116), (.int 58), (.int 32)] (.int 0)) (E_a2 : Exa Z h0 a2 "java/lang/String") (F_value_a2 : Fld Z h0 a2 "java/lang/String" "value" "[B" (.ref b2)) (F_coder_a2 : Fld Z h0 a2 "java/lang/String" "coder" "B" (.int 0)) (V_b2 : Arv Z h0 b2 k2 .byte (1 : Int32) [(.int w0)] (.int 0)) (S_CS : Sta Z Z.heap "java/lang/String" "COMPACT_STRINGS" "Z" (.int cs)) (g_a1 : n0 ≤ a1) (g_bv : n0 ≤ bv) (ne_a1_bv : a1 ≠ bv) (ne_a2_bv : a2 ≠ bv) (ne_b2_bv : b2 ≠ bv) (ne_a2_a1 : a2 ≠ a1) (ne_b2_a1 : b2 ≠ a1) :
  Con l Z (⟨"java/lang/StringBuilder", "append", "(Ljava/lang/String;)Ljava/lang/StringBuilder;"⟩ : MethodName) jdk_67_method_7_code 2 (some (.object "java/lang/StringBuilder")) ({ frames := 5, cells := 1, slots := 34, locals := 76 } : Room) #[(.ref a1), (.ref a2)] h0 (fun v h L => ∃ b k, v = some (.ref a1) ∧ Fr n0 L ∧ Keep h0 h [a1, bv] ∧ h0.size ≤ b ∧ Exa Z h a1 "java/lang/StringBuilder" ∧ Fld Z h a1 "java/lang/AbstractStringBuilder" "value" "[B" (.ref b) ∧ Fld Z h a1 "java/lang/AbstractStringBuilder" "coder" "B" (.int 0) ∧ Fld Z h a1 "java/lang/AbstractStringBuilder" "count" "I" (.int 17) ∧ Arv Z h b k .byte (34 : Int32) [(.int 115), (.int 116), (.int 97), (.int 110), (.int 100), (.int 97), (.int 114), (.int 100), (.int 32), (.int 105), (.int 110), (.int 112), (.int 117), (.int 116), (.int 58), (.int 32), (.int w0), (.int 0), (.int 0), (.int 0), (.int 0), (.int 0), (.int 0), (.int 0), (.int 0), (.int 0), (.int 0), (.int 0), (.int 0), (.int 0), (.int 0), (.int 0), (.int 0), (.int 0)] (.int 0) ∧ Exa Z h b "[B") := by
 refine own_startC opn_15 ?_
 intro p e s m below meth c T0 X0 hx hby hml hZ hown hnm hret hlk e0
 have N := Fr.nil n0; have K := Keep.refl h0 [a1, bv]
 refine OG.cast (oef2 m a1 a2) ?_
 refine og_aloadN X0 hx rfl rfl (hb hby d15_0) rfl ?_
 refine og_aloadN X0 hx rfl rfl (hb hby d15_1) rfl ?_
 refine og_super (pc' := 5) (cells' := 1) (slots' := 34) (W := 0) X0 hx hZ (y := (⟨"java/lang/AbstractStringBuilder", "append", "(Ljava/lang/String;)Ljava/lang/AbstractStringBuilder;"⟩ : MethodName)) (rm_aas_g1 l Z a0 hw a1 a2 bv b2 kb k2 w0 cs hcs h0 n0 O E_a1 F_value_a1 F_coder_a1 F_count_a1 E_bv V_bv E_a2 F_value_a2 F_coder_a2 V_b2 S_CS g_a1 g_bv ne_a1_bv ne_a2_bv ne_b2_bv ne_a2_a1 ne_b2_a1) hown (ow84 hw) (own_sameM (ow87 hw) (own_nfc (ow140 hw) (ow142 hw) rfl) (by decide)) (ow85 hw) (ow86 hw) (by decide) (ow57 hw) (ow88 hw) (by decide) (by rw [hml]; rfl) e0 opd_20 [(.ref a2)] [] rfl rfl rfl rfl (by decide) (by decide) rfl rfl (by decide) (by decide) E_a1 (hb hby d15_2) rfl (fun v11 T11 h11 L11 X11 e11 z11 => ?_)
 obtain ⟨nb11, k11, rfl, Nq11, K11, sb11, E_a1', F_value_a1', F_coder_a1', F_count_a1', V_nb11, E_nb11⟩ := z11; have N := Fr.app N Nq11
 have s_nb11 : h0.size ≤ nb11 := sb11; have sz_nb11 : h0.size ≤ nb11 := Nat.le_trans K.1 s_nb11
 have K := K.trans K11 (allS (Or.inl (List.mem_of_getElem? (i := 0) rfl)) (allS (Or.inl (List.mem_of_getElem? (i := 1) rfl)) all0))
 have E_a1 := E_a1'; have F_value_a1 := F_value_a1'; have F_coder_a1 := F_coder_a1'; have F_count_a1 := F_count_a1'
 refine og_pop X11 hx rfl (hb hby d15_5) rfl ?_
 refine og_aloadN X11 hx rfl rfl (hb hby d15_6) rfl ?_
 refine og_retR X11 hx hlk hret rfl rfl rfl (hb hby d15_7) (by decide) (by decide) ?_
 rw [e11]; exact ⟨_, _, rfl, N, K, sz_nb11, E_a1, F_value_a1, F_coder_a1, F_count_a1, V_nb11, E_nb11⟩
theorem rm_aas_g2 (l : Launch) (Z : State) (a0 : Array Value) (hw : HW a0 Z) (a1 a2 bv b2 : Addr) (kb k2 : ClassId) (w0 w1 : Int32) (cs : Int32) (hcs : ¬ cs = 0) (h0 : Heap) (n0 : Nat) (O : Old Z n0 h0) (E_a1 : Exa Z h0 a1 "java/lang/StringBuilder") (F_value_a1 : Fld Z h0 a1 "java/lang/AbstractStringBuilder" "value" "[B" (.ref bv)) (F_coder_a1 : Fld Z h0 a1 "java/lang/AbstractStringBuilder" "coder" "B" (.int 0)) (F_count_a1 : Fld Z h0 a1 "java/lang/AbstractStringBuilder" "count" "I" (.int 16)) (E_bv : Exa Z h0 bv "[B") (V_bv : Arv Z h0 bv kb .byte (16 : Int32) [(.int 115), (.int 116), (.int 97), (.int 110), (.int 100), (.int 97), (.int 114), (.int 100), (.int 32), (.int 105), (.int 110), (.int 112), (.int 117), (.int 116), (.int 58), (.int 32)] (.int 0)) (E_a2 : Exa Z h0 a2 "java/lang/String") (F_value_a2 : Fld Z h0 a2 "java/lang/String" "value" "[B" (.ref b2)) (F_coder_a2 : Fld Z h0 a2 "java/lang/String" "coder" "B" (.int 0)) (V_b2 : Arv Z h0 b2 k2 .byte (2 : Int32) [(.int w0), (.int w1)] (.int 0)) (S_CS : Sta Z Z.heap "java/lang/String" "COMPACT_STRINGS" "Z" (.int cs)) (g_a1 : n0 ≤ a1) (g_bv : n0 ≤ bv) (ne_a1_bv : a1 ≠ bv) (ne_a2_bv : a2 ≠ bv) (ne_b2_bv : b2 ≠ bv) (ne_a2_a1 : a2 ≠ a1) (ne_b2_a1 : b2 ≠ a1) :
  Con l Z (⟨"java/lang/AbstractStringBuilder", "append", "(Ljava/lang/String;)Ljava/lang/AbstractStringBuilder;"⟩ : MethodName) jdk_68_method_22_code 3 (some (.object "java/lang/AbstractStringBuilder")) ({ frames := 4, cells := 1, slots := 34, locals := 62 } : Room) #[(.ref a1), (.ref a2)] h0 (fun v h L => ∃ b k, v = some (.ref a1) ∧ Fr n0 L ∧ Keep h0 h [a1, bv] ∧ h0.size ≤ b ∧ Exa Z h a1 "java/lang/StringBuilder" ∧ Fld Z h a1 "java/lang/AbstractStringBuilder" "value" "[B" (.ref b) ∧ Fld Z h a1 "java/lang/AbstractStringBuilder" "coder" "B" (.int 0) ∧ Fld Z h a1 "java/lang/AbstractStringBuilder" "count" "I" (.int 18) ∧ Arv Z h b k .byte (34 : Int32) [(.int 115), (.int 116), (.int 97), (.int 110), (.int 100), (.int 97), (.int 114), (.int 100), (.int 32), (.int 105), (.int 110), (.int 112), (.int 117), (.int 116), (.int 58), (.int 32), (.int w0), (.int w1), (.int 0), (.int 0), (.int 0), (.int 0), (.int 0), (.int 0), (.int 0), (.int 0), (.int 0), (.int 0), (.int 0), (.int 0), (.int 0), (.int 0), (.int 0), (.int 0)] (.int 0) ∧ Exa Z h b "[B") := by
 refine own_startC opn_16 ?_
 intro p e s m below meth c T0 X0 hx hby hml hZ hown hnm hret hlk e0
 have N := Fr.nil n0; have K := Keep.refl h0 [a1, bv]
 refine OG.cast (oef6 m a1 a2) ?_
 refine og_aloadN X0 hx rfl rfl (hb hby d16_0) rfl ?_
 refine og_ifnonnull (pc1 := 9) (pc2 := 4) X0 hx rfl (hb hby d16_1) (by decide) (by decide) rfl (fun _ => ?_) (fun q => absurd q nofun)
 refine og_aloadN X0 hx rfl rfl (hb hby d16_9) rfl ?_
 refine og_virtual (pc' := 13) (cells' := 0) (slots' := 0) (W := 0) X0 hx hZ (rm_len l Z a0 hw a2 b2 k2 (2 : Int32) _ cs hcs h0 n0 O E_a2 F_value_a2 F_coder_a2 V_b2 S_CS) hown (ow89 hw) (ow90 hw) (own_nf hZ (ow92 hw)) (ow92 hw) (ow91 hw) (ow9 hw) (ow93 hw) (by decide) (by rw [hml]; rfl) e0 opd_18 [] [] rfl rfl rfl rfl (by decide) (by decide) rfl rfl (by decide) (by decide) E_a2 (hb hby d16_10) rfl (fun v11 T11 h11 L11 X11 e11 z11 => ?_)
 obtain ⟨rfl, Nq11, hq11⟩ := z11; replace e11 := e11.trans hq11; have N := Fr.app N Nq11
 refine og_istoreN (L' := #[.val (.ref a1), .val (.ref a2), .val (.int 2)]) X11 hx rfl (hb hby d16_13) rfl ?_
 refine og_aloadN X11 hx rfl rfl (hb hby d16_14) rfl ?_
 refine og_aloadN X11 hx rfl rfl (hb hby d16_15) rfl ?_
 refine og_getfield X11 hx hZ (host := "") hown (Or.inl (ow99 hw)) Via.refl e11 F_count_a1 (hb hby d16_16) rfl (fun T12 X12 e12 => ?_)
 refine og_iloadN X12 hx rfl (hb hby d16_19) rfl ?_
 refine og_iadd X12 hx (hb hby d16_20) rfl ?_
 show OG p e below _ (T12.setTop (mkF m 21 #[.val (.ref a1), .val (.ref a2), .val (.int 2)] [(.int 18), (.ref a1)]))
 refine og_private (pc' := 24) (cells' := 1) (slots' := 34) (W := 0) X12 hx hZ (rm_ec_18 l Z a0 hw a1 bv kb (16 : Int32) (115 : Int32) (116 : Int32) (97 : Int32) (110 : Int32) (100 : Int32) (97 : Int32) (114 : Int32) (100 : Int32) (32 : Int32) (105 : Int32) (110 : Int32) (112 : Int32) (117 : Int32) (116 : Int32) (58 : Int32) (32 : Int32) h0 n0 O E_a1 F_value_a1 F_coder_a1 F_count_a1 V_bv g_a1 ne_a1_bv) hown (ow101 hw) (ow102 hw) (own_selfp (ow104 hw) (ow102 hw) (ow103 hw) (by decide)) (ow103 hw) (ow57 hw) (ow105 hw) (by decide) (by rw [hml]; rfl) e12 opd_11 [(.int 18)] [] rfl rfl rfl rfl (by decide) (by decide) rfl rfl (by decide) (by decide) E_a1 (hb hby d16_21) rfl (fun v13 T13 h13 L13 X13 e13 z13 => ?_)
 obtain ⟨nb13, k13, rfl, Nq13, K13, sb13, E_a1', F_value_a1', F_coder_a1', F_count_a1', V_nb13, E_nb13⟩ := z13; have N := Fr.app N Nq13
 have s_nb13 : h0.size ≤ nb13 := sb13; have g_nb13 : n0 ≤ nb13 := Nat.le_trans (own_n0 O) s_nb13; have sz_nb13 : h0.size ≤ nb13 := Nat.le_trans K.1 s_nb13; have ne_a1_nb13 : a1 ≠ nb13 := Nat.ne_of_lt (Nat.lt_of_lt_of_le E_a1.lt s_nb13); have ne_a2_nb13 : a2 ≠ nb13 := Nat.ne_of_lt (Nat.lt_of_lt_of_le E_a2.lt s_nb13)
 have ne_b2_nb13 : b2 ≠ nb13 := Nat.ne_of_lt (Nat.lt_of_lt_of_le V_b2.lt s_nb13)
 have E_a2 := E_a2.keep K13; have F_value_a2 := F_value_a2.keep K13 (ninS ne_a2_a1 nin0); have F_coder_a2 := F_coder_a2.keep K13 (ninS ne_a2_a1 nin0)
 have V_b2 := V_b2.keep K13 (ninS ne_b2_a1 nin0); have O := O.keep K13 (allS g_a1 all0); have K := K.trans K13 (allS (Or.inl (List.mem_of_getElem? (i := 0) rfl)) all0)
 have E_a1 := E_a1'; have F_value_a1 := F_value_a1'; have F_coder_a1 := F_coder_a1'; have F_count_a1 := F_count_a1'
 refine og_aloadN X13 hx rfl rfl (hb hby d16_24) rfl ?_
 refine og_aloadN X13 hx rfl rfl (hb hby d16_25) rfl ?_
 refine og_getfield X13 hx hZ (host := "") hown (Or.inl (ow99 hw)) Via.refl e13 F_count_a1 (hb hby d16_26) rfl (fun T14 X14 e14 => ?_)
 refine og_aloadN X14 hx rfl rfl (hb hby d16_29) rfl ?_
 refine og_private (pc' := 33) (cells' := 1) (slots' := 34) (W := 0) X14 hx hZ (rm_psa l Z a0 hw a1 a2 b2 nb13 k2 k13 (16 : Int32) (2 : Int32) (34 : Int32) [(.int w0), (.int w1)] [(.int 115), (.int 116), (.int 97), (.int 110), (.int 100), (.int 97), (.int 114), (.int 100), (.int 32), (.int 105), (.int 110), (.int 112), (.int 117), (.int 116), (.int 58), (.int 32), (.int 0), (.int 0), (.int 0), (.int 0), (.int 0), (.int 0), (.int 0), (.int 0), (.int 0), (.int 0), (.int 0), (.int 0), (.int 0), (.int 0), (.int 0), (.int 0), (.int 0), (.int 0)] [(.int w0), (.int w1)] [(.int 115), (.int 116), (.int 97), (.int 110), (.int 100), (.int 97), (.int 114), (.int 100), (.int 32), (.int 105), (.int 110), (.int 112), (.int 117), (.int 116), (.int 58), (.int 32), (.int w0), (.int w1), (.int 0), (.int 0), (.int 0), (.int 0), (.int 0), (.int 0), (.int 0), (.int 0), (.int 0), (.int 0), (.int 0), (.int 0), (.int 0), (.int 0), (.int 0), (.int 0)] (by decide) (by decide) (by decide) (by decide) rfl (Nat.le_of_ble_eq_true rfl) rfl cs hcs h13 n0 O E_a1 F_value_a1 F_coder_a1 E_a2 F_value_a2 F_coder_a2 V_b2 V_nb13 S_CS g_nb13 ne_a1_nb13 ne_a2_nb13 ne_b2_nb13) hown (ow106 hw) (ow107 hw) (own_selfp (ow109 hw) (ow107 hw) (ow108 hw) (by decide)) (ow108 hw) (ow57 hw) (ow110 hw) (by decide) (by rw [hml]; rfl) e14 opd_19 [(.int 16), (.ref a2)] [] rfl rfl rfl rfl (by decide) (by decide) rfl rfl (by decide) (by decide) E_a1 (hb hby d16_30) rfl (fun v15 T15 h15 L15 X15 e15 z15 => ?_)
 obtain ⟨rfl, Nq15, K15, V_nb13'⟩ := z15; have N := Fr.app N Nq15
 have E_a1 := E_a1.keep K15
 have F_value_a1 := F_value_a1.keep K15 (ninS ne_a1_nb13 nin0); have F_coder_a1 := F_coder_a1.keep K15 (ninS ne_a1_nb13 nin0); have F_count_a1 := F_count_a1.keep K15 (ninS ne_a1_nb13 nin0); have E_nb13 := E_nb13.keep K15
 have K := K.trans K15 (allS (Or.inr sz_nb13) all0)
 have V_nb13 := V_nb13'
 refine og_aloadN X15 hx rfl rfl (hb hby d16_33) rfl ?_
 refine og_dup X15 hx rfl (hb hby d16_34) rfl ?_
 refine og_getfield X15 hx hZ (host := "") hown (Or.inl (ow99 hw)) Via.refl e15 F_count_a1 (hb hby d16_35) rfl (fun T16 X16 e16 => ?_)
 refine og_iloadN X16 hx rfl (hb hby d16_38) rfl ?_
 refine og_iadd X16 hx (hb hby d16_39) rfl ?_
 show OG p e below _ (T16.setTop (mkF m 40 #[.val (.ref a1), .val (.ref a2), .val (.int 2)] [(.int 18), (.ref a1)]))
 refine og_putfield X16 hx hZ (ty := .int) (host := "") hown (Or.inl (ow99 hw)) Via.refl e16 F_count_a1 E_a1 (Or.inl (ow100 hw)) (ow48 hw) (by decide) rfl rfl (hb hby d16_40) rfl (fun T17 h17 X17 e17 W17 => ?_)
 have F_count_a1_ := F_count_a1.same W17
 have E_a1 := E_a1.wr W17
 have F_value_a1 := F_value_a1.other W17 (Or.inr (slot_ne (Or.inl (ow62 hw)) (Or.inl (ow100 hw)) (by decide) (t := (.array .byte)) (t' := .int) (by decide) (by decide))); have F_coder_a1 := F_coder_a1.other W17 (Or.inr (slot_ne (Or.inl (ow64 hw)) (Or.inl (ow100 hw)) (by decide) (t := .byte) (t' := .int) (by decide) (by decide))); have E_nb13 := E_nb13.wr W17; have V_nb13 := V_nb13.other W17 (Ne.symm ne_a1_nb13)
 have K := K.wr W17 (Or.inl (List.mem_of_getElem? (i := 0) rfl))
 have N := Fr.snoc X17 N g_a1; have F_count_a1 := F_count_a1_
 refine og_aloadN X17 hx rfl rfl (hb hby d16_43) rfl ?_
 refine og_retR X17 hx hlk hret rfl rfl rfl (hb hby d16_44) (by decide) (by decide) ?_
 rw [e17]; exact ⟨_, _, rfl, N, K, sz_nb13, E_a1, F_value_a1, F_coder_a1, F_count_a1, V_nb13, E_nb13⟩
theorem rm_sas_g2 (l : Launch) (Z : State) (a0 : Array Value) (hw : HW a0 Z) (a1 a2 bv b2 : Addr) (kb k2 : ClassId) (w0 w1 : Int32) (cs : Int32) (hcs : ¬ cs = 0) (h0 : Heap) (n0 : Nat) (O : Old Z n0 h0) (E_a1 : Exa Z h0 a1 "java/lang/StringBuilder") (F_value_a1 : Fld Z h0 a1 "java/lang/AbstractStringBuilder" "value" "[B" (.ref bv)) (F_coder_a1 : Fld Z h0 a1 "java/lang/AbstractStringBuilder" "coder" "B" (.int 0)) (F_count_a1 : Fld Z h0 a1 "java/lang/AbstractStringBuilder" "count" "I" (.int 16)) (E_bv : Exa Z h0 bv "[B") (V_bv : Arv Z h0 bv kb .byte (16 : Int32) [(.int 115), (.int 116), (.int 97), (.int 110), (.int 100), (.int 97), (.int 114), (.int 100), (.int 32), (.int 105), (.int 110), (.int 112), (.int 117), (.int 116), (.int 58), (.int 32)] (.int 0)) (E_a2 : Exa Z h0 a2 "java/lang/String") (F_value_a2 : Fld Z h0 a2 "java/lang/String" "value" "[B" (.ref b2)) (F_coder_a2 : Fld Z h0 a2 "java/lang/String" "coder" "B" (.int 0)) (V_b2 : Arv Z h0 b2 k2 .byte (2 : Int32) [(.int w0), (.int w1)] (.int 0)) (S_CS : Sta Z Z.heap "java/lang/String" "COMPACT_STRINGS" "Z" (.int cs)) (g_a1 : n0 ≤ a1) (g_bv : n0 ≤ bv) (ne_a1_bv : a1 ≠ bv) (ne_a2_bv : a2 ≠ bv) (ne_b2_bv : b2 ≠ bv) (ne_a2_a1 : a2 ≠ a1) (ne_b2_a1 : b2 ≠ a1) :
  Con l Z (⟨"java/lang/StringBuilder", "append", "(Ljava/lang/String;)Ljava/lang/StringBuilder;"⟩ : MethodName) jdk_67_method_7_code 2 (some (.object "java/lang/StringBuilder")) ({ frames := 5, cells := 1, slots := 34, locals := 76 } : Room) #[(.ref a1), (.ref a2)] h0 (fun v h L => ∃ b k, v = some (.ref a1) ∧ Fr n0 L ∧ Keep h0 h [a1, bv] ∧ h0.size ≤ b ∧ Exa Z h a1 "java/lang/StringBuilder" ∧ Fld Z h a1 "java/lang/AbstractStringBuilder" "value" "[B" (.ref b) ∧ Fld Z h a1 "java/lang/AbstractStringBuilder" "coder" "B" (.int 0) ∧ Fld Z h a1 "java/lang/AbstractStringBuilder" "count" "I" (.int 18) ∧ Arv Z h b k .byte (34 : Int32) [(.int 115), (.int 116), (.int 97), (.int 110), (.int 100), (.int 97), (.int 114), (.int 100), (.int 32), (.int 105), (.int 110), (.int 112), (.int 117), (.int 116), (.int 58), (.int 32), (.int w0), (.int w1), (.int 0), (.int 0), (.int 0), (.int 0), (.int 0), (.int 0), (.int 0), (.int 0), (.int 0), (.int 0), (.int 0), (.int 0), (.int 0), (.int 0), (.int 0), (.int 0)] (.int 0) ∧ Exa Z h b "[B") := by
 refine own_startC opn_15 ?_
 intro p e s m below meth c T0 X0 hx hby hml hZ hown hnm hret hlk e0
 have N := Fr.nil n0; have K := Keep.refl h0 [a1, bv]
 refine OG.cast (oef2 m a1 a2) ?_
 refine og_aloadN X0 hx rfl rfl (hb hby d15_0) rfl ?_
 refine og_aloadN X0 hx rfl rfl (hb hby d15_1) rfl ?_
 refine og_super (pc' := 5) (cells' := 1) (slots' := 34) (W := 0) X0 hx hZ (y := (⟨"java/lang/AbstractStringBuilder", "append", "(Ljava/lang/String;)Ljava/lang/AbstractStringBuilder;"⟩ : MethodName)) (rm_aas_g2 l Z a0 hw a1 a2 bv b2 kb k2 w0 w1 cs hcs h0 n0 O E_a1 F_value_a1 F_coder_a1 F_count_a1 E_bv V_bv E_a2 F_value_a2 F_coder_a2 V_b2 S_CS g_a1 g_bv ne_a1_bv ne_a2_bv ne_b2_bv ne_a2_a1 ne_b2_a1) hown (ow84 hw) (own_sameM (ow87 hw) (own_nfc (ow140 hw) (ow142 hw) rfl) (by decide)) (ow85 hw) (ow86 hw) (by decide) (ow57 hw) (ow88 hw) (by decide) (by rw [hml]; rfl) e0 opd_20 [(.ref a2)] [] rfl rfl rfl rfl (by decide) (by decide) rfl rfl (by decide) (by decide) E_a1 (hb hby d15_2) rfl (fun v11 T11 h11 L11 X11 e11 z11 => ?_)
 obtain ⟨nb11, k11, rfl, Nq11, K11, sb11, E_a1', F_value_a1', F_coder_a1', F_count_a1', V_nb11, E_nb11⟩ := z11; have N := Fr.app N Nq11
 have s_nb11 : h0.size ≤ nb11 := sb11; have sz_nb11 : h0.size ≤ nb11 := Nat.le_trans K.1 s_nb11
 have K := K.trans K11 (allS (Or.inl (List.mem_of_getElem? (i := 0) rfl)) (allS (Or.inl (List.mem_of_getElem? (i := 1) rfl)) all0))
 have E_a1 := E_a1'; have F_value_a1 := F_value_a1'; have F_coder_a1 := F_coder_a1'; have F_count_a1 := F_count_a1'
 refine og_pop X11 hx rfl (hb hby d15_5) rfl ?_
 refine og_aloadN X11 hx rfl rfl (hb hby d15_6) rfl ?_
 refine og_retR X11 hx hlk hret rfl rfl rfl (hb hby d15_7) (by decide) (by decide) ?_
 rw [e11]; exact ⟨_, _, rfl, N, K, sz_nb11, E_a1, F_value_a1, F_coder_a1, F_count_a1, V_nb11, E_nb11⟩
theorem rm_aas_g3 (l : Launch) (Z : State) (a0 : Array Value) (hw : HW a0 Z) (a1 a2 bv b2 : Addr) (kb k2 : ClassId) (w0 w1 w2 : Int32) (cs : Int32) (hcs : ¬ cs = 0) (h0 : Heap) (n0 : Nat) (O : Old Z n0 h0) (E_a1 : Exa Z h0 a1 "java/lang/StringBuilder") (F_value_a1 : Fld Z h0 a1 "java/lang/AbstractStringBuilder" "value" "[B" (.ref bv)) (F_coder_a1 : Fld Z h0 a1 "java/lang/AbstractStringBuilder" "coder" "B" (.int 0)) (F_count_a1 : Fld Z h0 a1 "java/lang/AbstractStringBuilder" "count" "I" (.int 16)) (E_bv : Exa Z h0 bv "[B") (V_bv : Arv Z h0 bv kb .byte (16 : Int32) [(.int 115), (.int 116), (.int 97), (.int 110), (.int 100), (.int 97), (.int 114), (.int 100), (.int 32), (.int 105), (.int 110), (.int 112), (.int 117), (.int 116), (.int 58), (.int 32)] (.int 0)) (E_a2 : Exa Z h0 a2 "java/lang/String") (F_value_a2 : Fld Z h0 a2 "java/lang/String" "value" "[B" (.ref b2)) (F_coder_a2 : Fld Z h0 a2 "java/lang/String" "coder" "B" (.int 0)) (V_b2 : Arv Z h0 b2 k2 .byte (3 : Int32) [(.int w0), (.int w1), (.int w2)] (.int 0)) (S_CS : Sta Z Z.heap "java/lang/String" "COMPACT_STRINGS" "Z" (.int cs)) (g_a1 : n0 ≤ a1) (g_bv : n0 ≤ bv) (ne_a1_bv : a1 ≠ bv) (ne_a2_bv : a2 ≠ bv) (ne_b2_bv : b2 ≠ bv) (ne_a2_a1 : a2 ≠ a1) (ne_b2_a1 : b2 ≠ a1) :
  Con l Z (⟨"java/lang/AbstractStringBuilder", "append", "(Ljava/lang/String;)Ljava/lang/AbstractStringBuilder;"⟩ : MethodName) jdk_68_method_22_code 3 (some (.object "java/lang/AbstractStringBuilder")) ({ frames := 4, cells := 1, slots := 34, locals := 62 } : Room) #[(.ref a1), (.ref a2)] h0 (fun v h L => ∃ b k, v = some (.ref a1) ∧ Fr n0 L ∧ Keep h0 h [a1, bv] ∧ h0.size ≤ b ∧ Exa Z h a1 "java/lang/StringBuilder" ∧ Fld Z h a1 "java/lang/AbstractStringBuilder" "value" "[B" (.ref b) ∧ Fld Z h a1 "java/lang/AbstractStringBuilder" "coder" "B" (.int 0) ∧ Fld Z h a1 "java/lang/AbstractStringBuilder" "count" "I" (.int 19) ∧ Arv Z h b k .byte (34 : Int32) [(.int 115), (.int 116), (.int 97), (.int 110), (.int 100), (.int 97), (.int 114), (.int 100), (.int 32), (.int 105), (.int 110), (.int 112), (.int 117), (.int 116), (.int 58), (.int 32), (.int w0), (.int w1), (.int w2), (.int 0), (.int 0), (.int 0), (.int 0), (.int 0), (.int 0), (.int 0), (.int 0), (.int 0), (.int 0), (.int 0), (.int 0), (.int 0), (.int 0), (.int 0)] (.int 0) ∧ Exa Z h b "[B") := by
 refine own_startC opn_16 ?_
 intro p e s m below meth c T0 X0 hx hby hml hZ hown hnm hret hlk e0
 have N := Fr.nil n0; have K := Keep.refl h0 [a1, bv]
 refine OG.cast (oef6 m a1 a2) ?_
 refine og_aloadN X0 hx rfl rfl (hb hby d16_0) rfl ?_
 refine og_ifnonnull (pc1 := 9) (pc2 := 4) X0 hx rfl (hb hby d16_1) (by decide) (by decide) rfl (fun _ => ?_) (fun q => absurd q nofun)
 refine og_aloadN X0 hx rfl rfl (hb hby d16_9) rfl ?_
 refine og_virtual (pc' := 13) (cells' := 0) (slots' := 0) (W := 0) X0 hx hZ (rm_len l Z a0 hw a2 b2 k2 (3 : Int32) _ cs hcs h0 n0 O E_a2 F_value_a2 F_coder_a2 V_b2 S_CS) hown (ow89 hw) (ow90 hw) (own_nf hZ (ow92 hw)) (ow92 hw) (ow91 hw) (ow9 hw) (ow93 hw) (by decide) (by rw [hml]; rfl) e0 opd_18 [] [] rfl rfl rfl rfl (by decide) (by decide) rfl rfl (by decide) (by decide) E_a2 (hb hby d16_10) rfl (fun v11 T11 h11 L11 X11 e11 z11 => ?_)
 obtain ⟨rfl, Nq11, hq11⟩ := z11; replace e11 := e11.trans hq11; have N := Fr.app N Nq11
 refine og_istoreN (L' := #[.val (.ref a1), .val (.ref a2), .val (.int 3)]) X11 hx rfl (hb hby d16_13) rfl ?_
 refine og_aloadN X11 hx rfl rfl (hb hby d16_14) rfl ?_
 refine og_aloadN X11 hx rfl rfl (hb hby d16_15) rfl ?_
 refine og_getfield X11 hx hZ (host := "") hown (Or.inl (ow99 hw)) Via.refl e11 F_count_a1 (hb hby d16_16) rfl (fun T12 X12 e12 => ?_)
 refine og_iloadN X12 hx rfl (hb hby d16_19) rfl ?_
 refine og_iadd X12 hx (hb hby d16_20) rfl ?_
 show OG p e below _ (T12.setTop (mkF m 21 #[.val (.ref a1), .val (.ref a2), .val (.int 3)] [(.int 19), (.ref a1)]))
 refine og_private (pc' := 24) (cells' := 1) (slots' := 34) (W := 0) X12 hx hZ (rm_ec_19 l Z a0 hw a1 bv kb (16 : Int32) (115 : Int32) (116 : Int32) (97 : Int32) (110 : Int32) (100 : Int32) (97 : Int32) (114 : Int32) (100 : Int32) (32 : Int32) (105 : Int32) (110 : Int32) (112 : Int32) (117 : Int32) (116 : Int32) (58 : Int32) (32 : Int32) h0 n0 O E_a1 F_value_a1 F_coder_a1 F_count_a1 V_bv g_a1 ne_a1_bv) hown (ow101 hw) (ow102 hw) (own_selfp (ow104 hw) (ow102 hw) (ow103 hw) (by decide)) (ow103 hw) (ow57 hw) (ow105 hw) (by decide) (by rw [hml]; rfl) e12 opd_11 [(.int 19)] [] rfl rfl rfl rfl (by decide) (by decide) rfl rfl (by decide) (by decide) E_a1 (hb hby d16_21) rfl (fun v13 T13 h13 L13 X13 e13 z13 => ?_)
 obtain ⟨nb13, k13, rfl, Nq13, K13, sb13, E_a1', F_value_a1', F_coder_a1', F_count_a1', V_nb13, E_nb13⟩ := z13; have N := Fr.app N Nq13
 have s_nb13 : h0.size ≤ nb13 := sb13; have g_nb13 : n0 ≤ nb13 := Nat.le_trans (own_n0 O) s_nb13; have sz_nb13 : h0.size ≤ nb13 := Nat.le_trans K.1 s_nb13; have ne_a1_nb13 : a1 ≠ nb13 := Nat.ne_of_lt (Nat.lt_of_lt_of_le E_a1.lt s_nb13); have ne_a2_nb13 : a2 ≠ nb13 := Nat.ne_of_lt (Nat.lt_of_lt_of_le E_a2.lt s_nb13)
 have ne_b2_nb13 : b2 ≠ nb13 := Nat.ne_of_lt (Nat.lt_of_lt_of_le V_b2.lt s_nb13)
 have E_a2 := E_a2.keep K13; have F_value_a2 := F_value_a2.keep K13 (ninS ne_a2_a1 nin0); have F_coder_a2 := F_coder_a2.keep K13 (ninS ne_a2_a1 nin0)
 have V_b2 := V_b2.keep K13 (ninS ne_b2_a1 nin0); have O := O.keep K13 (allS g_a1 all0); have K := K.trans K13 (allS (Or.inl (List.mem_of_getElem? (i := 0) rfl)) all0)
 have E_a1 := E_a1'; have F_value_a1 := F_value_a1'; have F_coder_a1 := F_coder_a1'; have F_count_a1 := F_count_a1'
 refine og_aloadN X13 hx rfl rfl (hb hby d16_24) rfl ?_
 refine og_aloadN X13 hx rfl rfl (hb hby d16_25) rfl ?_
 refine og_getfield X13 hx hZ (host := "") hown (Or.inl (ow99 hw)) Via.refl e13 F_count_a1 (hb hby d16_26) rfl (fun T14 X14 e14 => ?_)
 refine og_aloadN X14 hx rfl rfl (hb hby d16_29) rfl ?_
 refine og_private (pc' := 33) (cells' := 1) (slots' := 34) (W := 0) X14 hx hZ (rm_psa l Z a0 hw a1 a2 b2 nb13 k2 k13 (16 : Int32) (3 : Int32) (34 : Int32) [(.int w0), (.int w1), (.int w2)] [(.int 115), (.int 116), (.int 97), (.int 110), (.int 100), (.int 97), (.int 114), (.int 100), (.int 32), (.int 105), (.int 110), (.int 112), (.int 117), (.int 116), (.int 58), (.int 32), (.int 0), (.int 0), (.int 0), (.int 0), (.int 0), (.int 0), (.int 0), (.int 0), (.int 0), (.int 0), (.int 0), (.int 0), (.int 0), (.int 0), (.int 0), (.int 0), (.int 0), (.int 0)] [(.int w0), (.int w1), (.int w2)] [(.int 115), (.int 116), (.int 97), (.int 110), (.int 100), (.int 97), (.int 114), (.int 100), (.int 32), (.int 105), (.int 110), (.int 112), (.int 117), (.int 116), (.int 58), (.int 32), (.int w0), (.int w1), (.int w2), (.int 0), (.int 0), (.int 0), (.int 0), (.int 0), (.int 0), (.int 0), (.int 0), (.int 0), (.int 0), (.int 0), (.int 0), (.int 0), (.int 0), (.int 0)] (by decide) (by decide) (by decide) (by decide) rfl (Nat.le_of_ble_eq_true rfl) rfl cs hcs h13 n0 O E_a1 F_value_a1 F_coder_a1 E_a2 F_value_a2 F_coder_a2 V_b2 V_nb13 S_CS g_nb13 ne_a1_nb13 ne_a2_nb13 ne_b2_nb13) hown (ow106 hw) (ow107 hw) (own_selfp (ow109 hw) (ow107 hw) (ow108 hw) (by decide)) (ow108 hw) (ow57 hw) (ow110 hw) (by decide) (by rw [hml]; rfl) e14 opd_19 [(.int 16), (.ref a2)] [] rfl rfl rfl rfl (by decide) (by decide) rfl rfl (by decide) (by decide) E_a1 (hb hby d16_30) rfl (fun v15 T15 h15 L15 X15 e15 z15 => ?_)
 obtain ⟨rfl, Nq15, K15, V_nb13'⟩ := z15; have N := Fr.app N Nq15
 have E_a1 := E_a1.keep K15
 have F_value_a1 := F_value_a1.keep K15 (ninS ne_a1_nb13 nin0); have F_coder_a1 := F_coder_a1.keep K15 (ninS ne_a1_nb13 nin0); have F_count_a1 := F_count_a1.keep K15 (ninS ne_a1_nb13 nin0); have E_nb13 := E_nb13.keep K15
 have K := K.trans K15 (allS (Or.inr sz_nb13) all0)
 have V_nb13 := V_nb13'
 refine og_aloadN X15 hx rfl rfl (hb hby d16_33) rfl ?_
 refine og_dup X15 hx rfl (hb hby d16_34) rfl ?_
 refine og_getfield X15 hx hZ (host := "") hown (Or.inl (ow99 hw)) Via.refl e15 F_count_a1 (hb hby d16_35) rfl (fun T16 X16 e16 => ?_)
 refine og_iloadN X16 hx rfl (hb hby d16_38) rfl ?_
 refine og_iadd X16 hx (hb hby d16_39) rfl ?_
 show OG p e below _ (T16.setTop (mkF m 40 #[.val (.ref a1), .val (.ref a2), .val (.int 3)] [(.int 19), (.ref a1)]))
 refine og_putfield X16 hx hZ (ty := .int) (host := "") hown (Or.inl (ow99 hw)) Via.refl e16 F_count_a1 E_a1 (Or.inl (ow100 hw)) (ow48 hw) (by decide) rfl rfl (hb hby d16_40) rfl (fun T17 h17 X17 e17 W17 => ?_)
 have F_count_a1_ := F_count_a1.same W17
 have E_a1 := E_a1.wr W17
 have F_value_a1 := F_value_a1.other W17 (Or.inr (slot_ne (Or.inl (ow62 hw)) (Or.inl (ow100 hw)) (by decide) (t := (.array .byte)) (t' := .int) (by decide) (by decide))); have F_coder_a1 := F_coder_a1.other W17 (Or.inr (slot_ne (Or.inl (ow64 hw)) (Or.inl (ow100 hw)) (by decide) (t := .byte) (t' := .int) (by decide) (by decide))); have E_nb13 := E_nb13.wr W17; have V_nb13 := V_nb13.other W17 (Ne.symm ne_a1_nb13)
 have K := K.wr W17 (Or.inl (List.mem_of_getElem? (i := 0) rfl))
 have N := Fr.snoc X17 N g_a1; have F_count_a1 := F_count_a1_
 refine og_aloadN X17 hx rfl rfl (hb hby d16_43) rfl ?_
 refine og_retR X17 hx hlk hret rfl rfl rfl (hb hby d16_44) (by decide) (by decide) ?_
 rw [e17]; exact ⟨_, _, rfl, N, K, sz_nb13, E_a1, F_value_a1, F_coder_a1, F_count_a1, V_nb13, E_nb13⟩
theorem rm_sas_g3 (l : Launch) (Z : State) (a0 : Array Value) (hw : HW a0 Z) (a1 a2 bv b2 : Addr) (kb k2 : ClassId) (w0 w1 w2 : Int32) (cs : Int32) (hcs : ¬ cs = 0) (h0 : Heap) (n0 : Nat) (O : Old Z n0 h0) (E_a1 : Exa Z h0 a1 "java/lang/StringBuilder") (F_value_a1 : Fld Z h0 a1 "java/lang/AbstractStringBuilder" "value" "[B" (.ref bv)) (F_coder_a1 : Fld Z h0 a1 "java/lang/AbstractStringBuilder" "coder" "B" (.int 0)) (F_count_a1 : Fld Z h0 a1 "java/lang/AbstractStringBuilder" "count" "I" (.int 16)) (E_bv : Exa Z h0 bv "[B") (V_bv : Arv Z h0 bv kb .byte (16 : Int32) [(.int 115), (.int 116), (.int 97), (.int 110), (.int 100), (.int 97), (.int 114), (.int 100), (.int 32), (.int 105), (.int 110), (.int 112), (.int 117), (.int 116), (.int 58), (.int 32)] (.int 0)) (E_a2 : Exa Z h0 a2 "java/lang/String") (F_value_a2 : Fld Z h0 a2 "java/lang/String" "value" "[B" (.ref b2)) (F_coder_a2 : Fld Z h0 a2 "java/lang/String" "coder" "B" (.int 0)) (V_b2 : Arv Z h0 b2 k2 .byte (3 : Int32) [(.int w0), (.int w1), (.int w2)] (.int 0)) (S_CS : Sta Z Z.heap "java/lang/String" "COMPACT_STRINGS" "Z" (.int cs)) (g_a1 : n0 ≤ a1) (g_bv : n0 ≤ bv) (ne_a1_bv : a1 ≠ bv) (ne_a2_bv : a2 ≠ bv) (ne_b2_bv : b2 ≠ bv) (ne_a2_a1 : a2 ≠ a1) (ne_b2_a1 : b2 ≠ a1) :
  Con l Z (⟨"java/lang/StringBuilder", "append", "(Ljava/lang/String;)Ljava/lang/StringBuilder;"⟩ : MethodName) jdk_67_method_7_code 2 (some (.object "java/lang/StringBuilder")) ({ frames := 5, cells := 1, slots := 34, locals := 76 } : Room) #[(.ref a1), (.ref a2)] h0 (fun v h L => ∃ b k, v = some (.ref a1) ∧ Fr n0 L ∧ Keep h0 h [a1, bv] ∧ h0.size ≤ b ∧ Exa Z h a1 "java/lang/StringBuilder" ∧ Fld Z h a1 "java/lang/AbstractStringBuilder" "value" "[B" (.ref b) ∧ Fld Z h a1 "java/lang/AbstractStringBuilder" "coder" "B" (.int 0) ∧ Fld Z h a1 "java/lang/AbstractStringBuilder" "count" "I" (.int 19) ∧ Arv Z h b k .byte (34 : Int32) [(.int 115), (.int 116), (.int 97), (.int 110), (.int 100), (.int 97), (.int 114), (.int 100), (.int 32), (.int 105), (.int 110), (.int 112), (.int 117), (.int 116), (.int 58), (.int 32), (.int w0), (.int w1), (.int w2), (.int 0), (.int 0), (.int 0), (.int 0), (.int 0), (.int 0), (.int 0), (.int 0), (.int 0), (.int 0), (.int 0), (.int 0), (.int 0), (.int 0), (.int 0)] (.int 0) ∧ Exa Z h b "[B") := by
 refine own_startC opn_15 ?_
 intro p e s m below meth c T0 X0 hx hby hml hZ hown hnm hret hlk e0
 have N := Fr.nil n0; have K := Keep.refl h0 [a1, bv]
 refine OG.cast (oef2 m a1 a2) ?_
 refine og_aloadN X0 hx rfl rfl (hb hby d15_0) rfl ?_
 refine og_aloadN X0 hx rfl rfl (hb hby d15_1) rfl ?_
 refine og_super (pc' := 5) (cells' := 1) (slots' := 34) (W := 0) X0 hx hZ (y := (⟨"java/lang/AbstractStringBuilder", "append", "(Ljava/lang/String;)Ljava/lang/AbstractStringBuilder;"⟩ : MethodName)) (rm_aas_g3 l Z a0 hw a1 a2 bv b2 kb k2 w0 w1 w2 cs hcs h0 n0 O E_a1 F_value_a1 F_coder_a1 F_count_a1 E_bv V_bv E_a2 F_value_a2 F_coder_a2 V_b2 S_CS g_a1 g_bv ne_a1_bv ne_a2_bv ne_b2_bv ne_a2_a1 ne_b2_a1) hown (ow84 hw) (own_sameM (ow87 hw) (own_nfc (ow140 hw) (ow142 hw) rfl) (by decide)) (ow85 hw) (ow86 hw) (by decide) (ow57 hw) (ow88 hw) (by decide) (by rw [hml]; rfl) e0 opd_20 [(.ref a2)] [] rfl rfl rfl rfl (by decide) (by decide) rfl rfl (by decide) (by decide) E_a1 (hb hby d15_2) rfl (fun v11 T11 h11 L11 X11 e11 z11 => ?_)
 obtain ⟨nb11, k11, rfl, Nq11, K11, sb11, E_a1', F_value_a1', F_coder_a1', F_count_a1', V_nb11, E_nb11⟩ := z11; have N := Fr.app N Nq11
 have s_nb11 : h0.size ≤ nb11 := sb11; have sz_nb11 : h0.size ≤ nb11 := Nat.le_trans K.1 s_nb11
 have K := K.trans K11 (allS (Or.inl (List.mem_of_getElem? (i := 0) rfl)) (allS (Or.inl (List.mem_of_getElem? (i := 1) rfl)) all0))
 have E_a1 := E_a1'; have F_value_a1 := F_value_a1'; have F_coder_a1 := F_coder_a1'; have F_count_a1 := F_count_a1'
 refine og_pop X11 hx rfl (hb hby d15_5) rfl ?_
 refine og_aloadN X11 hx rfl rfl (hb hby d15_6) rfl ?_
 refine og_retR X11 hx hlk hret rfl rfl rfl (hb hby d15_7) (by decide) (by decide) ?_
 rw [e11]; exact ⟨_, _, rfl, N, K, sz_nb11, E_a1, F_value_a1, F_coder_a1, F_count_a1, V_nb11, E_nb11⟩
theorem rm_spX (l : Launch) (Z : State) (a0 : Array Value) (hw : HW a0 Z) (a1 a2 bv b2 : Addr) (kb k2 : ClassId) (ws : List Int32) (hk : ws.length = 1 ∨ ws.length = 2 ∨ ws.length = 3) (cs : Int32) (hcs : ¬ cs = 0) (h0 : Heap) (n0 : Nat) (O : Old Z n0 h0) (E_a1 : Exa Z h0 a1 "java/lang/StringBuilder") (F_value_a1 : Fld Z h0 a1 "java/lang/AbstractStringBuilder" "value" "[B" (.ref bv)) (F_coder_a1 : Fld Z h0 a1 "java/lang/AbstractStringBuilder" "coder" "B" (.int 0)) (F_count_a1 : Fld Z h0 a1 "java/lang/AbstractStringBuilder" "count" "I" (.int (Int32.ofNat ((([115, 116, 97, 110, 100, 97, 114, 100, 32, 105, 110, 112, 117, 116] : List Int32) ++ [58, 32])).length))) (E_bv : Exa Z h0 bv "[B") (V_bv : Arv Z h0 bv kb .byte (16 : Int32) (own_pad ((([115, 116, 97, 110, 100, 97, 114, 100, 32, 105, 110, 112, 117, 116] : List Int32) ++ [58, 32])) 16) (.int 0)) (E_a2 : Exa Z h0 a2 "java/lang/String") (F_value_a2 : Fld Z h0 a2 "java/lang/String" "value" "[B" (.ref b2)) (F_coder_a2 : Fld Z h0 a2 "java/lang/String" "coder" "B" (.int 0)) (V_b2 : Arv Z h0 b2 k2 .byte (Int32.ofNat (ws).length) ((ws).map Value.int) (.int 0)) (S_CS : Sta Z Z.heap "java/lang/String" "COMPACT_STRINGS" "Z" (.int cs)) (g_a1 : n0 ≤ a1) (g_bv : n0 ≤ bv) (ne_a1_bv : a1 ≠ bv) (ne_a2_bv : a2 ≠ bv) (ne_b2_bv : b2 ≠ bv) (ne_a2_a1 : a2 ≠ a1) (ne_b2_a1 : b2 ≠ a1) :
    Con l Z (⟨"java/lang/StringBuilder", "append", "(Ljava/lang/String;)Ljava/lang/StringBuilder;"⟩ : MethodName) jdk_67_method_7_code 2 (some (.object "java/lang/StringBuilder")) ({ frames := 5, cells := 1, slots := 34, locals := 76 } : Room) #[(.ref a1), (.ref a2)] h0 (fun v h L => ∃ b k, v = some (.ref a1) ∧ Fr n0 L ∧ Keep h0 h [a1, bv] ∧ h0.size ≤ b ∧ Exa Z h a1 "java/lang/StringBuilder" ∧ Fld Z h a1 "java/lang/AbstractStringBuilder" "value" "[B" (.ref b) ∧ Fld Z h a1 "java/lang/AbstractStringBuilder" "coder" "B" (.int 0) ∧ Fld Z h a1 "java/lang/AbstractStringBuilder" "count" "I" (.int (Int32.ofNat ((([115, 116, 97, 110, 100, 97, 114, 100, 32, 105, 110, 112, 117, 116] : List Int32) ++ [58, 32]) ++ ws).length)) ∧ Arv Z h b k .byte (34 : Int32) (own_pad ((([115, 116, 97, 110, 100, 97, 114, 100, 32, 105, 110, 112, 117, 116] : List Int32) ++ [58, 32]) ++ ws) 34) (.int 0) ∧ Exa Z h b "[B") := by
  rcases ws with _ | ⟨w0, _ | ⟨w1, _ | ⟨w2, _ | ⟨w3, tl⟩⟩⟩⟩
  · exact absurd hk (by simp)
  · exact rm_sas_g1 l Z a0 hw a1 a2 bv b2 kb k2 w0 cs hcs h0 n0 O E_a1 F_value_a1 F_coder_a1 F_count_a1 E_bv V_bv E_a2 F_value_a2 F_coder_a2 V_b2 S_CS g_a1 g_bv ne_a1_bv ne_a2_bv ne_b2_bv ne_a2_a1 ne_b2_a1
  · exact rm_sas_g2 l Z a0 hw a1 a2 bv b2 kb k2 w0 w1 cs hcs h0 n0 O E_a1 F_value_a1 F_coder_a1 F_count_a1 E_bv V_bv E_a2 F_value_a2 F_coder_a2 V_b2 S_CS g_a1 g_bv ne_a1_bv ne_a2_bv ne_b2_bv ne_a2_a1 ne_b2_a1
  · exact rm_sas_g3 l Z a0 hw a1 a2 bv b2 kb k2 w0 w1 w2 cs hcs h0 n0 O E_a1 F_value_a1 F_coder_a1 F_count_a1 E_bv V_bv E_a2 F_value_a2 F_coder_a2 V_b2 S_CS g_a1 g_bv ne_a1_bv ne_a2_bv ne_b2_bv ne_a2_a1 ne_b2_a1
  · exact absurd hk (by simp)
theorem rm_gv (l : Launch) (Z : State) (a0 : Array Value) (hw : HW a0 Z) (a1 bv : Addr) (h0 : Heap) (n0 : Nat) (O : Old Z n0 h0) (F_value_a1 : Fld Z h0 a1 "java/lang/AbstractStringBuilder" "value" "[B" (.ref bv)) :
  Con l Z (⟨"java/lang/AbstractStringBuilder", "getValue", "()[B"⟩ : MethodName) jdk_68_method_64_code 1 (some (.array .byte)) ({ frames := 0, cells := 0, slots := 0, locals := 0 } : Room) #[(.ref a1)] h0 (fun v h L => v = some (.ref bv) ∧ Fr n0 L ∧ h = h0) := by
 refine own_startC opn_26 ?_
 intro p e s m below meth c T0 X0 hx hby hml hZ hown hnm hret hlk e0
 have N := Fr.nil n0
 refine OG.cast (oef7 m a1) ?_
 refine og_aloadN X0 hx rfl rfl (hb hby d26_0) rfl ?_
 refine og_getfield X0 hx hZ (host := "") hown (Or.inl (ow61 hw)) Via.refl e0 F_value_a1 (hb hby d26_1) rfl (fun T11 X11 e11 => ?_)
 refine og_retR X11 hx hlk hret rfl rfl rfl (hb hby d26_4) (by decide) (by decide) ?_
 rw [e11]; exact ⟨rfl, N, rfl⟩
theorem rm_asl (l : Launch) (Z : State) (a0 : Array Value) (hw : HW a0 Z) (a1 : Addr) (cn : Int32) (h0 : Heap) (n0 : Nat) (O : Old Z n0 h0) (F_count_a1 : Fld Z h0 a1 "java/lang/AbstractStringBuilder" "count" "I" (.int cn)) :
  Con l Z (⟨"java/lang/AbstractStringBuilder", "length", "()I"⟩ : MethodName) jdk_68_method_6_code 1 (some .int) ({ frames := 0, cells := 0, slots := 0, locals := 0 } : Room) #[(.ref a1)] h0 (fun v h L => v = some (.int cn) ∧ Fr n0 L ∧ h = h0) := by
 refine own_startC opn_28 ?_
 intro p e s m below meth c T0 X0 hx hby hml hZ hown hnm hret hlk e0
 have N := Fr.nil n0
 refine OG.cast (oef7 m a1) ?_
 refine og_aloadN X0 hx rfl rfl (hb hby d28_0) rfl ?_
 refine og_getfield X0 hx hZ (host := "") hown (Or.inl (ow99 hw)) Via.refl e0 F_count_a1 (hb hby d28_1) rfl (fun T11 X11 e11 => ?_)
 refine og_retI X11 hx hlk hret (hb hby d28_4) (by decide) (by decide) ?_
 rw [e11]; exact ⟨rfl, N, rfl⟩
theorem rm_sl (l : Launch) (Z : State) (a0 : Array Value) (hw : HW a0 Z) (a1 : Addr) (cn : Int32) (h0 : Heap) (n0 : Nat) (O : Old Z n0 h0) (E_a1 : Exa Z h0 a1 "java/lang/StringBuilder") (F_count_a1 : Fld Z h0 a1 "java/lang/AbstractStringBuilder" "count" "I" (.int cn)) :
  Con l Z (⟨"java/lang/StringBuilder", "length", "()I"⟩ : MethodName) jdk_67_method_93_code 1 (some .int) ({ frames := 1, cells := 0, slots := 0, locals := 12 } : Room) #[(.ref a1)] h0 (fun v h L => v = some (.int cn) ∧ Fr n0 L ∧ h = h0) := by
 refine own_startC opn_27 ?_
 intro p e s m below meth c T0 X0 hx hby hml hZ hown hnm hret hlk e0
 have N := Fr.nil n0
 refine OG.cast (oef7 m a1) ?_
 refine og_aloadN X0 hx rfl rfl (hb hby d27_0) rfl ?_
 refine og_super (pc' := 4) (cells' := 0) (slots' := 0) (W := 0) X0 hx hZ (y := (⟨"java/lang/AbstractStringBuilder", "length", "()I"⟩ : MethodName)) (rm_asl l Z a0 hw a1 cn h0 n0 O F_count_a1) hown (ow150 hw) (own_sameM (ow145 hw) (own_nfc (ow140 hw) (ow142 hw) rfl) (by decide)) (ow146 hw) (ow86 hw) (by decide) (ow57 hw) (ow151 hw) (by decide) (by rw [hml]; rfl) e0 opd_18 [] [] rfl rfl rfl rfl (by decide) (by decide) rfl rfl (by decide) (by decide) E_a1 (hb hby d27_1) rfl (fun v11 T11 h11 L11 X11 e11 z11 => ?_)
 obtain ⟨rfl, Nq11, hq11⟩ := z11; replace e11 := e11.trans hq11; have N := Fr.app N Nq11
 refine og_retI X11 hx hlk hret (hb hby d27_4) (by decide) (by decide) ?_
 rw [e11]; exact ⟨rfl, N, rfl⟩
theorem rm_chG (l : Launch) (Z : State) (a0 : Array Value) (hw : HW a0 Z) (nn : Int32) (hn : ¬ nn < 0) (h0 : Heap) (n0 : Nat) (O : Old Z n0 h0) :
  Con l Z (⟨"java/util/Arrays", "checkLength", "(II)V"⟩ : MethodName) jdk_65_method_131_code 2 none ({ frames := 0, cells := 0, slots := 0, locals := 0 } : Room) #[(.int 0), (.int nn)] h0 (fun v h L => v = none ∧ Fr n0 L ∧ h = h0) := by
 refine own_startC opn_32 ?_
 intro p e s m below meth c T0 X0 hx hby hml hZ hown hnm hret hlk e0
 have N := Fr.nil n0
 refine OG.cast (oef9 m (0 : Int32) nn) ?_
 refine og_iloadN X0 hx rfl (hb hby d32_0) rfl ?_
 refine og_iloadN X0 hx rfl (hb hby d32_1) rfl ?_
 refine og_icmp_ge (pc1 := 37) (pc2 := 5) X0 hx (hb hby d32_2) (by decide) (by decide) rfl (fun _ => ?_) (fun q => absurd q hn)
 refine og_retV X0 hx hlk hret (hb hby d32_37) (by decide) (by decide) ?_
 rw [e0]; exact ⟨rfl, N, rfl⟩
theorem rm_mnG (l : Launch) (Z : State) (a0 : Array Value) (hw : HW a0 Z) (aa bb : Int32) (hab : bb < aa) (h0 : Heap) (n0 : Nat) (O : Old Z n0 h0) :
  Con l Z (⟨"java/lang/Math", "min", "(II)I"⟩ : MethodName) jdk_29_method_69_code 2 (some .int) ({ frames := 0, cells := 0, slots := 0, locals := 0 } : Room) #[(.int aa), (.int bb)] h0 (fun v h L => v = some (.int bb) ∧ Fr n0 L ∧ h = h0) := by
 refine own_startC opn_33 ?_
 intro p e s m below meth c T0 X0 hx hby hml hZ hown hnm hret hlk e0
 have N := Fr.nil n0
 refine OG.cast (oef9 m aa bb) ?_
 refine og_iloadN X0 hx rfl (hb hby d33_0) rfl ?_
 refine og_iloadN X0 hx rfl (hb hby d33_1) rfl ?_
 refine og_icmp_gt (pc1 := 9) (pc2 := 5) X0 hx (hb hby d33_2) (by decide) (by decide) rfl (fun _ => ?_) (fun q => absurd hab q)
 refine og_iloadN X0 hx rfl (hb hby d33_9) rfl ?_
 refine og_retI X0 hx hlk hret (hb hby d33_10) (by decide) (by decide) ?_
 rw [e0]; exact ⟨rfl, N, rfl⟩
theorem rm_crbG16 (l : Launch) (Z : State) (a0 : Array Value) (hw : HW a0 Z) (ba : Addr) (kb : ClassId) (ms : List Int32) (hm : ms.length < 16) (h0 : Heap) (n0 : Nat) (O : Old Z n0 h0) (V_ba : Arv Z h0 ba kb .byte (16 : Int32) (own_pad (ms) 16) (.int 0)) :
  Con l Z (⟨"java/util/Arrays", "copyOfRangeByte", "([BII)[B"⟩ : MethodName) jdk_65_method_133_code 5 (some (.array .byte)) ({ frames := 1, cells := 1, slots := 16, locals := 18 } : Room) #[(.ref ba), (.int 0), (.int (Int32.ofNat (ms).length))] h0 (fun v h L => ∃ b k, v = some (.ref b) ∧ Fr n0 L ∧ Keep h0 h [] ∧ h0.size ≤ b ∧ Arv Z h b k .byte (Int32.ofNat (ms).length) (ms.map Value.int) (.int 0)) := by
 refine own_startC opn_31 ?_
 intro p e s m below meth c T0 X0 hx hby hml hZ hown hnm hret hlk e0
 have N := Fr.nil n0; have K := Keep.refl h0 []
 refine OG.cast (oef16 m ba (0 : Int32) (Int32.ofNat (ms).length)) ?_
 refine og_iloadN X0 hx rfl (hb hby d31_0) rfl ?_
 refine og_iloadN X0 hx rfl (hb hby d31_1) rfl ?_
 refine og_static (pc' := 5) (cells' := 0) (slots' := 0) (W := 0) X0 hx hZ (rm_chG l Z a0 hw (Int32.ofNat (ms).length) (own_zneg (ms := ms) (by omega)) h0 n0 O) hown (ow164 hw) (ow165 hw) (ow159 hw) (ow166 hw) (by decide) (by rw [hml]; rfl) e0 opd_7 [(.int 0), (.int (Int32.ofNat (ms).length))] [] rfl rfl rfl rfl (by decide) (by decide) rfl rfl (by decide) (by decide) (hb hby d31_2) rfl (fun v11 T11 h11 L11 X11 e11 z11 => ?_)
 obtain ⟨rfl, Nq11, hq11⟩ := z11; replace e11 := e11.trans hq11; have N := Fr.app N Nq11
 refine og_iloadN X11 hx rfl (hb hby d31_5) rfl ?_
 refine og_iloadN X11 hx rfl (hb hby d31_6) rfl ?_
 refine og_isub X11 hx (hb hby d31_7) rfl ?_
 rw [own_sub0]
 refine og_istoreN (L' := #[.val (.ref ba), .val (.int 0), .val (.int (Int32.ofNat (ms).length)), .val (.int (Int32.ofNat (ms).length)), .unset]) X11 hx rfl (hb hby d31_8) rfl ?_
 refine og_iloadN X11 hx rfl (hb hby d31_9) rfl ?_
 refine og_newarray (pc' := 12) (cells' := 1) (slots' := 16) (cap := 16) (ty := .byte) X11 hx hZ rfl (ow22 hw) e11 (own_zneg (ms := ms) (by omega)) (own_zcap (z := 16) (ms := ms) (by omega) (by omega)) (by decide) (hb hby d31_10) rfl rfl rfl (by decide) (by decide) (fun T12 h12 nb12 kA12 X12 e12 E12 q12 V_nb12 => ?_)
 have s_nb12 : h0.size ≤ nb12 := Nat.le_of_eq q12.symm; have g_nb12 : n0 ≤ nb12 := Nat.le_trans (own_n0 O) s_nb12; have sz_nb12 : h0.size ≤ nb12 := Nat.le_trans K.1 s_nb12
 have V_ba := V_ba.ext E12; have O := O.ext E12; have K := K.ext E12
 refine og_astore (L' := #[.val (.ref ba), .val (.int 0), .val (.int (Int32.ofNat (ms).length)), .val (.int (Int32.ofNat (ms).length)), .val (.ref nb12)]) X12 hx rfl rfl (hb hby d31_12) rfl ?_
 refine og_aloadN X12 hx rfl rfl (hb hby d31_14) rfl ?_
 refine og_iloadN X12 hx rfl (hb hby d31_15) rfl ?_
 refine og_aload X12 hx rfl rfl (hb hby d31_16) rfl ?_
 refine og_iconst (v := 0) X12 hx rfl (hb hby d31_18) rfl ?_
 refine og_aloadN X12 hx rfl rfl (hb hby d31_19) rfl ?_
 refine og_arraylength X12 hx hZ e12 V_ba (hb hby d31_20) rfl ?_
 refine og_iloadN X12 hx rfl (hb hby d31_21) rfl ?_
 refine og_isub X12 hx (hb hby d31_22) rfl ?_
 show OG p e below _ (T12.setTop (mkF m 23 #[.val (.ref ba), .val (.int 0), .val (.int (Int32.ofNat (ms).length)), .val (.int (Int32.ofNat (ms).length)), .val (.ref nb12)] [(.int 16), (.int 0), (.ref nb12), (.int 0), (.ref ba)]))
 refine og_iloadN X12 hx rfl (hb hby d31_23) rfl ?_
 refine og_static (pc' := 27) (cells' := 1) (slots' := 16) (W := 4) X12 hx hZ (rm_mnG l Z a0 hw (16 : Int32) (Int32.ofNat (ms).length) (own_zlt (z := 16) ms hm (by decide)) h12 n0 O) hown (ow167 hw) (ow168 hw) (ow169 hw) (ow170 hw) (by decide) (by rw [hml]; rfl) e12 opd_12 [(.int 16), (.int (Int32.ofNat (ms).length))] [(.int 0), (.ref nb12), (.int 0), (.ref ba)] rfl rfl rfl rfl (by decide) (by decide) rfl rfl (by decide) (by decide) (hb hby d31_24) rfl (fun v13 T13 h13 L13 X13 e13 z13 => ?_)
 obtain ⟨rfl, Nq13, hq13⟩ := z13; replace e13 := e13.trans hq13; have N := Fr.app N Nq13
 have V_nb12 := V_nb12.pad (pad_rep [] (.int 0) ms.length)
 obtain ⟨hg3, hg4, hg5, hgu, hgl, hgv⟩ := own_cpy (z := 16) ms hm (by decide)
 refine og_arraycopy (pc' := 30) (W := 0) (us := ms.map Value.int) X13 hx hZ (by rw [hml]; rfl) hown (ow171 hw) (ow125 hw) (ow123 hw) (ow124 hw) e13 V_ba V_nb12 rfl (by decide) (by decide) hg3 hg4 hg5 hgu hgl N g_nb12 rfl (by decide) (by decide) (hb hby d31_27) rfl (fun T14 h14 l14 X14 e14 N K14 V14 => ?_)
 have K := K.trans K14 (allS (Or.inr sz_nb12) all0)
 rw [hgv] at V14; have V_nb12 := V14
 refine og_aload X14 hx rfl rfl (hb hby d31_30) rfl ?_
 refine og_retR X14 hx hlk hret rfl rfl rfl (hb hby d31_32) (by decide) (by decide) ?_
 rw [e14]; exact ⟨_, _, rfl, N, K, sz_nb12, V_nb12⟩
theorem rm_cprG16 (l : Launch) (Z : State) (a0 : Array Value) (hw : HW a0 Z) (ba : Addr) (kb : ClassId) (ms : List Int32) (hm : ms.length < 16) (h0 : Heap) (n0 : Nat) (O : Old Z n0 h0) (V_ba : Arv Z h0 ba kb .byte (16 : Int32) (own_pad (ms) 16) (.int 0)) (E_ba : Exa Z h0 ba "[B") :
  Con l Z (⟨"java/util/Arrays", "copyOfRange", "([BII)[B"⟩ : MethodName) jdk_65_method_132_code 3 (some (.array .byte)) ({ frames := 2, cells := 1, slots := 16, locals := 34 } : Room) #[(.ref ba), (.int 0), (.int (Int32.ofNat (ms).length))] h0 (fun v h L => ∃ b k, v = some (.ref b) ∧ Fr n0 L ∧ Keep h0 h [] ∧ h0.size ≤ b ∧ Arv Z h b k .byte (Int32.ofNat (ms).length) (ms.map Value.int) (.int 0)) := by
 refine own_startC opn_30 ?_
 intro p e s m below meth c T0 X0 hx hby hml hZ hown hnm hret hlk e0
 have N := Fr.nil n0; have K := Keep.refl h0 []
 refine OG.cast (oef17 m ba (0 : Int32) (Int32.ofNat (ms).length)) ?_
 refine og_iloadN X0 hx rfl (hb hby d30_0) rfl ?_
 refine og_if_ne (pc1 := 10) (pc2 := 4) X0 hx (hb hby d30_1) (by decide) (by decide) rfl (fun q => absurd q (by decide)) (fun _ => ?_)
 refine og_iloadN X0 hx rfl (hb hby d30_4) rfl ?_
 refine og_aloadN X0 hx rfl rfl (hb hby d30_5) rfl ?_
 refine og_arraylength X0 hx hZ e0 V_ba (hb hby d30_6) rfl ?_
 refine og_icmp_eq (pc1 := 17) (pc2 := 10) X0 hx (hb hby d30_7) (by decide) (by decide) rfl (fun q => absurd q (own_zne (z := 16) ms hm (by decide))) (fun _ => ?_)
 refine og_aloadN X0 hx rfl rfl (hb hby d30_10) rfl ?_
 refine og_iloadN X0 hx rfl (hb hby d30_11) rfl ?_
 refine og_iloadN X0 hx rfl (hb hby d30_12) rfl ?_
 refine og_static (pc' := 16) (cells' := 1) (slots' := 16) (W := 0) X0 hx hZ (rm_crbG16 l Z a0 hw ba kb ms hm h0 n0 O V_ba) hown (ow161 hw) (ow162 hw) (ow159 hw) (ow163 hw) (by decide) (by rw [hml]; rfl) e0 opd_21 [(.ref ba), (.int 0), (.int (Int32.ofNat (ms).length))] [] rfl rfl rfl rfl (by decide) (by decide) rfl rfl (by decide) (by decide) (hb hby d30_13) rfl (fun v11 T11 h11 L11 X11 e11 z11 => ?_)
 obtain ⟨nb11, k11, rfl, Nq11, K11, sb11, V_nb11⟩ := z11; have N := Fr.app N Nq11
 have s_nb11 : h0.size ≤ nb11 := sb11; have sz_nb11 : h0.size ≤ nb11 := Nat.le_trans K.1 s_nb11
 have K := K.trans K11 all0
 refine og_retR X11 hx hlk hret rfl rfl rfl (hb hby d30_16) (by decide) (by decide) ?_
 rw [e11]; exact ⟨_, _, rfl, N, K, sz_nb11, V_nb11⟩
theorem rm_svaG16 (l : Launch) (Z : State) (a0 : Array Value) (hw : HW a0 Z) (a1 a2 bv : Addr) (kb : ClassId) (ms : List Int32) (hm : ms.length < 16) (cs : Int32) (hcs : ¬ cs = 0) (h0 : Heap) (n0 : Nat) (O : Old Z n0 h0) (E_a1 : Exa Z h0 a1 "java/lang/String") (F_value_a1 : Fld Z h0 a1 "java/lang/String" "value" "[B" .null) (F_coder_a1 : Fld Z h0 a1 "java/lang/String" "coder" "B" (.int 0)) (E_a2 : Exa Z h0 a2 "java/lang/StringBuilder") (F_value_a2 : Fld Z h0 a2 "java/lang/AbstractStringBuilder" "value" "[B" (.ref bv)) (F_coder_a2 : Fld Z h0 a2 "java/lang/AbstractStringBuilder" "coder" "B" (.int 0)) (F_count_a2 : Fld Z h0 a2 "java/lang/AbstractStringBuilder" "count" "I" (.int (Int32.ofNat (ms).length))) (E_bv : Exa Z h0 bv "[B") (V_bv : Arv Z h0 bv kb .byte (16 : Int32) (own_pad (ms) 16) (.int 0)) (S_CS : Sta Z Z.heap "java/lang/String" "COMPACT_STRINGS" "Z" (.int cs)) (g_a1 : n0 ≤ a1) (ne_a2_a1 : a2 ≠ a1) (ne_bv_a1 : bv ≠ a1) :
  Con l Z (⟨"java/lang/String", "<init>", "(Ljava/lang/AbstractStringBuilder;Ljava/lang/Void;)V"⟩ : MethodName) jdk_42_method_150_code 5 none ({ frames := 3, cells := 1, slots := 16, locals := 49 } : Room) #[(.ref a1), (.ref a2), .null] h0 (fun v h L => ∃ b k, v = none ∧ Fr n0 L ∧ Keep h0 h [a1] ∧ h0.size ≤ b ∧ Exa Z h a1 "java/lang/String" ∧ Fld Z h a1 "java/lang/String" "value" "[B" (.ref b) ∧ Fld Z h a1 "java/lang/String" "coder" "B" (.int 0) ∧ Arv Z h b k .byte (Int32.ofNat (ms).length) ((ms).map Value.int) (.int 0)) := by
 refine own_startC opn_25 ?_
 intro p e s m below meth c T0 X0 hx hby hml hZ hown hnm hret hlk e0
 have N := Fr.nil n0; have K := Keep.refl h0 [a1]
 refine OG.cast (oef18 m a1 a2) ?_
 refine og_aloadN X0 hx rfl rfl (hb hby d25_0) rfl ?_
 refine og_initO (pc' := 4) X0 hx hZ (W := 0) (by rw [hml]; rfl) hown (ow18 hw) (ow19 hw) (ow20 hw) e0 rfl (by decide) (by decide) (hb hby d25_1) rfl (fun T11 X11 e11 => ?_)
 refine og_aloadN X11 hx rfl rfl (hb hby d25_4) rfl ?_
 refine og_virtual (pc' := 8) (cells' := 0) (slots' := 0) (W := 0) X11 hx hZ (rm_gv l Z a0 hw a2 bv h0 n0 O F_value_a2) hown (ow139 hw) (ow140 hw) (own_nf hZ (ow142 hw)) (ow142 hw) (ow141 hw) (ow57 hw) (ow143 hw) (by decide) (by rw [hml]; rfl) e11 opd_22 [] [] rfl rfl rfl rfl (by decide) (by decide) rfl rfl (by decide) (by decide) E_a2 (hb hby d25_5) rfl (fun v12 T12 h12 L12 X12 e12 z12 => ?_)
 obtain ⟨rfl, Nq12, hq12⟩ := z12; replace e12 := e12.trans hq12; have N := Fr.app N Nq12
 refine og_astoreN (L' := #[.val (.ref a1), .val (.ref a2), .val .null, .val (.ref bv), .unset]) X12 hx rfl rfl (hb hby d25_8) rfl ?_
 refine og_aloadN X12 hx rfl rfl (hb hby d25_9) rfl ?_
 refine og_virtual (pc' := 13) (cells' := 0) (slots' := 0) (W := 0) X12 hx hZ (rm_sl l Z a0 hw a2 (Int32.ofNat (ms).length) h0 n0 O E_a2 F_count_a2) hown (ow144 hw) (ow145 hw) (own_nfc (Z := s) (a0 := #[]) (mvT hZ (ow140 hw)) (mvT hZ (ow142 hw)) rfl) (ow147 hw) (ow148 hw) (ow49 hw) (ow149 hw) (by decide) (by rw [hml]; rfl) e12 opd_18 [] [] rfl rfl rfl rfl (by decide) (by decide) rfl rfl (by decide) (by decide) E_a2 (hb hby d25_10) rfl (fun v13 T13 h13 L13 X13 e13 z13 => ?_)
 obtain ⟨rfl, Nq13, hq13⟩ := z13; replace e13 := e13.trans hq13; have N := Fr.app N Nq13
 refine og_istore (L' := #[.val (.ref a1), .val (.ref a2), .val .null, .val (.ref bv), .val (.int (Int32.ofNat (ms).length))]) X13 hx rfl (hb hby d25_13) rfl ?_
 refine og_aloadN X13 hx rfl rfl (hb hby d25_15) rfl ?_
 refine og_virtual (pc' := 19) (cells' := 0) (slots' := 0) (W := 0) X13 hx hZ (rm_ail l Z a0 hw a2 cs hcs h0 n0 O F_coder_a2 S_CS) hown (ow152 hw) (ow153 hw) (own_nf hZ (ow155 hw)) (ow155 hw) (ow154 hw) (ow57 hw) (ow156 hw) (by decide) (by rw [hml]; rfl) e13 opd_8 [] [] rfl rfl rfl rfl (by decide) (by decide) rfl rfl (by decide) (by decide) E_a2 (hb hby d25_16) rfl (fun v14 T14 h14 L14 X14 e14 z14 => ?_)
 obtain ⟨rfl, Nq14, hq14⟩ := z14; replace e14 := e14.trans hq14; have N := Fr.app N Nq14
 refine og_if_eq (pc1 := 41) (pc2 := 22) X14 hx (hb hby d25_19) (by decide) (by decide) rfl (fun q => absurd q (by decide)) (fun _ => ?_)
 refine og_aloadN X14 hx rfl rfl (hb hby d25_22) rfl ?_
 refine og_iconst (v := 0) X14 hx rfl (hb hby d25_23) rfl ?_
 refine og_putfield X14 hx hZ (ty := .byte) (host := "") hown (Or.inl (ow28 hw)) Via.refl e14 F_coder_a1 E_a1 (Or.inr ⟨(ow24 hw), rfl, hnm⟩) (ow8 hw) (by decide) rfl rfl (hb hby d25_24) rfl (fun T15 h15 X15 e15 W15 => ?_)
 have F_coder_a1_ := F_coder_a1.same W15
 have E_a1 := E_a1.wr W15; have F_value_a1 := F_value_a1.other W15 (Or.inr (slot_ne (Or.inr (ow23 hw)) (Or.inr (ow24 hw)) (by decide) (t := (.array .byte)) (t' := .byte) (by decide) (by decide)))
 have E_bv := E_bv.wr W15; have V_bv := V_bv.other W15 ne_bv_a1; have O := O.wr W15 g_a1; have K := K.wr W15 (Or.inl (List.mem_of_getElem? (i := 0) rfl))
 have N := Fr.snoc X15 N g_a1; have F_coder_a1 := F_coder_a1_
 refine og_aloadN X15 hx rfl rfl (hb hby d25_27) rfl ?_
 refine og_aloadN X15 hx rfl rfl (hb hby d25_28) rfl ?_
 refine og_iconst (v := 0) X15 hx rfl (hb hby d25_29) rfl ?_
 refine og_iload X15 hx rfl (hb hby d25_30) rfl ?_
 refine og_static (pc' := 35) (cells' := 1) (slots' := 16) (W := 1) X15 hx hZ (rm_cprG16 l Z a0 hw bv kb ms hm h15 n0 O V_bv E_bv) hown (ow157 hw) (ow158 hw) (ow159 hw) (ow160 hw) (by decide) (by rw [hml]; rfl) e15 opd_21 [(.ref bv), (.int 0), (.int (Int32.ofNat (ms).length))] [(.ref a1)] rfl rfl rfl rfl (by decide) (by decide) rfl rfl (by decide) (by decide) (hb hby d25_32) rfl (fun v16 T16 h16 L16 X16 e16 z16 => ?_)
 obtain ⟨nb16, k16, rfl, Nq16, K16, sb16, V_nb16⟩ := z16; have N := Fr.app N Nq16
 have s_nb16 : h15.size ≤ nb16 := sb16; have sz_nb16 : h0.size ≤ nb16 := Nat.le_trans K.1 s_nb16; have ne_a1_nb16 : a1 ≠ nb16 := Nat.ne_of_lt (Nat.lt_of_lt_of_le E_a1.lt s_nb16)
 have E_a1 := E_a1.keep K16; have F_value_a1 := F_value_a1.keep K16 nin0
 have F_coder_a1 := F_coder_a1.keep K16 nin0; have K := K.trans K16 all0
 refine og_putfield X16 hx hZ (ty := (.array .byte)) (host := "") hown (Or.inl (ow27 hw)) Via.refl e16 F_value_a1 E_a1 (Or.inr ⟨(ow23 hw), rfl, hnm⟩) (ow8 hw) (by decide) rfl rfl (hb hby d25_35) rfl (fun T17 h17 X17 e17 W17 => ?_)
 have F_value_a1_ := F_value_a1.same W17
 have E_a1 := E_a1.wr W17
 have F_coder_a1 := F_coder_a1.other W17 (Or.inr (slot_ne (Or.inr (ow24 hw)) (Or.inr (ow23 hw)) (by decide) (t := .byte) (t' := (.array .byte)) (by decide) (by decide))); have V_nb16 := V_nb16.other W17 (Ne.symm ne_a1_nb16); have K := K.wr W17 (Or.inl (List.mem_of_getElem? (i := 0) rfl))
 have N := Fr.snoc X17 N g_a1; have F_value_a1 := F_value_a1_
 refine og_goto (pc' := 97) X17 hx (hb hby d25_38) (by decide) (by decide) ?_
 refine og_retV X17 hx hlk hret (hb hby d25_97) (by decide) (by decide) ?_
 rw [e17]; exact ⟨_, _, rfl, N, K, sz_nb16, E_a1, F_value_a1, F_coder_a1, V_nb16⟩
theorem rm_svbG16 (l : Launch) (Z : State) (a0 : Array Value) (hw : HW a0 Z) (a1 a2 bv : Addr) (kb : ClassId) (ms : List Int32) (hm : ms.length < 16) (cs : Int32) (hcs : ¬ cs = 0) (h0 : Heap) (n0 : Nat) (O : Old Z n0 h0) (E_a1 : Exa Z h0 a1 "java/lang/String") (F_value_a1 : Fld Z h0 a1 "java/lang/String" "value" "[B" .null) (F_coder_a1 : Fld Z h0 a1 "java/lang/String" "coder" "B" (.int 0)) (E_a2 : Exa Z h0 a2 "java/lang/StringBuilder") (F_value_a2 : Fld Z h0 a2 "java/lang/AbstractStringBuilder" "value" "[B" (.ref bv)) (F_coder_a2 : Fld Z h0 a2 "java/lang/AbstractStringBuilder" "coder" "B" (.int 0)) (F_count_a2 : Fld Z h0 a2 "java/lang/AbstractStringBuilder" "count" "I" (.int (Int32.ofNat (ms).length))) (E_bv : Exa Z h0 bv "[B") (V_bv : Arv Z h0 bv kb .byte (16 : Int32) (own_pad (ms) 16) (.int 0)) (S_CS : Sta Z Z.heap "java/lang/String" "COMPACT_STRINGS" "Z" (.int cs)) (g_a1 : n0 ≤ a1) (ne_a2_a1 : a2 ≠ a1) (ne_bv_a1 : bv ≠ a1) :
  Con l Z (⟨"java/lang/String", "<init>", "(Ljava/lang/StringBuilder;)V"⟩ : MethodName) jdk_42_method_53_code 2 none ({ frames := 4, cells := 1, slots := 16, locals := 65 } : Room) #[(.ref a1), (.ref a2)] h0 (fun v h L => ∃ b k, v = none ∧ Fr n0 L ∧ Keep h0 h [a1] ∧ h0.size ≤ b ∧ Exa Z h a1 "java/lang/String" ∧ Fld Z h a1 "java/lang/String" "value" "[B" (.ref b) ∧ Fld Z h a1 "java/lang/String" "coder" "B" (.int 0) ∧ Arv Z h b k .byte (Int32.ofNat (ms).length) ((ms).map Value.int) (.int 0)) := by
 refine own_startC opn_24 ?_
 intro p e s m below meth c T0 X0 hx hby hml hZ hown hnm hret hlk e0
 have N := Fr.nil n0; have K := Keep.refl h0 [a1]
 refine OG.cast (oef2 m a1 a2) ?_
 refine og_aloadN X0 hx rfl rfl (hb hby d24_0) rfl ?_
 refine og_aloadN X0 hx rfl rfl (hb hby d24_1) rfl ?_
 refine og_aconst_null X0 hx (hb hby d24_2) rfl ?_
 refine og_special (pc' := 6) (cells' := 1) (slots' := 16) (W := 0) X0 hx hZ (rm_svaG16 l Z a0 hw a1 a2 bv kb ms hm cs hcs h0 n0 O E_a1 F_value_a1 F_coder_a1 E_a2 F_value_a2 F_coder_a2 F_count_a2 E_bv V_bv S_CS g_a1 ne_a2_a1 ne_bv_a1) rfl hown (ow136 hw) (ow137 hw) (ow9 hw) (ow138 hw) (by decide) (by rw [hml]; rfl) e0 opd_23 [(.ref a2), .null] [] rfl rfl rfl rfl (by decide) (by decide) rfl rfl (by decide) (by decide) (hb hby d24_3) rfl (fun v11 T11 h11 L11 X11 e11 z11 => ?_)
 obtain ⟨nb11, k11, rfl, Nq11, K11, sb11, E_a1', F_value_a1', F_coder_a1', V_nb11⟩ := z11; have N := Fr.app N Nq11
 have s_nb11 : h0.size ≤ nb11 := sb11; have sz_nb11 : h0.size ≤ nb11 := Nat.le_trans K.1 s_nb11
 have K := K.trans K11 (allS (Or.inl (List.mem_of_getElem? (i := 0) rfl)) all0)
 have E_a1 := E_a1'; have F_value_a1 := F_value_a1'; have F_coder_a1 := F_coder_a1'
 refine og_retV X11 hx hlk hret (hb hby d24_6) (by decide) (by decide) ?_
 rw [e11]; exact ⟨_, _, rfl, N, K, sz_nb11, E_a1, F_value_a1, F_coder_a1, V_nb11⟩
theorem rm_tosG16 (l : Launch) (Z : State) (a0 : Array Value) (hw : HW a0 Z) (a1 bv : Addr) (kb : ClassId) (ms : List Int32) (hm : ms.length < 16) (cs : Int32) (hcs : ¬ cs = 0) (h0 : Heap) (n0 : Nat) (O : Old Z n0 h0) (E_a1 : Exa Z h0 a1 "java/lang/StringBuilder") (F_value_a1 : Fld Z h0 a1 "java/lang/AbstractStringBuilder" "value" "[B" (.ref bv)) (F_coder_a1 : Fld Z h0 a1 "java/lang/AbstractStringBuilder" "coder" "B" (.int 0)) (F_count_a1 : Fld Z h0 a1 "java/lang/AbstractStringBuilder" "count" "I" (.int (Int32.ofNat (ms).length))) (E_bv : Exa Z h0 bv "[B") (V_bv : Arv Z h0 bv kb .byte (16 : Int32) (own_pad (ms) 16) (.int 0)) (S_CS : Sta Z Z.heap "java/lang/String" "COMPACT_STRINGS" "Z" (.int cs)) :
  Con l Z (⟨"java/lang/StringBuilder", "toString", "()Ljava/lang/String;"⟩ : MethodName) jdk_67_method_42_code 1 (some (.object "java/lang/String")) ({ frames := 5, cells := 2, slots := 20, locals := 79 } : Room) #[(.ref a1)] h0 (fun v h L => ∃ a b k, v = some (.ref a) ∧ Fr n0 L ∧ Keep h0 h [] ∧ h0.size ≤ a ∧ h0.size ≤ b ∧ Exa Z h a "java/lang/String" ∧ Fld Z h a "java/lang/String" "value" "[B" (.ref b) ∧ Fld Z h a "java/lang/String" "coder" "B" (.int 0) ∧ Arv Z h b k .byte (Int32.ofNat (ms).length) ((ms).map Value.int) (.int 0)) := by
 refine own_startC opn_23 ?_
 intro p e s m below meth c T0 X0 hx hby hml hZ hown hnm hret hlk e0
 have N := Fr.nil n0; have K := Keep.refl h0 []
 refine OG.cast (oef7 m a1) ?_
 refine og_new (pc' := 3) (cells' := 1) (slots' := 4) X0 hx hZ hown (ow132 hw) (ow8 hw) (ow9 hw) e0 (hb hby d23_0) rfl rfl rfl (by decide) (by decide) (fun T11 h11 nb11 X11 e11 E11 q11 E_nb11 D11 B11 => ?_)
 have s_nb11 : h0.size ≤ nb11 := Nat.le_of_eq q11.symm; have g_nb11 : n0 ≤ nb11 := Nat.le_trans (own_n0 O) s_nb11; have sz_nb11 : h0.size ≤ nb11 := Nat.le_trans K.1 s_nb11; have ne_a1_nb11 : a1 ≠ nb11 := Nat.ne_of_lt (Nat.lt_of_lt_of_le E_a1.lt s_nb11); have ne_bv_nb11 : bv ≠ nb11 := Nat.ne_of_lt (Nat.lt_of_lt_of_le E_bv.lt s_nb11)
 have E_a1 := E_a1.ext E11; have F_value_a1 := F_value_a1.ext E11; have F_coder_a1 := F_coder_a1.ext E11; have F_count_a1 := F_count_a1.ext E11; have E_bv := E_bv.ext E11; have V_bv := V_bv.ext E11
 have O := O.ext E11; have K := K.ext E11
 have F_value_nb11 : Fld Z h11 nb11 "java/lang/String" "value" "[B" .null := D11 (Or.inr (ow23 hw)) (ty := (.array .byte)) (by decide)
 have F_coder_nb11 : Fld Z h11 nb11 "java/lang/String" "coder" "B" (.int 0) := D11 (Or.inr (ow24 hw)) (ty := .byte) (by decide)
 refine og_dup X11 hx rfl (hb hby d23_3) rfl ?_
 refine og_aloadN X11 hx rfl rfl (hb hby d23_4) rfl ?_
 refine og_special (pc' := 8) (cells' := 2) (slots' := 20) (W := 1) X11 hx hZ (rm_svbG16 l Z a0 hw nb11 a1 bv kb ms hm cs hcs h11 n0 O E_nb11 F_value_nb11 F_coder_nb11 E_a1 F_value_a1 F_coder_a1 F_count_a1 E_bv V_bv S_CS g_nb11 ne_a1_nb11 ne_bv_nb11) rfl hown (ow133 hw) (ow134 hw) (ow9 hw) (ow135 hw) (by decide) (by rw [hml]; rfl) e11 opd_24 [(.ref a1)] [(.ref nb11)] rfl rfl rfl rfl (by decide) (by decide) rfl rfl (by decide) (by decide) (hb hby d23_5) rfl (fun v12 T12 h12 L12 X12 e12 z12 => ?_)
 obtain ⟨nb12, k12, rfl, Nq12, K12, sb12, E_nb11', F_value_nb11', F_coder_nb11', V_nb12⟩ := z12; have N := Fr.app N Nq12
 have s_nb12 : h11.size ≤ nb12 := sb12; have sz_nb12 : h0.size ≤ nb12 := Nat.le_trans K.1 s_nb12
 have K := K.trans K12 (allS (Or.inr sz_nb11) all0)
 have E_nb11 := E_nb11'; have F_value_nb11 := F_value_nb11'; have F_coder_nb11 := F_coder_nb11'
 refine og_retR X12 hx hlk hret rfl rfl rfl (hb hby d23_8) (by decide) (by decide) ?_
 rw [e12]; exact ⟨_, _, _, rfl, N, K, sz_nb11, sz_nb12, E_nb11, F_value_nb11, F_coder_nb11, V_nb12⟩
theorem rm_crbG34 (l : Launch) (Z : State) (a0 : Array Value) (hw : HW a0 Z) (ba : Addr) (kb : ClassId) (ms : List Int32) (hm : ms.length < 34) (h0 : Heap) (n0 : Nat) (O : Old Z n0 h0) (V_ba : Arv Z h0 ba kb .byte (34 : Int32) (own_pad (ms) 34) (.int 0)) :
  Con l Z (⟨"java/util/Arrays", "copyOfRangeByte", "([BII)[B"⟩ : MethodName) jdk_65_method_133_code 5 (some (.array .byte)) ({ frames := 1, cells := 1, slots := 34, locals := 18 } : Room) #[(.ref ba), (.int 0), (.int (Int32.ofNat (ms).length))] h0 (fun v h L => ∃ b k, v = some (.ref b) ∧ Fr n0 L ∧ Keep h0 h [] ∧ h0.size ≤ b ∧ Arv Z h b k .byte (Int32.ofNat (ms).length) (ms.map Value.int) (.int 0)) := by
 refine own_startC opn_31 ?_
 intro p e s m below meth c T0 X0 hx hby hml hZ hown hnm hret hlk e0
 have N := Fr.nil n0; have K := Keep.refl h0 []
 refine OG.cast (oef16 m ba (0 : Int32) (Int32.ofNat (ms).length)) ?_
 refine og_iloadN X0 hx rfl (hb hby d31_0) rfl ?_
 refine og_iloadN X0 hx rfl (hb hby d31_1) rfl ?_
 refine og_static (pc' := 5) (cells' := 0) (slots' := 0) (W := 0) X0 hx hZ (rm_chG l Z a0 hw (Int32.ofNat (ms).length) (own_zneg (ms := ms) (by omega)) h0 n0 O) hown (ow164 hw) (ow165 hw) (ow159 hw) (ow166 hw) (by decide) (by rw [hml]; rfl) e0 opd_7 [(.int 0), (.int (Int32.ofNat (ms).length))] [] rfl rfl rfl rfl (by decide) (by decide) rfl rfl (by decide) (by decide) (hb hby d31_2) rfl (fun v11 T11 h11 L11 X11 e11 z11 => ?_)
 obtain ⟨rfl, Nq11, hq11⟩ := z11; replace e11 := e11.trans hq11; have N := Fr.app N Nq11
 refine og_iloadN X11 hx rfl (hb hby d31_5) rfl ?_
 refine og_iloadN X11 hx rfl (hb hby d31_6) rfl ?_
 refine og_isub X11 hx (hb hby d31_7) rfl ?_
 rw [own_sub0]
 refine og_istoreN (L' := #[.val (.ref ba), .val (.int 0), .val (.int (Int32.ofNat (ms).length)), .val (.int (Int32.ofNat (ms).length)), .unset]) X11 hx rfl (hb hby d31_8) rfl ?_
 refine og_iloadN X11 hx rfl (hb hby d31_9) rfl ?_
 refine og_newarray (pc' := 12) (cells' := 1) (slots' := 34) (cap := 34) (ty := .byte) X11 hx hZ rfl (ow22 hw) e11 (own_zneg (ms := ms) (by omega)) (own_zcap (z := 34) (ms := ms) (by omega) (by omega)) (by decide) (hb hby d31_10) rfl rfl rfl (by decide) (by decide) (fun T12 h12 nb12 kA12 X12 e12 E12 q12 V_nb12 => ?_)
 have s_nb12 : h0.size ≤ nb12 := Nat.le_of_eq q12.symm; have g_nb12 : n0 ≤ nb12 := Nat.le_trans (own_n0 O) s_nb12; have sz_nb12 : h0.size ≤ nb12 := Nat.le_trans K.1 s_nb12
 have V_ba := V_ba.ext E12; have O := O.ext E12; have K := K.ext E12
 refine og_astore (L' := #[.val (.ref ba), .val (.int 0), .val (.int (Int32.ofNat (ms).length)), .val (.int (Int32.ofNat (ms).length)), .val (.ref nb12)]) X12 hx rfl rfl (hb hby d31_12) rfl ?_
 refine og_aloadN X12 hx rfl rfl (hb hby d31_14) rfl ?_
 refine og_iloadN X12 hx rfl (hb hby d31_15) rfl ?_
 refine og_aload X12 hx rfl rfl (hb hby d31_16) rfl ?_
 refine og_iconst (v := 0) X12 hx rfl (hb hby d31_18) rfl ?_
 refine og_aloadN X12 hx rfl rfl (hb hby d31_19) rfl ?_
 refine og_arraylength X12 hx hZ e12 V_ba (hb hby d31_20) rfl ?_
 refine og_iloadN X12 hx rfl (hb hby d31_21) rfl ?_
 refine og_isub X12 hx (hb hby d31_22) rfl ?_
 show OG p e below _ (T12.setTop (mkF m 23 #[.val (.ref ba), .val (.int 0), .val (.int (Int32.ofNat (ms).length)), .val (.int (Int32.ofNat (ms).length)), .val (.ref nb12)] [(.int 34), (.int 0), (.ref nb12), (.int 0), (.ref ba)]))
 refine og_iloadN X12 hx rfl (hb hby d31_23) rfl ?_
 refine og_static (pc' := 27) (cells' := 1) (slots' := 34) (W := 4) X12 hx hZ (rm_mnG l Z a0 hw (34 : Int32) (Int32.ofNat (ms).length) (own_zlt (z := 34) ms hm (by decide)) h12 n0 O) hown (ow167 hw) (ow168 hw) (ow169 hw) (ow170 hw) (by decide) (by rw [hml]; rfl) e12 opd_12 [(.int 34), (.int (Int32.ofNat (ms).length))] [(.int 0), (.ref nb12), (.int 0), (.ref ba)] rfl rfl rfl rfl (by decide) (by decide) rfl rfl (by decide) (by decide) (hb hby d31_24) rfl (fun v13 T13 h13 L13 X13 e13 z13 => ?_)
 obtain ⟨rfl, Nq13, hq13⟩ := z13; replace e13 := e13.trans hq13; have N := Fr.app N Nq13
 have V_nb12 := V_nb12.pad (pad_rep [] (.int 0) ms.length)
 obtain ⟨hg3, hg4, hg5, hgu, hgl, hgv⟩ := own_cpy (z := 34) ms hm (by decide)
 refine og_arraycopy (pc' := 30) (W := 0) (us := ms.map Value.int) X13 hx hZ (by rw [hml]; rfl) hown (ow171 hw) (ow125 hw) (ow123 hw) (ow124 hw) e13 V_ba V_nb12 rfl (by decide) (by decide) hg3 hg4 hg5 hgu hgl N g_nb12 rfl (by decide) (by decide) (hb hby d31_27) rfl (fun T14 h14 l14 X14 e14 N K14 V14 => ?_)
 have K := K.trans K14 (allS (Or.inr sz_nb12) all0)
 rw [hgv] at V14; have V_nb12 := V14
 refine og_aload X14 hx rfl rfl (hb hby d31_30) rfl ?_
 refine og_retR X14 hx hlk hret rfl rfl rfl (hb hby d31_32) (by decide) (by decide) ?_
 rw [e14]; exact ⟨_, _, rfl, N, K, sz_nb12, V_nb12⟩
theorem rm_cprG34 (l : Launch) (Z : State) (a0 : Array Value) (hw : HW a0 Z) (ba : Addr) (kb : ClassId) (ms : List Int32) (hm : ms.length < 34) (h0 : Heap) (n0 : Nat) (O : Old Z n0 h0) (V_ba : Arv Z h0 ba kb .byte (34 : Int32) (own_pad (ms) 34) (.int 0)) (E_ba : Exa Z h0 ba "[B") :
  Con l Z (⟨"java/util/Arrays", "copyOfRange", "([BII)[B"⟩ : MethodName) jdk_65_method_132_code 3 (some (.array .byte)) ({ frames := 2, cells := 1, slots := 34, locals := 34 } : Room) #[(.ref ba), (.int 0), (.int (Int32.ofNat (ms).length))] h0 (fun v h L => ∃ b k, v = some (.ref b) ∧ Fr n0 L ∧ Keep h0 h [] ∧ h0.size ≤ b ∧ Arv Z h b k .byte (Int32.ofNat (ms).length) (ms.map Value.int) (.int 0)) := by
 refine own_startC opn_30 ?_
 intro p e s m below meth c T0 X0 hx hby hml hZ hown hnm hret hlk e0
 have N := Fr.nil n0; have K := Keep.refl h0 []
 refine OG.cast (oef17 m ba (0 : Int32) (Int32.ofNat (ms).length)) ?_
 refine og_iloadN X0 hx rfl (hb hby d30_0) rfl ?_
 refine og_if_ne (pc1 := 10) (pc2 := 4) X0 hx (hb hby d30_1) (by decide) (by decide) rfl (fun q => absurd q (by decide)) (fun _ => ?_)
 refine og_iloadN X0 hx rfl (hb hby d30_4) rfl ?_
 refine og_aloadN X0 hx rfl rfl (hb hby d30_5) rfl ?_
 refine og_arraylength X0 hx hZ e0 V_ba (hb hby d30_6) rfl ?_
 refine og_icmp_eq (pc1 := 17) (pc2 := 10) X0 hx (hb hby d30_7) (by decide) (by decide) rfl (fun q => absurd q (own_zne (z := 34) ms hm (by decide))) (fun _ => ?_)
 refine og_aloadN X0 hx rfl rfl (hb hby d30_10) rfl ?_
 refine og_iloadN X0 hx rfl (hb hby d30_11) rfl ?_
 refine og_iloadN X0 hx rfl (hb hby d30_12) rfl ?_
 refine og_static (pc' := 16) (cells' := 1) (slots' := 34) (W := 0) X0 hx hZ (rm_crbG34 l Z a0 hw ba kb ms hm h0 n0 O V_ba) hown (ow161 hw) (ow162 hw) (ow159 hw) (ow163 hw) (by decide) (by rw [hml]; rfl) e0 opd_21 [(.ref ba), (.int 0), (.int (Int32.ofNat (ms).length))] [] rfl rfl rfl rfl (by decide) (by decide) rfl rfl (by decide) (by decide) (hb hby d30_13) rfl (fun v11 T11 h11 L11 X11 e11 z11 => ?_)
 obtain ⟨nb11, k11, rfl, Nq11, K11, sb11, V_nb11⟩ := z11; have N := Fr.app N Nq11
 have s_nb11 : h0.size ≤ nb11 := sb11; have sz_nb11 : h0.size ≤ nb11 := Nat.le_trans K.1 s_nb11
 have K := K.trans K11 all0
 refine og_retR X11 hx hlk hret rfl rfl rfl (hb hby d30_16) (by decide) (by decide) ?_
 rw [e11]; exact ⟨_, _, rfl, N, K, sz_nb11, V_nb11⟩
theorem rm_svaG34 (l : Launch) (Z : State) (a0 : Array Value) (hw : HW a0 Z) (a1 a2 bv : Addr) (kb : ClassId) (ms : List Int32) (hm : ms.length < 34) (cs : Int32) (hcs : ¬ cs = 0) (h0 : Heap) (n0 : Nat) (O : Old Z n0 h0) (E_a1 : Exa Z h0 a1 "java/lang/String") (F_value_a1 : Fld Z h0 a1 "java/lang/String" "value" "[B" .null) (F_coder_a1 : Fld Z h0 a1 "java/lang/String" "coder" "B" (.int 0)) (E_a2 : Exa Z h0 a2 "java/lang/StringBuilder") (F_value_a2 : Fld Z h0 a2 "java/lang/AbstractStringBuilder" "value" "[B" (.ref bv)) (F_coder_a2 : Fld Z h0 a2 "java/lang/AbstractStringBuilder" "coder" "B" (.int 0)) (F_count_a2 : Fld Z h0 a2 "java/lang/AbstractStringBuilder" "count" "I" (.int (Int32.ofNat (ms).length))) (E_bv : Exa Z h0 bv "[B") (V_bv : Arv Z h0 bv kb .byte (34 : Int32) (own_pad (ms) 34) (.int 0)) (S_CS : Sta Z Z.heap "java/lang/String" "COMPACT_STRINGS" "Z" (.int cs)) (g_a1 : n0 ≤ a1) (ne_a2_a1 : a2 ≠ a1) (ne_bv_a1 : bv ≠ a1) :
  Con l Z (⟨"java/lang/String", "<init>", "(Ljava/lang/AbstractStringBuilder;Ljava/lang/Void;)V"⟩ : MethodName) jdk_42_method_150_code 5 none ({ frames := 3, cells := 1, slots := 34, locals := 49 } : Room) #[(.ref a1), (.ref a2), .null] h0 (fun v h L => ∃ b k, v = none ∧ Fr n0 L ∧ Keep h0 h [a1] ∧ h0.size ≤ b ∧ Exa Z h a1 "java/lang/String" ∧ Fld Z h a1 "java/lang/String" "value" "[B" (.ref b) ∧ Fld Z h a1 "java/lang/String" "coder" "B" (.int 0) ∧ Arv Z h b k .byte (Int32.ofNat (ms).length) ((ms).map Value.int) (.int 0)) := by
 refine own_startC opn_25 ?_
 intro p e s m below meth c T0 X0 hx hby hml hZ hown hnm hret hlk e0
 have N := Fr.nil n0; have K := Keep.refl h0 [a1]
 refine OG.cast (oef18 m a1 a2) ?_
 refine og_aloadN X0 hx rfl rfl (hb hby d25_0) rfl ?_
 refine og_initO (pc' := 4) X0 hx hZ (W := 0) (by rw [hml]; rfl) hown (ow18 hw) (ow19 hw) (ow20 hw) e0 rfl (by decide) (by decide) (hb hby d25_1) rfl (fun T11 X11 e11 => ?_)
 refine og_aloadN X11 hx rfl rfl (hb hby d25_4) rfl ?_
 refine og_virtual (pc' := 8) (cells' := 0) (slots' := 0) (W := 0) X11 hx hZ (rm_gv l Z a0 hw a2 bv h0 n0 O F_value_a2) hown (ow139 hw) (ow140 hw) (own_nf hZ (ow142 hw)) (ow142 hw) (ow141 hw) (ow57 hw) (ow143 hw) (by decide) (by rw [hml]; rfl) e11 opd_22 [] [] rfl rfl rfl rfl (by decide) (by decide) rfl rfl (by decide) (by decide) E_a2 (hb hby d25_5) rfl (fun v12 T12 h12 L12 X12 e12 z12 => ?_)
 obtain ⟨rfl, Nq12, hq12⟩ := z12; replace e12 := e12.trans hq12; have N := Fr.app N Nq12
 refine og_astoreN (L' := #[.val (.ref a1), .val (.ref a2), .val .null, .val (.ref bv), .unset]) X12 hx rfl rfl (hb hby d25_8) rfl ?_
 refine og_aloadN X12 hx rfl rfl (hb hby d25_9) rfl ?_
 refine og_virtual (pc' := 13) (cells' := 0) (slots' := 0) (W := 0) X12 hx hZ (rm_sl l Z a0 hw a2 (Int32.ofNat (ms).length) h0 n0 O E_a2 F_count_a2) hown (ow144 hw) (ow145 hw) (own_nfc (Z := s) (a0 := #[]) (mvT hZ (ow140 hw)) (mvT hZ (ow142 hw)) rfl) (ow147 hw) (ow148 hw) (ow49 hw) (ow149 hw) (by decide) (by rw [hml]; rfl) e12 opd_18 [] [] rfl rfl rfl rfl (by decide) (by decide) rfl rfl (by decide) (by decide) E_a2 (hb hby d25_10) rfl (fun v13 T13 h13 L13 X13 e13 z13 => ?_)
 obtain ⟨rfl, Nq13, hq13⟩ := z13; replace e13 := e13.trans hq13; have N := Fr.app N Nq13
 refine og_istore (L' := #[.val (.ref a1), .val (.ref a2), .val .null, .val (.ref bv), .val (.int (Int32.ofNat (ms).length))]) X13 hx rfl (hb hby d25_13) rfl ?_
 refine og_aloadN X13 hx rfl rfl (hb hby d25_15) rfl ?_
 refine og_virtual (pc' := 19) (cells' := 0) (slots' := 0) (W := 0) X13 hx hZ (rm_ail l Z a0 hw a2 cs hcs h0 n0 O F_coder_a2 S_CS) hown (ow152 hw) (ow153 hw) (own_nf hZ (ow155 hw)) (ow155 hw) (ow154 hw) (ow57 hw) (ow156 hw) (by decide) (by rw [hml]; rfl) e13 opd_8 [] [] rfl rfl rfl rfl (by decide) (by decide) rfl rfl (by decide) (by decide) E_a2 (hb hby d25_16) rfl (fun v14 T14 h14 L14 X14 e14 z14 => ?_)
 obtain ⟨rfl, Nq14, hq14⟩ := z14; replace e14 := e14.trans hq14; have N := Fr.app N Nq14
 refine og_if_eq (pc1 := 41) (pc2 := 22) X14 hx (hb hby d25_19) (by decide) (by decide) rfl (fun q => absurd q (by decide)) (fun _ => ?_)
 refine og_aloadN X14 hx rfl rfl (hb hby d25_22) rfl ?_
 refine og_iconst (v := 0) X14 hx rfl (hb hby d25_23) rfl ?_
 refine og_putfield X14 hx hZ (ty := .byte) (host := "") hown (Or.inl (ow28 hw)) Via.refl e14 F_coder_a1 E_a1 (Or.inr ⟨(ow24 hw), rfl, hnm⟩) (ow8 hw) (by decide) rfl rfl (hb hby d25_24) rfl (fun T15 h15 X15 e15 W15 => ?_)
 have F_coder_a1_ := F_coder_a1.same W15
 have E_a1 := E_a1.wr W15; have F_value_a1 := F_value_a1.other W15 (Or.inr (slot_ne (Or.inr (ow23 hw)) (Or.inr (ow24 hw)) (by decide) (t := (.array .byte)) (t' := .byte) (by decide) (by decide)))
 have E_bv := E_bv.wr W15; have V_bv := V_bv.other W15 ne_bv_a1; have O := O.wr W15 g_a1; have K := K.wr W15 (Or.inl (List.mem_of_getElem? (i := 0) rfl))
 have N := Fr.snoc X15 N g_a1; have F_coder_a1 := F_coder_a1_
 refine og_aloadN X15 hx rfl rfl (hb hby d25_27) rfl ?_
 refine og_aloadN X15 hx rfl rfl (hb hby d25_28) rfl ?_
 refine og_iconst (v := 0) X15 hx rfl (hb hby d25_29) rfl ?_
 refine og_iload X15 hx rfl (hb hby d25_30) rfl ?_
 refine og_static (pc' := 35) (cells' := 1) (slots' := 34) (W := 1) X15 hx hZ (rm_cprG34 l Z a0 hw bv kb ms hm h15 n0 O V_bv E_bv) hown (ow157 hw) (ow158 hw) (ow159 hw) (ow160 hw) (by decide) (by rw [hml]; rfl) e15 opd_21 [(.ref bv), (.int 0), (.int (Int32.ofNat (ms).length))] [(.ref a1)] rfl rfl rfl rfl (by decide) (by decide) rfl rfl (by decide) (by decide) (hb hby d25_32) rfl (fun v16 T16 h16 L16 X16 e16 z16 => ?_)
 obtain ⟨nb16, k16, rfl, Nq16, K16, sb16, V_nb16⟩ := z16; have N := Fr.app N Nq16
 have s_nb16 : h15.size ≤ nb16 := sb16; have sz_nb16 : h0.size ≤ nb16 := Nat.le_trans K.1 s_nb16; have ne_a1_nb16 : a1 ≠ nb16 := Nat.ne_of_lt (Nat.lt_of_lt_of_le E_a1.lt s_nb16)
 have E_a1 := E_a1.keep K16; have F_value_a1 := F_value_a1.keep K16 nin0
 have F_coder_a1 := F_coder_a1.keep K16 nin0; have K := K.trans K16 all0
 refine og_putfield X16 hx hZ (ty := (.array .byte)) (host := "") hown (Or.inl (ow27 hw)) Via.refl e16 F_value_a1 E_a1 (Or.inr ⟨(ow23 hw), rfl, hnm⟩) (ow8 hw) (by decide) rfl rfl (hb hby d25_35) rfl (fun T17 h17 X17 e17 W17 => ?_)
 have F_value_a1_ := F_value_a1.same W17
 have E_a1 := E_a1.wr W17
 have F_coder_a1 := F_coder_a1.other W17 (Or.inr (slot_ne (Or.inr (ow24 hw)) (Or.inr (ow23 hw)) (by decide) (t := .byte) (t' := (.array .byte)) (by decide) (by decide))); have V_nb16 := V_nb16.other W17 (Ne.symm ne_a1_nb16); have K := K.wr W17 (Or.inl (List.mem_of_getElem? (i := 0) rfl))
 have N := Fr.snoc X17 N g_a1; have F_value_a1 := F_value_a1_
 refine og_goto (pc' := 97) X17 hx (hb hby d25_38) (by decide) (by decide) ?_
 refine og_retV X17 hx hlk hret (hb hby d25_97) (by decide) (by decide) ?_
 rw [e17]; exact ⟨_, _, rfl, N, K, sz_nb16, E_a1, F_value_a1, F_coder_a1, V_nb16⟩
theorem rm_svbG34 (l : Launch) (Z : State) (a0 : Array Value) (hw : HW a0 Z) (a1 a2 bv : Addr) (kb : ClassId) (ms : List Int32) (hm : ms.length < 34) (cs : Int32) (hcs : ¬ cs = 0) (h0 : Heap) (n0 : Nat) (O : Old Z n0 h0) (E_a1 : Exa Z h0 a1 "java/lang/String") (F_value_a1 : Fld Z h0 a1 "java/lang/String" "value" "[B" .null) (F_coder_a1 : Fld Z h0 a1 "java/lang/String" "coder" "B" (.int 0)) (E_a2 : Exa Z h0 a2 "java/lang/StringBuilder") (F_value_a2 : Fld Z h0 a2 "java/lang/AbstractStringBuilder" "value" "[B" (.ref bv)) (F_coder_a2 : Fld Z h0 a2 "java/lang/AbstractStringBuilder" "coder" "B" (.int 0)) (F_count_a2 : Fld Z h0 a2 "java/lang/AbstractStringBuilder" "count" "I" (.int (Int32.ofNat (ms).length))) (E_bv : Exa Z h0 bv "[B") (V_bv : Arv Z h0 bv kb .byte (34 : Int32) (own_pad (ms) 34) (.int 0)) (S_CS : Sta Z Z.heap "java/lang/String" "COMPACT_STRINGS" "Z" (.int cs)) (g_a1 : n0 ≤ a1) (ne_a2_a1 : a2 ≠ a1) (ne_bv_a1 : bv ≠ a1) :
  Con l Z (⟨"java/lang/String", "<init>", "(Ljava/lang/StringBuilder;)V"⟩ : MethodName) jdk_42_method_53_code 2 none ({ frames := 4, cells := 1, slots := 34, locals := 65 } : Room) #[(.ref a1), (.ref a2)] h0 (fun v h L => ∃ b k, v = none ∧ Fr n0 L ∧ Keep h0 h [a1] ∧ h0.size ≤ b ∧ Exa Z h a1 "java/lang/String" ∧ Fld Z h a1 "java/lang/String" "value" "[B" (.ref b) ∧ Fld Z h a1 "java/lang/String" "coder" "B" (.int 0) ∧ Arv Z h b k .byte (Int32.ofNat (ms).length) ((ms).map Value.int) (.int 0)) := by
 refine own_startC opn_24 ?_
 intro p e s m below meth c T0 X0 hx hby hml hZ hown hnm hret hlk e0
 have N := Fr.nil n0; have K := Keep.refl h0 [a1]
 refine OG.cast (oef2 m a1 a2) ?_
 refine og_aloadN X0 hx rfl rfl (hb hby d24_0) rfl ?_
 refine og_aloadN X0 hx rfl rfl (hb hby d24_1) rfl ?_
 refine og_aconst_null X0 hx (hb hby d24_2) rfl ?_
 refine og_special (pc' := 6) (cells' := 1) (slots' := 34) (W := 0) X0 hx hZ (rm_svaG34 l Z a0 hw a1 a2 bv kb ms hm cs hcs h0 n0 O E_a1 F_value_a1 F_coder_a1 E_a2 F_value_a2 F_coder_a2 F_count_a2 E_bv V_bv S_CS g_a1 ne_a2_a1 ne_bv_a1) rfl hown (ow136 hw) (ow137 hw) (ow9 hw) (ow138 hw) (by decide) (by rw [hml]; rfl) e0 opd_23 [(.ref a2), .null] [] rfl rfl rfl rfl (by decide) (by decide) rfl rfl (by decide) (by decide) (hb hby d24_3) rfl (fun v11 T11 h11 L11 X11 e11 z11 => ?_)
 obtain ⟨nb11, k11, rfl, Nq11, K11, sb11, E_a1', F_value_a1', F_coder_a1', V_nb11⟩ := z11; have N := Fr.app N Nq11
 have s_nb11 : h0.size ≤ nb11 := sb11; have sz_nb11 : h0.size ≤ nb11 := Nat.le_trans K.1 s_nb11
 have K := K.trans K11 (allS (Or.inl (List.mem_of_getElem? (i := 0) rfl)) all0)
 have E_a1 := E_a1'; have F_value_a1 := F_value_a1'; have F_coder_a1 := F_coder_a1'
 refine og_retV X11 hx hlk hret (hb hby d24_6) (by decide) (by decide) ?_
 rw [e11]; exact ⟨_, _, rfl, N, K, sz_nb11, E_a1, F_value_a1, F_coder_a1, V_nb11⟩
theorem rm_tosG34 (l : Launch) (Z : State) (a0 : Array Value) (hw : HW a0 Z) (a1 bv : Addr) (kb : ClassId) (ms : List Int32) (hm : ms.length < 34) (cs : Int32) (hcs : ¬ cs = 0) (h0 : Heap) (n0 : Nat) (O : Old Z n0 h0) (E_a1 : Exa Z h0 a1 "java/lang/StringBuilder") (F_value_a1 : Fld Z h0 a1 "java/lang/AbstractStringBuilder" "value" "[B" (.ref bv)) (F_coder_a1 : Fld Z h0 a1 "java/lang/AbstractStringBuilder" "coder" "B" (.int 0)) (F_count_a1 : Fld Z h0 a1 "java/lang/AbstractStringBuilder" "count" "I" (.int (Int32.ofNat (ms).length))) (E_bv : Exa Z h0 bv "[B") (V_bv : Arv Z h0 bv kb .byte (34 : Int32) (own_pad (ms) 34) (.int 0)) (S_CS : Sta Z Z.heap "java/lang/String" "COMPACT_STRINGS" "Z" (.int cs)) :
  Con l Z (⟨"java/lang/StringBuilder", "toString", "()Ljava/lang/String;"⟩ : MethodName) jdk_67_method_42_code 1 (some (.object "java/lang/String")) ({ frames := 5, cells := 2, slots := 38, locals := 79 } : Room) #[(.ref a1)] h0 (fun v h L => ∃ a b k, v = some (.ref a) ∧ Fr n0 L ∧ Keep h0 h [] ∧ h0.size ≤ a ∧ h0.size ≤ b ∧ Exa Z h a "java/lang/String" ∧ Fld Z h a "java/lang/String" "value" "[B" (.ref b) ∧ Fld Z h a "java/lang/String" "coder" "B" (.int 0) ∧ Arv Z h b k .byte (Int32.ofNat (ms).length) ((ms).map Value.int) (.int 0)) := by
 refine own_startC opn_23 ?_
 intro p e s m below meth c T0 X0 hx hby hml hZ hown hnm hret hlk e0
 have N := Fr.nil n0; have K := Keep.refl h0 []
 refine OG.cast (oef7 m a1) ?_
 refine og_new (pc' := 3) (cells' := 1) (slots' := 4) X0 hx hZ hown (ow132 hw) (ow8 hw) (ow9 hw) e0 (hb hby d23_0) rfl rfl rfl (by decide) (by decide) (fun T11 h11 nb11 X11 e11 E11 q11 E_nb11 D11 B11 => ?_)
 have s_nb11 : h0.size ≤ nb11 := Nat.le_of_eq q11.symm; have g_nb11 : n0 ≤ nb11 := Nat.le_trans (own_n0 O) s_nb11; have sz_nb11 : h0.size ≤ nb11 := Nat.le_trans K.1 s_nb11; have ne_a1_nb11 : a1 ≠ nb11 := Nat.ne_of_lt (Nat.lt_of_lt_of_le E_a1.lt s_nb11); have ne_bv_nb11 : bv ≠ nb11 := Nat.ne_of_lt (Nat.lt_of_lt_of_le E_bv.lt s_nb11)
 have E_a1 := E_a1.ext E11; have F_value_a1 := F_value_a1.ext E11; have F_coder_a1 := F_coder_a1.ext E11; have F_count_a1 := F_count_a1.ext E11; have E_bv := E_bv.ext E11; have V_bv := V_bv.ext E11
 have O := O.ext E11; have K := K.ext E11
 have F_value_nb11 : Fld Z h11 nb11 "java/lang/String" "value" "[B" .null := D11 (Or.inr (ow23 hw)) (ty := (.array .byte)) (by decide)
 have F_coder_nb11 : Fld Z h11 nb11 "java/lang/String" "coder" "B" (.int 0) := D11 (Or.inr (ow24 hw)) (ty := .byte) (by decide)
 refine og_dup X11 hx rfl (hb hby d23_3) rfl ?_
 refine og_aloadN X11 hx rfl rfl (hb hby d23_4) rfl ?_
 refine og_special (pc' := 8) (cells' := 2) (slots' := 38) (W := 1) X11 hx hZ (rm_svbG34 l Z a0 hw nb11 a1 bv kb ms hm cs hcs h11 n0 O E_nb11 F_value_nb11 F_coder_nb11 E_a1 F_value_a1 F_coder_a1 F_count_a1 E_bv V_bv S_CS g_nb11 ne_a1_nb11 ne_bv_nb11) rfl hown (ow133 hw) (ow134 hw) (ow9 hw) (ow135 hw) (by decide) (by rw [hml]; rfl) e11 opd_24 [(.ref a1)] [(.ref nb11)] rfl rfl rfl rfl (by decide) (by decide) rfl rfl (by decide) (by decide) (hb hby d23_5) rfl (fun v12 T12 h12 L12 X12 e12 z12 => ?_)
 obtain ⟨nb12, k12, rfl, Nq12, K12, sb12, E_nb11', F_value_nb11', F_coder_nb11', V_nb12⟩ := z12; have N := Fr.app N Nq12
 have s_nb12 : h11.size ≤ nb12 := sb12; have sz_nb12 : h0.size ≤ nb12 := Nat.le_trans K.1 s_nb12
 have K := K.trans K12 (allS (Or.inr sz_nb11) all0)
 have E_nb11 := E_nb11'; have F_value_nb11 := F_value_nb11'; have F_coder_nb11 := F_coder_nb11'
 refine og_retR X12 hx hlk hret rfl rfl rfl (hb hby d23_8) (by decide) (by decide) ?_
 rw [e12]; exact ⟨_, _, _, rfl, N, K, sz_nb11, sz_nb12, E_nb11, F_value_nb11, F_coder_nb11, V_nb12⟩
theorem rm_cprF (l : Launch) (Z : State) (a0 : Array Value) (hw : HW a0 Z) (ba : Addr) (kb : ClassId) (ms : List Int32) (hm : ms.length = 16) (h0 : Heap) (n0 : Nat) (O : Old Z n0 h0) (V_ba : Arv Z h0 ba kb .byte (16 : Int32) (own_pad (ms) 16) (.int 0)) (E_ba : Exa Z h0 ba "[B") :
  Con l Z (⟨"java/util/Arrays", "copyOfRange", "([BII)[B"⟩ : MethodName) jdk_65_method_132_code 3 (some (.array .byte)) ({ frames := 1, cells := 1, slots := 16, locals := 14 } : Room) #[(.ref ba), (.int 0), (.int (Int32.ofNat (ms).length))] h0 (fun v h L => ∃ b k, v = some (.ref b) ∧ Fr n0 L ∧ Keep h0 h [] ∧ h0.size ≤ b ∧ Arv Z h b k .byte (Int32.ofNat (ms).length) (ms.map Value.int) (.int 0)) := by
 refine own_startC opn_30 ?_
 intro p e s m below meth c T0 X0 hx hby hml hZ hown hnm hret hlk e0
 have N := Fr.nil n0; have K := Keep.refl h0 []
 refine OG.cast (oef17 m ba (0 : Int32) (Int32.ofNat (ms).length)) ?_
 refine og_iloadN X0 hx rfl (hb hby d30_0) rfl ?_
 refine og_if_ne (pc1 := 10) (pc2 := 4) X0 hx (hb hby d30_1) (by decide) (by decide) rfl (fun q => absurd q (by decide)) (fun _ => ?_)
 refine og_iloadN X0 hx rfl (hb hby d30_4) rfl ?_
 refine og_aloadN X0 hx rfl rfl (hb hby d30_5) rfl ?_
 refine og_arraylength X0 hx hZ e0 V_ba (hb hby d30_6) rfl ?_
 refine og_icmp_eq (pc1 := 17) (pc2 := 10) X0 hx (hb hby d30_7) (by decide) (by decide) rfl (fun _ => ?_) (fun q => absurd (own_zeq ms hm) q)
 refine og_aloadN X0 hx rfl rfl (hb hby d30_17) rfl ?_
 refine og_clone (pc' := 21) (cells' := 1) (slots' := 16) (cap := 16) (W := 0) X0 hx hZ (by rw [hml]; rfl) hown (ow275 hw) (ow276 hw) (ow280 hw) (ow278 hw) (ow279 hw) (ow281 hw) e0 V_ba E_ba rfl (by decide) (by decide) (by decide) rfl rfl (by decide) (by decide) (hb hby d30_18) rfl (fun T11 h11 nb11 X11 e11 E11 q11 V_nb11 E_nb11 => ?_)
 have s_nb11 : h0.size ≤ nb11 := Nat.le_of_eq q11.symm; have sz_nb11 : h0.size ≤ nb11 := Nat.le_trans K.1 s_nb11
 have K := K.ext E11
 obtain ⟨T12, X12, e12, st12⟩ := castY X11 hx hZ hown (ow282 hw) e11 (Ins.self E_nb11) (g := (mkF m 21 #[.val (.ref ba), .val (.int 0), .val (.int (Int32.ofNat (ms).length))] [(.ref nb11)])) rfl rfl (hb hby d30_21)
 refine OG.of st12 ?_
 show OG p e below _ (T12.setTop (mkF m 24 #[.val (.ref ba), .val (.int 0), .val (.int (Int32.ofNat (ms).length))] [(.ref nb11)]))
 refine og_retR X12 hx hlk hret rfl rfl rfl (hb hby d30_24) (by decide) (by decide) ?_
 rw [own_padF ms hm] at V_nb11; rw [e12]; refine ⟨_, kb, rfl, N, K, sz_nb11, ?_⟩; rw [own_zeq ms hm]; exact V_nb11
theorem rm_svaF (l : Launch) (Z : State) (a0 : Array Value) (hw : HW a0 Z) (a1 a2 bv : Addr) (kb : ClassId) (ms : List Int32) (hm : ms.length = 16) (cs : Int32) (hcs : ¬ cs = 0) (h0 : Heap) (n0 : Nat) (O : Old Z n0 h0) (E_a1 : Exa Z h0 a1 "java/lang/String") (F_value_a1 : Fld Z h0 a1 "java/lang/String" "value" "[B" .null) (F_coder_a1 : Fld Z h0 a1 "java/lang/String" "coder" "B" (.int 0)) (E_a2 : Exa Z h0 a2 "java/lang/StringBuilder") (F_value_a2 : Fld Z h0 a2 "java/lang/AbstractStringBuilder" "value" "[B" (.ref bv)) (F_coder_a2 : Fld Z h0 a2 "java/lang/AbstractStringBuilder" "coder" "B" (.int 0)) (F_count_a2 : Fld Z h0 a2 "java/lang/AbstractStringBuilder" "count" "I" (.int (Int32.ofNat (ms).length))) (E_bv : Exa Z h0 bv "[B") (V_bv : Arv Z h0 bv kb .byte (16 : Int32) (own_pad (ms) 16) (.int 0)) (S_CS : Sta Z Z.heap "java/lang/String" "COMPACT_STRINGS" "Z" (.int cs)) (g_a1 : n0 ≤ a1) (ne_a2_a1 : a2 ≠ a1) (ne_bv_a1 : bv ≠ a1) :
  Con l Z (⟨"java/lang/String", "<init>", "(Ljava/lang/AbstractStringBuilder;Ljava/lang/Void;)V"⟩ : MethodName) jdk_42_method_150_code 5 none ({ frames := 2, cells := 1, slots := 16, locals := 29 } : Room) #[(.ref a1), (.ref a2), .null] h0 (fun v h L => ∃ b k, v = none ∧ Fr n0 L ∧ Keep h0 h [a1] ∧ h0.size ≤ b ∧ Exa Z h a1 "java/lang/String" ∧ Fld Z h a1 "java/lang/String" "value" "[B" (.ref b) ∧ Fld Z h a1 "java/lang/String" "coder" "B" (.int 0) ∧ Arv Z h b k .byte (Int32.ofNat (ms).length) ((ms).map Value.int) (.int 0)) := by
 refine own_startC opn_25 ?_
 intro p e s m below meth c T0 X0 hx hby hml hZ hown hnm hret hlk e0
 have N := Fr.nil n0; have K := Keep.refl h0 [a1]
 refine OG.cast (oef18 m a1 a2) ?_
 refine og_aloadN X0 hx rfl rfl (hb hby d25_0) rfl ?_
 refine og_initO (pc' := 4) X0 hx hZ (W := 0) (by rw [hml]; rfl) hown (ow18 hw) (ow19 hw) (ow20 hw) e0 rfl (by decide) (by decide) (hb hby d25_1) rfl (fun T11 X11 e11 => ?_)
 refine og_aloadN X11 hx rfl rfl (hb hby d25_4) rfl ?_
 refine og_virtual (pc' := 8) (cells' := 0) (slots' := 0) (W := 0) X11 hx hZ (rm_gv l Z a0 hw a2 bv h0 n0 O F_value_a2) hown (ow139 hw) (ow140 hw) (own_nf hZ (ow142 hw)) (ow142 hw) (ow141 hw) (ow57 hw) (ow143 hw) (by decide) (by rw [hml]; rfl) e11 opd_22 [] [] rfl rfl rfl rfl (by decide) (by decide) rfl rfl (by decide) (by decide) E_a2 (hb hby d25_5) rfl (fun v12 T12 h12 L12 X12 e12 z12 => ?_)
 obtain ⟨rfl, Nq12, hq12⟩ := z12; replace e12 := e12.trans hq12; have N := Fr.app N Nq12
 refine og_astoreN (L' := #[.val (.ref a1), .val (.ref a2), .val .null, .val (.ref bv), .unset]) X12 hx rfl rfl (hb hby d25_8) rfl ?_
 refine og_aloadN X12 hx rfl rfl (hb hby d25_9) rfl ?_
 refine og_virtual (pc' := 13) (cells' := 0) (slots' := 0) (W := 0) X12 hx hZ (rm_sl l Z a0 hw a2 (Int32.ofNat (ms).length) h0 n0 O E_a2 F_count_a2) hown (ow144 hw) (ow145 hw) (own_nfc (Z := s) (a0 := #[]) (mvT hZ (ow140 hw)) (mvT hZ (ow142 hw)) rfl) (ow147 hw) (ow148 hw) (ow49 hw) (ow149 hw) (by decide) (by rw [hml]; rfl) e12 opd_18 [] [] rfl rfl rfl rfl (by decide) (by decide) rfl rfl (by decide) (by decide) E_a2 (hb hby d25_10) rfl (fun v13 T13 h13 L13 X13 e13 z13 => ?_)
 obtain ⟨rfl, Nq13, hq13⟩ := z13; replace e13 := e13.trans hq13; have N := Fr.app N Nq13
 refine og_istore (L' := #[.val (.ref a1), .val (.ref a2), .val .null, .val (.ref bv), .val (.int (Int32.ofNat (ms).length))]) X13 hx rfl (hb hby d25_13) rfl ?_
 refine og_aloadN X13 hx rfl rfl (hb hby d25_15) rfl ?_
 refine og_virtual (pc' := 19) (cells' := 0) (slots' := 0) (W := 0) X13 hx hZ (rm_ail l Z a0 hw a2 cs hcs h0 n0 O F_coder_a2 S_CS) hown (ow152 hw) (ow153 hw) (own_nf hZ (ow155 hw)) (ow155 hw) (ow154 hw) (ow57 hw) (ow156 hw) (by decide) (by rw [hml]; rfl) e13 opd_8 [] [] rfl rfl rfl rfl (by decide) (by decide) rfl rfl (by decide) (by decide) E_a2 (hb hby d25_16) rfl (fun v14 T14 h14 L14 X14 e14 z14 => ?_)
 obtain ⟨rfl, Nq14, hq14⟩ := z14; replace e14 := e14.trans hq14; have N := Fr.app N Nq14
 refine og_if_eq (pc1 := 41) (pc2 := 22) X14 hx (hb hby d25_19) (by decide) (by decide) rfl (fun q => absurd q (by decide)) (fun _ => ?_)
 refine og_aloadN X14 hx rfl rfl (hb hby d25_22) rfl ?_
 refine og_iconst (v := 0) X14 hx rfl (hb hby d25_23) rfl ?_
 refine og_putfield X14 hx hZ (ty := .byte) (host := "") hown (Or.inl (ow28 hw)) Via.refl e14 F_coder_a1 E_a1 (Or.inr ⟨(ow24 hw), rfl, hnm⟩) (ow8 hw) (by decide) rfl rfl (hb hby d25_24) rfl (fun T15 h15 X15 e15 W15 => ?_)
 have F_coder_a1_ := F_coder_a1.same W15
 have E_a1 := E_a1.wr W15; have F_value_a1 := F_value_a1.other W15 (Or.inr (slot_ne (Or.inr (ow23 hw)) (Or.inr (ow24 hw)) (by decide) (t := (.array .byte)) (t' := .byte) (by decide) (by decide)))
 have E_bv := E_bv.wr W15; have V_bv := V_bv.other W15 ne_bv_a1; have O := O.wr W15 g_a1; have K := K.wr W15 (Or.inl (List.mem_of_getElem? (i := 0) rfl))
 have N := Fr.snoc X15 N g_a1; have F_coder_a1 := F_coder_a1_
 refine og_aloadN X15 hx rfl rfl (hb hby d25_27) rfl ?_
 refine og_aloadN X15 hx rfl rfl (hb hby d25_28) rfl ?_
 refine og_iconst (v := 0) X15 hx rfl (hb hby d25_29) rfl ?_
 refine og_iload X15 hx rfl (hb hby d25_30) rfl ?_
 refine og_static (pc' := 35) (cells' := 1) (slots' := 16) (W := 1) X15 hx hZ (rm_cprF l Z a0 hw bv kb ms hm h15 n0 O V_bv E_bv) hown (ow157 hw) (ow158 hw) (ow159 hw) (ow160 hw) (by decide) (by rw [hml]; rfl) e15 opd_21 [(.ref bv), (.int 0), (.int (Int32.ofNat (ms).length))] [(.ref a1)] rfl rfl rfl rfl (by decide) (by decide) rfl rfl (by decide) (by decide) (hb hby d25_32) rfl (fun v16 T16 h16 L16 X16 e16 z16 => ?_)
 obtain ⟨nb16, k16, rfl, Nq16, K16, sb16, V_nb16⟩ := z16; have N := Fr.app N Nq16
 have s_nb16 : h15.size ≤ nb16 := sb16; have sz_nb16 : h0.size ≤ nb16 := Nat.le_trans K.1 s_nb16; have ne_a1_nb16 : a1 ≠ nb16 := Nat.ne_of_lt (Nat.lt_of_lt_of_le E_a1.lt s_nb16)
 have E_a1 := E_a1.keep K16; have F_value_a1 := F_value_a1.keep K16 nin0
 have F_coder_a1 := F_coder_a1.keep K16 nin0; have K := K.trans K16 all0
 refine og_putfield X16 hx hZ (ty := (.array .byte)) (host := "") hown (Or.inl (ow27 hw)) Via.refl e16 F_value_a1 E_a1 (Or.inr ⟨(ow23 hw), rfl, hnm⟩) (ow8 hw) (by decide) rfl rfl (hb hby d25_35) rfl (fun T17 h17 X17 e17 W17 => ?_)
 have F_value_a1_ := F_value_a1.same W17
 have E_a1 := E_a1.wr W17
 have F_coder_a1 := F_coder_a1.other W17 (Or.inr (slot_ne (Or.inr (ow24 hw)) (Or.inr (ow23 hw)) (by decide) (t := .byte) (t' := (.array .byte)) (by decide) (by decide))); have V_nb16 := V_nb16.other W17 (Ne.symm ne_a1_nb16); have K := K.wr W17 (Or.inl (List.mem_of_getElem? (i := 0) rfl))
 have N := Fr.snoc X17 N g_a1; have F_value_a1 := F_value_a1_
 refine og_goto (pc' := 97) X17 hx (hb hby d25_38) (by decide) (by decide) ?_
 refine og_retV X17 hx hlk hret (hb hby d25_97) (by decide) (by decide) ?_
 rw [e17]; exact ⟨_, _, rfl, N, K, sz_nb16, E_a1, F_value_a1, F_coder_a1, V_nb16⟩
theorem rm_svbF (l : Launch) (Z : State) (a0 : Array Value) (hw : HW a0 Z) (a1 a2 bv : Addr) (kb : ClassId) (ms : List Int32) (hm : ms.length = 16) (cs : Int32) (hcs : ¬ cs = 0) (h0 : Heap) (n0 : Nat) (O : Old Z n0 h0) (E_a1 : Exa Z h0 a1 "java/lang/String") (F_value_a1 : Fld Z h0 a1 "java/lang/String" "value" "[B" .null) (F_coder_a1 : Fld Z h0 a1 "java/lang/String" "coder" "B" (.int 0)) (E_a2 : Exa Z h0 a2 "java/lang/StringBuilder") (F_value_a2 : Fld Z h0 a2 "java/lang/AbstractStringBuilder" "value" "[B" (.ref bv)) (F_coder_a2 : Fld Z h0 a2 "java/lang/AbstractStringBuilder" "coder" "B" (.int 0)) (F_count_a2 : Fld Z h0 a2 "java/lang/AbstractStringBuilder" "count" "I" (.int (Int32.ofNat (ms).length))) (E_bv : Exa Z h0 bv "[B") (V_bv : Arv Z h0 bv kb .byte (16 : Int32) (own_pad (ms) 16) (.int 0)) (S_CS : Sta Z Z.heap "java/lang/String" "COMPACT_STRINGS" "Z" (.int cs)) (g_a1 : n0 ≤ a1) (ne_a2_a1 : a2 ≠ a1) (ne_bv_a1 : bv ≠ a1) :
  Con l Z (⟨"java/lang/String", "<init>", "(Ljava/lang/StringBuilder;)V"⟩ : MethodName) jdk_42_method_53_code 2 none ({ frames := 3, cells := 1, slots := 16, locals := 45 } : Room) #[(.ref a1), (.ref a2)] h0 (fun v h L => ∃ b k, v = none ∧ Fr n0 L ∧ Keep h0 h [a1] ∧ h0.size ≤ b ∧ Exa Z h a1 "java/lang/String" ∧ Fld Z h a1 "java/lang/String" "value" "[B" (.ref b) ∧ Fld Z h a1 "java/lang/String" "coder" "B" (.int 0) ∧ Arv Z h b k .byte (Int32.ofNat (ms).length) ((ms).map Value.int) (.int 0)) := by
 refine own_startC opn_24 ?_
 intro p e s m below meth c T0 X0 hx hby hml hZ hown hnm hret hlk e0
 have N := Fr.nil n0; have K := Keep.refl h0 [a1]
 refine OG.cast (oef2 m a1 a2) ?_
 refine og_aloadN X0 hx rfl rfl (hb hby d24_0) rfl ?_
 refine og_aloadN X0 hx rfl rfl (hb hby d24_1) rfl ?_
 refine og_aconst_null X0 hx (hb hby d24_2) rfl ?_
 refine og_special (pc' := 6) (cells' := 1) (slots' := 16) (W := 0) X0 hx hZ (rm_svaF l Z a0 hw a1 a2 bv kb ms hm cs hcs h0 n0 O E_a1 F_value_a1 F_coder_a1 E_a2 F_value_a2 F_coder_a2 F_count_a2 E_bv V_bv S_CS g_a1 ne_a2_a1 ne_bv_a1) rfl hown (ow136 hw) (ow137 hw) (ow9 hw) (ow138 hw) (by decide) (by rw [hml]; rfl) e0 opd_23 [(.ref a2), .null] [] rfl rfl rfl rfl (by decide) (by decide) rfl rfl (by decide) (by decide) (hb hby d24_3) rfl (fun v11 T11 h11 L11 X11 e11 z11 => ?_)
 obtain ⟨nb11, k11, rfl, Nq11, K11, sb11, E_a1', F_value_a1', F_coder_a1', V_nb11⟩ := z11; have N := Fr.app N Nq11
 have s_nb11 : h0.size ≤ nb11 := sb11; have sz_nb11 : h0.size ≤ nb11 := Nat.le_trans K.1 s_nb11
 have K := K.trans K11 (allS (Or.inl (List.mem_of_getElem? (i := 0) rfl)) all0)
 have E_a1 := E_a1'; have F_value_a1 := F_value_a1'; have F_coder_a1 := F_coder_a1'
 refine og_retV X11 hx hlk hret (hb hby d24_6) (by decide) (by decide) ?_
 rw [e11]; exact ⟨_, _, rfl, N, K, sz_nb11, E_a1, F_value_a1, F_coder_a1, V_nb11⟩
theorem rm_tosF (l : Launch) (Z : State) (a0 : Array Value) (hw : HW a0 Z) (a1 bv : Addr) (kb : ClassId) (ms : List Int32) (hm : ms.length = 16) (cs : Int32) (hcs : ¬ cs = 0) (h0 : Heap) (n0 : Nat) (O : Old Z n0 h0) (E_a1 : Exa Z h0 a1 "java/lang/StringBuilder") (F_value_a1 : Fld Z h0 a1 "java/lang/AbstractStringBuilder" "value" "[B" (.ref bv)) (F_coder_a1 : Fld Z h0 a1 "java/lang/AbstractStringBuilder" "coder" "B" (.int 0)) (F_count_a1 : Fld Z h0 a1 "java/lang/AbstractStringBuilder" "count" "I" (.int (Int32.ofNat (ms).length))) (E_bv : Exa Z h0 bv "[B") (V_bv : Arv Z h0 bv kb .byte (16 : Int32) (own_pad (ms) 16) (.int 0)) (S_CS : Sta Z Z.heap "java/lang/String" "COMPACT_STRINGS" "Z" (.int cs)) :
  Con l Z (⟨"java/lang/StringBuilder", "toString", "()Ljava/lang/String;"⟩ : MethodName) jdk_67_method_42_code 1 (some (.object "java/lang/String")) ({ frames := 4, cells := 2, slots := 20, locals := 59 } : Room) #[(.ref a1)] h0 (fun v h L => ∃ a b k, v = some (.ref a) ∧ Fr n0 L ∧ Keep h0 h [] ∧ h0.size ≤ a ∧ h0.size ≤ b ∧ Exa Z h a "java/lang/String" ∧ Fld Z h a "java/lang/String" "value" "[B" (.ref b) ∧ Fld Z h a "java/lang/String" "coder" "B" (.int 0) ∧ Arv Z h b k .byte (Int32.ofNat (ms).length) ((ms).map Value.int) (.int 0)) := by
 refine own_startC opn_23 ?_
 intro p e s m below meth c T0 X0 hx hby hml hZ hown hnm hret hlk e0
 have N := Fr.nil n0; have K := Keep.refl h0 []
 refine OG.cast (oef7 m a1) ?_
 refine og_new (pc' := 3) (cells' := 1) (slots' := 4) X0 hx hZ hown (ow132 hw) (ow8 hw) (ow9 hw) e0 (hb hby d23_0) rfl rfl rfl (by decide) (by decide) (fun T11 h11 nb11 X11 e11 E11 q11 E_nb11 D11 B11 => ?_)
 have s_nb11 : h0.size ≤ nb11 := Nat.le_of_eq q11.symm; have g_nb11 : n0 ≤ nb11 := Nat.le_trans (own_n0 O) s_nb11; have sz_nb11 : h0.size ≤ nb11 := Nat.le_trans K.1 s_nb11; have ne_a1_nb11 : a1 ≠ nb11 := Nat.ne_of_lt (Nat.lt_of_lt_of_le E_a1.lt s_nb11); have ne_bv_nb11 : bv ≠ nb11 := Nat.ne_of_lt (Nat.lt_of_lt_of_le E_bv.lt s_nb11)
 have E_a1 := E_a1.ext E11; have F_value_a1 := F_value_a1.ext E11; have F_coder_a1 := F_coder_a1.ext E11; have F_count_a1 := F_count_a1.ext E11; have E_bv := E_bv.ext E11; have V_bv := V_bv.ext E11
 have O := O.ext E11; have K := K.ext E11
 have F_value_nb11 : Fld Z h11 nb11 "java/lang/String" "value" "[B" .null := D11 (Or.inr (ow23 hw)) (ty := (.array .byte)) (by decide)
 have F_coder_nb11 : Fld Z h11 nb11 "java/lang/String" "coder" "B" (.int 0) := D11 (Or.inr (ow24 hw)) (ty := .byte) (by decide)
 refine og_dup X11 hx rfl (hb hby d23_3) rfl ?_
 refine og_aloadN X11 hx rfl rfl (hb hby d23_4) rfl ?_
 refine og_special (pc' := 8) (cells' := 2) (slots' := 20) (W := 1) X11 hx hZ (rm_svbF l Z a0 hw nb11 a1 bv kb ms hm cs hcs h11 n0 O E_nb11 F_value_nb11 F_coder_nb11 E_a1 F_value_a1 F_coder_a1 F_count_a1 E_bv V_bv S_CS g_nb11 ne_a1_nb11 ne_bv_nb11) rfl hown (ow133 hw) (ow134 hw) (ow9 hw) (ow135 hw) (by decide) (by rw [hml]; rfl) e11 opd_24 [(.ref a1)] [(.ref nb11)] rfl rfl rfl rfl (by decide) (by decide) rfl rfl (by decide) (by decide) (hb hby d23_5) rfl (fun v12 T12 h12 L12 X12 e12 z12 => ?_)
 obtain ⟨nb12, k12, rfl, Nq12, K12, sb12, E_nb11', F_value_nb11', F_coder_nb11', V_nb12⟩ := z12; have N := Fr.app N Nq12
 have s_nb12 : h11.size ≤ nb12 := sb12; have sz_nb12 : h0.size ≤ nb12 := Nat.le_trans K.1 s_nb12
 have K := K.trans K12 (allS (Or.inr sz_nb11) all0)
 have E_nb11 := E_nb11'; have F_value_nb11 := F_value_nb11'; have F_coder_nb11 := F_coder_nb11'
 refine og_retR X12 hx hlk hret rfl rfl rfl (hb hby d23_8) (by decide) (by decide) ?_
 rw [e12]; exact ⟨_, _, _, rfl, N, K, sz_nb11, sz_nb12, E_nb11, F_value_nb11, F_coder_nb11, V_nb12⟩
theorem rm_lab (l : Launch) (Z : State) (a0 : Array Value) (hw : HW a0 Z) (a1 b1 bv : Addr) (k1 kv : ClassId) (us : List Int32) (vv : List Value) (hu : us.length ≤ 3) (cs : Int32) (hcs : ¬ cs = 0) (h0 : Heap) (n0 : Nat) (O : Old Z n0 h0) (hEL : EW Z a0 own_EL) (E_a1 : Exa Z h0 a1 "java/lang/String") (F_value_a1 : Fld Z h0 a1 "java/lang/String" "value" "[B" (.ref b1)) (F_coder_a1 : Fld Z h0 a1 "java/lang/String" "coder" "B" (.int 0)) (V_b1 : Arv Z h0 b1 k1 .byte (Int32.ofNat (us).length) ((us).map Value.int) (.int 0)) (V_bv : Arv Z h0 bv kv .byte (16 : Int32) vv (.int 0)) (S_CS : Sta Z Z.heap "java/lang/String" "COMPACT_STRINGS" "Z" (.int cs)) (ne_b1_bv : b1 ≠ bv) :
  ConW l Z own_EL [bv] (⟨"com/example/stablebid/stablebid/cli/InputFile", "label", "(Ljava/lang/String;)Ljava/lang/String;"⟩ : MethodName) prog_22_method_5_code 1 (some (.object "java/lang/String")) ({ frames := 2, cells := 4, slots := 68, locals := 28 } : Room) #[(.ref a1)] h0 (fun v h L => ∃ r b k, v = some (.ref r) ∧ Fr n0 L ∧ Keep h0 h [] ∧ Exa Z h r "java/lang/String" ∧ Fld Z h r "java/lang/String" "value" "[B" (.ref b) ∧ Fld Z h r "java/lang/String" "coder" "B" (.int 0) ∧ Arv Z h b k .byte (Int32.ofNat (own_lab us).length) ((own_lab us).map Value.int) (.int 0) ∧ b ≠ bv) := by
 refine own_startWC opn_12 ?_
 intro p e s m below meth c T0 X0 hx hby hml hZ hown hnm hret hlk e0 es hS CR hsf
 have N := Fr.nil n0; have K := Keep.refl h0 []; have hk := Nat.le_refl h0.size; have Q_bv := hsf _ (List.mem_of_getElem? (i := 0) rfl)
 refine OG.cast (oef7 m a1) ?_
 refine og_aloadN X0 hx rfl rfl (hb hby d12_0) rfl ?_
 refine og_ldcS (pc' := 3) (cells' := 2) (slots' := 8) (n := 4) (z := (1 : Int32)) (vs := [(.int 45)]) X0 hx hZ hown (hw _ (List.mem_of_getElem? (i := 68) rfl)) (own_wS hw) e0 hS hk hEL (by decide) CR.1 ⟨by decide, by decide⟩ (by decide) (by decide) (by decide) (by decide) (hb hby d12_1) rfl rfl rfl (by decide) (by decide) (fun na11 T11 h11 kk11 nb11 k11 X11 e11 E11 hS hk hZ hown E_na11 F_coder_na11 F_value_na11 V_nb11 cr11 hne11 => ?_)
 have Q_bv := cr11.safe V_bv.lt Q_bv; have E_a1 := E_a1.ext E11; have F_value_a1 := F_value_a1.ext E11; have F_coder_a1 := F_coder_a1.ext E11; have V_b1 := V_b1.ext E11; have V_bv := V_bv.ext E11
 have O := O.ext E11; have K := K.ext E11; have CR := CR.trans cr11
 by_cases hP : us = [45]
 ·
  refine og_virtual (pc' := 6) (cells' := 2) (slots' := 8) (W := 0) X11 hx hZ (rm_eqG l Z a0 hw a1 na11 b1 nb11 k1 k11 us [45] (Int32.ofNat (us).length) 1 (own_ofn hu) (by decide) (own_zneg (ms := us) (by omega)) (by decide) 1 (if_pos hP).symm cs hcs h11 n0 O E_a1 F_value_a1 F_coder_a1 V_b1 E_na11 F_value_na11 F_coder_na11 V_nb11 S_CS) hown (ow69 hw) (ow70 hw) (own_nf hZ (ow72 hw)) (ow72 hw) (ow71 hw) (ow9 hw) (ow73 hw) (by decide) (by rw [hml]; rfl) e11 opd_25 [(.ref na11)] [] rfl rfl rfl rfl (by decide) (by decide) rfl rfl (by decide) (by decide) E_a1 (hb hby d12_3) rfl (fun v12 T12 h12 L12 X12 e12 z12 => ?_)
  obtain ⟨rfl, Nq12, hq12⟩ := z12; replace e12 := e12.trans hq12; have N := Fr.app N Nq12
  refine og_if_eq (pc1 := 14) (pc2 := 9) X12 hx (hb hby d12_6) (by decide) (by decide) rfl (fun q => absurd q (by decide)) (fun _ => ?_)
  refine og_ldcS (pc' := 11) (cells' := 4) (slots' := 68) (n := 56) (z := (14 : Int32)) (vs := [(.int 115), (.int 116), (.int 97), (.int 110), (.int 100), (.int 97), (.int 114), (.int 100), (.int 32), (.int 105), (.int 110), (.int 112), (.int 117), (.int 116)]) X12 hx hZ hown (hw _ (List.mem_of_getElem? (i := 257) rfl)) (own_wS hw) e12 hS hk hEL (by decide) CR.1 ⟨by decide, by decide⟩ (by decide) (by decide) (by decide) (by decide) (hb hby d12_9) rfl rfl rfl (by decide) (by decide) (fun na13 T13 h13 kk13 nb13 k13 X13 e13 E13 hS hk hZ hown E_na13 F_coder_na13 F_value_na13 V_nb13 cr13 hne13 => ?_)
  have Q_bv := cr13.safe V_bv.lt Q_bv
  have K := K.ext E13
  have CR := CR.trans cr13
  have ne_bv_nb13 := (hne13 _ Q_bv).2
  refine og_goto (pc' := 15) X13 hx (hb hby d12_11) (by decide) (by decide) ?_
  refine og_retRW X13 hx hZ hlk hEL hS e13 es hk CR hret rfl rfl rfl (hb hby d12_15) (by decide) (by decide) ?_
  rw [own_labY hP, e13]; exact ⟨_, _, _, rfl, N, K, E_na13, F_value_na13, F_coder_na13, V_nb13, (Ne.symm ne_bv_nb13)⟩
 ·
  refine og_virtual (pc' := 6) (cells' := 2) (slots' := 8) (W := 0) X11 hx hZ (rm_eqG l Z a0 hw a1 na11 b1 nb11 k1 k11 us [45] (Int32.ofNat (us).length) 1 (own_ofn hu) (by decide) (own_zneg (ms := us) (by omega)) (by decide) 0 (if_neg hP).symm cs hcs h11 n0 O E_a1 F_value_a1 F_coder_a1 V_b1 E_na11 F_value_na11 F_coder_na11 V_nb11 S_CS) hown (ow69 hw) (ow70 hw) (own_nf hZ (ow72 hw)) (ow72 hw) (ow71 hw) (ow9 hw) (ow73 hw) (by decide) (by rw [hml]; rfl) e11 opd_25 [(.ref na11)] [] rfl rfl rfl rfl (by decide) (by decide) rfl rfl (by decide) (by decide) E_a1 (hb hby d12_3) rfl (fun v14 T14 h14 L14 X14 e14 z14 => ?_)
  obtain ⟨rfl, Nq14, hq14⟩ := z14; replace e14 := e14.trans hq14; have N := Fr.app N Nq14
  refine og_if_eq (pc1 := 14) (pc2 := 9) X14 hx (hb hby d12_6) (by decide) (by decide) rfl (fun _ => ?_) (fun q => absurd q (by decide))
  refine og_aloadN X14 hx rfl rfl (hb hby d12_14) rfl ?_
  refine og_retRW X14 hx hZ hlk hEL hS e14 es hk CR hret rfl rfl rfl (hb hby d12_15) (by decide) (by decide) ?_
  rw [own_labN hP, e14]; exact ⟨_, _, _, rfl, N, K, E_a1, F_value_a1, F_coder_a1, V_b1, ne_b1_bv⟩
theorem rm_th (l : Launch) (Z : State) (a0 : Array Value) (hw : HW a0 Z) (a1 m1 : Addr) (hlt : l.stackTraces = true) (un : Value) (hun : un.isRef = true) (sn : Value) (hsn : sn.isRef = true) (h0 : Heap) (n0 : Nat) (O : Old Z n0 h0) (hEL : EW Z a0 own_EL) (E_a1 : Exa Z h0 a1 "com/example/stablebid/stablebid/cli/InputException") (U_a1 : Unt h0 a1) (F_backtrace_a1 : Fld Z h0 a1 "java/lang/Throwable" "backtrace" "Ljava/lang/Object;" .null) (S_UN : Sta Z Z.heap "java/lang/Throwable" "UNASSIGNED_STACK" "[Ljava/lang/StackTraceElement;" un) (S_SN : Sta Z Z.heap "java/lang/Throwable" "SUPPRESSED_SENTINEL" "Ljava/util/List;" sn) (g_a1 : n0 ≤ a1) :
  ConWK l Z own_EL [] (⟨"java/lang/Throwable", "<init>", "(Ljava/lang/String;)V"⟩ : MethodName) jdk_78_method_2_code 2 none ({ frames := 3, cells := 1, slots := 2752, locals := 42 } : Room) #[(.ref a1), (.ref m1)] h0 (fun v h L => v = none ∧ Fr n0 L ∧ Keep h0 h [a1] ∧ Exa Z h a1 "com/example/stablebid/stablebid/cli/InputException" ∧ Fld Z h a1 "java/lang/Throwable" "detailMessage" "Ljava/lang/String;" (.ref m1)) := by
 refine own_startWCK opn_36 ?_
 intro p e s m below meth c T0 X0 hx hby hml hZ hown hnm hret hlk e0 es hS CR hsf hTK hBl
 have N := Fr.nil n0; have K := Keep.refl h0 [a1]; have hk := Nat.le_refl h0.size
 refine OG.cast (oef2 m a1 m1) ?_
 have hT0 : ThS Z s.heap := by rw [es]; exact ThS.ext O.2 ThS.start
 obtain ⟨v1, F_cause_a1⟩ := fld_laid (O := "java/lang/Throwable") (n := "cause") (d := "Ljava/lang/Throwable;") E_a1 U_a1.known (ow45 hw) (Or.inl (ow188 hw))
 obtain ⟨v2, F_stackTrace_a1⟩ := fld_laid (O := "java/lang/Throwable") (n := "stackTrace") (d := "[Ljava/lang/StackTraceElement;") E_a1 U_a1.known (ow45 hw) (Or.inl (ow191 hw))
 obtain ⟨v3, F_suppressedExceptions_a1⟩ := fld_laid (O := "java/lang/Throwable") (n := "suppressedExceptions") (d := "Ljava/util/List;") E_a1 U_a1.known (ow45 hw) (Or.inl (ow194 hw))
 refine og_aloadN X0 hx rfl rfl (hb hby d36_0) rfl ?_
 refine og_initO (pc' := 4) X0 hx hZ (W := 0) (by rw [hml]; rfl) hown (ow186 hw) (ow19 hw) (ow20 hw) e0 rfl (by decide) (by decide) (hb hby d36_1) rfl (fun T11 X11 e11 => ?_)
 refine og_aloadN X11 hx rfl rfl (hb hby d36_4) rfl ?_
 refine og_aloadN X11 hx rfl rfl (hb hby d36_5) rfl ?_
 refine og_putfield X11 hx hZ (ty := (.object "java/lang/Throwable")) (host := "") hown (Or.inl (ow187 hw)) Via.refl e11 F_cause_a1 E_a1 (Or.inl (ow188 hw)) (ow45 hw) (by decide) rfl rfl (hb hby d36_6) rfl (fun T12 h12 X12 e12 W12 => ?_)
 have sf12 : Safe Z own_EL s.vm h0 a1 := (Safe.exa hZ.alike E_a1 (by decide) (by decide)); have E_a1 := E_a1.wr W12; have U_a1 := U_a1.wr W12; have F_backtrace_a1 := F_backtrace_a1.other W12 (Or.inr (slot_ne (Or.inl (ow219 hw)) (Or.inl (ow188 hw)) (by decide) (t := (.object "java/lang/Object")) (t' := (.object "java/lang/Throwable")) (by decide) (by decide))); have F_stackTrace_a1 := F_stackTrace_a1.other W12 (Or.inr (slot_ne (Or.inl (ow191 hw)) (Or.inl (ow188 hw)) (by decide) (t := (.array (.object "java/lang/StackTraceElement"))) (t' := (.object "java/lang/Throwable")) (by decide) (by decide))); have F_suppressedExceptions_a1 := F_suppressedExceptions_a1.other W12 (Or.inr (slot_ne (Or.inl (ow194 hw)) (Or.inl (ow188 hw)) (by decide) (t := (.object "java/util/List")) (t' := (.object "java/lang/Throwable")) (by decide) (by decide)))
 have O := O.wr W12 g_a1; have K := K.wr W12 (Or.inl (List.mem_of_getElem? (i := 0) rfl)); have hk := Nat.le_trans hk (Keep.of_wr W12).1; have CR := CR.trans (CHr.wr W12 sf12 CR.1)
 have N := Fr.snoc X12 N g_a1
 refine og_aloadN X12 hx rfl rfl (hb hby d36_9) rfl ?_
 refine og_getstatic X12 hx hZ (host := "") hown (Or.inl (ow189 hw)) Via.refl e12 (S_UN.ext O.2) (hb hby d36_10) rfl (fun T13 X13 e13 => ?_)
 refine og_putfield X13 hx hZ (ty := (.array (.object "java/lang/StackTraceElement"))) (host := "") hown (Or.inl (ow190 hw)) Via.refl e13 F_stackTrace_a1 E_a1 (Or.inl (ow191 hw)) (ow45 hw) (by decide) (nar_of_ref hun) (fits_of_ref hun rfl) (hb hby d36_13) rfl (fun T14 h14 X14 e14 W14 => ?_)
 have F_stackTrace_a1_ := F_stackTrace_a1.same W14
 have sf14 : Safe Z own_EL s.vm h12 a1 := (Safe.exa hZ.alike E_a1 (by decide) (by decide)); have E_a1 := E_a1.wr W14; have U_a1 := U_a1.wr W14; have F_backtrace_a1 := F_backtrace_a1.other W14 (Or.inr (slot_ne (Or.inl (ow219 hw)) (Or.inl (ow191 hw)) (by decide) (t := (.object "java/lang/Object")) (t' := (.array (.object "java/lang/StackTraceElement"))) (by decide) (by decide))); have F_suppressedExceptions_a1 := F_suppressedExceptions_a1.other W14 (Or.inr (slot_ne (Or.inl (ow194 hw)) (Or.inl (ow191 hw)) (by decide) (t := (.object "java/util/List")) (t' := (.array (.object "java/lang/StackTraceElement"))) (by decide) (by decide)))
 have O := O.wr W14 g_a1; have K := K.wr W14 (Or.inl (List.mem_of_getElem? (i := 0) rfl)); have hk := Nat.le_trans hk (Keep.of_wr W14).1; have CR := CR.trans (CHr.wr W14 sf14 CR.1)
 have N := Fr.snoc X14 N g_a1; have F_stackTrace_a1 := F_stackTrace_a1_
 refine og_aloadN X14 hx rfl rfl (hb hby d36_16) rfl ?_
 refine og_getstatic X14 hx hZ (host := "") hown (Or.inl (ow192 hw)) Via.refl e14 (S_SN.ext O.2) (hb hby d36_17) rfl (fun T15 X15 e15 => ?_)
 refine og_putfield X15 hx hZ (ty := (.object "java/util/List")) (host := "") hown (Or.inl (ow193 hw)) Via.refl e15 F_suppressedExceptions_a1 E_a1 (Or.inl (ow194 hw)) (ow45 hw) (by decide) (nar_of_ref hsn) (fits_of_ref hsn rfl) (hb hby d36_20) rfl (fun T16 h16 X16 e16 W16 => ?_)
 have sf16 : Safe Z own_EL s.vm h14 a1 := (Safe.exa hZ.alike E_a1 (by decide) (by decide)); have E_a1 := E_a1.wr W16; have U_a1 := U_a1.wr W16; have F_backtrace_a1 := F_backtrace_a1.other W16 (Or.inr (slot_ne (Or.inl (ow219 hw)) (Or.inl (ow194 hw)) (by decide) (t := (.object "java/lang/Object")) (t' := (.object "java/util/List")) (by decide) (by decide))); have F_stackTrace_a1 := F_stackTrace_a1.other W16 (Or.inr (slot_ne (Or.inl (ow191 hw)) (Or.inl (ow194 hw)) (by decide) (t := (.array (.object "java/lang/StackTraceElement"))) (t' := (.object "java/util/List")) (by decide) (by decide)))
 have O := O.wr W16 g_a1; have K := K.wr W16 (Or.inl (List.mem_of_getElem? (i := 0) rfl)); have hk := Nat.le_trans hk (Keep.of_wr W16).1; have CR := CR.trans (CHr.wr W16 sf16 CR.1)
 have N := Fr.snoc X16 N g_a1
 refine og_aloadN X16 hx rfl rfl (hb hby d36_23) rfl ?_
 refine og_fill (pc' := 27) (W := 0) X16 hx hZ hlt hown (own_thW hw) (ow45 hw) hT0 hS hTK hBl e16 (by simp only [List.mem_append, List.mem_cons, List.not_mem_nil, or_false, false_or]; rintro y ((rfl | rfl) | rfl) <;> rfl) E_a1 U_a1 F_backtrace_a1 hun F_stackTrace_a1 (S_UN.ext O.2) (by rw [hml]; rfl) rfl (by decide) (by decide) (by decide) (by decide) (hb hby d36_24) rfl (fun T17 h17 L17 X17 e17 lf17 K17 _ D17 => ?_)
 have N := Fr.app N (fun y hy => by rw [lf17 y hy]; exact g_a1)
 have sf17 : ∀ x ∈ ([a1] : List Addr), Safe Z own_EL s.vm h16 x := (sfS (Safe.exa hZ.alike E_a1 (by decide) (by decide)) sf0); have E_a1 := E_a1.keep K17; have K := K.trans K17 (allS (Or.inl (List.mem_of_getElem? (i := 0) rfl)) all0); have hk := Nat.le_trans hk K17.1; have CR := CR.trans (CHr.keep K17 sf17 CR.1)
 obtain ⟨v4, F_detailMessage_a1⟩ := D17
 refine og_pop X17 hx rfl (hb hby d36_27) rfl ?_
 refine og_aloadN X17 hx rfl rfl (hb hby d36_28) rfl ?_
 refine og_aloadN X17 hx rfl rfl (hb hby d36_29) rfl ?_
 refine og_putfield X17 hx hZ (ty := (.object "java/lang/String")) (host := "") hown (Or.inl (ow222 hw)) Via.refl e17 F_detailMessage_a1 E_a1 (Or.inl (ow218 hw)) (ow45 hw) (by decide) rfl rfl (hb hby d36_30) rfl (fun T18 h18 X18 e18 W18 => ?_)
 have F_detailMessage_a1_ := F_detailMessage_a1.same W18
 have sf18 : Safe Z own_EL s.vm h17 a1 := (Safe.exa hZ.alike E_a1 (by decide) (by decide)); have E_a1 := E_a1.wr W18; have K := K.wr W18 (Or.inl (List.mem_of_getElem? (i := 0) rfl)); have hk := Nat.le_trans hk (Keep.of_wr W18).1; have CR := CR.trans (CHr.wr W18 sf18 CR.1)
 have N := Fr.snoc X18 N g_a1; have F_detailMessage_a1 := F_detailMessage_a1_
 refine og_retVW X18 hx hZ hlk hEL hS e18 es hk CR hret (hb hby d36_33) (by decide) (by decide) ?_
 rw [e18]; exact ⟨rfl, N, K, E_a1, F_detailMessage_a1⟩
theorem rm_xe (l : Launch) (Z : State) (a0 : Array Value) (hw : HW a0 Z) (a1 m1 : Addr) (hlt : l.stackTraces = true) (un : Value) (hun : un.isRef = true) (sn : Value) (hsn : sn.isRef = true) (h0 : Heap) (n0 : Nat) (O : Old Z n0 h0) (hEL : EW Z a0 own_EL) (E_a1 : Exa Z h0 a1 "com/example/stablebid/stablebid/cli/InputException") (U_a1 : Unt h0 a1) (F_backtrace_a1 : Fld Z h0 a1 "java/lang/Throwable" "backtrace" "Ljava/lang/Object;" .null) (S_UN : Sta Z Z.heap "java/lang/Throwable" "UNASSIGNED_STACK" "[Ljava/lang/StackTraceElement;" un) (S_SN : Sta Z Z.heap "java/lang/Throwable" "SUPPRESSED_SENTINEL" "Ljava/util/List;" sn) (g_a1 : n0 ≤ a1) :
  ConWK l Z own_EL [] (⟨"java/lang/Exception", "<init>", "(Ljava/lang/String;)V"⟩ : MethodName) jdk_59_method_2_code 2 none ({ frames := 4, cells := 1, slots := 2752, locals := 55 } : Room) #[(.ref a1), (.ref m1)] h0 (fun v h L => v = none ∧ Fr n0 L ∧ Keep h0 h [a1] ∧ Exa Z h a1 "com/example/stablebid/stablebid/cli/InputException" ∧ Fld Z h a1 "java/lang/Throwable" "detailMessage" "Ljava/lang/String;" (.ref m1)) := by
 refine own_startWCK opn_35 ?_
 intro p e s m below meth c T0 X0 hx hby hml hZ hown hnm hret hlk e0 es hS CR hsf hTK hBl
 have N := Fr.nil n0; have K := Keep.refl h0 [a1]; have hk := Nat.le_refl h0.size
 refine OG.cast (oef2 m a1 m1) ?_
 refine og_aloadN X0 hx rfl rfl (hb hby d35_0) rfl ?_
 refine og_aloadN X0 hx rfl rfl (hb hby d35_1) rfl ?_
 refine og_specialWK (pc' := 5) (cells' := 1) (slots' := 2752) (W := 0) X0 hx hZ (rm_th l Z a0 hw a1 m1 hlt un hun sn hsn h0 n0 O hEL E_a1 U_a1 F_backtrace_a1 S_UN S_SN g_a1) hEL hS hk CR.1 all0 hTK hBl rfl hown (ow180 hw) (ow181 hw) (ow184 hw) (ow185 hw) (by decide) (by rw [hml]; rfl) e0 opd_16 [(.ref m1)] [] rfl rfl rfl rfl (by decide) (by decide) rfl rfl (by decide) (by decide) (hb hby d35_2) rfl (fun v11 T11 h11 L11 kk11 X11 e11 hS hk hZ hown cr11 z11 => ?_)
 obtain ⟨rfl, Nq11, K11, -, F_detailMessage_a1⟩ := z11; have N := Fr.app N Nq11
 have E_a1 := E_a1.keep K11; have K := K.trans K11 (allS (Or.inl (List.mem_of_getElem? (i := 0) rfl)) all0); have CR := CR.trans cr11
 refine og_retVW X11 hx hZ hlk hEL hS e11 es hk CR hret (hb hby d35_5) (by decide) (by decide) ?_
 rw [e11]; exact ⟨rfl, N, K, E_a1, F_detailMessage_a1⟩
theorem rm_ie (l : Launch) (Z : State) (a0 : Array Value) (hw : HW a0 Z) (a1 m1 : Addr) (hlt : l.stackTraces = true) (un : Value) (hun : un.isRef = true) (sn : Value) (hsn : sn.isRef = true) (h0 : Heap) (n0 : Nat) (O : Old Z n0 h0) (hEL : EW Z a0 own_EL) (E_a1 : Exa Z h0 a1 "com/example/stablebid/stablebid/cli/InputException") (U_a1 : Unt h0 a1) (F_backtrace_a1 : Fld Z h0 a1 "java/lang/Throwable" "backtrace" "Ljava/lang/Object;" .null) (S_UN : Sta Z Z.heap "java/lang/Throwable" "UNASSIGNED_STACK" "[Ljava/lang/StackTraceElement;" un) (S_SN : Sta Z Z.heap "java/lang/Throwable" "SUPPRESSED_SENTINEL" "Ljava/util/List;" sn) (g_a1 : n0 ≤ a1) :
  ConWK l Z own_EL [] (⟨"com/example/stablebid/stablebid/cli/InputException", "<init>", "(Ljava/lang/String;)V"⟩ : MethodName) prog_21_method_1_code 2 none ({ frames := 5, cells := 1, slots := 2752, locals := 68 } : Room) #[(.ref a1), (.ref m1)] h0 (fun v h L => v = none ∧ Fr n0 L ∧ Keep h0 h [a1] ∧ Exa Z h a1 "com/example/stablebid/stablebid/cli/InputException" ∧ Fld Z h a1 "java/lang/Throwable" "detailMessage" "Ljava/lang/String;" (.ref m1)) := by
 refine own_startWCK opn_34 ?_
 intro p e s m below meth c T0 X0 hx hby hml hZ hown hnm hret hlk e0 es hS CR hsf hTK hBl
 have N := Fr.nil n0; have K := Keep.refl h0 [a1]; have hk := Nat.le_refl h0.size
 refine OG.cast (oef2 m a1 m1) ?_
 refine og_aloadN X0 hx rfl rfl (hb hby d34_0) rfl ?_
 refine og_aloadN X0 hx rfl rfl (hb hby d34_1) rfl ?_
 refine og_specialWK (pc' := 5) (cells' := 1) (slots' := 2752) (W := 0) X0 hx hZ (rm_xe l Z a0 hw a1 m1 hlt un hun sn hsn h0 n0 O hEL E_a1 U_a1 F_backtrace_a1 S_UN S_SN g_a1) hEL hS hk CR.1 all0 hTK hBl rfl hown (ow175 hw) (ow176 hw) (ow178 hw) (ow179 hw) (by decide) (by rw [hml]; rfl) e0 opd_16 [(.ref m1)] [] rfl rfl rfl rfl (by decide) (by decide) rfl rfl (by decide) (by decide) (hb hby d34_2) rfl (fun v11 T11 h11 L11 kk11 X11 e11 hS hk hZ hown cr11 z11 => ?_)
 obtain ⟨rfl, Nq11, K11, -, F_detailMessage_a1⟩ := z11; have N := Fr.app N Nq11
 have E_a1 := E_a1.keep K11; have K := K.trans K11 (allS (Or.inl (List.mem_of_getElem? (i := 0) rfl)) all0); have CR := CR.trans cr11
 refine og_retVW X11 hx hZ hlk hEL hS e11 es hk CR hret (hb hby d34_5) (by decide) (by decide) ?_
 rw [e11]; exact ⟨rfl, N, K, E_a1, F_detailMessage_a1⟩
theorem rm_ref (l : Launch) (Z : State) (a0 : Array Value) (hw : HW a0 Z) (a1 b1 a2 b2 : Addr) (k1 k2 : ClassId) (us ws : List Int32) (hu : us.length ≤ 3) (hw3 : ws.length ≤ 3) (hlt : l.stackTraces = true) (un : Value) (hun : un.isRef = true) (sn : Value) (hsn : sn.isRef = true) (cs : Int32) (hcs : ¬ cs = 0) (h0 : Heap) (n0 : Nat) (O : Old Z n0 h0) (hEL : EW Z a0 own_EL) (E_a1 : Exa Z h0 a1 "java/lang/String") (F_value_a1 : Fld Z h0 a1 "java/lang/String" "value" "[B" (.ref b1)) (F_coder_a1 : Fld Z h0 a1 "java/lang/String" "coder" "B" (.int 0)) (V_b1 : Arv Z h0 b1 k1 .byte (Int32.ofNat (us).length) ((us).map Value.int) (.int 0)) (E_a2 : Exa Z h0 a2 "java/lang/String") (F_value_a2 : Fld Z h0 a2 "java/lang/String" "value" "[B" (.ref b2)) (F_coder_a2 : Fld Z h0 a2 "java/lang/String" "coder" "B" (.int 0)) (V_b2 : Arv Z h0 b2 k2 .byte (Int32.ofNat (ws).length) ((ws).map Value.int) (.int 0)) (S_UN : Sta Z Z.heap "java/lang/Throwable" "UNASSIGNED_STACK" "[Ljava/lang/StackTraceElement;" un) (S_SN : Sta Z Z.heap "java/lang/Throwable" "SUPPRESSED_SENTINEL" "Ljava/util/List;" sn) (S_CS : Sta Z Z.heap "java/lang/String" "COMPACT_STRINGS" "Z" (.int cs)) :
  ConWK l Z own_EL [] (⟨"com/example/stablebid/stablebid/cli/InputFile", "refusal", "(Ljava/lang/String;Ljava/lang/String;)Lcom/example/stablebid/stablebid/cli/InputException;"⟩ : MethodName) prog_22_method_4_code 2 (some (.object "com/example/stablebid/stablebid/cli/InputException")) ({ frames := 6, cells := 13, slots := 2930, locals := 93 } : Room) #[(.ref a1), (.ref a2)] h0 (fun v h L => ∃ r mr mb k, v = some (.ref r) ∧ Fr n0 L ∧ Keep h0 h [] ∧ Exa Z h r "com/example/stablebid/stablebid/cli/InputException" ∧ Fld Z h r "java/lang/Throwable" "detailMessage" "Ljava/lang/String;" (.ref mr) ∧ Exa Z h mr "java/lang/String" ∧ Fld Z h mr "java/lang/String" "value" "[B" (.ref mb) ∧ Fld Z h mr "java/lang/String" "coder" "B" (.int 0) ∧ Arv Z h mb k .byte (Int32.ofNat (own_lab us ++ [58, 32] ++ ws).length) ((own_lab us ++ [58, 32] ++ ws).map Value.int) (.int 0)) := by
 refine own_startWCK opn_9 ?_
 intro p e s m below meth c T0 X0 hx hby hml hZ hown hnm hret hlk e0 es hS CR hsf hTK hBl
 have N := Fr.nil n0; have K := Keep.refl h0 []; have hk := Nat.le_refl h0.size
 refine OG.cast (oef2 m a1 a2) ?_
 refine og_new (pc' := 3) (cells' := 1) (slots' := 6) X0 hx hZ hown (ow44 hw) (ow45 hw) (ow46 hw) e0 (hb hby d9_0) rfl rfl rfl (by decide) (by decide) (fun T11 h11 nb11 X11 e11 E11 q11 E_nb11 D11 B11 => ?_)
 have s_nb11 : h0.size ≤ nb11 := Nat.le_of_eq q11.symm; have g_nb11 : n0 ≤ nb11 := Nat.le_trans (own_n0 O) s_nb11; have sz_nb11 : h0.size ≤ nb11 := Nat.le_trans K.1 s_nb11
 have E_a1 := E_a1.ext E11; have F_value_a1 := F_value_a1.ext E11; have F_coder_a1 := F_coder_a1.ext E11; have V_b1 := V_b1.ext E11; have E_a2 := E_a2.ext E11
 have F_value_a2 := F_value_a2.ext E11; have F_coder_a2 := F_coder_a2.ext E11; have V_b2 := V_b2.ext E11; have O := O.ext E11; have K := K.ext E11; have hk := Nat.le_trans hk E11.1
 have CR := CR.trans (CHr.ext E11 CR.1)
 have F_detailMessage_nb11 : Fld Z h11 nb11 "java/lang/Throwable" "detailMessage" "Ljava/lang/String;" .null := D11 (Or.inl (ow218 hw)) (ty := (.object "java/lang/String")) (by decide)
 have F_backtrace_nb11 : Fld Z h11 nb11 "java/lang/Throwable" "backtrace" "Ljava/lang/Object;" .null := D11 (Or.inl (ow219 hw)) (ty := (.object "java/lang/Object")) (by decide)
 have U_nb11 : Unt h11 nb11 := B11
 refine og_dup X11 hx rfl (hb hby d9_3) rfl ?_
 refine og_new (pc' := 7) (cells' := 2) (slots' := 10) X11 hx hZ hown (ow47 hw) (ow48 hw) (ow49 hw) e11 (hb hby d9_4) rfl rfl rfl (by decide) (by decide) (fun T12 h12 nb12 X12 e12 E12 q12 E_nb12 D12 B12 => ?_)
 have s_nb12 : h11.size ≤ nb12 := Nat.le_of_eq q12.symm; have g_nb12 : n0 ≤ nb12 := Nat.le_trans (own_n0 O) s_nb12; have sz_nb12 : h0.size ≤ nb12 := Nat.le_trans K.1 s_nb12; have ne_a1_nb12 : a1 ≠ nb12 := Nat.ne_of_lt (Nat.lt_of_lt_of_le E_a1.lt s_nb12); have ne_b1_nb12 : b1 ≠ nb12 := Nat.ne_of_lt (Nat.lt_of_lt_of_le V_b1.lt s_nb12); have ne_a2_nb12 : a2 ≠ nb12 := Nat.ne_of_lt (Nat.lt_of_lt_of_le E_a2.lt s_nb12)
 have ne_b2_nb12 : b2 ≠ nb12 := Nat.ne_of_lt (Nat.lt_of_lt_of_le V_b2.lt s_nb12); have ne_nb11_nb12 : nb11 ≠ nb12 := Nat.ne_of_lt (Nat.lt_of_lt_of_le E_nb11.lt s_nb12); have Q_nb12 : Safe Z own_EL _ _ nb12 := Safe.new (Z := Z) (EL := own_EL) (vm := s.vm) s_nb12
 have Q_nb12 := Safe.ext E12 CR.1 Q_nb12; have E_a1 := E_a1.ext E12; have F_value_a1 := F_value_a1.ext E12; have F_coder_a1 := F_coder_a1.ext E12; have V_b1 := V_b1.ext E12
 have E_a2 := E_a2.ext E12; have F_value_a2 := F_value_a2.ext E12; have F_coder_a2 := F_coder_a2.ext E12; have V_b2 := V_b2.ext E12; have E_nb11 := E_nb11.ext E12; have F_detailMessage_nb11 := F_detailMessage_nb11.ext E12
 have F_backtrace_nb11 := F_backtrace_nb11.ext E12; have U_nb11 := U_nb11.ext E12; have O := O.ext E12; have K := K.ext E12; have hk := Nat.le_trans hk E12.1; have CR := CR.trans (CHr.ext E12 CR.1)
 have F_value_nb12 : Fld Z h12 nb12 "java/lang/AbstractStringBuilder" "value" "[B" .null := D12 (Or.inl (ow62 hw)) (ty := (.array .byte)) (by decide)
 have F_coder_nb12 : Fld Z h12 nb12 "java/lang/AbstractStringBuilder" "coder" "B" (.int 0) := D12 (Or.inl (ow64 hw)) (ty := .byte) (by decide)
 have F_count_nb12 : Fld Z h12 nb12 "java/lang/AbstractStringBuilder" "count" "I" (.int 0) := D12 (Or.inl (ow100 hw)) (ty := .int) (by decide)
 refine og_dup X12 hx rfl (hb hby d9_7) rfl ?_
 refine og_special (pc' := 11) (cells' := 3) (slots' := 26) (W := 3) X12 hx hZ (rm_sb0 l Z a0 hw nb12 cs hcs h12 n0 O E_nb12 F_value_nb12 F_coder_nb12 F_count_nb12 S_CS g_nb12) rfl hown (ow50 hw) (ow51 hw) (ow49 hw) (ow52 hw) (by decide) (by rw [hml]; rfl) e12 opd_26 [] [(.ref nb12), (.ref nb11), (.ref nb11)] rfl rfl rfl rfl (by decide) (by decide) rfl rfl (by decide) (by decide) (hb hby d9_8) rfl (fun v13 T13 h13 L13 X13 e13 z13 => ?_)
 obtain ⟨nb13, k13, rfl, Nq13, K13, sb13, E_nb12', F_value_nb12', F_coder_nb12', F_count_nb12', V_nb13, E_nb13⟩ := z13; have N := Fr.app N Nq13
 have s_nb13 : h12.size ≤ nb13 := sb13; have g_nb13 : n0 ≤ nb13 := Nat.le_trans (own_n0 O) s_nb13; have sz_nb13 : h0.size ≤ nb13 := Nat.le_trans K.1 s_nb13; have ne_b1_nb13 : b1 ≠ nb13 := Nat.ne_of_lt (Nat.lt_of_lt_of_le V_b1.lt s_nb13); have ne_a2_nb13 : a2 ≠ nb13 := Nat.ne_of_lt (Nat.lt_of_lt_of_le E_a2.lt s_nb13)
 have ne_b2_nb13 : b2 ≠ nb13 := Nat.ne_of_lt (Nat.lt_of_lt_of_le V_b2.lt s_nb13); have ne_nb11_nb13 : nb11 ≠ nb13 := Nat.ne_of_lt (Nat.lt_of_lt_of_le E_nb11.lt s_nb13); have ne_nb12_nb13 : nb12 ≠ nb13 := Nat.ne_of_lt (Nat.lt_of_lt_of_le E_nb12.lt s_nb13); have Q_nb13 : Safe Z own_EL _ _ nb13 := Safe.new (Z := Z) (EL := own_EL) (vm := s.vm) s_nb13
 have sf13 : ∀ x ∈ ([nb12] : List Addr), Safe Z own_EL s.vm h12 x := (sfS Q_nb12 sf0); have Q_nb12 := Safe.keep K13 sf13 CR.1 Q_nb12; have Q_nb13 := Safe.keep K13 sf13 CR.1 Q_nb13; have E_a1 := E_a1.keep K13; have F_value_a1 := F_value_a1.keep K13 (ninS ne_a1_nb12 nin0)
 have F_coder_a1 := F_coder_a1.keep K13 (ninS ne_a1_nb12 nin0); have V_b1 := V_b1.keep K13 (ninS ne_b1_nb12 nin0); have E_a2 := E_a2.keep K13; have F_value_a2 := F_value_a2.keep K13 (ninS ne_a2_nb12 nin0); have F_coder_a2 := F_coder_a2.keep K13 (ninS ne_a2_nb12 nin0); have V_b2 := V_b2.keep K13 (ninS ne_b2_nb12 nin0)
 have E_nb11 := E_nb11.keep K13; have F_detailMessage_nb11 := F_detailMessage_nb11.keep K13 (ninS ne_nb11_nb12 nin0); have F_backtrace_nb11 := F_backtrace_nb11.keep K13 (ninS ne_nb11_nb12 nin0); have U_nb11 := U_nb11.keep K13 (ninS ne_nb11_nb12 nin0); have O := O.keep K13 (allS g_nb12 all0)
 have K := K.trans K13 (allS (Or.inr sz_nb12) all0); have hk := Nat.le_trans hk K13.1; have CR := CR.trans (CHr.keep K13 sf13 CR.1)
 have E_nb12 := E_nb12'; have F_value_nb12 := F_value_nb12'; have F_coder_nb12 := F_coder_nb12'; have F_count_nb12 := F_count_nb12'
 have V_nb13 : Arv Z h13 nb13 k13 .byte (16 : Int32) (own_pad (([] : List Int32)) 16) (.int 0) := V_nb13
 have F_count_nb12 : Fld Z h13 nb12 "java/lang/AbstractStringBuilder" "count" "I" (.int (Int32.ofNat (([] : List Int32)).length)) := F_count_nb12
 refine og_aloadN X13 hx rfl rfl (hb hby d9_11) rfl ?_
 refine og_staticW (pc' := 15) (cells' := 7) (slots' := 94) (W := 3) X13 hx hZ (rm_lab l Z a0 hw a1 b1 nb13 k1 k13 us _ hu cs hcs h13 n0 O hEL E_a1 F_value_a1 F_coder_a1 V_b1 V_nb13 S_CS ne_b1_nb13) hEL hS hk CR.1 (allS (P := fun x => x < _ ∧ Safe Z own_EL _ _ x) ⟨V_nb13.lt, Q_nb13⟩ all0) hown (ow65 hw) (ow66 hw) (ow42 hw) (ow67 hw) (by decide) (by rw [hml]; rfl) e13 opd_27 [(.ref a1)] [(.ref nb12), (.ref nb11), (.ref nb11)] rfl rfl rfl rfl (by decide) (by decide) rfl rfl (by decide) (by decide) (hb hby d9_12) rfl (fun v14 T14 h14 L14 kk14 X14 e14 hS hk hZ hown cr14 z14 => ?_)
 obtain ⟨nr14, nb14, k14, rfl, Nq14, K14, E_nr14, F_value_nr14, F_coder_nr14, V_nb14, ne_nb14_nb13⟩ := z14; have N := Fr.app N Nq14
 have Q_nb12 := cr14.safe E_nb12.lt Q_nb12; have Q_nb13 := cr14.safe V_nb13.lt Q_nb13
 have E_a2 := E_a2.keep K14; have F_value_a2 := F_value_a2.keep K14 nin0; have F_coder_a2 := F_coder_a2.keep K14 nin0; have V_b2 := V_b2.keep K14 nin0; have E_nb11 := E_nb11.keep K14
 have F_detailMessage_nb11 := F_detailMessage_nb11.keep K14 nin0; have F_backtrace_nb11 := F_backtrace_nb11.keep K14 nin0; have U_nb11 := U_nb11.keep K14 nin0; have E_nb12 := E_nb12.keep K14; have F_value_nb12 := F_value_nb12.keep K14 nin0; have F_coder_nb12 := F_coder_nb12.keep K14 nin0
 have F_count_nb12 := F_count_nb12.keep K14 nin0; have V_nb13 := V_nb13.keep K14 nin0; have E_nb13 := E_nb13.keep K14; have O := O.keep K14 all0; have K := K.trans K14 all0; have CR := CR.trans cr14
 have ne_nr14_nb13 : nr14 ≠ nb13 := fun q => own_strarr E_nr14 V_nb13 (ow8 hw) q
 have ne_nb12_nb14 : nb12 ≠ nb14 := fun q => own_strarr E_nb12 V_nb14 (ow48 hw) q
 have ne_nr14_nb12 : nr14 ≠ nb12 := Exa.ne E_nr14 E_nb12 (by decide)
 refine og_virtual (pc' := 18) (cells' := 7) (slots' := 94) (W := 2) X14 hx hZ (rm_spG l Z a0 hw nb12 nr14 nb13 nb14 k13 k14 ([]) (own_lab us) (own_h1 hu) cs hcs h14 n0 O E_nb12 F_value_nb12 F_coder_nb12 F_count_nb12 E_nb13 V_nb13 E_nr14 F_value_nr14 F_coder_nr14 V_nb14 S_CS g_nb12 g_nb13 ne_nb12_nb13 ne_nr14_nb13 ne_nb14_nb13 ne_nr14_nb12 (Ne.symm ne_nb12_nb14)) hown (ow79 hw) (ow80 hw) (own_nf hZ (ow82 hw)) (ow82 hw) (ow81 hw) (ow49 hw) (ow83 hw) (by decide) (by rw [hml]; rfl) e14 opd_28 [(.ref nr14)] [(.ref nb11), (.ref nb11)] rfl rfl rfl rfl (by decide) (by decide) rfl rfl (by decide) (by decide) E_nb12 (hb hby d9_15) rfl (fun v15 T15 h15 L15 X15 e15 z15 => ?_)
 obtain ⟨rfl, Nq15, K15, E_nb12', F_value_nb12', F_coder_nb12', F_count_nb12', V_nb13'⟩ := z15; have N := Fr.app N Nq15
 have sf15 : ∀ x ∈ ([nb12, nb13] : List Addr), Safe Z own_EL T14.vm h14 x := (sfS Q_nb12 (sfS Q_nb13 sf0)); have Q_nb12 := Safe.keep K15 sf15 CR.1 Q_nb12; have Q_nb13 := Safe.keep K15 sf15 CR.1 Q_nb13
 have E_a2 := E_a2.keep K15; have F_value_a2 := F_value_a2.keep K15 (ninS ne_a2_nb12 (ninS ne_a2_nb13 nin0)); have F_coder_a2 := F_coder_a2.keep K15 (ninS ne_a2_nb12 (ninS ne_a2_nb13 nin0)); have V_b2 := V_b2.keep K15 (ninS ne_b2_nb12 (ninS ne_b2_nb13 nin0))
 have E_nb11 := E_nb11.keep K15; have F_detailMessage_nb11 := F_detailMessage_nb11.keep K15 (ninS ne_nb11_nb12 (ninS ne_nb11_nb13 nin0)); have F_backtrace_nb11 := F_backtrace_nb11.keep K15 (ninS ne_nb11_nb12 (ninS ne_nb11_nb13 nin0)); have U_nb11 := U_nb11.keep K15 (ninS ne_nb11_nb12 (ninS ne_nb11_nb13 nin0)); have E_nb13 := E_nb13.keep K15
 have O := O.keep K15 (allS g_nb12 (allS g_nb13 all0)); have K := K.trans K15 (allS (Or.inr sz_nb12) (allS (Or.inr sz_nb13) all0))
 have hk := Nat.le_trans hk K15.1; have CR := CR.trans (CHr.keep K15 sf15 CR.1)
 have V_nb13 := V_nb13'; have E_nb12 := E_nb12'; have F_value_nb12 := F_value_nb12'; have F_coder_nb12 := F_coder_nb12'; have F_count_nb12 := F_count_nb12'
 refine og_ldcS (pc' := 20) (cells' := 9) (slots' := 106) (n := 8) (z := (2 : Int32)) (vs := [(.int 58), (.int 32)]) X15 hx hZ hown (hw _ (List.mem_of_getElem? (i := 126) rfl)) (own_wS hw) e15 hS hk hEL (by decide) CR.1 ⟨by decide, by decide⟩ (by decide) (by decide) (by decide) (by decide) (hb hby d9_18) rfl rfl rfl (by decide) (by decide) (fun na16 T16 h16 kk16 nb16 k16 X16 e16 E16 hS hk hZ hown E_na16 F_coder_na16 F_value_na16 V_nb16 cr16 hne16 => ?_)
 have Q_nb12 := cr16.safe E_nb12.lt Q_nb12; have Q_nb13 := cr16.safe E_nb13.lt Q_nb13
 have E_a2 := E_a2.ext E16; have F_value_a2 := F_value_a2.ext E16; have F_coder_a2 := F_coder_a2.ext E16; have V_b2 := V_b2.ext E16; have E_nb11 := E_nb11.ext E16
 have F_detailMessage_nb11 := F_detailMessage_nb11.ext E16; have F_backtrace_nb11 := F_backtrace_nb11.ext E16; have U_nb11 := U_nb11.ext E16; have E_nb12 := E_nb12.ext E16; have E_nb13 := E_nb13.ext E16
 have F_value_nb12 := F_value_nb12.ext E16; have F_coder_nb12 := F_coder_nb12.ext E16; have F_count_nb12 := F_count_nb12.ext E16
 have V_nb13 := V_nb13.ext E16; have O := O.ext E16; have K := K.ext E16; have CR := CR.trans cr16
 have ne_nb12_na16 := (hne16 _ Q_nb12).1; have ne_nb12_nb16 := (hne16 _ Q_nb12).2
 have ne_nb13_na16 := (hne16 _ Q_nb13).1; have ne_nb13_nb16 := (hne16 _ Q_nb13).2
 have V_nb16 : Arv Z h16 nb16 k16 .byte (Int32.ofNat (([58, 32] : List Int32)).length) (([58, 32] : List Int32).map Value.int) (.int 0) := V_nb16
 refine og_virtual (pc' := 23) (cells' := 9) (slots' := 106) (W := 2) X16 hx hZ (rm_spG l Z a0 hw nb12 na16 nb13 nb16 k13 k16 (own_lab us) ([58, 32]) (own_h2 hu) cs hcs h16 n0 O E_nb12 F_value_nb12 F_coder_nb12 F_count_nb12 E_nb13 V_nb13 E_na16 F_value_na16 F_coder_na16 V_nb16 S_CS g_nb12 g_nb13 ne_nb12_nb13 (Ne.symm ne_nb13_na16) (Ne.symm ne_nb13_nb16) (Ne.symm ne_nb12_na16) (Ne.symm ne_nb12_nb16)) hown (ow79 hw) (ow80 hw) (own_nf hZ (ow82 hw)) (ow82 hw) (ow81 hw) (ow49 hw) (ow83 hw) (by decide) (by rw [hml]; rfl) e16 opd_28 [(.ref na16)] [(.ref nb11), (.ref nb11)] rfl rfl rfl rfl (by decide) (by decide) rfl rfl (by decide) (by decide) E_nb12 (hb hby d9_20) rfl (fun v17 T17 h17 L17 X17 e17 z17 => ?_)
 obtain ⟨rfl, Nq17, K17, E_nb12', F_value_nb12', F_coder_nb12', F_count_nb12', V_nb13'⟩ := z17; have N := Fr.app N Nq17
 have sf17 : ∀ x ∈ ([nb12, nb13] : List Addr), Safe Z own_EL T16.vm h16 x := (sfS Q_nb12 (sfS Q_nb13 sf0)); have Q_nb12 := Safe.keep K17 sf17 CR.1 Q_nb12; have Q_nb13 := Safe.keep K17 sf17 CR.1 Q_nb13
 have E_a2 := E_a2.keep K17; have F_value_a2 := F_value_a2.keep K17 (ninS ne_a2_nb12 (ninS ne_a2_nb13 nin0)); have F_coder_a2 := F_coder_a2.keep K17 (ninS ne_a2_nb12 (ninS ne_a2_nb13 nin0)); have V_b2 := V_b2.keep K17 (ninS ne_b2_nb12 (ninS ne_b2_nb13 nin0))
 have E_nb11 := E_nb11.keep K17; have F_detailMessage_nb11 := F_detailMessage_nb11.keep K17 (ninS ne_nb11_nb12 (ninS ne_nb11_nb13 nin0)); have F_backtrace_nb11 := F_backtrace_nb11.keep K17 (ninS ne_nb11_nb12 (ninS ne_nb11_nb13 nin0)); have U_nb11 := U_nb11.keep K17 (ninS ne_nb11_nb12 (ninS ne_nb11_nb13 nin0)); have E_nb13 := E_nb13.keep K17
 have O := O.keep K17 (allS g_nb12 (allS g_nb13 all0)); have K := K.trans K17 (allS (Or.inr sz_nb12) (allS (Or.inr sz_nb13) all0)); have hk := Nat.le_trans hk K17.1; have CR := CR.trans (CHr.keep K17 sf17 CR.1)
 have V_nb13 := V_nb13'; have E_nb12 := E_nb12'; have F_value_nb12 := F_value_nb12'; have F_coder_nb12 := F_coder_nb12'; have F_count_nb12 := F_count_nb12'
 refine og_aloadN X17 hx rfl rfl (hb hby d9_23) rfl ?_
 by_cases hG : (own_lab us ++ [58, 32]).length + ws.length ≤ 16
 ·
  by_cases hE : (own_lab us ++ [58, 32] ++ ws).length = 16
  ·
   refine og_virtual (pc' := 27) (cells' := 9) (slots' := 106) (W := 2) X17 hx hZ (rm_spG l Z a0 hw nb12 a2 nb13 b2 k13 k2 (own_lab us ++ [58, 32]) (ws) hG cs hcs h17 n0 O E_nb12 F_value_nb12 F_coder_nb12 F_count_nb12 E_nb13 V_nb13 E_a2 F_value_a2 F_coder_a2 V_b2 S_CS g_nb12 g_nb13 ne_nb12_nb13 ne_a2_nb13 ne_b2_nb13 ne_a2_nb12 ne_b2_nb12) hown (ow79 hw) (ow80 hw) (own_nf hZ (ow82 hw)) (ow82 hw) (ow81 hw) (ow49 hw) (ow83 hw) (by decide) (by rw [hml]; rfl) e17 opd_28 [(.ref a2)] [(.ref nb11), (.ref nb11)] rfl rfl rfl rfl (by decide) (by decide) rfl rfl (by decide) (by decide) E_nb12 (hb hby d9_24) rfl (fun v18 T18 h18 L18 X18 e18 z18 => ?_)
   obtain ⟨rfl, Nq18, K18, E_nb12', F_value_nb12', F_coder_nb12', F_count_nb12', V_nb13'⟩ := z18; have N := Fr.app N Nq18
   have sf18 : ∀ x ∈ ([nb12, nb13] : List Addr), Safe Z own_EL T16.vm h17 x := (sfS Q_nb12 (sfS Q_nb13 sf0))
   have E_nb11 := E_nb11.keep K18; have F_detailMessage_nb11 := F_detailMessage_nb11.keep K18 (ninS ne_nb11_nb12 (ninS ne_nb11_nb13 nin0)); have F_backtrace_nb11 := F_backtrace_nb11.keep K18 (ninS ne_nb11_nb12 (ninS ne_nb11_nb13 nin0)); have U_nb11 := U_nb11.keep K18 (ninS ne_nb11_nb12 (ninS ne_nb11_nb13 nin0)); have E_nb13 := E_nb13.keep K18
   have O := O.keep K18 (allS g_nb12 (allS g_nb13 all0)); have K := K.trans K18 (allS (Or.inr sz_nb12) (allS (Or.inr sz_nb13) all0)); have hk := Nat.le_trans hk K18.1; have CR := CR.trans (CHr.keep K18 sf18 CR.1)
   have V_nb13 := V_nb13'; have E_nb12 := E_nb12'; have F_value_nb12 := F_value_nb12'; have F_coder_nb12 := F_coder_nb12'; have F_count_nb12 := F_count_nb12'
   refine og_virtual (pc' := 30) (cells' := 11) (slots' := 126) (W := 2) X18 hx hZ (rm_tosF l Z a0 hw nb12 nb13 k13 (own_lab us ++ [58, 32] ++ ws) hE cs hcs h18 n0 O E_nb12 F_value_nb12 F_coder_nb12 F_count_nb12 E_nb13 V_nb13 S_CS) hown (ow127 hw) (ow128 hw) (own_nf hZ (ow130 hw)) (ow130 hw) (ow129 hw) (ow49 hw) (ow131 hw) (by decide) (by rw [hml]; rfl) e18 opd_29 [] [(.ref nb11), (.ref nb11)] rfl rfl rfl rfl (by decide) (by decide) rfl rfl (by decide) (by decide) E_nb12 (hb hby d9_27) rfl (fun v19 T19 h19 L19 X19 e19 z19 => ?_)
   obtain ⟨na19, nb19, k19, rfl, Nq19, K19, sa19, sb19, E_na19, F_value_na19, F_coder_na19, V_nb19⟩ := z19; have N := Fr.app N Nq19
   have s_na19 : h18.size ≤ na19 := sa19
   have ne_nb11_na19 : nb11 ≠ na19 := Nat.ne_of_lt (Nat.lt_of_lt_of_le E_nb11.lt s_na19)
   have s_nb19 : h18.size ≤ nb19 := sb19
   have ne_nb11_nb19 : nb11 ≠ nb19 := Nat.ne_of_lt (Nat.lt_of_lt_of_le E_nb11.lt s_nb19)
   have E_nb11 := E_nb11.keep K19; have F_detailMessage_nb11 := F_detailMessage_nb11.keep K19 nin0; have F_backtrace_nb11 := F_backtrace_nb11.keep K19 nin0; have U_nb11 := U_nb11.keep K19 nin0
   have O := O.keep K19 all0; have K := K.trans K19 all0; have hk := Nat.le_trans hk K19.1; have CR := CR.trans (CHr.keep K19 sf0 CR.1)
   refine og_specialWK (pc' := 33) (cells' := 12) (slots' := 2878) (W := 1) X19 hx hZ (rm_ie l Z a0 hw nb11 na19 hlt un hun sn hsn h19 n0 O hEL E_nb11 U_nb11 F_backtrace_nb11 S_UN S_SN g_nb11) hEL hS hk CR.1 all0 hTK hBl rfl hown (ow172 hw) (ow173 hw) (ow46 hw) (ow174 hw) (by decide) (by rw [hml]; rfl) e19 opd_16 [(.ref na19)] [(.ref nb11)] rfl rfl rfl rfl (by decide) (by decide) rfl rfl (by decide) (by decide) (hb hby d9_30) rfl (fun v20 T20 h20 L20 kk20 X20 e20 hS hk hZ hown cr20 z20 => ?_)
   obtain ⟨rfl, Nq20, K20, -, F_detailMessage_nb11⟩ := z20; have N := Fr.app N Nq20
   have E_nb11 := E_nb11.keep K20; have E_na19 := E_na19.keep K20; have F_value_na19 := F_value_na19.keep K20 (ninS (Ne.symm ne_nb11_na19) nin0); have F_coder_na19 := F_coder_na19.keep K20 (ninS (Ne.symm ne_nb11_na19) nin0); have V_nb19 := V_nb19.keep K20 (ninS (Ne.symm ne_nb11_nb19) nin0)
   have K := K.trans K20 (allS (Or.inr sz_nb11) all0); have CR := CR.trans cr20
   refine og_retRW X20 hx hZ hlk hEL hS e20 es hk CR hret rfl rfl rfl (hb hby d9_33) (by decide) (by decide) ?_
   rw [e20]; exact ⟨_, _, _, _, rfl, N, K, E_nb11, F_detailMessage_nb11, E_na19, F_value_na19, F_coder_na19, V_nb19⟩
  ·
   refine og_virtual (pc' := 27) (cells' := 9) (slots' := 106) (W := 2) X17 hx hZ (rm_spG l Z a0 hw nb12 a2 nb13 b2 k13 k2 (own_lab us ++ [58, 32]) (ws) hG cs hcs h17 n0 O E_nb12 F_value_nb12 F_coder_nb12 F_count_nb12 E_nb13 V_nb13 E_a2 F_value_a2 F_coder_a2 V_b2 S_CS g_nb12 g_nb13 ne_nb12_nb13 ne_a2_nb13 ne_b2_nb13 ne_a2_nb12 ne_b2_nb12) hown (ow79 hw) (ow80 hw) (own_nf hZ (ow82 hw)) (ow82 hw) (ow81 hw) (ow49 hw) (ow83 hw) (by decide) (by rw [hml]; rfl) e17 opd_28 [(.ref a2)] [(.ref nb11), (.ref nb11)] rfl rfl rfl rfl (by decide) (by decide) rfl rfl (by decide) (by decide) E_nb12 (hb hby d9_24) rfl (fun v21 T21 h21 L21 X21 e21 z21 => ?_)
   obtain ⟨rfl, Nq21, K21, E_nb12', F_value_nb12', F_coder_nb12', F_count_nb12', V_nb13'⟩ := z21; have N := Fr.app N Nq21
   have sf21 : ∀ x ∈ ([nb12, nb13] : List Addr), Safe Z own_EL T16.vm h17 x := (sfS Q_nb12 (sfS Q_nb13 sf0))
   have E_nb11 := E_nb11.keep K21; have F_detailMessage_nb11 := F_detailMessage_nb11.keep K21 (ninS ne_nb11_nb12 (ninS ne_nb11_nb13 nin0)); have F_backtrace_nb11 := F_backtrace_nb11.keep K21 (ninS ne_nb11_nb12 (ninS ne_nb11_nb13 nin0)); have U_nb11 := U_nb11.keep K21 (ninS ne_nb11_nb12 (ninS ne_nb11_nb13 nin0)); have E_nb13 := E_nb13.keep K21
   have O := O.keep K21 (allS g_nb12 (allS g_nb13 all0)); have K := K.trans K21 (allS (Or.inr sz_nb12) (allS (Or.inr sz_nb13) all0)); have hk := Nat.le_trans hk K21.1; have CR := CR.trans (CHr.keep K21 sf21 CR.1)
   have V_nb13 := V_nb13'; have E_nb12 := E_nb12'; have F_value_nb12 := F_value_nb12'; have F_coder_nb12 := F_coder_nb12'; have F_count_nb12 := F_count_nb12'
   refine og_virtual (pc' := 30) (cells' := 11) (slots' := 126) (W := 2) X21 hx hZ (rm_tosG16 l Z a0 hw nb12 nb13 k13 (own_lab us ++ [58, 32] ++ ws) (own_lt16 hG hE) cs hcs h21 n0 O E_nb12 F_value_nb12 F_coder_nb12 F_count_nb12 E_nb13 V_nb13 S_CS) hown (ow127 hw) (ow128 hw) (own_nf hZ (ow130 hw)) (ow130 hw) (ow129 hw) (ow49 hw) (ow131 hw) (by decide) (by rw [hml]; rfl) e21 opd_29 [] [(.ref nb11), (.ref nb11)] rfl rfl rfl rfl (by decide) (by decide) rfl rfl (by decide) (by decide) E_nb12 (hb hby d9_27) rfl (fun v22 T22 h22 L22 X22 e22 z22 => ?_)
   obtain ⟨na22, nb22, k22, rfl, Nq22, K22, sa22, sb22, E_na22, F_value_na22, F_coder_na22, V_nb22⟩ := z22; have N := Fr.app N Nq22
   have s_na22 : h21.size ≤ na22 := sa22
   have ne_nb11_na22 : nb11 ≠ na22 := Nat.ne_of_lt (Nat.lt_of_lt_of_le E_nb11.lt s_na22)
   have s_nb22 : h21.size ≤ nb22 := sb22
   have ne_nb11_nb22 : nb11 ≠ nb22 := Nat.ne_of_lt (Nat.lt_of_lt_of_le E_nb11.lt s_nb22)
   have E_nb11 := E_nb11.keep K22; have F_detailMessage_nb11 := F_detailMessage_nb11.keep K22 nin0; have F_backtrace_nb11 := F_backtrace_nb11.keep K22 nin0; have U_nb11 := U_nb11.keep K22 nin0
   have O := O.keep K22 all0; have K := K.trans K22 all0; have hk := Nat.le_trans hk K22.1; have CR := CR.trans (CHr.keep K22 sf0 CR.1)
   refine og_specialWK (pc' := 33) (cells' := 12) (slots' := 2878) (W := 1) X22 hx hZ (rm_ie l Z a0 hw nb11 na22 hlt un hun sn hsn h22 n0 O hEL E_nb11 U_nb11 F_backtrace_nb11 S_UN S_SN g_nb11) hEL hS hk CR.1 all0 hTK hBl rfl hown (ow172 hw) (ow173 hw) (ow46 hw) (ow174 hw) (by decide) (by rw [hml]; rfl) e22 opd_16 [(.ref na22)] [(.ref nb11)] rfl rfl rfl rfl (by decide) (by decide) rfl rfl (by decide) (by decide) (hb hby d9_30) rfl (fun v23 T23 h23 L23 kk23 X23 e23 hS hk hZ hown cr23 z23 => ?_)
   obtain ⟨rfl, Nq23, K23, -, F_detailMessage_nb11⟩ := z23; have N := Fr.app N Nq23
   have E_nb11 := E_nb11.keep K23; have E_na22 := E_na22.keep K23; have F_value_na22 := F_value_na22.keep K23 (ninS (Ne.symm ne_nb11_na22) nin0); have F_coder_na22 := F_coder_na22.keep K23 (ninS (Ne.symm ne_nb11_na22) nin0); have V_nb22 := V_nb22.keep K23 (ninS (Ne.symm ne_nb11_nb22) nin0)
   have K := K.trans K23 (allS (Or.inr sz_nb11) all0); have CR := CR.trans cr23
   refine og_retRW X23 hx hZ hlk hEL hS e23 es hk CR hret rfl rfl rfl (hb hby d9_33) (by decide) (by decide) ?_
   rw [e23]; exact ⟨_, _, _, _, rfl, N, K, E_nb11, F_detailMessage_nb11, E_na22, F_value_na22, F_coder_na22, V_nb22⟩
 ·
  have hse := own_gr hu hw3 hG; rw [hse.1] at V_nb13 F_count_nb12
  refine og_virtual (pc' := 27) (cells' := 10) (slots' := 140) (W := 2) X17 hx hZ (rm_spX l Z a0 hw nb12 a2 nb13 b2 k13 k2 ws hse.2 cs hcs h17 n0 O E_nb12 F_value_nb12 F_coder_nb12 F_count_nb12 E_nb13 V_nb13 E_a2 F_value_a2 F_coder_a2 V_b2 S_CS g_nb12 g_nb13 ne_nb12_nb13 ne_a2_nb13 ne_b2_nb13 ne_a2_nb12 ne_b2_nb12) hown (ow79 hw) (ow80 hw) (own_nf hZ (ow82 hw)) (ow82 hw) (ow81 hw) (ow49 hw) (ow83 hw) (by decide) (by rw [hml]; rfl) e17 opd_28 [(.ref a2)] [(.ref nb11), (.ref nb11)] rfl rfl rfl rfl (by decide) (by decide) rfl rfl (by decide) (by decide) E_nb12 (hb hby d9_24) rfl (fun v24 T24 h24 L24 X24 e24 z24 => ?_)
  obtain ⟨nb24, k24, rfl, Nq24, K24, sb24, E_nb12', F_value_nb12', F_coder_nb12', F_count_nb12', V_nb24, E_nb24⟩ := z24; have N := Fr.app N Nq24
  have sf24 : ∀ x ∈ ([nb12, nb13] : List Addr), Safe Z own_EL T16.vm h17 x := (sfS Q_nb12 (sfS Q_nb13 sf0))
  have E_nb11 := E_nb11.keep K24; have F_detailMessage_nb11 := F_detailMessage_nb11.keep K24 (ninS ne_nb11_nb12 (ninS ne_nb11_nb13 nin0)); have F_backtrace_nb11 := F_backtrace_nb11.keep K24 (ninS ne_nb11_nb12 (ninS ne_nb11_nb13 nin0)); have U_nb11 := U_nb11.keep K24 (ninS ne_nb11_nb12 (ninS ne_nb11_nb13 nin0))
  have O := O.keep K24 (allS g_nb12 (allS g_nb13 all0)); have K := K.trans K24 (allS (Or.inr sz_nb12) (allS (Or.inr sz_nb13) all0)); have hk := Nat.le_trans hk K24.1
  have CR := CR.trans (CHr.keep K24 sf24 CR.1)
  have E_nb12 := E_nb12'; have F_value_nb12 := F_value_nb12'; have F_coder_nb12 := F_coder_nb12'; have F_count_nb12 := F_count_nb12'
  refine og_virtual (pc' := 30) (cells' := 12) (slots' := 178) (W := 2) X24 hx hZ (rm_tosG34 l Z a0 hw nb12 nb24 k24 ((([115, 116, 97, 110, 100, 97, 114, 100, 32, 105, 110, 112, 117, 116] : List Int32) ++ [58, 32]) ++ ws) (own_lt34 hw3) cs hcs h24 n0 O E_nb12 F_value_nb12 F_coder_nb12 F_count_nb12 E_nb24 V_nb24 S_CS) hown (ow127 hw) (ow128 hw) (own_nf hZ (ow130 hw)) (ow130 hw) (ow129 hw) (ow49 hw) (ow131 hw) (by decide) (by rw [hml]; rfl) e24 opd_29 [] [(.ref nb11), (.ref nb11)] rfl rfl rfl rfl (by decide) (by decide) rfl rfl (by decide) (by decide) E_nb12 (hb hby d9_27) rfl (fun v25 T25 h25 L25 X25 e25 z25 => ?_)
  obtain ⟨na25, nb25, k25, rfl, Nq25, K25, sa25, sb25, E_na25, F_value_na25, F_coder_na25, V_nb25⟩ := z25; have N := Fr.app N Nq25
  have s_na25 : h24.size ≤ na25 := sa25
  have ne_nb11_na25 : nb11 ≠ na25 := Nat.ne_of_lt (Nat.lt_of_lt_of_le E_nb11.lt s_na25)
  have s_nb25 : h24.size ≤ nb25 := sb25
  have ne_nb11_nb25 : nb11 ≠ nb25 := Nat.ne_of_lt (Nat.lt_of_lt_of_le E_nb11.lt s_nb25)
  have E_nb11 := E_nb11.keep K25; have F_detailMessage_nb11 := F_detailMessage_nb11.keep K25 nin0; have F_backtrace_nb11 := F_backtrace_nb11.keep K25 nin0; have U_nb11 := U_nb11.keep K25 nin0
  have O := O.keep K25 all0; have K := K.trans K25 all0; have hk := Nat.le_trans hk K25.1
  have CR := CR.trans (CHr.keep K25 sf0 CR.1)
  rw [← hse.1] at V_nb25
  refine og_specialWK (pc' := 33) (cells' := 13) (slots' := 2930) (W := 1) X25 hx hZ (rm_ie l Z a0 hw nb11 na25 hlt un hun sn hsn h25 n0 O hEL E_nb11 U_nb11 F_backtrace_nb11 S_UN S_SN g_nb11) hEL hS hk CR.1 all0 hTK hBl rfl hown (ow172 hw) (ow173 hw) (ow46 hw) (ow174 hw) (by decide) (by rw [hml]; rfl) e25 opd_16 [(.ref na25)] [(.ref nb11)] rfl rfl rfl rfl (by decide) (by decide) rfl rfl (by decide) (by decide) (hb hby d9_30) rfl (fun v26 T26 h26 L26 kk26 X26 e26 hS hk hZ hown cr26 z26 => ?_)
  obtain ⟨rfl, Nq26, K26, -, F_detailMessage_nb11⟩ := z26; have N := Fr.app N Nq26
  have E_nb11 := E_nb11.keep K26; have E_na25 := E_na25.keep K26; have F_value_na25 := F_value_na25.keep K26 (ninS (Ne.symm ne_nb11_na25) nin0); have F_coder_na25 := F_coder_na25.keep K26 (ninS (Ne.symm ne_nb11_na25) nin0); have V_nb25 := V_nb25.keep K26 (ninS (Ne.symm ne_nb11_nb25) nin0)
  have K := K.trans K26 (allS (Or.inr sz_nb11) all0); have CR := CR.trans cr26
  refine og_retRW X26 hx hZ hlk hEL hS e26 es hk CR hret rfl rfl rfl (hb hby d9_33) (by decide) (by decide) ?_
  rw [e26]; exact ⟨_, _, _, _, rfl, N, K, E_nb11, F_detailMessage_nb11, E_na25, F_value_na25, F_coder_na25, V_nb25⟩
theorem rm_gm (l : Launch) (Z : State) (a0 : Array Value) (hw : HW a0 Z) (e1 mr : Addr) (h0 : Heap) (n0 : Nat) (O : Old Z n0 h0) (F_detailMessage_e1 : Fld Z h0 e1 "java/lang/Throwable" "detailMessage" "Ljava/lang/String;" (.ref mr)) :
  Con l Z (⟨"java/lang/Throwable", "getMessage", "()Ljava/lang/String;"⟩ : MethodName) jdk_78_method_6_code 1 (some (.object "java/lang/String")) ({ frames := 0, cells := 0, slots := 0, locals := 0 } : Room) #[(.ref e1)] h0 (fun v h L => v = some (.ref mr) ∧ Fr n0 L ∧ h = h0) := by
 refine own_startC opn_39 ?_
 intro p e s m below meth c T0 X0 hx hby hml hZ hown hnm hret hlk e0
 have N := Fr.nil n0
 refine OG.cast (oef7 m e1) ?_
 refine og_aloadN X0 hx rfl rfl (hb hby d39_0) rfl ?_
 refine og_getfield X0 hx hZ (host := "") hown (Or.inl (ow222 hw)) Via.refl e0 F_detailMessage_e1 (hb hby d39_1) rfl (fun T11 X11 e11 => ?_)
 refine og_retR X11 hx hlk hret rfl rfl rfl (hb hby d39_4) (by decide) (by decide) ?_
 rw [e11]; exact ⟨rfl, N, rfl⟩
theorem rm_pk (l : Launch) (Z : State) (a0 : Array Value) (hw : HW a0 Z) (la fa : Addr) (ka kf : ClassId) (ls fs : List Int32) (ii ll : Int32) (hi : 0 ≤ ii.toInt) (hll : 0 ≤ ll.toInt ∧ ll.toInt ≤ ls.length ∧ ls.length ≤ 14) (hfs : fs.length ≤ 3) (hil : ii.toInt < ll.toInt + 2 + fs.length) (cc : Int32) (hr : own_pk ls fs ll ii = cc) (hcc : 0 ≤ cc.toInt ∧ cc.toInt ≤ 255) (h0 : Heap) (n0 : Nat) (O : Old Z n0 h0) (V_la : Arv Z h0 la ka .char (Int32.ofNat (ls).length) ((ls).map Value.int) (.int 0)) (V_fa : Arv Z h0 fa kf .char (Int32.ofNat (fs).length) ((fs).map Value.int) (.int 0)) :
  Con l Z (⟨"com/example/stablebid/stablebid/cli/InputFileRefusalPinLaw", "pick", "(I[CI[C)C"⟩ : MethodName) method_5_code 4 (some .char) ({ frames := 0, cells := 0, slots := 0, locals := 0 } : Room) #[(.int ii), (.ref la), (.int ll), (.ref fa)] h0 (fun v h L => v = some (.int cc) ∧ Fr n0 L ∧ h = h0) := by
 refine own_startC opn_46 ?_
 intro p e s m below meth c T0 X0 hx hby hml hZ hown hnm hret hlk e0
 have N := Fr.nil n0
 refine OG.cast (oef19 m ii la ll fa) ?_
 refine og_iloadN X0 hx rfl (hb hby d46_0) rfl ?_
 refine og_iloadN X0 hx rfl (hb hby d46_1) rfl ?_
 refine og_icmp_ge (pc1 := 9) (pc2 := 5) X0 hx (hb hby d46_2) (by decide) (by decide) rfl (fun hc2 => ?_) (fun hc2 => ?_)
 ·
  refine og_iloadN X0 hx rfl (hb hby d46_9) rfl ?_
  refine og_iloadN X0 hx rfl (hb hby d46_10) rfl ?_
  refine og_icmp_ne (pc1 := 17) (pc2 := 14) X0 hx (hb hby d46_11) (by decide) (by decide) rfl (fun hc11 => ?_) (fun hc11 => ?_)
  ·
   refine og_iloadN X0 hx rfl (hb hby d46_17) rfl ?_
   refine og_iloadN X0 hx rfl (hb hby d46_18) rfl ?_
   refine og_iconst (v := 1) X0 hx rfl (hb hby d46_19) rfl ?_
   refine og_iadd X0 hx (hb hby d46_20) rfl ?_
   refine og_icmp_ne (pc1 := 27) (pc2 := 24) X0 hx (hb hby d46_21) (by decide) (by decide) rfl (fun hc21 => ?_) (fun hc21 => ?_)
   ·
    refine og_aloadN X0 hx rfl rfl (hb hby d46_27) rfl ?_
    refine og_iloadN X0 hx rfl (hb hby d46_28) rfl ?_
    refine og_iloadN X0 hx rfl (hb hby d46_29) rfl ?_
    refine og_isub X0 hx (hb hby d46_30) rfl ?_
    refine og_iconst (v := 2) X0 hx rfl (hb hby d46_31) rfl ?_
    refine og_isub X0 hx (hb hby d46_32) rfl ?_
    refine og_caload (v := (.int (fs.getD ((ii - ll) - (2 : Int32)).toNatClampNeg 0))) X0 hx hZ e0 V_fa (own_kb hi hll hfs hil hc2 hc11 hc21) (own_gd fs _) (hb hby d46_33) rfl ?_
    refine og_retN X0 hx hlk hret (by simp) (hb hby d46_34) (by decide) (by decide) ?_
    rw [e0]; refine ⟨?_, N, rfl⟩
    have hv : own_pk ls fs ll ii = (fs.getD ((ii - ll) - (2 : Int32)).toNatClampNeg 0) := by unfold own_pk; rw [if_neg hc2, if_neg hc11, if_neg hc21]
    rw [← hv, hr, own_nc hcc]
   ·
    refine og_bipush (v := 32) X0 hx rfl (hb hby d46_24) rfl ?_
    refine og_retN X0 hx hlk hret (by simp) (hb hby d46_26) (by decide) (by decide) ?_
    rw [e0]; refine ⟨?_, N, rfl⟩
    have hv : own_pk ls fs ll ii = (32 : Int32) := by unfold own_pk; rw [if_neg hc2, if_neg hc11, if_pos hc21]
    rw [← hv, hr, own_nc hcc]
  ·
   refine og_bipush (v := 58) X0 hx rfl (hb hby d46_14) rfl ?_
   refine og_retN X0 hx hlk hret (by simp) (hb hby d46_16) (by decide) (by decide) ?_
   rw [e0]; refine ⟨?_, N, rfl⟩
   have hv : own_pk ls fs ll ii = (58 : Int32) := by unfold own_pk; rw [if_neg hc2, if_pos hc11]
   rw [← hv, hr, own_nc hcc]
 ·
  refine og_aloadN X0 hx rfl rfl (hb hby d46_5) rfl ?_
  refine og_iloadN X0 hx rfl (hb hby d46_6) rfl ?_
  refine og_caload (v := (.int (ls.getD ii.toNatClampNeg 0))) X0 hx hZ e0 V_la (own_ka hi hll hc2) (own_gd ls _) (hb hby d46_7) rfl ?_
  refine og_retN X0 hx hlk hret (by simp) (hb hby d46_8) (by decide) (by decide) ?_
  rw [e0]; refine ⟨?_, N, rfl⟩
  have hv : own_pk ls fs ll ii = (ls.getD ii.toNatClampNeg 0) := by unfold own_pk; rw [if_pos hc2]
  rw [← hv, hr, own_nc hcc]
theorem rm_eqq (l : Launch) (Z : State) (a0 : Array Value) (hw : HW a0 Z) (la fa : Addr) (ka kf : ClassId) (ls fs : List Int32) (ii ll : Int32) (hi : 0 ≤ ii.toInt) (a1 ba : Addr) (kb : ClassId) (ms : List Int32) (tt : Int32) (htt : tt = (Int32.ofNat (ms).length)) (hms : ms.length ≤ 19) (hspec : own_spec ms ls fs ll)  (cs : Int32) (hcs : ¬ cs = 0) (fm : Value) (hfm : fm.isRef = true) (h0 : Heap) (n0 : Nat) (O : Old Z n0 h0) (E_a1 : Exa Z h0 a1 "java/lang/String") (F_value_a1 : Fld Z h0 a1 "java/lang/String" "value" "[B" (.ref ba)) (F_coder_a1 : Fld Z h0 a1 "java/lang/String" "coder" "B" (.int 0)) (V_ba : Arv Z h0 ba kb .byte (Int32.ofNat (ms).length) ((ms).map Value.int) (.int 0)) (V_la : Arv Z h0 la ka .char (Int32.ofNat (ls).length) ((ls).map Value.int) (.int 0)) (V_fa : Arv Z h0 fa kf .char (Int32.ofNat (fs).length) ((fs).map Value.int) (.int 0)) (S_CS : Sta Z Z.heap "java/lang/String" "COMPACT_STRINGS" "Z" (.int cs)) (S_FM : Sta Z Z.heap "jdk/internal/util/Preconditions" "SIOOBE_FORMATTER" "Ljava/util/function/BiFunction;" fm) :
  Con l Z (⟨"com/example/stablebid/stablebid/cli/InputFileRefusalPinLaw", "eq", "(Ljava/lang/String;II[CI[C)Z"⟩ : MethodName) method_6_code 6 (some .boolean) ({ frames := 4, cells := 0, slots := 0, locals := 53 } : Room) #[(.ref a1), (.int ii), (.int tt), (.ref la), (.int ll), (.ref fa)] h0 (fun v h L => v = some (.int 1) ∧ Fr n0 L ∧ h = h0) := by
 refine own_startC opn_40 ?_
 intro p e s m below meth c T0 X0 hx hby hml hZ hown hnm hret hlk e0
 have N := Fr.nil n0
 refine OG.cast (oef20 m a1 ii tt la ll fa) ?_
 refine og_iloadN X0 hx rfl (hb hby d40_0) rfl ?_
 refine og_iloadN X0 hx rfl (hb hby d40_1) rfl ?_
 refine og_icmp_ge (pc1 := 22) (pc2 := 5) X0 hx (hb hby d40_2) (by decide) (by decide) rfl (fun hc2 => ?_) (fun hc2 => ?_)
 ·
  refine og_iconst (v := 1) X0 hx rfl (hb hby d40_22) rfl ?_
  refine og_goto (pc' := 27) X0 hx (hb hby d40_23) (by decide) (by decide) ?_
  refine og_retN X0 hx hlk hret (by simp) (hb hby d40_27) (by decide) (by decide) ?_
  rw [e0]; exact ⟨rfl, N, rfl⟩
 ·
  have hlt : ii < (Int32.ofNat (ms).length) := by rw [← htt]; exact hc2
  obtain ⟨cc, hr⟩ : ∃ z, own_pk ls fs ll ii = z := ⟨_, rfl⟩
  obtain ⟨hcc, hcv, hil⟩ := own_sp hspec hi hms hlt hr
  refine og_aloadN X0 hx rfl rfl (hb hby d40_5) rfl ?_
  refine og_iloadN X0 hx rfl (hb hby d40_6) rfl ?_
  refine og_virtual (pc' := 10) (cells' := 0) (slots' := 0) (W := 0) X0 hx hZ (rm_ch l Z a0 hw a1 ba kb (Int32.ofNat (ms).length) ii ⟨own_i0 hi, hlt⟩ _ cc hcv hcc cs hcs fm hfm h0 n0 O E_a1 F_value_a1 F_coder_a1 V_ba S_CS S_FM) hown (ow233 hw) (ow234 hw) (own_nf hZ (ow236 hw)) (ow236 hw) (ow235 hw) (ow9 hw) (ow237 hw) (by decide) (by rw [hml]; rfl) e0 opd_30 [(.int ii)] [] rfl rfl rfl rfl (by decide) (by decide) rfl rfl (by decide) (by decide) E_a1 (hb hby d40_7) rfl (fun v11 T11 h11 L11 X11 e11 z11 => ?_)
  obtain ⟨rfl, Nq11, hq11⟩ := z11; replace e11 := e11.trans hq11; have N := Fr.app N Nq11
  refine og_iloadN X11 hx rfl (hb hby d40_10) rfl ?_
  refine og_aloadN X11 hx rfl rfl (hb hby d40_11) rfl ?_
  refine og_iload X11 hx rfl (hb hby d40_12) rfl ?_
  refine og_aload X11 hx rfl rfl (hb hby d40_14) rfl ?_
  refine og_static (pc' := 19) (cells' := 0) (slots' := 0) (W := 1) X11 hx hZ (rm_pk l Z a0 hw la fa ka kf ls fs ii ll hi hspec.1 hspec.2.1 hil cc hr hcc h0 n0 O V_la V_fa) hown (ow254 hw) (ow255 hw) (ow2 hw) (ow256 hw) (by decide) (by rw [hml]; rfl) e11 opd_31 [(.int ii), (.ref la), (.int ll), (.ref fa)] [(.int cc)] rfl rfl rfl rfl (by decide) (by decide) rfl rfl (by decide) (by decide) (hb hby d40_16) rfl (fun v12 T12 h12 L12 X12 e12 z12 => ?_)
  obtain ⟨rfl, Nq12, hq12⟩ := z12; replace e12 := e12.trans hq12; have N := Fr.app N Nq12
  refine og_icmp_ne (pc1 := 26) (pc2 := 22) X12 hx (hb hby d40_19) (by decide) (by decide) rfl (fun q => absurd rfl q) (fun _ => ?_)
  refine og_iconst (v := 1) X12 hx rfl (hb hby d40_22) rfl ?_
  refine og_goto (pc' := 27) X12 hx (hb hby d40_23) (by decide) (by decide) ?_
  refine og_retN X12 hx hlk hret (by simp) (hb hby d40_27) (by decide) (by decide) ?_
  rw [e12]; exact ⟨rfl, N, rfl⟩
theorem rm0 (l : Launch) (Z : State) (a0 : Array Value) (hw : HW a0 Z) (ws : List Jvm.Cond) (p0 p1 : Int32) (hlt : l.stackTraces = true) (un : Value) (hun : un.isRef = true) (sn : Value) (hsn : sn.isRef = true) (cs : Int32) (hcs : ¬ cs = 0) (fm : Value) (hfm : fm.isRef = true) (h0 : Heap) (n0 : Nat) (O : Old Z n0 h0) (hEL : EW Z a0 own_EL) (S_UN : Sta Z Z.heap "java/lang/Throwable" "UNASSIGNED_STACK" "[Ljava/lang/StackTraceElement;" un) (S_SN : Sta Z Z.heap "java/lang/Throwable" "SUPPRESSED_SENTINEL" "Ljava/util/List;" sn) (S_CS : Sta Z Z.heap "java/lang/String" "COMPACT_STRINGS" "Z" (.int cs)) (S_FM : Sta Z Z.heap "jdk/internal/util/Preconditions" "SIOOBE_FORMATTER" "Ljava/util/function/BiFunction;" fm) :
  MetFree l x (head1 (Jvm.Cond.code x code maxLocals ret :: ws) room_1) (fun a U => a = #[(.int p0), (.int p1)] ∧ Z.Warmed39 U.vm ∧ U.heap = h0 ∧ CHv Z own_EL U.vm h0 ∧ ∀ x ∈ ([] : List Addr), Safe Z own_EL U.vm h0 x) (fun _ _ _ s _ => Jvm.D.framesKnown s = true ∧ Jvm.D.tablesKnown s = true) (fun _ U o U' => ∃ v L, o = .returned v ∧ (fun v h L => v = some (.int 1) ∧ Fr n0 L) v U'.heap L ∧ CHr Z own_EL U.vm U.heap U'.vm U'.heap ∧ ReturnedEndW U o U' L 48 9920) := by
 refine own_startWLK (Q := fun v h L => v = some (.int 1) ∧ Fr n0 L) opn_0 ?_
 intro p e s m below meth c T0 X0 hx hby hml hZ hown hnm hret hlk e0 es hS CR hsf hTK hBl
 have N := Fr.nil n0; have K := Keep.refl h0 []; have hk := Nat.le_refl h0.size
 refine OG.cast (oef21 m p0 p1) ?_
 refine og_iloadN X0 hx rfl (hb hby at_0) rfl ?_
 refine og_iconst (v := 3) X0 hx rfl (hb hby at_1) rfl ?_
 refine og_iand X0 hx (hb hby at_2) rfl ?_
 refine og_istoreN (L' := #[.val (.int p0), .val (.int p1), .val (.int (p0 &&& (3 : Int32))), .unset, .unset, .unset, .unset, .unset, .unset, .unset, .unset, .unset, .unset, .unset, .unset, .unset, .unset, .unset, .unset]) X0 hx rfl (hb hby at_3) rfl ?_
 refine og_iloadN X0 hx rfl (hb hby at_4) rfl ?_
 refine og_iconst (v := 2) X0 hx rfl (hb hby at_5) rfl ?_
 refine og_iushr X0 hx (hb hby at_6) rfl ?_
 refine og_static (pc' := 10) (cells' := 0) (slots' := 0) (W := 0) X0 hx hZ (rm_nc l Z a0 hw ((p0.toUInt32 >>> ((2 : Int32) &&& 31).toUInt32).toInt32) h0 n0 O) hown (ow0 hw) (ow1 hw) (ow2 hw) (ow3 hw) (by decide) (by rw [hml]; rfl) e0 opd_30 [(.int ((p0.toUInt32 >>> ((2 : Int32) &&& 31).toUInt32).toInt32))] [] rfl rfl rfl rfl (by decide) (by decide) rfl rfl (by decide) (by decide) (hb hby at_7) rfl (fun v11 T11 h11 L11 X11 e11 z11 => ?_)
 obtain ⟨c0, rfl, Nq11, hq11, hc0⟩ := z11; replace e11 := e11.trans hq11; have N := Fr.app N Nq11
 refine og_istoreN (L' := #[.val (.int p0), .val (.int p1), .val (.int (p0 &&& (3 : Int32))), .val (.int c0), .unset, .unset, .unset, .unset, .unset, .unset, .unset, .unset, .unset, .unset, .unset, .unset, .unset, .unset, .unset]) X11 hx rfl (hb hby at_10) rfl ?_
 refine og_iloadN X11 hx rfl (hb hby at_11) rfl ?_
 refine og_bipush (v := 11) X11 hx rfl (hb hby at_12) rfl ?_
 refine og_iushr X11 hx (hb hby at_14) rfl ?_
 refine og_static (pc' := 18) (cells' := 0) (slots' := 0) (W := 0) X11 hx hZ (rm_nc l Z a0 hw ((p0.toUInt32 >>> ((11 : Int32) &&& 31).toUInt32).toInt32) h0 n0 O) hown (ow0 hw) (ow1 hw) (ow2 hw) (ow3 hw) (by decide) (by rw [hml]; rfl) e11 opd_30 [(.int ((p0.toUInt32 >>> ((11 : Int32) &&& 31).toUInt32).toInt32))] [] rfl rfl rfl rfl (by decide) (by decide) rfl rfl (by decide) (by decide) (hb hby at_15) rfl (fun v12 T12 h12 L12 X12 e12 z12 => ?_)
 obtain ⟨c1, rfl, Nq12, hq12, hc1⟩ := z12; replace e12 := e12.trans hq12; have N := Fr.app N Nq12
 refine og_istore (L' := #[.val (.int p0), .val (.int p1), .val (.int (p0 &&& (3 : Int32))), .val (.int c0), .val (.int c1), .unset, .unset, .unset, .unset, .unset, .unset, .unset, .unset, .unset, .unset, .unset, .unset, .unset, .unset]) X12 hx rfl (hb hby at_18) rfl ?_
 refine og_iloadN X12 hx rfl (hb hby at_20) rfl ?_
 refine og_bipush (v := 20) X12 hx rfl (hb hby at_21) rfl ?_
 refine og_iushr X12 hx (hb hby at_23) rfl ?_
 refine og_static (pc' := 27) (cells' := 0) (slots' := 0) (W := 0) X12 hx hZ (rm_nc l Z a0 hw ((p0.toUInt32 >>> ((20 : Int32) &&& 31).toUInt32).toInt32) h0 n0 O) hown (ow0 hw) (ow1 hw) (ow2 hw) (ow3 hw) (by decide) (by rw [hml]; rfl) e12 opd_30 [(.int ((p0.toUInt32 >>> ((20 : Int32) &&& 31).toUInt32).toInt32))] [] rfl rfl rfl rfl (by decide) (by decide) rfl rfl (by decide) (by decide) (hb hby at_24) rfl (fun v13 T13 h13 L13 X13 e13 z13 => ?_)
 obtain ⟨c2, rfl, Nq13, hq13, hc2⟩ := z13; replace e13 := e13.trans hq13; have N := Fr.app N Nq13
 refine og_istore (L' := #[.val (.int p0), .val (.int p1), .val (.int (p0 &&& (3 : Int32))), .val (.int c0), .val (.int c1), .val (.int c2), .unset, .unset, .unset, .unset, .unset, .unset, .unset, .unset, .unset, .unset, .unset, .unset, .unset]) X13 hx rfl (hb hby at_27) rfl ?_
 refine og_iloadN X13 hx rfl (hb hby at_29) rfl ?_
 refine og_iconst (v := 3) X13 hx rfl (hb hby at_30) rfl ?_
 refine og_iand X13 hx (hb hby at_31) rfl ?_
 refine og_istore (L' := #[.val (.int p0), .val (.int p1), .val (.int (p0 &&& (3 : Int32))), .val (.int c0), .val (.int c1), .val (.int c2), .val (.int (p1 &&& (3 : Int32))), .unset, .unset, .unset, .unset, .unset, .unset, .unset, .unset, .unset, .unset, .unset, .unset]) X13 hx rfl (hb hby at_32) rfl ?_
 refine og_iloadN X13 hx rfl (hb hby at_34) rfl ?_
 refine og_iconst (v := 2) X13 hx rfl (hb hby at_35) rfl ?_
 refine og_iushr X13 hx (hb hby at_36) rfl ?_
 refine og_sipush (v := 255) X13 hx rfl (hb hby at_37) rfl ?_
 refine og_iand X13 hx (hb hby at_40) rfl ?_
 refine og_i2c X13 hx (hb hby at_41) rfl ?_
 refine og_istore (L' := #[.val (.int p0), .val (.int p1), .val (.int (p0 &&& (3 : Int32))), .val (.int c0), .val (.int c1), .val (.int c2), .val (.int (p1 &&& (3 : Int32))), .val (.int ((((p1.toUInt32 >>> ((2 : Int32) &&& 31).toUInt32).toInt32) &&& (255 : Int32)).toUInt32.toUInt16.toUInt32.toInt32)), .unset, .unset, .unset, .unset, .unset, .unset, .unset, .unset, .unset, .unset, .unset]) X13 hx rfl (hb hby at_42) rfl ?_
 refine og_iloadN X13 hx rfl (hb hby at_44) rfl ?_
 refine og_bipush (v := 10) X13 hx rfl (hb hby at_45) rfl ?_
 refine og_iushr X13 hx (hb hby at_47) rfl ?_
 refine og_sipush (v := 255) X13 hx rfl (hb hby at_48) rfl ?_
 refine og_iand X13 hx (hb hby at_51) rfl ?_
 refine og_i2c X13 hx (hb hby at_52) rfl ?_
 refine og_istore (L' := #[.val (.int p0), .val (.int p1), .val (.int (p0 &&& (3 : Int32))), .val (.int c0), .val (.int c1), .val (.int c2), .val (.int (p1 &&& (3 : Int32))), .val (.int ((((p1.toUInt32 >>> ((2 : Int32) &&& 31).toUInt32).toInt32) &&& (255 : Int32)).toUInt32.toUInt16.toUInt32.toInt32)), .val (.int ((((p1.toUInt32 >>> ((10 : Int32) &&& 31).toUInt32).toInt32) &&& (255 : Int32)).toUInt32.toUInt16.toUInt32.toInt32)), .unset, .unset, .unset, .unset, .unset, .unset, .unset, .unset, .unset, .unset]) X13 hx rfl (hb hby at_53) rfl ?_
 refine og_iloadN X13 hx rfl (hb hby at_55) rfl ?_
 refine og_bipush (v := 18) X13 hx rfl (hb hby at_56) rfl ?_
 refine og_iushr X13 hx (hb hby at_58) rfl ?_
 refine og_sipush (v := 255) X13 hx rfl (hb hby at_59) rfl ?_
 refine og_iand X13 hx (hb hby at_62) rfl ?_
 refine og_i2c X13 hx (hb hby at_63) rfl ?_
 refine og_istore (L' := #[.val (.int p0), .val (.int p1), .val (.int (p0 &&& (3 : Int32))), .val (.int c0), .val (.int c1), .val (.int c2), .val (.int (p1 &&& (3 : Int32))), .val (.int ((((p1.toUInt32 >>> ((2 : Int32) &&& 31).toUInt32).toInt32) &&& (255 : Int32)).toUInt32.toUInt16.toUInt32.toInt32)), .val (.int ((((p1.toUInt32 >>> ((10 : Int32) &&& 31).toUInt32).toInt32) &&& (255 : Int32)).toUInt32.toUInt16.toUInt32.toInt32)), .val (.int ((((p1.toUInt32 >>> ((18 : Int32) &&& 31).toUInt32).toInt32) &&& (255 : Int32)).toUInt32.toUInt16.toUInt32.toInt32)), .unset, .unset, .unset, .unset, .unset, .unset, .unset, .unset, .unset]) X13 hx rfl (hb hby at_64) rfl ?_
 obtain ⟨f0, h_f0⟩ : ∃ z, z = ((((p1.toUInt32 >>> ((2 : Int32) &&& 31).toUInt32).toInt32) &&& (255 : Int32)).toUInt32.toUInt16.toUInt32.toInt32) := ⟨_, rfl⟩
 rw [← h_f0]
 have hf0 := own_fch h_f0
 obtain ⟨f1, h_f1⟩ : ∃ z, z = ((((p1.toUInt32 >>> ((10 : Int32) &&& 31).toUInt32).toInt32) &&& (255 : Int32)).toUInt32.toUInt16.toUInt32.toInt32) := ⟨_, rfl⟩
 rw [← h_f1]
 have hf1 := own_fch h_f1
 obtain ⟨f2, h_f2⟩ : ∃ z, z = ((((p1.toUInt32 >>> ((18 : Int32) &&& 31).toUInt32).toInt32) &&& (255 : Int32)).toUInt32.toUInt16.toUInt32.toInt32) := ⟨_, rfl⟩
 rw [← h_f2]
 have hf2 := own_fch h_f2
 obtain ⟨nn, h_nn⟩ : ∃ z, z = (p0 &&& (3 : Int32)) := ⟨_, rfl⟩
 rw [← h_nn]
 have hnn := own_m3 h_nn
 obtain ⟨kk, h_kk⟩ : ∃ z, z = (p1 &&& (3 : Int32)) := ⟨_, rfl⟩
 rw [← h_kk]
 have hkk := own_m3 h_kk
 refine og_iloadN X13 hx rfl (hb hby at_66) rfl ?_
 refine og_iloadN X13 hx rfl (hb hby at_67) rfl ?_
 refine og_iload X13 hx rfl (hb hby at_68) rfl ?_
 refine og_iload X13 hx rfl (hb hby at_70) rfl ?_
 refine og_staticW (pc' := 75) (cells' := 6) (slots' := 12) (W := 0) X13 hx hZ (rm_str l Z a0 hw nn hnn c0 c1 c2 hc0 hc1 hc2 cs hcs h0 n0 O hEL S_CS) hEL hS hk CR.1 all0 hown (ow4 hw) (ow5 hw) (ow2 hw) (ow6 hw) (by decide) (by rw [hml]; rfl) e13 opd_32 [(.int nn), (.int c0), (.int c1), (.int c2)] [] rfl rfl rfl rfl (by decide) (by decide) rfl rfl (by decide) (by decide) (hb hby at_72) rfl (fun v14 T14 h14 L14 kk14 X14 e14 hS hk hZ hown cr14 z14 => ?_)
 obtain ⟨na14, nb14, k14, rfl, Nq14, K14, E_na14, F_value_na14, F_coder_na14, V_nb14⟩ := z14; have N := Fr.app N Nq14
 have O := O.keep K14 all0; have K := K.trans K14 all0; have CR := CR.trans cr14
 refine og_astore (L' := #[.val (.int p0), .val (.int p1), .val (.int nn), .val (.int c0), .val (.int c1), .val (.int c2), .val (.int kk), .val (.int f0), .val (.int f1), .val (.int f2), .val (.ref na14), .unset, .unset, .unset, .unset, .unset, .unset, .unset, .unset]) X14 hx rfl rfl (hb hby at_75) rfl ?_
 refine og_iload X14 hx rfl (hb hby at_77) rfl ?_
 refine og_iload X14 hx rfl (hb hby at_79) rfl ?_
 refine og_iload X14 hx rfl (hb hby at_81) rfl ?_
 refine og_iload X14 hx rfl (hb hby at_83) rfl ?_
 refine og_staticW (pc' := 88) (cells' := 12) (slots' := 24) (W := 0) X14 hx hZ (rm_str l Z a0 hw kk hkk f0 f1 f2 hf0 hf1 hf2 cs hcs h14 n0 O hEL S_CS) hEL hS hk CR.1 all0 hown (ow4 hw) (ow5 hw) (ow2 hw) (ow6 hw) (by decide) (by rw [hml]; rfl) e14 opd_32 [(.int kk), (.int f0), (.int f1), (.int f2)] [] rfl rfl rfl rfl (by decide) (by decide) rfl rfl (by decide) (by decide) (hb hby at_85) rfl (fun v15 T15 h15 L15 kk15 X15 e15 hS hk hZ hown cr15 z15 => ?_)
 obtain ⟨na15, nb15, k15, rfl, Nq15, K15, E_na15, F_value_na15, F_coder_na15, V_nb15⟩ := z15; have N := Fr.app N Nq15
 have E_na14 := E_na14.keep K15; have F_value_na14 := F_value_na14.keep K15 nin0; have F_coder_na14 := F_coder_na14.keep K15 nin0; have V_nb14 := V_nb14.keep K15 nin0; have O := O.keep K15 all0; have K := K.trans K15 all0
 have CR := CR.trans cr15
 refine og_astore (L' := #[.val (.int p0), .val (.int p1), .val (.int nn), .val (.int c0), .val (.int c1), .val (.int c2), .val (.int kk), .val (.int f0), .val (.int f1), .val (.int f2), .val (.ref na14), .val (.ref na15), .unset, .unset, .unset, .unset, .unset, .unset, .unset]) X15 hx rfl rfl (hb hby at_88) rfl ?_
 have J226 : ∀ (T16 : State) (h16 : Heap) (l16 : List Loc) (vm16 : Vm) (kk16 : Nat) (hS : s.Since vm16 kk16) (hk : kk16 ≤ h16.size) (hZ : Z.Warmed39 vm16) (hown : vm16.findClass "com/example/stablebid/stablebid/cli/InputFileRefusalPinLaw" = some m.cls) (CR : CHr Z own_EL s.vm h0 vm16 h16) (X16 : Stand p l e room_1 (s.setVm vm16) m #[(.int p0), (.int p1)] below meth c T16 l16 13 38) (e16 : T16.heap = h16) (N : Fr n0 l16) (O : Old Z n0 h16) (K : Keep h0 h16 []) (sl12 : Slot) (la : Addr) (ka : ClassId) (ls : List Int32) (ll : Int32) (hL : own_lsp (own_dr nn c0 c1 c2) ls ll) (E_na14 : Exa Z h16 na14 "java/lang/String") (F_value_na14 : Fld Z h16 na14 "java/lang/String" "value" "[B" (.ref nb14)) (F_coder_na14 : Fld Z h16 na14 "java/lang/String" "coder" "B" (.int 0)) (V_nb14 : Arv Z h16 nb14 k14 .byte (Int32.ofNat (own_dr nn c0 c1 c2).length) ((own_dr nn c0 c1 c2).map Value.int) (.int 0)) (E_na15 : Exa Z h16 na15 "java/lang/String") (F_value_na15 : Fld Z h16 na15 "java/lang/String" "value" "[B" (.ref nb15)) (F_coder_na15 : Fld Z h16 na15 "java/lang/String" "coder" "B" (.int 0)) (V_nb15 : Arv Z h16 nb15 k15 .byte (Int32.ofNat (own_dr kk f0 f1 f2).length) ((own_dr kk f0 f1 f2).map Value.int) (.int 0)) (V_la : Arv Z h16 la ka .char (Int32.ofNat (ls).length) ((ls).map Value.int) (.int 0)), OG p e below (FinW s Z own_EL (fun v h L => v = some (.int 1) ∧ Fr n0 L) 48 9920) (T16.setTop (mkF m 226 #[.val (.int p0), .val (.int p1), .val (.int nn), .val (.int c0), .val (.int c1), .val (.int c2), .val (.int kk), .val (.int f0), .val (.int f1), .val (.int f2), .val (.ref na14), .val (.ref na15), sl12, .val (.ref la), .val (.int ll), .unset, .unset, .unset, .unset] [])) := by
  intro T16 h16 l16 vm16 kk16 hS hk hZ hown CR X16 e16 N O K sl12 la ka ls ll hL E_na14 F_value_na14 F_coder_na14 V_nb14 E_na15 F_value_na15 F_coder_na15 V_nb15 V_la
  refine og_iconst (v := 3) X16 hx rfl (hb hby at_226) rfl ?_
  refine og_newarray (pc' := 229) (cells' := 14) (slots' := 41) (cap := 3) (ty := .char) X16 hx hZ rfl (ow10 hw) e16 (by decide) (by decide) (by decide) (hb hby at_227) rfl rfl rfl (by decide) (by decide) (fun T17 h17 nb17 kA17 X17 e17 E17 q17 V_nb17 => ?_)
  have s_nb17 : h16.size ≤ nb17 := Nat.le_of_eq q17.symm; have g_nb17 : n0 ≤ nb17 := Nat.le_trans (own_n0 O) s_nb17; have ne_na14_nb17 : na14 ≠ nb17 := Nat.ne_of_lt (Nat.lt_of_lt_of_le E_na14.lt s_nb17); have ne_nb14_nb17 : nb14 ≠ nb17 := Nat.ne_of_lt (Nat.lt_of_lt_of_le V_nb14.lt s_nb17); have ne_na15_nb17 : na15 ≠ nb17 := Nat.ne_of_lt (Nat.lt_of_lt_of_le E_na15.lt s_nb17)
  have ne_nb15_nb17 : nb15 ≠ nb17 := Nat.ne_of_lt (Nat.lt_of_lt_of_le V_nb15.lt s_nb17); have ne_la_nb17 : la ≠ nb17 := Nat.ne_of_lt (Nat.lt_of_lt_of_le V_la.lt s_nb17); have Q_nb17 : Safe Z own_EL _ _ nb17 := Safe.new (Z := Z) (EL := own_EL) (vm := vm16) s_nb17
  have Q_nb17 := Safe.ext E17 CR.1 Q_nb17; have E_na14 := E_na14.ext E17; have F_value_na14 := F_value_na14.ext E17; have F_coder_na14 := F_coder_na14.ext E17; have V_nb14 := V_nb14.ext E17; have E_na15 := E_na15.ext E17
  have F_value_na15 := F_value_na15.ext E17; have F_coder_na15 := F_coder_na15.ext E17; have V_nb15 := V_nb15.ext E17; have V_la := V_la.ext E17; have O := O.ext E17
  have hk := Nat.le_trans hk E17.1; have CR := CR.trans (CHr.ext E17 CR.1)
  have V_nb17 : Arv Z h17 nb17 kA17 .char (3 : Int32) [(.int 0), (.int 0), (.int 0)] (.int 0) := V_nb17.pad (pad_rep [] (.int 0) 3)
  refine og_dup X17 hx rfl (hb hby at_229) rfl ?_
  refine og_iconst (v := 0) X17 hx rfl (hb hby at_230) rfl ?_
  refine og_iload X17 hx rfl (hb hby at_231) rfl ?_
  refine og_castore X17 hx hZ e17 V_nb17 ⟨by decide, by decide⟩ 0 (by decide) (Nat.le_of_ble_eq_true rfl) (hb hby at_233) rfl (fun T18 h18 X18 e18 W18 V18 => ?_)
  have sf18 : Safe Z own_EL vm16 h17 nb17 := Q_nb17; have Q_nb17 := Safe.wr W18 sf18 CR.1 Q_nb17; have E_na14 := E_na14.wr W18; have F_value_na14 := F_value_na14.other W18 (Or.inl ne_na14_nb17); have F_coder_na14 := F_coder_na14.other W18 (Or.inl ne_na14_nb17); have V_nb14 := V_nb14.other W18 ne_nb14_nb17
  have E_na15 := E_na15.wr W18; have F_value_na15 := F_value_na15.other W18 (Or.inl ne_na15_nb17); have F_coder_na15 := F_coder_na15.other W18 (Or.inl ne_na15_nb17); have V_nb15 := V_nb15.other W18 ne_nb15_nb17; have V_la := V_la.other W18 ne_la_nb17; have O := O.wr W18 g_nb17
  have hk := Nat.le_trans hk (Keep.of_wr W18).1; have CR := CR.trans (CHr.wr W18 sf18 CR.1)
  have N := Fr.snoc X18 N g_nb17
  have V_nb17 : Arv Z h18 nb17 kA17 .char (3 : Int32) [(.int (nar .char f0)), (.int 0), (.int 0)] (.int 0) := V18
  refine og_dup X18 hx rfl (hb hby at_234) rfl ?_
  refine og_iconst (v := 1) X18 hx rfl (hb hby at_235) rfl ?_
  refine og_iload X18 hx rfl (hb hby at_236) rfl ?_
  refine og_castore X18 hx hZ e18 V_nb17 ⟨by decide, by decide⟩ 1 (by decide) (Nat.le_of_ble_eq_true rfl) (hb hby at_238) rfl (fun T19 h19 X19 e19 W19 V19 => ?_)
  have sf19 : Safe Z own_EL vm16 h18 nb17 := Q_nb17; have Q_nb17 := Safe.wr W19 sf19 CR.1 Q_nb17; have E_na14 := E_na14.wr W19; have F_value_na14 := F_value_na14.other W19 (Or.inl ne_na14_nb17); have F_coder_na14 := F_coder_na14.other W19 (Or.inl ne_na14_nb17); have V_nb14 := V_nb14.other W19 ne_nb14_nb17
  have E_na15 := E_na15.wr W19; have F_value_na15 := F_value_na15.other W19 (Or.inl ne_na15_nb17); have F_coder_na15 := F_coder_na15.other W19 (Or.inl ne_na15_nb17); have V_nb15 := V_nb15.other W19 ne_nb15_nb17; have V_la := V_la.other W19 ne_la_nb17; have O := O.wr W19 g_nb17
  have hk := Nat.le_trans hk (Keep.of_wr W19).1; have CR := CR.trans (CHr.wr W19 sf19 CR.1)
  have N := Fr.snoc X19 N g_nb17
  have V_nb17 : Arv Z h19 nb17 kA17 .char (3 : Int32) [(.int (nar .char f0)), (.int (nar .char f1)), (.int 0)] (.int 0) := V19
  refine og_dup X19 hx rfl (hb hby at_239) rfl ?_
  refine og_iconst (v := 2) X19 hx rfl (hb hby at_240) rfl ?_
  refine og_iload X19 hx rfl (hb hby at_241) rfl ?_
  refine og_castore X19 hx hZ e19 V_nb17 ⟨by decide, by decide⟩ 2 (by decide) (Nat.le_of_ble_eq_true rfl) (hb hby at_243) rfl (fun T20 h20 X20 e20 W20 V20 => ?_)
  have sf20 : Safe Z own_EL vm16 h19 nb17 := Q_nb17; have E_na14 := E_na14.wr W20; have F_value_na14 := F_value_na14.other W20 (Or.inl ne_na14_nb17); have F_coder_na14 := F_coder_na14.other W20 (Or.inl ne_na14_nb17); have V_nb14 := V_nb14.other W20 ne_nb14_nb17
  have E_na15 := E_na15.wr W20; have F_value_na15 := F_value_na15.other W20 (Or.inl ne_na15_nb17); have F_coder_na15 := F_coder_na15.other W20 (Or.inl ne_na15_nb17); have V_nb15 := V_nb15.other W20 ne_nb15_nb17; have V_la := V_la.other W20 ne_la_nb17; have O := O.wr W20 g_nb17
  have hk := Nat.le_trans hk (Keep.of_wr W20).1; have CR := CR.trans (CHr.wr W20 sf20 CR.1)
  have N := Fr.snoc X20 N g_nb17
  have V_nb17 : Arv Z h20 nb17 kA17 .char (3 : Int32) [(.int (nar .char f0)), (.int (nar .char f1)), (.int (nar .char f2))] (.int 0) := V20
  rw [own_nc hf0] at V_nb17
  rw [own_nc hf1] at V_nb17
  rw [own_nc hf2] at V_nb17
  have V_nb17 : Arv Z h20 nb17 kA17 .char (Int32.ofNat ([f0, f1, f2]).length) ([f0, f1, f2].map Value.int) (.int 0) := V_nb17
  refine og_astore (L' := #[.val (.int p0), .val (.int p1), .val (.int nn), .val (.int c0), .val (.int c1), .val (.int c2), .val (.int kk), .val (.int f0), .val (.int f1), .val (.int f2), .val (.ref na14), .val (.ref na15), sl12, .val (.ref la), .val (.int ll), .val (.ref nb17), .unset, .unset, .unset]) X20 hx rfl rfl (hb hby at_244) rfl ?_
  refine og_iload X20 hx rfl (hb hby at_246) rfl ?_
  refine og_iconst (v := 2) X20 hx rfl (hb hby at_248) rfl ?_
  refine og_iadd X20 hx (hb hby at_249) rfl ?_
  refine og_iload X20 hx rfl (hb hby at_250) rfl ?_
  refine og_iadd X20 hx (hb hby at_252) rfl ?_
  refine og_istore (L' := #[.val (.int p0), .val (.int p1), .val (.int nn), .val (.int c0), .val (.int c1), .val (.int c2), .val (.int kk), .val (.int f0), .val (.int f1), .val (.int f2), .val (.ref na14), .val (.ref na15), sl12, .val (.ref la), .val (.int ll), .val (.ref nb17), .val (.int ((ll + (2 : Int32)) + kk)), .unset, .unset]) X20 hx rfl (hb hby at_253) rfl ?_
  obtain ⟨tt, h_tt⟩ : ∃ z, z = ((ll + (2 : Int32)) + kk) := ⟨_, rfl⟩
  rw [← h_tt]
  obtain ⟨htt, hms, hspec⟩ := own_main h_tt hL hkk hf0 hf1 hf2
  refine og_aload X20 hx rfl rfl (hb hby at_255) rfl ?_
  refine og_aload X20 hx rfl rfl (hb hby at_257) rfl ?_
  refine og_staticWK (pc' := 262) (cells' := 27) (slots' := 2971) (W := 0) X20 hx hZ (rm_ref l Z a0 hw na14 nb14 na15 nb15 k14 k15 (own_dr nn c0 c1 c2) (own_dr kk f0 f1 f2) own_drl own_drl hlt un hun sn hsn cs hcs h20 n0 O hEL E_na14 F_value_na14 F_coder_na14 V_nb14 E_na15 F_value_na15 F_coder_na15 V_nb15 S_UN S_SN S_CS) hEL hS hk CR.1 all0 hTK hBl hown (ow40 hw) (ow41 hw) (ow42 hw) (ow43 hw) (by decide) (by rw [hml]; rfl) e20 opd_33 [(.ref na14), (.ref na15)] [] rfl rfl rfl rfl (by decide) (by decide) rfl rfl (by decide) (by decide) (hb hby at_259) rfl (fun v21 T21 h21 L21 kk21 X21 e21 hS hk hZ hown cr21 z21 => ?_)
  obtain ⟨nr21, na21, nb21, k21, rfl, Nq21, K21, E_nr21, F_detailMessage_nr21, E_na21, F_value_na21, F_coder_na21, V_nb21⟩ := z21; have N := Fr.app N Nq21
  have V_la := V_la.keep K21 nin0; have V_nb17 := V_nb17.keep K21 nin0; have O := O.keep K21 all0
  have CR := CR.trans cr21
  refine og_astore (L' := #[.val (.int p0), .val (.int p1), .val (.int nn), .val (.int c0), .val (.int c1), .val (.int c2), .val (.int kk), .val (.int f0), .val (.int f1), .val (.int f2), .val (.ref na14), .val (.ref na15), sl12, .val (.ref la), .val (.int ll), .val (.ref nb17), .val (.int tt), .val (.ref nr21), .unset]) X21 hx rfl rfl (hb hby at_262) rfl ?_
  refine og_aload X21 hx rfl rfl (hb hby at_264) rfl ?_
  refine og_ifnonnull (pc1 := 271) (pc2 := 269) X21 hx rfl (hb hby at_266) (by decide) (by decide) rfl (fun _ => ?_) (fun q => absurd q nofun)
  refine og_aload X21 hx rfl rfl (hb hby at_271) rfl ?_
  refine og_virtualUp (pc' := 276) (cells' := 27) (slots' := 2971) (W := 0) X21 hx hZ (y := (⟨"com/example/stablebid/stablebid/cli/InputException", "getMessage", "()Ljava/lang/String;"⟩ : MethodName)) (rm_gm l Z a0 hw nr21 na21 h21 n0 O F_detailMessage_nr21) hown (ow223 hw) (ow224 hw) (ow225 hw) (by decide) (ow227 hw) (ow226 hw) (ow184 hw) (ow228 hw) (by decide) (by rw [hml]; rfl) e21 opd_29 [] [] rfl rfl rfl rfl (by decide) (by decide) rfl rfl (by decide) (by decide) E_nr21 (hb hby at_273) rfl (fun v22 T22 h22 L22 X22 e22 z22 => ?_)
  obtain ⟨rfl, Nq22, hq22⟩ := z22; replace e22 := e22.trans hq22; have N := Fr.app N Nq22
  refine og_astore (L' := #[.val (.int p0), .val (.int p1), .val (.int nn), .val (.int c0), .val (.int c1), .val (.int c2), .val (.int kk), .val (.int f0), .val (.int f1), .val (.int f2), .val (.ref na14), .val (.ref na15), sl12, .val (.ref la), .val (.int ll), .val (.ref nb17), .val (.int tt), .val (.ref nr21), .val (.ref na21)]) X22 hx rfl rfl (hb hby at_276) rfl ?_
  refine og_aload X22 hx rfl rfl (hb hby at_278) rfl ?_
  refine og_ifnull (pc1 := 293) (pc2 := 283) X22 hx rfl (hb hby at_280) (by decide) (by decide) rfl (fun q => absurd q nofun) (fun _ => ?_)
  refine og_aload X22 hx rfl rfl (hb hby at_283) rfl ?_
  refine og_virtual (pc' := 288) (cells' := 27) (slots' := 2971) (W := 0) X22 hx hZ (rm_len l Z a0 hw na21 nb21 k21 (Int32.ofNat (own_lab (own_dr nn c0 c1 c2) ++ [58, 32] ++ (own_dr kk f0 f1 f2)).length) _ cs hcs h21 n0 O E_na21 F_value_na21 F_coder_na21 V_nb21 S_CS) hown (ow229 hw) (ow90 hw) (own_nf hZ (ow92 hw)) (ow92 hw) (ow91 hw) (ow9 hw) (ow93 hw) (by decide) (by rw [hml]; rfl) e22 opd_18 [] [] rfl rfl rfl rfl (by decide) (by decide) rfl rfl (by decide) (by decide) E_na21 (hb hby at_285) rfl (fun v23 T23 h23 L23 X23 e23 z23 => ?_)
  obtain ⟨rfl, Nq23, hq23⟩ := z23; replace e23 := e23.trans hq23; have N := Fr.app N Nq23
  refine og_iload X23 hx rfl (hb hby at_288) rfl ?_
  refine og_icmp_eq (pc1 := 295) (pc2 := 293) X23 hx (hb hby at_290) (by decide) (by decide) rfl (fun _ => ?_) (fun q => absurd htt.symm q)
  refine og_aload X23 hx rfl rfl (hb hby at_295) rfl ?_
  refine og_iconst (v := 0) X23 hx rfl (hb hby at_297) rfl ?_
  refine og_iload X23 hx rfl (hb hby at_298) rfl ?_
  refine og_aload X23 hx rfl rfl (hb hby at_300) rfl ?_
  refine og_iload X23 hx rfl (hb hby at_302) rfl ?_
  refine og_aload X23 hx rfl rfl (hb hby at_304) rfl ?_
  refine og_static (pc' := 309) (cells' := 27) (slots' := 2971) (W := 0) X23 hx hZ (rm_eqq l Z a0 hw la nb17 ka kA17 ls [f0, f1, f2] (0 : Int32) ll (by decide) na21 nb21 k21 (own_lab (own_dr nn c0 c1 c2) ++ [58, 32] ++ (own_dr kk f0 f1 f2)) tt htt hms hspec cs hcs fm hfm h21 n0 O E_na21 F_value_na21 F_coder_na21 V_nb21 V_la V_nb17 S_CS S_FM) hown (ow230 hw) (ow231 hw) (ow2 hw) (ow232 hw) (by decide) (by rw [hml]; rfl) e23 opd_34 [(.ref na21), (.int 0), (.int tt), (.ref la), (.int ll), (.ref nb17)] [] rfl rfl rfl rfl (by decide) (by decide) rfl rfl (by decide) (by decide) (hb hby at_306) rfl (fun v24 T24 h24 L24 X24 e24 z24 => ?_)
  obtain ⟨rfl, Nq24, hq24⟩ := z24; replace e24 := e24.trans hq24; have N := Fr.app N Nq24
  refine og_if_eq (pc1 := 635) (pc2 := 312) X24 hx (hb hby at_309) (by decide) (by decide) rfl (fun q => absurd q (by decide)) (fun _ => ?_)
  refine og_aload X24 hx rfl rfl (hb hby at_312) rfl ?_
  refine og_iconst (v := 1) X24 hx rfl (hb hby at_314) rfl ?_
  refine og_iload X24 hx rfl (hb hby at_315) rfl ?_
  refine og_aload X24 hx rfl rfl (hb hby at_317) rfl ?_
  refine og_iload X24 hx rfl (hb hby at_319) rfl ?_
  refine og_aload X24 hx rfl rfl (hb hby at_321) rfl ?_
  refine og_static (pc' := 326) (cells' := 27) (slots' := 2971) (W := 0) X24 hx hZ (rm_eqq l Z a0 hw la nb17 ka kA17 ls [f0, f1, f2] (1 : Int32) ll (by decide) na21 nb21 k21 (own_lab (own_dr nn c0 c1 c2) ++ [58, 32] ++ (own_dr kk f0 f1 f2)) tt htt hms hspec cs hcs fm hfm h21 n0 O E_na21 F_value_na21 F_coder_na21 V_nb21 V_la V_nb17 S_CS S_FM) hown (ow230 hw) (ow231 hw) (ow2 hw) (ow232 hw) (by decide) (by rw [hml]; rfl) e24 opd_34 [(.ref na21), (.int 1), (.int tt), (.ref la), (.int ll), (.ref nb17)] [] rfl rfl rfl rfl (by decide) (by decide) rfl rfl (by decide) (by decide) (hb hby at_323) rfl (fun v25 T25 h25 L25 X25 e25 z25 => ?_)
  obtain ⟨rfl, Nq25, hq25⟩ := z25; replace e25 := e25.trans hq25; have N := Fr.app N Nq25
  refine og_if_eq (pc1 := 635) (pc2 := 329) X25 hx (hb hby at_326) (by decide) (by decide) rfl (fun q => absurd q (by decide)) (fun _ => ?_)
  refine og_aload X25 hx rfl rfl (hb hby at_329) rfl ?_
  refine og_iconst (v := 2) X25 hx rfl (hb hby at_331) rfl ?_
  refine og_iload X25 hx rfl (hb hby at_332) rfl ?_
  refine og_aload X25 hx rfl rfl (hb hby at_334) rfl ?_
  refine og_iload X25 hx rfl (hb hby at_336) rfl ?_
  refine og_aload X25 hx rfl rfl (hb hby at_338) rfl ?_
  refine og_static (pc' := 343) (cells' := 27) (slots' := 2971) (W := 0) X25 hx hZ (rm_eqq l Z a0 hw la nb17 ka kA17 ls [f0, f1, f2] (2 : Int32) ll (by decide) na21 nb21 k21 (own_lab (own_dr nn c0 c1 c2) ++ [58, 32] ++ (own_dr kk f0 f1 f2)) tt htt hms hspec cs hcs fm hfm h21 n0 O E_na21 F_value_na21 F_coder_na21 V_nb21 V_la V_nb17 S_CS S_FM) hown (ow230 hw) (ow231 hw) (ow2 hw) (ow232 hw) (by decide) (by rw [hml]; rfl) e25 opd_34 [(.ref na21), (.int 2), (.int tt), (.ref la), (.int ll), (.ref nb17)] [] rfl rfl rfl rfl (by decide) (by decide) rfl rfl (by decide) (by decide) (hb hby at_340) rfl (fun v26 T26 h26 L26 X26 e26 z26 => ?_)
  obtain ⟨rfl, Nq26, hq26⟩ := z26; replace e26 := e26.trans hq26; have N := Fr.app N Nq26
  refine og_if_eq (pc1 := 635) (pc2 := 346) X26 hx (hb hby at_343) (by decide) (by decide) rfl (fun q => absurd q (by decide)) (fun _ => ?_)
  refine og_aload X26 hx rfl rfl (hb hby at_346) rfl ?_
  refine og_iconst (v := 3) X26 hx rfl (hb hby at_348) rfl ?_
  refine og_iload X26 hx rfl (hb hby at_349) rfl ?_
  refine og_aload X26 hx rfl rfl (hb hby at_351) rfl ?_
  refine og_iload X26 hx rfl (hb hby at_353) rfl ?_
  refine og_aload X26 hx rfl rfl (hb hby at_355) rfl ?_
  refine og_static (pc' := 360) (cells' := 27) (slots' := 2971) (W := 0) X26 hx hZ (rm_eqq l Z a0 hw la nb17 ka kA17 ls [f0, f1, f2] (3 : Int32) ll (by decide) na21 nb21 k21 (own_lab (own_dr nn c0 c1 c2) ++ [58, 32] ++ (own_dr kk f0 f1 f2)) tt htt hms hspec cs hcs fm hfm h21 n0 O E_na21 F_value_na21 F_coder_na21 V_nb21 V_la V_nb17 S_CS S_FM) hown (ow230 hw) (ow231 hw) (ow2 hw) (ow232 hw) (by decide) (by rw [hml]; rfl) e26 opd_34 [(.ref na21), (.int 3), (.int tt), (.ref la), (.int ll), (.ref nb17)] [] rfl rfl rfl rfl (by decide) (by decide) rfl rfl (by decide) (by decide) (hb hby at_357) rfl (fun v27 T27 h27 L27 X27 e27 z27 => ?_)
  obtain ⟨rfl, Nq27, hq27⟩ := z27; replace e27 := e27.trans hq27; have N := Fr.app N Nq27
  refine og_if_eq (pc1 := 635) (pc2 := 363) X27 hx (hb hby at_360) (by decide) (by decide) rfl (fun q => absurd q (by decide)) (fun _ => ?_)
  refine og_aload X27 hx rfl rfl (hb hby at_363) rfl ?_
  refine og_iconst (v := 4) X27 hx rfl (hb hby at_365) rfl ?_
  refine og_iload X27 hx rfl (hb hby at_366) rfl ?_
  refine og_aload X27 hx rfl rfl (hb hby at_368) rfl ?_
  refine og_iload X27 hx rfl (hb hby at_370) rfl ?_
  refine og_aload X27 hx rfl rfl (hb hby at_372) rfl ?_
  refine og_static (pc' := 377) (cells' := 27) (slots' := 2971) (W := 0) X27 hx hZ (rm_eqq l Z a0 hw la nb17 ka kA17 ls [f0, f1, f2] (4 : Int32) ll (by decide) na21 nb21 k21 (own_lab (own_dr nn c0 c1 c2) ++ [58, 32] ++ (own_dr kk f0 f1 f2)) tt htt hms hspec cs hcs fm hfm h21 n0 O E_na21 F_value_na21 F_coder_na21 V_nb21 V_la V_nb17 S_CS S_FM) hown (ow230 hw) (ow231 hw) (ow2 hw) (ow232 hw) (by decide) (by rw [hml]; rfl) e27 opd_34 [(.ref na21), (.int 4), (.int tt), (.ref la), (.int ll), (.ref nb17)] [] rfl rfl rfl rfl (by decide) (by decide) rfl rfl (by decide) (by decide) (hb hby at_374) rfl (fun v28 T28 h28 L28 X28 e28 z28 => ?_)
  obtain ⟨rfl, Nq28, hq28⟩ := z28; replace e28 := e28.trans hq28; have N := Fr.app N Nq28
  refine og_if_eq (pc1 := 635) (pc2 := 380) X28 hx (hb hby at_377) (by decide) (by decide) rfl (fun q => absurd q (by decide)) (fun _ => ?_)
  refine og_aload X28 hx rfl rfl (hb hby at_380) rfl ?_
  refine og_iconst (v := 5) X28 hx rfl (hb hby at_382) rfl ?_
  refine og_iload X28 hx rfl (hb hby at_383) rfl ?_
  refine og_aload X28 hx rfl rfl (hb hby at_385) rfl ?_
  refine og_iload X28 hx rfl (hb hby at_387) rfl ?_
  refine og_aload X28 hx rfl rfl (hb hby at_389) rfl ?_
  refine og_static (pc' := 394) (cells' := 27) (slots' := 2971) (W := 0) X28 hx hZ (rm_eqq l Z a0 hw la nb17 ka kA17 ls [f0, f1, f2] (5 : Int32) ll (by decide) na21 nb21 k21 (own_lab (own_dr nn c0 c1 c2) ++ [58, 32] ++ (own_dr kk f0 f1 f2)) tt htt hms hspec cs hcs fm hfm h21 n0 O E_na21 F_value_na21 F_coder_na21 V_nb21 V_la V_nb17 S_CS S_FM) hown (ow230 hw) (ow231 hw) (ow2 hw) (ow232 hw) (by decide) (by rw [hml]; rfl) e28 opd_34 [(.ref na21), (.int 5), (.int tt), (.ref la), (.int ll), (.ref nb17)] [] rfl rfl rfl rfl (by decide) (by decide) rfl rfl (by decide) (by decide) (hb hby at_391) rfl (fun v29 T29 h29 L29 X29 e29 z29 => ?_)
  obtain ⟨rfl, Nq29, hq29⟩ := z29; replace e29 := e29.trans hq29; have N := Fr.app N Nq29
  refine og_if_eq (pc1 := 635) (pc2 := 397) X29 hx (hb hby at_394) (by decide) (by decide) rfl (fun q => absurd q (by decide)) (fun _ => ?_)
  refine og_aload X29 hx rfl rfl (hb hby at_397) rfl ?_
  refine og_bipush (v := 6) X29 hx rfl (hb hby at_399) rfl ?_
  refine og_iload X29 hx rfl (hb hby at_401) rfl ?_
  refine og_aload X29 hx rfl rfl (hb hby at_403) rfl ?_
  refine og_iload X29 hx rfl (hb hby at_405) rfl ?_
  refine og_aload X29 hx rfl rfl (hb hby at_407) rfl ?_
  refine og_static (pc' := 412) (cells' := 27) (slots' := 2971) (W := 0) X29 hx hZ (rm_eqq l Z a0 hw la nb17 ka kA17 ls [f0, f1, f2] (6 : Int32) ll (by decide) na21 nb21 k21 (own_lab (own_dr nn c0 c1 c2) ++ [58, 32] ++ (own_dr kk f0 f1 f2)) tt htt hms hspec cs hcs fm hfm h21 n0 O E_na21 F_value_na21 F_coder_na21 V_nb21 V_la V_nb17 S_CS S_FM) hown (ow230 hw) (ow231 hw) (ow2 hw) (ow232 hw) (by decide) (by rw [hml]; rfl) e29 opd_34 [(.ref na21), (.int 6), (.int tt), (.ref la), (.int ll), (.ref nb17)] [] rfl rfl rfl rfl (by decide) (by decide) rfl rfl (by decide) (by decide) (hb hby at_409) rfl (fun v30 T30 h30 L30 X30 e30 z30 => ?_)
  obtain ⟨rfl, Nq30, hq30⟩ := z30; replace e30 := e30.trans hq30; have N := Fr.app N Nq30
  refine og_if_eq (pc1 := 635) (pc2 := 415) X30 hx (hb hby at_412) (by decide) (by decide) rfl (fun q => absurd q (by decide)) (fun _ => ?_)
  refine og_aload X30 hx rfl rfl (hb hby at_415) rfl ?_
  refine og_bipush (v := 7) X30 hx rfl (hb hby at_417) rfl ?_
  refine og_iload X30 hx rfl (hb hby at_419) rfl ?_
  refine og_aload X30 hx rfl rfl (hb hby at_421) rfl ?_
  refine og_iload X30 hx rfl (hb hby at_423) rfl ?_
  refine og_aload X30 hx rfl rfl (hb hby at_425) rfl ?_
  refine og_static (pc' := 430) (cells' := 27) (slots' := 2971) (W := 0) X30 hx hZ (rm_eqq l Z a0 hw la nb17 ka kA17 ls [f0, f1, f2] (7 : Int32) ll (by decide) na21 nb21 k21 (own_lab (own_dr nn c0 c1 c2) ++ [58, 32] ++ (own_dr kk f0 f1 f2)) tt htt hms hspec cs hcs fm hfm h21 n0 O E_na21 F_value_na21 F_coder_na21 V_nb21 V_la V_nb17 S_CS S_FM) hown (ow230 hw) (ow231 hw) (ow2 hw) (ow232 hw) (by decide) (by rw [hml]; rfl) e30 opd_34 [(.ref na21), (.int 7), (.int tt), (.ref la), (.int ll), (.ref nb17)] [] rfl rfl rfl rfl (by decide) (by decide) rfl rfl (by decide) (by decide) (hb hby at_427) rfl (fun v31 T31 h31 L31 X31 e31 z31 => ?_)
  obtain ⟨rfl, Nq31, hq31⟩ := z31; replace e31 := e31.trans hq31; have N := Fr.app N Nq31
  refine og_if_eq (pc1 := 635) (pc2 := 433) X31 hx (hb hby at_430) (by decide) (by decide) rfl (fun q => absurd q (by decide)) (fun _ => ?_)
  refine og_aload X31 hx rfl rfl (hb hby at_433) rfl ?_
  refine og_bipush (v := 8) X31 hx rfl (hb hby at_435) rfl ?_
  refine og_iload X31 hx rfl (hb hby at_437) rfl ?_
  refine og_aload X31 hx rfl rfl (hb hby at_439) rfl ?_
  refine og_iload X31 hx rfl (hb hby at_441) rfl ?_
  refine og_aload X31 hx rfl rfl (hb hby at_443) rfl ?_
  refine og_static (pc' := 448) (cells' := 27) (slots' := 2971) (W := 0) X31 hx hZ (rm_eqq l Z a0 hw la nb17 ka kA17 ls [f0, f1, f2] (8 : Int32) ll (by decide) na21 nb21 k21 (own_lab (own_dr nn c0 c1 c2) ++ [58, 32] ++ (own_dr kk f0 f1 f2)) tt htt hms hspec cs hcs fm hfm h21 n0 O E_na21 F_value_na21 F_coder_na21 V_nb21 V_la V_nb17 S_CS S_FM) hown (ow230 hw) (ow231 hw) (ow2 hw) (ow232 hw) (by decide) (by rw [hml]; rfl) e31 opd_34 [(.ref na21), (.int 8), (.int tt), (.ref la), (.int ll), (.ref nb17)] [] rfl rfl rfl rfl (by decide) (by decide) rfl rfl (by decide) (by decide) (hb hby at_445) rfl (fun v32 T32 h32 L32 X32 e32 z32 => ?_)
  obtain ⟨rfl, Nq32, hq32⟩ := z32; replace e32 := e32.trans hq32; have N := Fr.app N Nq32
  refine og_if_eq (pc1 := 635) (pc2 := 451) X32 hx (hb hby at_448) (by decide) (by decide) rfl (fun q => absurd q (by decide)) (fun _ => ?_)
  refine og_aload X32 hx rfl rfl (hb hby at_451) rfl ?_
  refine og_bipush (v := 9) X32 hx rfl (hb hby at_453) rfl ?_
  refine og_iload X32 hx rfl (hb hby at_455) rfl ?_
  refine og_aload X32 hx rfl rfl (hb hby at_457) rfl ?_
  refine og_iload X32 hx rfl (hb hby at_459) rfl ?_
  refine og_aload X32 hx rfl rfl (hb hby at_461) rfl ?_
  refine og_static (pc' := 466) (cells' := 27) (slots' := 2971) (W := 0) X32 hx hZ (rm_eqq l Z a0 hw la nb17 ka kA17 ls [f0, f1, f2] (9 : Int32) ll (by decide) na21 nb21 k21 (own_lab (own_dr nn c0 c1 c2) ++ [58, 32] ++ (own_dr kk f0 f1 f2)) tt htt hms hspec cs hcs fm hfm h21 n0 O E_na21 F_value_na21 F_coder_na21 V_nb21 V_la V_nb17 S_CS S_FM) hown (ow230 hw) (ow231 hw) (ow2 hw) (ow232 hw) (by decide) (by rw [hml]; rfl) e32 opd_34 [(.ref na21), (.int 9), (.int tt), (.ref la), (.int ll), (.ref nb17)] [] rfl rfl rfl rfl (by decide) (by decide) rfl rfl (by decide) (by decide) (hb hby at_463) rfl (fun v33 T33 h33 L33 X33 e33 z33 => ?_)
  obtain ⟨rfl, Nq33, hq33⟩ := z33; replace e33 := e33.trans hq33; have N := Fr.app N Nq33
  refine og_if_eq (pc1 := 635) (pc2 := 469) X33 hx (hb hby at_466) (by decide) (by decide) rfl (fun q => absurd q (by decide)) (fun _ => ?_)
  refine og_aload X33 hx rfl rfl (hb hby at_469) rfl ?_
  refine og_bipush (v := 10) X33 hx rfl (hb hby at_471) rfl ?_
  refine og_iload X33 hx rfl (hb hby at_473) rfl ?_
  refine og_aload X33 hx rfl rfl (hb hby at_475) rfl ?_
  refine og_iload X33 hx rfl (hb hby at_477) rfl ?_
  refine og_aload X33 hx rfl rfl (hb hby at_479) rfl ?_
  refine og_static (pc' := 484) (cells' := 27) (slots' := 2971) (W := 0) X33 hx hZ (rm_eqq l Z a0 hw la nb17 ka kA17 ls [f0, f1, f2] (10 : Int32) ll (by decide) na21 nb21 k21 (own_lab (own_dr nn c0 c1 c2) ++ [58, 32] ++ (own_dr kk f0 f1 f2)) tt htt hms hspec cs hcs fm hfm h21 n0 O E_na21 F_value_na21 F_coder_na21 V_nb21 V_la V_nb17 S_CS S_FM) hown (ow230 hw) (ow231 hw) (ow2 hw) (ow232 hw) (by decide) (by rw [hml]; rfl) e33 opd_34 [(.ref na21), (.int 10), (.int tt), (.ref la), (.int ll), (.ref nb17)] [] rfl rfl rfl rfl (by decide) (by decide) rfl rfl (by decide) (by decide) (hb hby at_481) rfl (fun v34 T34 h34 L34 X34 e34 z34 => ?_)
  obtain ⟨rfl, Nq34, hq34⟩ := z34; replace e34 := e34.trans hq34; have N := Fr.app N Nq34
  refine og_if_eq (pc1 := 635) (pc2 := 487) X34 hx (hb hby at_484) (by decide) (by decide) rfl (fun q => absurd q (by decide)) (fun _ => ?_)
  refine og_aload X34 hx rfl rfl (hb hby at_487) rfl ?_
  refine og_bipush (v := 11) X34 hx rfl (hb hby at_489) rfl ?_
  refine og_iload X34 hx rfl (hb hby at_491) rfl ?_
  refine og_aload X34 hx rfl rfl (hb hby at_493) rfl ?_
  refine og_iload X34 hx rfl (hb hby at_495) rfl ?_
  refine og_aload X34 hx rfl rfl (hb hby at_497) rfl ?_
  refine og_static (pc' := 502) (cells' := 27) (slots' := 2971) (W := 0) X34 hx hZ (rm_eqq l Z a0 hw la nb17 ka kA17 ls [f0, f1, f2] (11 : Int32) ll (by decide) na21 nb21 k21 (own_lab (own_dr nn c0 c1 c2) ++ [58, 32] ++ (own_dr kk f0 f1 f2)) tt htt hms hspec cs hcs fm hfm h21 n0 O E_na21 F_value_na21 F_coder_na21 V_nb21 V_la V_nb17 S_CS S_FM) hown (ow230 hw) (ow231 hw) (ow2 hw) (ow232 hw) (by decide) (by rw [hml]; rfl) e34 opd_34 [(.ref na21), (.int 11), (.int tt), (.ref la), (.int ll), (.ref nb17)] [] rfl rfl rfl rfl (by decide) (by decide) rfl rfl (by decide) (by decide) (hb hby at_499) rfl (fun v35 T35 h35 L35 X35 e35 z35 => ?_)
  obtain ⟨rfl, Nq35, hq35⟩ := z35; replace e35 := e35.trans hq35; have N := Fr.app N Nq35
  refine og_if_eq (pc1 := 635) (pc2 := 505) X35 hx (hb hby at_502) (by decide) (by decide) rfl (fun q => absurd q (by decide)) (fun _ => ?_)
  refine og_aload X35 hx rfl rfl (hb hby at_505) rfl ?_
  refine og_bipush (v := 12) X35 hx rfl (hb hby at_507) rfl ?_
  refine og_iload X35 hx rfl (hb hby at_509) rfl ?_
  refine og_aload X35 hx rfl rfl (hb hby at_511) rfl ?_
  refine og_iload X35 hx rfl (hb hby at_513) rfl ?_
  refine og_aload X35 hx rfl rfl (hb hby at_515) rfl ?_
  refine og_static (pc' := 520) (cells' := 27) (slots' := 2971) (W := 0) X35 hx hZ (rm_eqq l Z a0 hw la nb17 ka kA17 ls [f0, f1, f2] (12 : Int32) ll (by decide) na21 nb21 k21 (own_lab (own_dr nn c0 c1 c2) ++ [58, 32] ++ (own_dr kk f0 f1 f2)) tt htt hms hspec cs hcs fm hfm h21 n0 O E_na21 F_value_na21 F_coder_na21 V_nb21 V_la V_nb17 S_CS S_FM) hown (ow230 hw) (ow231 hw) (ow2 hw) (ow232 hw) (by decide) (by rw [hml]; rfl) e35 opd_34 [(.ref na21), (.int 12), (.int tt), (.ref la), (.int ll), (.ref nb17)] [] rfl rfl rfl rfl (by decide) (by decide) rfl rfl (by decide) (by decide) (hb hby at_517) rfl (fun v36 T36 h36 L36 X36 e36 z36 => ?_)
  obtain ⟨rfl, Nq36, hq36⟩ := z36; replace e36 := e36.trans hq36; have N := Fr.app N Nq36
  refine og_if_eq (pc1 := 635) (pc2 := 523) X36 hx (hb hby at_520) (by decide) (by decide) rfl (fun q => absurd q (by decide)) (fun _ => ?_)
  refine og_aload X36 hx rfl rfl (hb hby at_523) rfl ?_
  refine og_bipush (v := 13) X36 hx rfl (hb hby at_525) rfl ?_
  refine og_iload X36 hx rfl (hb hby at_527) rfl ?_
  refine og_aload X36 hx rfl rfl (hb hby at_529) rfl ?_
  refine og_iload X36 hx rfl (hb hby at_531) rfl ?_
  refine og_aload X36 hx rfl rfl (hb hby at_533) rfl ?_
  refine og_static (pc' := 538) (cells' := 27) (slots' := 2971) (W := 0) X36 hx hZ (rm_eqq l Z a0 hw la nb17 ka kA17 ls [f0, f1, f2] (13 : Int32) ll (by decide) na21 nb21 k21 (own_lab (own_dr nn c0 c1 c2) ++ [58, 32] ++ (own_dr kk f0 f1 f2)) tt htt hms hspec cs hcs fm hfm h21 n0 O E_na21 F_value_na21 F_coder_na21 V_nb21 V_la V_nb17 S_CS S_FM) hown (ow230 hw) (ow231 hw) (ow2 hw) (ow232 hw) (by decide) (by rw [hml]; rfl) e36 opd_34 [(.ref na21), (.int 13), (.int tt), (.ref la), (.int ll), (.ref nb17)] [] rfl rfl rfl rfl (by decide) (by decide) rfl rfl (by decide) (by decide) (hb hby at_535) rfl (fun v37 T37 h37 L37 X37 e37 z37 => ?_)
  obtain ⟨rfl, Nq37, hq37⟩ := z37; replace e37 := e37.trans hq37; have N := Fr.app N Nq37
  refine og_if_eq (pc1 := 635) (pc2 := 541) X37 hx (hb hby at_538) (by decide) (by decide) rfl (fun q => absurd q (by decide)) (fun _ => ?_)
  refine og_aload X37 hx rfl rfl (hb hby at_541) rfl ?_
  refine og_bipush (v := 14) X37 hx rfl (hb hby at_543) rfl ?_
  refine og_iload X37 hx rfl (hb hby at_545) rfl ?_
  refine og_aload X37 hx rfl rfl (hb hby at_547) rfl ?_
  refine og_iload X37 hx rfl (hb hby at_549) rfl ?_
  refine og_aload X37 hx rfl rfl (hb hby at_551) rfl ?_
  refine og_static (pc' := 556) (cells' := 27) (slots' := 2971) (W := 0) X37 hx hZ (rm_eqq l Z a0 hw la nb17 ka kA17 ls [f0, f1, f2] (14 : Int32) ll (by decide) na21 nb21 k21 (own_lab (own_dr nn c0 c1 c2) ++ [58, 32] ++ (own_dr kk f0 f1 f2)) tt htt hms hspec cs hcs fm hfm h21 n0 O E_na21 F_value_na21 F_coder_na21 V_nb21 V_la V_nb17 S_CS S_FM) hown (ow230 hw) (ow231 hw) (ow2 hw) (ow232 hw) (by decide) (by rw [hml]; rfl) e37 opd_34 [(.ref na21), (.int 14), (.int tt), (.ref la), (.int ll), (.ref nb17)] [] rfl rfl rfl rfl (by decide) (by decide) rfl rfl (by decide) (by decide) (hb hby at_553) rfl (fun v38 T38 h38 L38 X38 e38 z38 => ?_)
  obtain ⟨rfl, Nq38, hq38⟩ := z38; replace e38 := e38.trans hq38; have N := Fr.app N Nq38
  refine og_if_eq (pc1 := 635) (pc2 := 559) X38 hx (hb hby at_556) (by decide) (by decide) rfl (fun q => absurd q (by decide)) (fun _ => ?_)
  refine og_aload X38 hx rfl rfl (hb hby at_559) rfl ?_
  refine og_bipush (v := 15) X38 hx rfl (hb hby at_561) rfl ?_
  refine og_iload X38 hx rfl (hb hby at_563) rfl ?_
  refine og_aload X38 hx rfl rfl (hb hby at_565) rfl ?_
  refine og_iload X38 hx rfl (hb hby at_567) rfl ?_
  refine og_aload X38 hx rfl rfl (hb hby at_569) rfl ?_
  refine og_static (pc' := 574) (cells' := 27) (slots' := 2971) (W := 0) X38 hx hZ (rm_eqq l Z a0 hw la nb17 ka kA17 ls [f0, f1, f2] (15 : Int32) ll (by decide) na21 nb21 k21 (own_lab (own_dr nn c0 c1 c2) ++ [58, 32] ++ (own_dr kk f0 f1 f2)) tt htt hms hspec cs hcs fm hfm h21 n0 O E_na21 F_value_na21 F_coder_na21 V_nb21 V_la V_nb17 S_CS S_FM) hown (ow230 hw) (ow231 hw) (ow2 hw) (ow232 hw) (by decide) (by rw [hml]; rfl) e38 opd_34 [(.ref na21), (.int 15), (.int tt), (.ref la), (.int ll), (.ref nb17)] [] rfl rfl rfl rfl (by decide) (by decide) rfl rfl (by decide) (by decide) (hb hby at_571) rfl (fun v39 T39 h39 L39 X39 e39 z39 => ?_)
  obtain ⟨rfl, Nq39, hq39⟩ := z39; replace e39 := e39.trans hq39; have N := Fr.app N Nq39
  refine og_if_eq (pc1 := 635) (pc2 := 577) X39 hx (hb hby at_574) (by decide) (by decide) rfl (fun q => absurd q (by decide)) (fun _ => ?_)
  refine og_aload X39 hx rfl rfl (hb hby at_577) rfl ?_
  refine og_bipush (v := 16) X39 hx rfl (hb hby at_579) rfl ?_
  refine og_iload X39 hx rfl (hb hby at_581) rfl ?_
  refine og_aload X39 hx rfl rfl (hb hby at_583) rfl ?_
  refine og_iload X39 hx rfl (hb hby at_585) rfl ?_
  refine og_aload X39 hx rfl rfl (hb hby at_587) rfl ?_
  refine og_static (pc' := 592) (cells' := 27) (slots' := 2971) (W := 0) X39 hx hZ (rm_eqq l Z a0 hw la nb17 ka kA17 ls [f0, f1, f2] (16 : Int32) ll (by decide) na21 nb21 k21 (own_lab (own_dr nn c0 c1 c2) ++ [58, 32] ++ (own_dr kk f0 f1 f2)) tt htt hms hspec cs hcs fm hfm h21 n0 O E_na21 F_value_na21 F_coder_na21 V_nb21 V_la V_nb17 S_CS S_FM) hown (ow230 hw) (ow231 hw) (ow2 hw) (ow232 hw) (by decide) (by rw [hml]; rfl) e39 opd_34 [(.ref na21), (.int 16), (.int tt), (.ref la), (.int ll), (.ref nb17)] [] rfl rfl rfl rfl (by decide) (by decide) rfl rfl (by decide) (by decide) (hb hby at_589) rfl (fun v40 T40 h40 L40 X40 e40 z40 => ?_)
  obtain ⟨rfl, Nq40, hq40⟩ := z40; replace e40 := e40.trans hq40; have N := Fr.app N Nq40
  refine og_if_eq (pc1 := 635) (pc2 := 595) X40 hx (hb hby at_592) (by decide) (by decide) rfl (fun q => absurd q (by decide)) (fun _ => ?_)
  refine og_aload X40 hx rfl rfl (hb hby at_595) rfl ?_
  refine og_bipush (v := 17) X40 hx rfl (hb hby at_597) rfl ?_
  refine og_iload X40 hx rfl (hb hby at_599) rfl ?_
  refine og_aload X40 hx rfl rfl (hb hby at_601) rfl ?_
  refine og_iload X40 hx rfl (hb hby at_603) rfl ?_
  refine og_aload X40 hx rfl rfl (hb hby at_605) rfl ?_
  refine og_static (pc' := 610) (cells' := 27) (slots' := 2971) (W := 0) X40 hx hZ (rm_eqq l Z a0 hw la nb17 ka kA17 ls [f0, f1, f2] (17 : Int32) ll (by decide) na21 nb21 k21 (own_lab (own_dr nn c0 c1 c2) ++ [58, 32] ++ (own_dr kk f0 f1 f2)) tt htt hms hspec cs hcs fm hfm h21 n0 O E_na21 F_value_na21 F_coder_na21 V_nb21 V_la V_nb17 S_CS S_FM) hown (ow230 hw) (ow231 hw) (ow2 hw) (ow232 hw) (by decide) (by rw [hml]; rfl) e40 opd_34 [(.ref na21), (.int 17), (.int tt), (.ref la), (.int ll), (.ref nb17)] [] rfl rfl rfl rfl (by decide) (by decide) rfl rfl (by decide) (by decide) (hb hby at_607) rfl (fun v41 T41 h41 L41 X41 e41 z41 => ?_)
  obtain ⟨rfl, Nq41, hq41⟩ := z41; replace e41 := e41.trans hq41; have N := Fr.app N Nq41
  refine og_if_eq (pc1 := 635) (pc2 := 613) X41 hx (hb hby at_610) (by decide) (by decide) rfl (fun q => absurd q (by decide)) (fun _ => ?_)
  refine og_aload X41 hx rfl rfl (hb hby at_613) rfl ?_
  refine og_bipush (v := 18) X41 hx rfl (hb hby at_615) rfl ?_
  refine og_iload X41 hx rfl (hb hby at_617) rfl ?_
  refine og_aload X41 hx rfl rfl (hb hby at_619) rfl ?_
  refine og_iload X41 hx rfl (hb hby at_621) rfl ?_
  refine og_aload X41 hx rfl rfl (hb hby at_623) rfl ?_
  refine og_static (pc' := 628) (cells' := 27) (slots' := 2971) (W := 0) X41 hx hZ (rm_eqq l Z a0 hw la nb17 ka kA17 ls [f0, f1, f2] (18 : Int32) ll (by decide) na21 nb21 k21 (own_lab (own_dr nn c0 c1 c2) ++ [58, 32] ++ (own_dr kk f0 f1 f2)) tt htt hms hspec cs hcs fm hfm h21 n0 O E_na21 F_value_na21 F_coder_na21 V_nb21 V_la V_nb17 S_CS S_FM) hown (ow230 hw) (ow231 hw) (ow2 hw) (ow232 hw) (by decide) (by rw [hml]; rfl) e41 opd_34 [(.ref na21), (.int 18), (.int tt), (.ref la), (.int ll), (.ref nb17)] [] rfl rfl rfl rfl (by decide) (by decide) rfl rfl (by decide) (by decide) (hb hby at_625) rfl (fun v42 T42 h42 L42 X42 e42 z42 => ?_)
  obtain ⟨rfl, Nq42, hq42⟩ := z42; replace e42 := e42.trans hq42; have N := Fr.app N Nq42
  refine og_if_eq (pc1 := 635) (pc2 := 631) X42 hx (hb hby at_628) (by decide) (by decide) rfl (fun q => absurd q (by decide)) (fun _ => ?_)
  refine og_iconst (v := 1) X42 hx rfl (hb hby at_631) rfl ?_
  refine og_goto (pc' := 636) X42 hx (hb hby at_632) (by decide) (by decide) ?_
  refine og_retNW X42 hx hZ hlk hEL hS e42 es hk CR hret (by simp) (hb hby at_636) (by decide) (by decide) ?_
  exact ⟨rfl, N⟩
 refine og_iloadN X15 hx rfl (hb hby at_90) rfl ?_
 refine og_iconst (v := 1) X15 hx rfl (hb hby at_91) rfl ?_
 refine og_icmp_ne (pc1 := 105) (pc2 := 95) X15 hx (hb hby at_92) (by decide) (by decide) rfl (fun hc92 => ?_) (fun hc92 => ?_)
 ·
  refine og_iconst (v := 0) X15 hx rfl (hb hby at_105) rfl ?_
  refine og_istore (L' := #[.val (.int p0), .val (.int p1), .val (.int nn), .val (.int c0), .val (.int c1), .val (.int c2), .val (.int kk), .val (.int f0), .val (.int f1), .val (.int f2), .val (.ref na14), .val (.ref na15), .val (.int 0), .unset, .unset, .unset, .unset, .unset, .unset]) X15 hx rfl (hb hby at_106) rfl ?_
  refine og_iload X15 hx rfl (hb hby at_108) rfl ?_
  refine og_if_eq (pc1 := 204) (pc2 := 113) X15 hx (hb hby at_110) (by decide) (by decide) rfl (fun _ => ?_) (fun q => absurd q (by decide))
  refine og_iconst (v := 3) X15 hx rfl (hb hby at_204) rfl ?_
  refine og_newarray (pc' := 207) (cells' := 13) (slots' := 27) (cap := 3) (ty := .char) X15 hx hZ rfl (ow10 hw) e15 (by decide) (by decide) (by decide) (hb hby at_205) rfl rfl rfl (by decide) (by decide) (fun T43 h43 nb43 kA43 X43 e43 E43 q43 V_nb43 => ?_)
  have s_nb43 : h15.size ≤ nb43 := Nat.le_of_eq q43.symm; have g_nb43 : n0 ≤ nb43 := Nat.le_trans (own_n0 O) s_nb43; have sz_nb43 : h0.size ≤ nb43 := Nat.le_trans K.1 s_nb43; have ne_na14_nb43 : na14 ≠ nb43 := Nat.ne_of_lt (Nat.lt_of_lt_of_le E_na14.lt s_nb43); have ne_nb14_nb43 : nb14 ≠ nb43 := Nat.ne_of_lt (Nat.lt_of_lt_of_le V_nb14.lt s_nb43); have ne_na15_nb43 : na15 ≠ nb43 := Nat.ne_of_lt (Nat.lt_of_lt_of_le E_na15.lt s_nb43)
  have ne_nb15_nb43 : nb15 ≠ nb43 := Nat.ne_of_lt (Nat.lt_of_lt_of_le V_nb15.lt s_nb43); have Q_nb43 : Safe Z own_EL _ _ nb43 := Safe.new (Z := Z) (EL := own_EL) (vm := T15.vm) s_nb43
  have Q_nb43 := Safe.ext E43 CR.1 Q_nb43; have E_na14 := E_na14.ext E43; have F_value_na14 := F_value_na14.ext E43; have F_coder_na14 := F_coder_na14.ext E43; have V_nb14 := V_nb14.ext E43; have E_na15 := E_na15.ext E43
  have F_value_na15 := F_value_na15.ext E43; have F_coder_na15 := F_coder_na15.ext E43; have V_nb15 := V_nb15.ext E43; have O := O.ext E43; have K := K.ext E43; have hk := Nat.le_trans hk E43.1
  have CR := CR.trans (CHr.ext E43 CR.1)
  have V_nb43 : Arv Z h43 nb43 kA43 .char (3 : Int32) [(.int 0), (.int 0), (.int 0)] (.int 0) := V_nb43.pad (pad_rep [] (.int 0) 3)
  refine og_dup X43 hx rfl (hb hby at_207) rfl ?_
  refine og_iconst (v := 0) X43 hx rfl (hb hby at_208) rfl ?_
  refine og_iloadN X43 hx rfl (hb hby at_209) rfl ?_
  refine og_castore X43 hx hZ e43 V_nb43 ⟨by decide, by decide⟩ 0 (by decide) (Nat.le_of_ble_eq_true rfl) (hb hby at_210) rfl (fun T44 h44 X44 e44 W44 V44 => ?_)
  have sf44 : Safe Z own_EL T15.vm h43 nb43 := Q_nb43; have Q_nb43 := Safe.wr W44 sf44 CR.1 Q_nb43; have E_na14 := E_na14.wr W44; have F_value_na14 := F_value_na14.other W44 (Or.inl ne_na14_nb43); have F_coder_na14 := F_coder_na14.other W44 (Or.inl ne_na14_nb43); have V_nb14 := V_nb14.other W44 ne_nb14_nb43
  have E_na15 := E_na15.wr W44; have F_value_na15 := F_value_na15.other W44 (Or.inl ne_na15_nb43); have F_coder_na15 := F_coder_na15.other W44 (Or.inl ne_na15_nb43); have V_nb15 := V_nb15.other W44 ne_nb15_nb43; have O := O.wr W44 g_nb43; have K := K.wr W44 (Or.inr sz_nb43)
  have hk := Nat.le_trans hk (Keep.of_wr W44).1; have CR := CR.trans (CHr.wr W44 sf44 CR.1)
  have N := Fr.snoc X44 N g_nb43
  have V_nb43 : Arv Z h44 nb43 kA43 .char (3 : Int32) [(.int (nar .char c0)), (.int 0), (.int 0)] (.int 0) := V44
  refine og_dup X44 hx rfl (hb hby at_211) rfl ?_
  refine og_iconst (v := 1) X44 hx rfl (hb hby at_212) rfl ?_
  refine og_iload X44 hx rfl (hb hby at_213) rfl ?_
  refine og_castore X44 hx hZ e44 V_nb43 ⟨by decide, by decide⟩ 1 (by decide) (Nat.le_of_ble_eq_true rfl) (hb hby at_215) rfl (fun T45 h45 X45 e45 W45 V45 => ?_)
  have sf45 : Safe Z own_EL T15.vm h44 nb43 := Q_nb43; have Q_nb43 := Safe.wr W45 sf45 CR.1 Q_nb43; have E_na14 := E_na14.wr W45; have F_value_na14 := F_value_na14.other W45 (Or.inl ne_na14_nb43); have F_coder_na14 := F_coder_na14.other W45 (Or.inl ne_na14_nb43); have V_nb14 := V_nb14.other W45 ne_nb14_nb43
  have E_na15 := E_na15.wr W45; have F_value_na15 := F_value_na15.other W45 (Or.inl ne_na15_nb43); have F_coder_na15 := F_coder_na15.other W45 (Or.inl ne_na15_nb43); have V_nb15 := V_nb15.other W45 ne_nb15_nb43; have O := O.wr W45 g_nb43; have K := K.wr W45 (Or.inr sz_nb43)
  have hk := Nat.le_trans hk (Keep.of_wr W45).1; have CR := CR.trans (CHr.wr W45 sf45 CR.1)
  have N := Fr.snoc X45 N g_nb43
  have V_nb43 : Arv Z h45 nb43 kA43 .char (3 : Int32) [(.int (nar .char c0)), (.int (nar .char c1)), (.int 0)] (.int 0) := V45
  refine og_dup X45 hx rfl (hb hby at_216) rfl ?_
  refine og_iconst (v := 2) X45 hx rfl (hb hby at_217) rfl ?_
  refine og_iload X45 hx rfl (hb hby at_218) rfl ?_
  refine og_castore X45 hx hZ e45 V_nb43 ⟨by decide, by decide⟩ 2 (by decide) (Nat.le_of_ble_eq_true rfl) (hb hby at_220) rfl (fun T46 h46 X46 e46 W46 V46 => ?_)
  have sf46 : Safe Z own_EL T15.vm h45 nb43 := Q_nb43; have E_na14 := E_na14.wr W46; have F_value_na14 := F_value_na14.other W46 (Or.inl ne_na14_nb43); have F_coder_na14 := F_coder_na14.other W46 (Or.inl ne_na14_nb43); have V_nb14 := V_nb14.other W46 ne_nb14_nb43
  have E_na15 := E_na15.wr W46; have F_value_na15 := F_value_na15.other W46 (Or.inl ne_na15_nb43); have F_coder_na15 := F_coder_na15.other W46 (Or.inl ne_na15_nb43); have V_nb15 := V_nb15.other W46 ne_nb15_nb43; have O := O.wr W46 g_nb43; have K := K.wr W46 (Or.inr sz_nb43)
  have hk := Nat.le_trans hk (Keep.of_wr W46).1; have CR := CR.trans (CHr.wr W46 sf46 CR.1)
  have N := Fr.snoc X46 N g_nb43
  have V_nb43 : Arv Z h46 nb43 kA43 .char (3 : Int32) [(.int (nar .char c0)), (.int (nar .char c1)), (.int (nar .char c2))] (.int 0) := V46
  refine og_astore (L' := #[.val (.int p0), .val (.int p1), .val (.int nn), .val (.int c0), .val (.int c1), .val (.int c2), .val (.int kk), .val (.int f0), .val (.int f1), .val (.int f2), .val (.ref na14), .val (.ref na15), .val (.int 0), .val (.ref nb43), .unset, .unset, .unset, .unset, .unset]) X46 hx rfl rfl (hb hby at_221) rfl ?_
  refine og_iloadN X46 hx rfl (hb hby at_223) rfl ?_
  refine og_istore (L' := #[.val (.int p0), .val (.int p1), .val (.int nn), .val (.int c0), .val (.int c1), .val (.int c2), .val (.int kk), .val (.int f0), .val (.int f1), .val (.int f2), .val (.ref na14), .val (.ref na15), .val (.int 0), .val (.ref nb43), .val (.int nn), .unset, .unset, .unset, .unset]) X46 hx rfl (hb hby at_224) rfl ?_
  rw [own_nc hc0] at V_nb43
  rw [own_nc hc1] at V_nb43
  rw [own_nc hc2] at V_nb43
  have V_la : Arv Z h46 nb43 kA43 .char (Int32.ofNat ([c0, c1, c2]).length) ([c0, c1, c2].map Value.int) (.int 0) := V_nb43
  exact J226 T46 _ _ T15.vm _ hS hk hZ hown CR (own_mono X46 (by decide) (by decide)) e46 N O K _ _ _ _ _ (own_lN hnn hc0 hc1 hc2 (fun q => hc92 q.1)) E_na14 F_value_na14 F_coder_na14 V_nb14 E_na15 F_value_na15 F_coder_na15 V_nb15 V_la
 ·
  subst hc92
  refine og_iloadN X15 hx rfl (hb hby at_95) rfl ?_
  refine og_bipush (v := 45) X15 hx rfl (hb hby at_96) rfl ?_
  refine og_icmp_ne (pc1 := 105) (pc2 := 101) X15 hx (hb hby at_98) (by decide) (by decide) rfl (fun hc98 => ?_) (fun hc98 => ?_)
  ·
   refine og_iconst (v := 0) X15 hx rfl (hb hby at_105) rfl ?_
   refine og_istore (L' := #[.val (.int p0), .val (.int p1), .val (.int 1), .val (.int c0), .val (.int c1), .val (.int c2), .val (.int kk), .val (.int f0), .val (.int f1), .val (.int f2), .val (.ref na14), .val (.ref na15), .val (.int 0), .unset, .unset, .unset, .unset, .unset, .unset]) X15 hx rfl (hb hby at_106) rfl ?_
   refine og_iload X15 hx rfl (hb hby at_108) rfl ?_
   refine og_if_eq (pc1 := 204) (pc2 := 113) X15 hx (hb hby at_110) (by decide) (by decide) rfl (fun _ => ?_) (fun q => absurd q (by decide))
   refine og_iconst (v := 3) X15 hx rfl (hb hby at_204) rfl ?_
   refine og_newarray (pc' := 207) (cells' := 13) (slots' := 27) (cap := 3) (ty := .char) X15 hx hZ rfl (ow10 hw) e15 (by decide) (by decide) (by decide) (hb hby at_205) rfl rfl rfl (by decide) (by decide) (fun T47 h47 nb47 kA47 X47 e47 E47 q47 V_nb47 => ?_)
   have s_nb47 : h15.size ≤ nb47 := Nat.le_of_eq q47.symm; have g_nb47 : n0 ≤ nb47 := Nat.le_trans (own_n0 O) s_nb47; have sz_nb47 : h0.size ≤ nb47 := Nat.le_trans K.1 s_nb47; have ne_na14_nb47 : na14 ≠ nb47 := Nat.ne_of_lt (Nat.lt_of_lt_of_le E_na14.lt s_nb47); have ne_nb14_nb47 : nb14 ≠ nb47 := Nat.ne_of_lt (Nat.lt_of_lt_of_le V_nb14.lt s_nb47); have ne_na15_nb47 : na15 ≠ nb47 := Nat.ne_of_lt (Nat.lt_of_lt_of_le E_na15.lt s_nb47)
   have ne_nb15_nb47 : nb15 ≠ nb47 := Nat.ne_of_lt (Nat.lt_of_lt_of_le V_nb15.lt s_nb47); have Q_nb47 : Safe Z own_EL _ _ nb47 := Safe.new (Z := Z) (EL := own_EL) (vm := T15.vm) s_nb47
   have Q_nb47 := Safe.ext E47 CR.1 Q_nb47; have E_na14 := E_na14.ext E47; have F_value_na14 := F_value_na14.ext E47; have F_coder_na14 := F_coder_na14.ext E47; have V_nb14 := V_nb14.ext E47; have E_na15 := E_na15.ext E47
   have F_value_na15 := F_value_na15.ext E47; have F_coder_na15 := F_coder_na15.ext E47; have V_nb15 := V_nb15.ext E47; have O := O.ext E47; have K := K.ext E47; have hk := Nat.le_trans hk E47.1
   have CR := CR.trans (CHr.ext E47 CR.1)
   have V_nb47 : Arv Z h47 nb47 kA47 .char (3 : Int32) [(.int 0), (.int 0), (.int 0)] (.int 0) := V_nb47.pad (pad_rep [] (.int 0) 3)
   refine og_dup X47 hx rfl (hb hby at_207) rfl ?_
   refine og_iconst (v := 0) X47 hx rfl (hb hby at_208) rfl ?_
   refine og_iloadN X47 hx rfl (hb hby at_209) rfl ?_
   refine og_castore X47 hx hZ e47 V_nb47 ⟨by decide, by decide⟩ 0 (by decide) (Nat.le_of_ble_eq_true rfl) (hb hby at_210) rfl (fun T48 h48 X48 e48 W48 V48 => ?_)
   have sf48 : Safe Z own_EL T15.vm h47 nb47 := Q_nb47; have Q_nb47 := Safe.wr W48 sf48 CR.1 Q_nb47; have E_na14 := E_na14.wr W48; have F_value_na14 := F_value_na14.other W48 (Or.inl ne_na14_nb47); have F_coder_na14 := F_coder_na14.other W48 (Or.inl ne_na14_nb47); have V_nb14 := V_nb14.other W48 ne_nb14_nb47
   have E_na15 := E_na15.wr W48; have F_value_na15 := F_value_na15.other W48 (Or.inl ne_na15_nb47); have F_coder_na15 := F_coder_na15.other W48 (Or.inl ne_na15_nb47); have V_nb15 := V_nb15.other W48 ne_nb15_nb47; have O := O.wr W48 g_nb47; have K := K.wr W48 (Or.inr sz_nb47)
   have hk := Nat.le_trans hk (Keep.of_wr W48).1; have CR := CR.trans (CHr.wr W48 sf48 CR.1)
   have N := Fr.snoc X48 N g_nb47
   have V_nb47 : Arv Z h48 nb47 kA47 .char (3 : Int32) [(.int (nar .char c0)), (.int 0), (.int 0)] (.int 0) := V48
   refine og_dup X48 hx rfl (hb hby at_211) rfl ?_
   refine og_iconst (v := 1) X48 hx rfl (hb hby at_212) rfl ?_
   refine og_iload X48 hx rfl (hb hby at_213) rfl ?_
   refine og_castore X48 hx hZ e48 V_nb47 ⟨by decide, by decide⟩ 1 (by decide) (Nat.le_of_ble_eq_true rfl) (hb hby at_215) rfl (fun T49 h49 X49 e49 W49 V49 => ?_)
   have sf49 : Safe Z own_EL T15.vm h48 nb47 := Q_nb47; have Q_nb47 := Safe.wr W49 sf49 CR.1 Q_nb47; have E_na14 := E_na14.wr W49; have F_value_na14 := F_value_na14.other W49 (Or.inl ne_na14_nb47); have F_coder_na14 := F_coder_na14.other W49 (Or.inl ne_na14_nb47); have V_nb14 := V_nb14.other W49 ne_nb14_nb47
   have E_na15 := E_na15.wr W49; have F_value_na15 := F_value_na15.other W49 (Or.inl ne_na15_nb47); have F_coder_na15 := F_coder_na15.other W49 (Or.inl ne_na15_nb47); have V_nb15 := V_nb15.other W49 ne_nb15_nb47; have O := O.wr W49 g_nb47; have K := K.wr W49 (Or.inr sz_nb47)
   have hk := Nat.le_trans hk (Keep.of_wr W49).1; have CR := CR.trans (CHr.wr W49 sf49 CR.1)
   have N := Fr.snoc X49 N g_nb47
   have V_nb47 : Arv Z h49 nb47 kA47 .char (3 : Int32) [(.int (nar .char c0)), (.int (nar .char c1)), (.int 0)] (.int 0) := V49
   refine og_dup X49 hx rfl (hb hby at_216) rfl ?_
   refine og_iconst (v := 2) X49 hx rfl (hb hby at_217) rfl ?_
   refine og_iload X49 hx rfl (hb hby at_218) rfl ?_
   refine og_castore X49 hx hZ e49 V_nb47 ⟨by decide, by decide⟩ 2 (by decide) (Nat.le_of_ble_eq_true rfl) (hb hby at_220) rfl (fun T50 h50 X50 e50 W50 V50 => ?_)
   have sf50 : Safe Z own_EL T15.vm h49 nb47 := Q_nb47; have E_na14 := E_na14.wr W50; have F_value_na14 := F_value_na14.other W50 (Or.inl ne_na14_nb47); have F_coder_na14 := F_coder_na14.other W50 (Or.inl ne_na14_nb47); have V_nb14 := V_nb14.other W50 ne_nb14_nb47
   have E_na15 := E_na15.wr W50; have F_value_na15 := F_value_na15.other W50 (Or.inl ne_na15_nb47); have F_coder_na15 := F_coder_na15.other W50 (Or.inl ne_na15_nb47); have V_nb15 := V_nb15.other W50 ne_nb15_nb47; have O := O.wr W50 g_nb47; have K := K.wr W50 (Or.inr sz_nb47)
   have hk := Nat.le_trans hk (Keep.of_wr W50).1; have CR := CR.trans (CHr.wr W50 sf50 CR.1)
   have N := Fr.snoc X50 N g_nb47
   have V_nb47 : Arv Z h50 nb47 kA47 .char (3 : Int32) [(.int (nar .char c0)), (.int (nar .char c1)), (.int (nar .char c2))] (.int 0) := V50
   refine og_astore (L' := #[.val (.int p0), .val (.int p1), .val (.int 1), .val (.int c0), .val (.int c1), .val (.int c2), .val (.int kk), .val (.int f0), .val (.int f1), .val (.int f2), .val (.ref na14), .val (.ref na15), .val (.int 0), .val (.ref nb47), .unset, .unset, .unset, .unset, .unset]) X50 hx rfl rfl (hb hby at_221) rfl ?_
   refine og_iloadN X50 hx rfl (hb hby at_223) rfl ?_
   refine og_istore (L' := #[.val (.int p0), .val (.int p1), .val (.int 1), .val (.int c0), .val (.int c1), .val (.int c2), .val (.int kk), .val (.int f0), .val (.int f1), .val (.int f2), .val (.ref na14), .val (.ref na15), .val (.int 0), .val (.ref nb47), .val (.int 1), .unset, .unset, .unset, .unset]) X50 hx rfl (hb hby at_224) rfl ?_
   rw [own_nc hc0] at V_nb47
   rw [own_nc hc1] at V_nb47
   rw [own_nc hc2] at V_nb47
   have V_la : Arv Z h50 nb47 kA47 .char (Int32.ofNat ([c0, c1, c2]).length) ([c0, c1, c2].map Value.int) (.int 0) := V_nb47
   exact J226 T50 _ _ T15.vm _ hS hk hZ hown CR (own_mono X50 (by decide) (by decide)) e50 N O K _ _ _ _ _ (own_lN hnn hc0 hc1 hc2 (fun q => hc98 q.2)) E_na14 F_value_na14 F_coder_na14 V_nb14 E_na15 F_value_na15 F_coder_na15 V_nb15 V_la
  ·
   refine og_iconst (v := 1) X15 hx rfl (hb hby at_101) rfl ?_
   refine og_goto (pc' := 106) X15 hx (hb hby at_102) (by decide) (by decide) ?_
   refine og_istore (L' := #[.val (.int p0), .val (.int p1), .val (.int 1), .val (.int c0), .val (.int c1), .val (.int c2), .val (.int kk), .val (.int f0), .val (.int f1), .val (.int f2), .val (.ref na14), .val (.ref na15), .val (.int 1), .unset, .unset, .unset, .unset, .unset, .unset]) X15 hx rfl (hb hby at_106) rfl ?_
   refine og_iload X15 hx rfl (hb hby at_108) rfl ?_
   refine og_if_eq (pc1 := 204) (pc2 := 113) X15 hx (hb hby at_110) (by decide) (by decide) rfl (fun q => absurd q (by decide)) (fun _ => ?_)
   refine og_bipush (v := 14) X15 hx rfl (hb hby at_113) rfl ?_
   refine og_newarray (pc' := 117) (cells' := 13) (slots' := 38) (cap := 14) (ty := .char) X15 hx hZ rfl (ow10 hw) e15 (by decide) (by decide) (by decide) (hb hby at_115) rfl rfl rfl (by decide) (by decide) (fun T51 h51 nb51 kA51 X51 e51 E51 q51 V_nb51 => ?_)
   have s_nb51 : h15.size ≤ nb51 := Nat.le_of_eq q51.symm; have g_nb51 : n0 ≤ nb51 := Nat.le_trans (own_n0 O) s_nb51; have sz_nb51 : h0.size ≤ nb51 := Nat.le_trans K.1 s_nb51; have ne_na14_nb51 : na14 ≠ nb51 := Nat.ne_of_lt (Nat.lt_of_lt_of_le E_na14.lt s_nb51); have ne_nb14_nb51 : nb14 ≠ nb51 := Nat.ne_of_lt (Nat.lt_of_lt_of_le V_nb14.lt s_nb51); have ne_na15_nb51 : na15 ≠ nb51 := Nat.ne_of_lt (Nat.lt_of_lt_of_le E_na15.lt s_nb51)
   have ne_nb15_nb51 : nb15 ≠ nb51 := Nat.ne_of_lt (Nat.lt_of_lt_of_le V_nb15.lt s_nb51); have Q_nb51 : Safe Z own_EL _ _ nb51 := Safe.new (Z := Z) (EL := own_EL) (vm := T15.vm) s_nb51
   have Q_nb51 := Safe.ext E51 CR.1 Q_nb51; have E_na14 := E_na14.ext E51; have F_value_na14 := F_value_na14.ext E51; have F_coder_na14 := F_coder_na14.ext E51; have V_nb14 := V_nb14.ext E51; have E_na15 := E_na15.ext E51
   have F_value_na15 := F_value_na15.ext E51; have F_coder_na15 := F_coder_na15.ext E51; have V_nb15 := V_nb15.ext E51; have O := O.ext E51; have K := K.ext E51; have hk := Nat.le_trans hk E51.1
   have CR := CR.trans (CHr.ext E51 CR.1)
   have V_nb51 : Arv Z h51 nb51 kA51 .char (14 : Int32) [(.int 0), (.int 0), (.int 0), (.int 0), (.int 0), (.int 0), (.int 0), (.int 0), (.int 0), (.int 0), (.int 0), (.int 0), (.int 0), (.int 0)] (.int 0) := V_nb51.pad (pad_rep [] (.int 0) 14)
   refine og_dup X51 hx rfl (hb hby at_117) rfl ?_
   refine og_iconst (v := 0) X51 hx rfl (hb hby at_118) rfl ?_
   refine og_bipush (v := 115) X51 hx rfl (hb hby at_119) rfl ?_
   refine og_castore X51 hx hZ e51 V_nb51 ⟨by decide, by decide⟩ 0 (by decide) (Nat.le_of_ble_eq_true rfl) (hb hby at_121) rfl (fun T52 h52 X52 e52 W52 V52 => ?_)
   have sf52 : Safe Z own_EL T15.vm h51 nb51 := Q_nb51; have Q_nb51 := Safe.wr W52 sf52 CR.1 Q_nb51; have E_na14 := E_na14.wr W52; have F_value_na14 := F_value_na14.other W52 (Or.inl ne_na14_nb51); have F_coder_na14 := F_coder_na14.other W52 (Or.inl ne_na14_nb51); have V_nb14 := V_nb14.other W52 ne_nb14_nb51
   have E_na15 := E_na15.wr W52; have F_value_na15 := F_value_na15.other W52 (Or.inl ne_na15_nb51); have F_coder_na15 := F_coder_na15.other W52 (Or.inl ne_na15_nb51); have V_nb15 := V_nb15.other W52 ne_nb15_nb51; have O := O.wr W52 g_nb51; have K := K.wr W52 (Or.inr sz_nb51)
   have hk := Nat.le_trans hk (Keep.of_wr W52).1; have CR := CR.trans (CHr.wr W52 sf52 CR.1)
   have N := Fr.snoc X52 N g_nb51
   have V_nb51 : Arv Z h52 nb51 kA51 .char (14 : Int32) [(.int 115), (.int 0), (.int 0), (.int 0), (.int 0), (.int 0), (.int 0), (.int 0), (.int 0), (.int 0), (.int 0), (.int 0), (.int 0), (.int 0)] (.int 0) := V52
   refine og_dup X52 hx rfl (hb hby at_122) rfl ?_
   refine og_iconst (v := 1) X52 hx rfl (hb hby at_123) rfl ?_
   refine og_bipush (v := 116) X52 hx rfl (hb hby at_124) rfl ?_
   refine og_castore X52 hx hZ e52 V_nb51 ⟨by decide, by decide⟩ 1 (by decide) (Nat.le_of_ble_eq_true rfl) (hb hby at_126) rfl (fun T53 h53 X53 e53 W53 V53 => ?_)
   have sf53 : Safe Z own_EL T15.vm h52 nb51 := Q_nb51; have Q_nb51 := Safe.wr W53 sf53 CR.1 Q_nb51; have E_na14 := E_na14.wr W53; have F_value_na14 := F_value_na14.other W53 (Or.inl ne_na14_nb51); have F_coder_na14 := F_coder_na14.other W53 (Or.inl ne_na14_nb51); have V_nb14 := V_nb14.other W53 ne_nb14_nb51
   have E_na15 := E_na15.wr W53; have F_value_na15 := F_value_na15.other W53 (Or.inl ne_na15_nb51); have F_coder_na15 := F_coder_na15.other W53 (Or.inl ne_na15_nb51); have V_nb15 := V_nb15.other W53 ne_nb15_nb51; have O := O.wr W53 g_nb51; have K := K.wr W53 (Or.inr sz_nb51)
   have hk := Nat.le_trans hk (Keep.of_wr W53).1; have CR := CR.trans (CHr.wr W53 sf53 CR.1)
   have N := Fr.snoc X53 N g_nb51
   have V_nb51 : Arv Z h53 nb51 kA51 .char (14 : Int32) [(.int 115), (.int 116), (.int 0), (.int 0), (.int 0), (.int 0), (.int 0), (.int 0), (.int 0), (.int 0), (.int 0), (.int 0), (.int 0), (.int 0)] (.int 0) := V53
   refine og_dup X53 hx rfl (hb hby at_127) rfl ?_
   refine og_iconst (v := 2) X53 hx rfl (hb hby at_128) rfl ?_
   refine og_bipush (v := 97) X53 hx rfl (hb hby at_129) rfl ?_
   refine og_castore X53 hx hZ e53 V_nb51 ⟨by decide, by decide⟩ 2 (by decide) (Nat.le_of_ble_eq_true rfl) (hb hby at_131) rfl (fun T54 h54 X54 e54 W54 V54 => ?_)
   have sf54 : Safe Z own_EL T15.vm h53 nb51 := Q_nb51; have Q_nb51 := Safe.wr W54 sf54 CR.1 Q_nb51; have E_na14 := E_na14.wr W54; have F_value_na14 := F_value_na14.other W54 (Or.inl ne_na14_nb51); have F_coder_na14 := F_coder_na14.other W54 (Or.inl ne_na14_nb51); have V_nb14 := V_nb14.other W54 ne_nb14_nb51
   have E_na15 := E_na15.wr W54; have F_value_na15 := F_value_na15.other W54 (Or.inl ne_na15_nb51); have F_coder_na15 := F_coder_na15.other W54 (Or.inl ne_na15_nb51); have V_nb15 := V_nb15.other W54 ne_nb15_nb51; have O := O.wr W54 g_nb51; have K := K.wr W54 (Or.inr sz_nb51)
   have hk := Nat.le_trans hk (Keep.of_wr W54).1; have CR := CR.trans (CHr.wr W54 sf54 CR.1)
   have N := Fr.snoc X54 N g_nb51
   have V_nb51 : Arv Z h54 nb51 kA51 .char (14 : Int32) [(.int 115), (.int 116), (.int 97), (.int 0), (.int 0), (.int 0), (.int 0), (.int 0), (.int 0), (.int 0), (.int 0), (.int 0), (.int 0), (.int 0)] (.int 0) := V54
   refine og_dup X54 hx rfl (hb hby at_132) rfl ?_
   refine og_iconst (v := 3) X54 hx rfl (hb hby at_133) rfl ?_
   refine og_bipush (v := 110) X54 hx rfl (hb hby at_134) rfl ?_
   refine og_castore X54 hx hZ e54 V_nb51 ⟨by decide, by decide⟩ 3 (by decide) (Nat.le_of_ble_eq_true rfl) (hb hby at_136) rfl (fun T55 h55 X55 e55 W55 V55 => ?_)
   have sf55 : Safe Z own_EL T15.vm h54 nb51 := Q_nb51; have Q_nb51 := Safe.wr W55 sf55 CR.1 Q_nb51; have E_na14 := E_na14.wr W55; have F_value_na14 := F_value_na14.other W55 (Or.inl ne_na14_nb51); have F_coder_na14 := F_coder_na14.other W55 (Or.inl ne_na14_nb51); have V_nb14 := V_nb14.other W55 ne_nb14_nb51
   have E_na15 := E_na15.wr W55; have F_value_na15 := F_value_na15.other W55 (Or.inl ne_na15_nb51); have F_coder_na15 := F_coder_na15.other W55 (Or.inl ne_na15_nb51); have V_nb15 := V_nb15.other W55 ne_nb15_nb51; have O := O.wr W55 g_nb51; have K := K.wr W55 (Or.inr sz_nb51)
   have hk := Nat.le_trans hk (Keep.of_wr W55).1; have CR := CR.trans (CHr.wr W55 sf55 CR.1)
   have N := Fr.snoc X55 N g_nb51
   have V_nb51 : Arv Z h55 nb51 kA51 .char (14 : Int32) [(.int 115), (.int 116), (.int 97), (.int 110), (.int 0), (.int 0), (.int 0), (.int 0), (.int 0), (.int 0), (.int 0), (.int 0), (.int 0), (.int 0)] (.int 0) := V55
   refine og_dup X55 hx rfl (hb hby at_137) rfl ?_
   refine og_iconst (v := 4) X55 hx rfl (hb hby at_138) rfl ?_
   refine og_bipush (v := 100) X55 hx rfl (hb hby at_139) rfl ?_
   refine og_castore X55 hx hZ e55 V_nb51 ⟨by decide, by decide⟩ 4 (by decide) (Nat.le_of_ble_eq_true rfl) (hb hby at_141) rfl (fun T56 h56 X56 e56 W56 V56 => ?_)
   have sf56 : Safe Z own_EL T15.vm h55 nb51 := Q_nb51; have Q_nb51 := Safe.wr W56 sf56 CR.1 Q_nb51; have E_na14 := E_na14.wr W56; have F_value_na14 := F_value_na14.other W56 (Or.inl ne_na14_nb51); have F_coder_na14 := F_coder_na14.other W56 (Or.inl ne_na14_nb51); have V_nb14 := V_nb14.other W56 ne_nb14_nb51
   have E_na15 := E_na15.wr W56; have F_value_na15 := F_value_na15.other W56 (Or.inl ne_na15_nb51); have F_coder_na15 := F_coder_na15.other W56 (Or.inl ne_na15_nb51); have V_nb15 := V_nb15.other W56 ne_nb15_nb51; have O := O.wr W56 g_nb51; have K := K.wr W56 (Or.inr sz_nb51)
   have hk := Nat.le_trans hk (Keep.of_wr W56).1; have CR := CR.trans (CHr.wr W56 sf56 CR.1)
   have N := Fr.snoc X56 N g_nb51
   have V_nb51 : Arv Z h56 nb51 kA51 .char (14 : Int32) [(.int 115), (.int 116), (.int 97), (.int 110), (.int 100), (.int 0), (.int 0), (.int 0), (.int 0), (.int 0), (.int 0), (.int 0), (.int 0), (.int 0)] (.int 0) := V56
   refine og_dup X56 hx rfl (hb hby at_142) rfl ?_
   refine og_iconst (v := 5) X56 hx rfl (hb hby at_143) rfl ?_
   refine og_bipush (v := 97) X56 hx rfl (hb hby at_144) rfl ?_
   refine og_castore X56 hx hZ e56 V_nb51 ⟨by decide, by decide⟩ 5 (by decide) (Nat.le_of_ble_eq_true rfl) (hb hby at_146) rfl (fun T57 h57 X57 e57 W57 V57 => ?_)
   have sf57 : Safe Z own_EL T15.vm h56 nb51 := Q_nb51; have Q_nb51 := Safe.wr W57 sf57 CR.1 Q_nb51; have E_na14 := E_na14.wr W57; have F_value_na14 := F_value_na14.other W57 (Or.inl ne_na14_nb51); have F_coder_na14 := F_coder_na14.other W57 (Or.inl ne_na14_nb51); have V_nb14 := V_nb14.other W57 ne_nb14_nb51
   have E_na15 := E_na15.wr W57; have F_value_na15 := F_value_na15.other W57 (Or.inl ne_na15_nb51); have F_coder_na15 := F_coder_na15.other W57 (Or.inl ne_na15_nb51); have V_nb15 := V_nb15.other W57 ne_nb15_nb51; have O := O.wr W57 g_nb51; have K := K.wr W57 (Or.inr sz_nb51)
   have hk := Nat.le_trans hk (Keep.of_wr W57).1; have CR := CR.trans (CHr.wr W57 sf57 CR.1)
   have N := Fr.snoc X57 N g_nb51
   have V_nb51 : Arv Z h57 nb51 kA51 .char (14 : Int32) [(.int 115), (.int 116), (.int 97), (.int 110), (.int 100), (.int 97), (.int 0), (.int 0), (.int 0), (.int 0), (.int 0), (.int 0), (.int 0), (.int 0)] (.int 0) := V57
   refine og_dup X57 hx rfl (hb hby at_147) rfl ?_
   refine og_bipush (v := 6) X57 hx rfl (hb hby at_148) rfl ?_
   refine og_bipush (v := 114) X57 hx rfl (hb hby at_150) rfl ?_
   refine og_castore X57 hx hZ e57 V_nb51 ⟨by decide, by decide⟩ 6 (by decide) (Nat.le_of_ble_eq_true rfl) (hb hby at_152) rfl (fun T58 h58 X58 e58 W58 V58 => ?_)
   have sf58 : Safe Z own_EL T15.vm h57 nb51 := Q_nb51; have Q_nb51 := Safe.wr W58 sf58 CR.1 Q_nb51; have E_na14 := E_na14.wr W58; have F_value_na14 := F_value_na14.other W58 (Or.inl ne_na14_nb51); have F_coder_na14 := F_coder_na14.other W58 (Or.inl ne_na14_nb51); have V_nb14 := V_nb14.other W58 ne_nb14_nb51
   have E_na15 := E_na15.wr W58; have F_value_na15 := F_value_na15.other W58 (Or.inl ne_na15_nb51); have F_coder_na15 := F_coder_na15.other W58 (Or.inl ne_na15_nb51); have V_nb15 := V_nb15.other W58 ne_nb15_nb51; have O := O.wr W58 g_nb51; have K := K.wr W58 (Or.inr sz_nb51)
   have hk := Nat.le_trans hk (Keep.of_wr W58).1; have CR := CR.trans (CHr.wr W58 sf58 CR.1)
   have N := Fr.snoc X58 N g_nb51
   have V_nb51 : Arv Z h58 nb51 kA51 .char (14 : Int32) [(.int 115), (.int 116), (.int 97), (.int 110), (.int 100), (.int 97), (.int 114), (.int 0), (.int 0), (.int 0), (.int 0), (.int 0), (.int 0), (.int 0)] (.int 0) := V58
   refine og_dup X58 hx rfl (hb hby at_153) rfl ?_
   refine og_bipush (v := 7) X58 hx rfl (hb hby at_154) rfl ?_
   refine og_bipush (v := 100) X58 hx rfl (hb hby at_156) rfl ?_
   refine og_castore X58 hx hZ e58 V_nb51 ⟨by decide, by decide⟩ 7 (by decide) (Nat.le_of_ble_eq_true rfl) (hb hby at_158) rfl (fun T59 h59 X59 e59 W59 V59 => ?_)
   have sf59 : Safe Z own_EL T15.vm h58 nb51 := Q_nb51; have Q_nb51 := Safe.wr W59 sf59 CR.1 Q_nb51; have E_na14 := E_na14.wr W59; have F_value_na14 := F_value_na14.other W59 (Or.inl ne_na14_nb51); have F_coder_na14 := F_coder_na14.other W59 (Or.inl ne_na14_nb51); have V_nb14 := V_nb14.other W59 ne_nb14_nb51
   have E_na15 := E_na15.wr W59; have F_value_na15 := F_value_na15.other W59 (Or.inl ne_na15_nb51); have F_coder_na15 := F_coder_na15.other W59 (Or.inl ne_na15_nb51); have V_nb15 := V_nb15.other W59 ne_nb15_nb51; have O := O.wr W59 g_nb51; have K := K.wr W59 (Or.inr sz_nb51)
   have hk := Nat.le_trans hk (Keep.of_wr W59).1; have CR := CR.trans (CHr.wr W59 sf59 CR.1)
   have N := Fr.snoc X59 N g_nb51
   have V_nb51 : Arv Z h59 nb51 kA51 .char (14 : Int32) [(.int 115), (.int 116), (.int 97), (.int 110), (.int 100), (.int 97), (.int 114), (.int 100), (.int 0), (.int 0), (.int 0), (.int 0), (.int 0), (.int 0)] (.int 0) := V59
   refine og_dup X59 hx rfl (hb hby at_159) rfl ?_
   refine og_bipush (v := 8) X59 hx rfl (hb hby at_160) rfl ?_
   refine og_bipush (v := 32) X59 hx rfl (hb hby at_162) rfl ?_
   refine og_castore X59 hx hZ e59 V_nb51 ⟨by decide, by decide⟩ 8 (by decide) (Nat.le_of_ble_eq_true rfl) (hb hby at_164) rfl (fun T60 h60 X60 e60 W60 V60 => ?_)
   have sf60 : Safe Z own_EL T15.vm h59 nb51 := Q_nb51; have Q_nb51 := Safe.wr W60 sf60 CR.1 Q_nb51; have E_na14 := E_na14.wr W60; have F_value_na14 := F_value_na14.other W60 (Or.inl ne_na14_nb51); have F_coder_na14 := F_coder_na14.other W60 (Or.inl ne_na14_nb51); have V_nb14 := V_nb14.other W60 ne_nb14_nb51
   have E_na15 := E_na15.wr W60; have F_value_na15 := F_value_na15.other W60 (Or.inl ne_na15_nb51); have F_coder_na15 := F_coder_na15.other W60 (Or.inl ne_na15_nb51); have V_nb15 := V_nb15.other W60 ne_nb15_nb51; have O := O.wr W60 g_nb51; have K := K.wr W60 (Or.inr sz_nb51)
   have hk := Nat.le_trans hk (Keep.of_wr W60).1; have CR := CR.trans (CHr.wr W60 sf60 CR.1)
   have N := Fr.snoc X60 N g_nb51
   have V_nb51 : Arv Z h60 nb51 kA51 .char (14 : Int32) [(.int 115), (.int 116), (.int 97), (.int 110), (.int 100), (.int 97), (.int 114), (.int 100), (.int 32), (.int 0), (.int 0), (.int 0), (.int 0), (.int 0)] (.int 0) := V60
   refine og_dup X60 hx rfl (hb hby at_165) rfl ?_
   refine og_bipush (v := 9) X60 hx rfl (hb hby at_166) rfl ?_
   refine og_bipush (v := 105) X60 hx rfl (hb hby at_168) rfl ?_
   refine og_castore X60 hx hZ e60 V_nb51 ⟨by decide, by decide⟩ 9 (by decide) (Nat.le_of_ble_eq_true rfl) (hb hby at_170) rfl (fun T61 h61 X61 e61 W61 V61 => ?_)
   have sf61 : Safe Z own_EL T15.vm h60 nb51 := Q_nb51; have Q_nb51 := Safe.wr W61 sf61 CR.1 Q_nb51; have E_na14 := E_na14.wr W61; have F_value_na14 := F_value_na14.other W61 (Or.inl ne_na14_nb51); have F_coder_na14 := F_coder_na14.other W61 (Or.inl ne_na14_nb51); have V_nb14 := V_nb14.other W61 ne_nb14_nb51
   have E_na15 := E_na15.wr W61; have F_value_na15 := F_value_na15.other W61 (Or.inl ne_na15_nb51); have F_coder_na15 := F_coder_na15.other W61 (Or.inl ne_na15_nb51); have V_nb15 := V_nb15.other W61 ne_nb15_nb51; have O := O.wr W61 g_nb51; have K := K.wr W61 (Or.inr sz_nb51)
   have hk := Nat.le_trans hk (Keep.of_wr W61).1; have CR := CR.trans (CHr.wr W61 sf61 CR.1)
   have N := Fr.snoc X61 N g_nb51
   have V_nb51 : Arv Z h61 nb51 kA51 .char (14 : Int32) [(.int 115), (.int 116), (.int 97), (.int 110), (.int 100), (.int 97), (.int 114), (.int 100), (.int 32), (.int 105), (.int 0), (.int 0), (.int 0), (.int 0)] (.int 0) := V61
   refine og_dup X61 hx rfl (hb hby at_171) rfl ?_
   refine og_bipush (v := 10) X61 hx rfl (hb hby at_172) rfl ?_
   refine og_bipush (v := 110) X61 hx rfl (hb hby at_174) rfl ?_
   refine og_castore X61 hx hZ e61 V_nb51 ⟨by decide, by decide⟩ 10 (by decide) (Nat.le_of_ble_eq_true rfl) (hb hby at_176) rfl (fun T62 h62 X62 e62 W62 V62 => ?_)
   have sf62 : Safe Z own_EL T15.vm h61 nb51 := Q_nb51; have Q_nb51 := Safe.wr W62 sf62 CR.1 Q_nb51; have E_na14 := E_na14.wr W62; have F_value_na14 := F_value_na14.other W62 (Or.inl ne_na14_nb51); have F_coder_na14 := F_coder_na14.other W62 (Or.inl ne_na14_nb51); have V_nb14 := V_nb14.other W62 ne_nb14_nb51
   have E_na15 := E_na15.wr W62; have F_value_na15 := F_value_na15.other W62 (Or.inl ne_na15_nb51); have F_coder_na15 := F_coder_na15.other W62 (Or.inl ne_na15_nb51); have V_nb15 := V_nb15.other W62 ne_nb15_nb51; have O := O.wr W62 g_nb51; have K := K.wr W62 (Or.inr sz_nb51)
   have hk := Nat.le_trans hk (Keep.of_wr W62).1; have CR := CR.trans (CHr.wr W62 sf62 CR.1)
   have N := Fr.snoc X62 N g_nb51
   have V_nb51 : Arv Z h62 nb51 kA51 .char (14 : Int32) [(.int 115), (.int 116), (.int 97), (.int 110), (.int 100), (.int 97), (.int 114), (.int 100), (.int 32), (.int 105), (.int 110), (.int 0), (.int 0), (.int 0)] (.int 0) := V62
   refine og_dup X62 hx rfl (hb hby at_177) rfl ?_
   refine og_bipush (v := 11) X62 hx rfl (hb hby at_178) rfl ?_
   refine og_bipush (v := 112) X62 hx rfl (hb hby at_180) rfl ?_
   refine og_castore X62 hx hZ e62 V_nb51 ⟨by decide, by decide⟩ 11 (by decide) (Nat.le_of_ble_eq_true rfl) (hb hby at_182) rfl (fun T63 h63 X63 e63 W63 V63 => ?_)
   have sf63 : Safe Z own_EL T15.vm h62 nb51 := Q_nb51; have Q_nb51 := Safe.wr W63 sf63 CR.1 Q_nb51; have E_na14 := E_na14.wr W63; have F_value_na14 := F_value_na14.other W63 (Or.inl ne_na14_nb51); have F_coder_na14 := F_coder_na14.other W63 (Or.inl ne_na14_nb51); have V_nb14 := V_nb14.other W63 ne_nb14_nb51
   have E_na15 := E_na15.wr W63; have F_value_na15 := F_value_na15.other W63 (Or.inl ne_na15_nb51); have F_coder_na15 := F_coder_na15.other W63 (Or.inl ne_na15_nb51); have V_nb15 := V_nb15.other W63 ne_nb15_nb51; have O := O.wr W63 g_nb51; have K := K.wr W63 (Or.inr sz_nb51)
   have hk := Nat.le_trans hk (Keep.of_wr W63).1; have CR := CR.trans (CHr.wr W63 sf63 CR.1)
   have N := Fr.snoc X63 N g_nb51
   have V_nb51 : Arv Z h63 nb51 kA51 .char (14 : Int32) [(.int 115), (.int 116), (.int 97), (.int 110), (.int 100), (.int 97), (.int 114), (.int 100), (.int 32), (.int 105), (.int 110), (.int 112), (.int 0), (.int 0)] (.int 0) := V63
   refine og_dup X63 hx rfl (hb hby at_183) rfl ?_
   refine og_bipush (v := 12) X63 hx rfl (hb hby at_184) rfl ?_
   refine og_bipush (v := 117) X63 hx rfl (hb hby at_186) rfl ?_
   refine og_castore X63 hx hZ e63 V_nb51 ⟨by decide, by decide⟩ 12 (by decide) (Nat.le_of_ble_eq_true rfl) (hb hby at_188) rfl (fun T64 h64 X64 e64 W64 V64 => ?_)
   have sf64 : Safe Z own_EL T15.vm h63 nb51 := Q_nb51; have Q_nb51 := Safe.wr W64 sf64 CR.1 Q_nb51; have E_na14 := E_na14.wr W64; have F_value_na14 := F_value_na14.other W64 (Or.inl ne_na14_nb51); have F_coder_na14 := F_coder_na14.other W64 (Or.inl ne_na14_nb51); have V_nb14 := V_nb14.other W64 ne_nb14_nb51
   have E_na15 := E_na15.wr W64; have F_value_na15 := F_value_na15.other W64 (Or.inl ne_na15_nb51); have F_coder_na15 := F_coder_na15.other W64 (Or.inl ne_na15_nb51); have V_nb15 := V_nb15.other W64 ne_nb15_nb51; have O := O.wr W64 g_nb51; have K := K.wr W64 (Or.inr sz_nb51)
   have hk := Nat.le_trans hk (Keep.of_wr W64).1; have CR := CR.trans (CHr.wr W64 sf64 CR.1)
   have N := Fr.snoc X64 N g_nb51
   have V_nb51 : Arv Z h64 nb51 kA51 .char (14 : Int32) [(.int 115), (.int 116), (.int 97), (.int 110), (.int 100), (.int 97), (.int 114), (.int 100), (.int 32), (.int 105), (.int 110), (.int 112), (.int 117), (.int 0)] (.int 0) := V64
   refine og_dup X64 hx rfl (hb hby at_189) rfl ?_
   refine og_bipush (v := 13) X64 hx rfl (hb hby at_190) rfl ?_
   refine og_bipush (v := 116) X64 hx rfl (hb hby at_192) rfl ?_
   refine og_castore X64 hx hZ e64 V_nb51 ⟨by decide, by decide⟩ 13 (by decide) (Nat.le_of_ble_eq_true rfl) (hb hby at_194) rfl (fun T65 h65 X65 e65 W65 V65 => ?_)
   have sf65 : Safe Z own_EL T15.vm h64 nb51 := Q_nb51; have E_na14 := E_na14.wr W65; have F_value_na14 := F_value_na14.other W65 (Or.inl ne_na14_nb51); have F_coder_na14 := F_coder_na14.other W65 (Or.inl ne_na14_nb51); have V_nb14 := V_nb14.other W65 ne_nb14_nb51
   have E_na15 := E_na15.wr W65; have F_value_na15 := F_value_na15.other W65 (Or.inl ne_na15_nb51); have F_coder_na15 := F_coder_na15.other W65 (Or.inl ne_na15_nb51); have V_nb15 := V_nb15.other W65 ne_nb15_nb51; have O := O.wr W65 g_nb51; have K := K.wr W65 (Or.inr sz_nb51)
   have hk := Nat.le_trans hk (Keep.of_wr W65).1; have CR := CR.trans (CHr.wr W65 sf65 CR.1)
   have N := Fr.snoc X65 N g_nb51
   have V_nb51 : Arv Z h65 nb51 kA51 .char (14 : Int32) [(.int 115), (.int 116), (.int 97), (.int 110), (.int 100), (.int 97), (.int 114), (.int 100), (.int 32), (.int 105), (.int 110), (.int 112), (.int 117), (.int 116)] (.int 0) := V65
   refine og_astore (L' := #[.val (.int p0), .val (.int p1), .val (.int 1), .val (.int c0), .val (.int c1), .val (.int c2), .val (.int kk), .val (.int f0), .val (.int f1), .val (.int f2), .val (.ref na14), .val (.ref na15), .val (.int 1), .val (.ref nb51), .unset, .unset, .unset, .unset, .unset]) X65 hx rfl rfl (hb hby at_195) rfl ?_
   refine og_bipush (v := 14) X65 hx rfl (hb hby at_197) rfl ?_
   refine og_istore (L' := #[.val (.int p0), .val (.int p1), .val (.int 1), .val (.int c0), .val (.int c1), .val (.int c2), .val (.int kk), .val (.int f0), .val (.int f1), .val (.int f2), .val (.ref na14), .val (.ref na15), .val (.int 1), .val (.ref nb51), .val (.int 14), .unset, .unset, .unset, .unset]) X65 hx rfl (hb hby at_199) rfl ?_
   refine og_goto (pc' := 226) X65 hx (hb hby at_201) (by decide) (by decide) ?_
   have V_la : Arv Z h65 nb51 kA51 .char (Int32.ofNat (([115, 116, 97, 110, 100, 97, 114, 100, 32, 105, 110, 112, 117, 116] : List Int32)).length) (([115, 116, 97, 110, 100, 97, 114, 100, 32, 105, 110, 112, 117, 116] : List Int32).map Value.int) (.int 0) := V_nb51
   exact J226 T65 _ _ T15.vm _ hS hk hZ hown CR (own_mono X65 (by decide) (by decide)) e65 N O K _ _ _ _ _ (own_lY hc98) E_na14 F_value_na14 F_coder_na14 V_nb14 E_na15 F_value_na15 F_coder_na15 V_nb15 V_la
theorem comes_1 {Post : Tables → Env → Array Value → State → Outcome → State → Prop} (hpost : ∀ tb e args s v u, (limb_1_1.after args s (.returned v) u = true ∧ limb_1_2.after args s (.returned v) u = true ∧ True) → ReturnedEndW s (.returned v) u (Jvm.fieldLocs frame_1_writes args s ++ Jvm.arrayLocs frame_1_arrays args s ++ Jvm.staticLocs frame_1_statics s) 48 9920 → Post tb e args s (.returned v) u) :
    ArmFor flags0 classFile x code maxLocals ret World_1 tables_1 room_1 Calls_1 rest_1 Pre_1 Post := by
  intro l hfl _ _ p e ha hc hk s m args below hf hA hF happ hP
  obtain ⟨hcalls, hrest, hpre⟩ := hP
  obtain ⟨-, -, -, hnamed, -, -, -, hat⟩ := (Spec.applies_iff hf).mp happ
  obtain ⟨hg, hn⟩ := and_e (Cond.before_iff.mp (show (Jvm.Cond.and given_1 narrow_1).before args s = true from hpre))
  obtain ⟨g2, g3⟩ := and_e hg
  obtain ⟨g4, g5⟩ := and_e g3
  obtain ⟨w0, w1, rfl⟩ : ∃ w0 w1 : Value, args = #[w0, w1] := by
    have hs : args.size = 2 := by simpa [Cond.value, given_1] using g2
    obtain ⟨L⟩ := args
    match L, hs with
    | [w0, w1], _ => exact ⟨w0, w1, rfl⟩
  have hw := fun d (hd : d ∈ tables_1) => atoms_spec (ws := Jvm.Cond.code x code maxLocals ret :: tables_1) hat d (List.mem_cons_of_mem _ hd)
  have hfit : Fit s := fun {y c} hc i hi => by
    obtain ⟨ha, rfl⟩ := Array.getElem?_eq_some_iff.mp hc
    have q := List.all_eq_true.mp ((Array.all_eq_true_iff_forall_mem.mp hF) _ (Array.getElem_mem ha)) i (List.mem_range.mpr hi)
    simpa [Array.getElem?_eq_getElem hi] using q
  obtain ⟨hsets, hown0⟩ := atoms_of _ (rest_1_c_eq ▸ (show rest_1_c.before _ s = true from hrest))
  obtain ⟨i0, ei0⟩ := is_v g4
  obtain rfl : w0 = (.int i0) := Option.some.inj ei0
  obtain ⟨i1, ei1⟩ := is_v g5
  obtain rfl : w1 = (.int i1) := Option.some.inj ei1
  obtain ⟨cs, ecs⟩ := is_v (Cond.before_iff.mp (hsets _ (List.mem_of_getElem? (i := 1) rfl)))
  have S_CS := Sta.start ecs (Or.inl (hsets _ (List.mem_of_getElem? (i := 0) rfl)))
  have hcs : ¬ cs = 0 := own_ne0 ecs (Cond.before_iff.mp (hsets _ (List.mem_of_getElem? (i := 2) rfl)))
  obtain ⟨fm, efm, hfm⟩ := isR_v (Cond.before_iff.mp (hsets _ (List.mem_of_getElem? (i := 8) rfl)))
  have S_FM := Sta.start efm (Or.inl (hsets _ (List.mem_of_getElem? (i := 7) rfl)))
  have hlt : l.stackTraces = true := by unfold Launch.stackTraces; rw [hfl]; decide
  obtain ⟨un, eun, hun⟩ := isR_v (Cond.before_iff.mp (hsets _ (List.mem_of_getElem? (i := 16) rfl))); have S_UN := Sta.start eun (Or.inr ⟨(ow184 hw), (ow215 hw)⟩)
  obtain ⟨sn, esn, hsn⟩ := isR_v (Cond.before_iff.mp (hsets _ (List.mem_of_getElem? (i := 21) rfl))); have S_SN := Sta.start esn (Or.inr ⟨(ow184 hw), (ow216 hw)⟩)
  obtain ⟨n, o, h1, h2, h3, _, L, rfl, ⟨rfl, N⟩, -, hq⟩ := rm0 l s _ hw tables_1 i0 i1 hlt un hun sn hsn cs hcs fm hfm s.heap s.heap.size (Old.start s) (own_hEL hw) S_UN S_SN S_CS S_FM p e ha hc hk s m _ below hf ((Spec.applies_iff_loose hf).mp happ).1 ⟨rfl, State.Warmed39.refl s, rfl, (CHv.start (own_hEL hw) (fun p hp => own_held hcalls.2.2.1 p hp) (hsets _ (List.mem_of_getElem? (i := 2) rfl)) (ow22 hw) (ow8 hw)), all0⟩ ⟨hcalls.1, hcalls.2.1⟩
  refine ⟨n, _, h1, h2, h3, hpost _ _ _ _ _ _ ⟨Cond.after_iff.mpr rfl, Cond.after_iff.mpr (eq_i res_at (Term.int_eval (1)) rfl), trivial⟩ ⟨hq.1, hq.2.1, hq.2.2.1, (hq.2.2.2.sift fun y hy => Or.inr (N y hy)).mono (by decide) (by decide)⟩⟩
theorem main_1_1 : Claimed_1_1 := comes_1 fun _ _ _ _ _ _ h hF => ⟨h.1, hF⟩
theorem main_1_2 : Claimed_1_2 := comes_1 fun _ _ _ _ _ _ h hF => ⟨h.2.1, hF⟩
end Jvm.Pilot.@@N@@
namespace Jvm.Pilot.@@N@@
open Jvm Jvm.ClassFile Sem Op Lib Jvm.Free Jvm.Stand Jvm.Pilot.@@N@@.Jvm.D
/-! MADE BY PROGRAM (witnessworld.py) out of the Statement's table words and the real class files: 40 classes; the members and pool entries that the words name. The judged class is class 1, her method 1. -/
namespace start1
open Jvm.ClassFile
def u (s : String) : CpInfo := .utf8 (stringToUtf16 s)
/-- a pool by its gaps: so many unusable entries, then the entry; so many at the end -/
def gap : Nat → List CpInfo → List CpInfo
  | 0, r => r
  | n + 1, r => .unusable :: gap n r
def poolList (es : List (Nat × CpInfo)) (last : Nat) : List CpInfo := es.foldr (fun e r => gap e.1 (e.2 :: r)) (gap last [])
def pool (es : List (Nat × CpInfo)) (last : Nat) : Array CpInfo := ⟨poolList es last⟩
def fileOf (pool : Array CpInfo) (this : Nat) (attrs : Array Attribute := #[]) (ms : Array MethodInfo := #[]) (fl : Nat := 33) (sup : Nat := 0) (ifs : Array Nat := #[]) (fds : Array FieldInfo := #[]) : ClassFile where
  minorVersion := 0
  majorVersion := 65
  constantPool := pool
  accessFlags := fl
  thisClass := this
  superClass := sup
  interfaces := ifs
  fields := fds
  methods := ms
  attributes := attrs
def plain (name : String) (sup : Option ClassId) : Class where
  name := name
  kind := .ordinary
  loader := none
  accessFlags := 33
  super := sup
  interfaces := #[]
  cf := none
  fields := #[]
  methods := #[]
  instanceTypes := #[]
  staticTypes := #[]
  resolved := #[]
  callSites := []
  init := .initialized
  statics := none
  mirror := none

def pool0 : Array CpInfo := pool [(5, u "<init>"), (0, u "()V"), (1, .class_ 10), (1, u "java/lang/Object"), (85, u "clone"), (0, u "()Ljava/lang/Object;")] 26

def k0c0 : Code := { maxStack := 0, maxLocals := 1, code := object_method_1_code, exceptionTable := #[], attributes := #[] }
def k0m0 : Method := { name := "<init>", desc := "()V", sig := { parameters := [], returnType := none }, accessFlags := 1, code := some k0c0 }
def k0m1 : Method := { name := "clone", desc := "()Ljava/lang/Object;", sig := { parameters := [], returnType := some (.object "java/lang/Object") }, accessFlags := 260, code := none }
/-- java/lang/Object -/
def k0 : Class := { plain "java/lang/Object" none with
  accessFlags := 33
  interfaces := #[]
  cf := some (fileOf pool0 8 #[] #[{ accessFlags := 1, nameIndex := 5, descriptorIndex := 6, attributes := #[] }, { accessFlags := 260, nameIndex := 96, descriptorIndex := 97, attributes := #[] }] 33 0 #[] #[])
  fields := #[]
  methods := #[k0m0, k0m1]
  instanceTypes := #[]
  staticTypes := #[]
  resolved := Array.replicate 124 none
  statics := none }

def pool1 : Array CpInfo := pool [(2, .class_ 4), (1, u "java/lang/Object"), (0, u "<init>"), (0, u "()V"), (0, .methodref 8 9), (0, .class_ 10), (0, .nameAndType 11 12), (0, u "com/example/stablebid/stablebid/cli/InputFileRefusalPinLaw"), (0, u "nameChar"), (0, u "(I)C"), (0, .methodref 8 14), (0, .nameAndType 15 16), (0, u "str"), (0, u "(ICCC)Ljava/lang/String;"), (0, .methodref 18 19), (0, .class_ 20), (0, .nameAndType 21 22), (0, u "com/example/stablebid/stablebid/cli/InputFile"), (0, u "refusal"), (0, u "(Ljava/lang/String;Ljava/lang/String;)Lcom/example/stablebid/stablebid/cli/InputException;"), (0, .methodref 24 25), (0, .class_ 26), (0, .nameAndType 27 28), (0, u "com/example/stablebid/stablebid/cli/InputException"), (0, u "getMessage"), (0, u "()Ljava/lang/String;"), (0, .methodref 30 31), (0, .class_ 32), (0, .nameAndType 33 34), (0, u "java/lang/String"), (0, u "length"), (0, u "()I"), (0, .methodref 8 36), (0, .nameAndType 37 38), (0, u "eq"), (0, u "(Ljava/lang/String;II[CI[C)Z"), (0, .methodref 30 40), (0, .nameAndType 5 41), (0, u "([C)V"), (0, .methodref 30 43), (0, .nameAndType 44 12), (0, u "charAt"), (0, .methodref 8 46), (0, .nameAndType 47 48), (0, u "pick"), (0, u "(I[CI[C)C"), (2, u "law"), (0, u "(II)Z")] 5

def k1m0 : Method := { name := "<init>", desc := "()V", sig := { parameters := [], returnType := none }, accessFlags := 2, code := none }
def k1c1 : Code := { maxStack := 6, maxLocals := 19, code := code, exceptionTable := #[], attributes := #[] }
def k1m1 : Method := { name := "law", desc := "(II)Z", sig := { parameters := [.int, .int], returnType := some .boolean }, accessFlags := 9, code := some k1c1 }
def k1c2 : Code := { maxStack := 2, maxLocals := 1, code := method_3_code, exceptionTable := #[], attributes := #[] }
def k1m2 : Method := { name := "nameChar", desc := "(I)C", sig := { parameters := [.int], returnType := some .char }, accessFlags := 10, code := some k1c2 }
def k1c3 : Code := { maxStack := 6, maxLocals := 4, code := method_4_code, exceptionTable := #[], attributes := #[] }
def k1m3 : Method := { name := "str", desc := "(ICCC)Ljava/lang/String;", sig := { parameters := [.int, .char, .char, .char], returnType := some (.object "java/lang/String") }, accessFlags := 10, code := some k1c3 }
def k1c4 : Code := { maxStack := 3, maxLocals := 4, code := method_5_code, exceptionTable := #[], attributes := #[] }
def k1m4 : Method := { name := "pick", desc := "(I[CI[C)C", sig := { parameters := [.int, (.array .char), .int, (.array .char)], returnType := some .char }, accessFlags := 10, code := some k1c4 }
def k1c5 : Code := { maxStack := 5, maxLocals := 6, code := method_6_code, exceptionTable := #[], attributes := #[] }
def k1m5 : Method := { name := "eq", desc := "(Ljava/lang/String;II[CI[C)Z", sig := { parameters := [(.object "java/lang/String"), .int, .int, (.array .char), .int, (.array .char)], returnType := some .boolean }, accessFlags := 10, code := some k1c5 }
/-- com/example/stablebid/stablebid/cli/InputFileRefusalPinLaw -/
def k1 : Class := { plain "com/example/stablebid/stablebid/cli/InputFileRefusalPinLaw" (some 0) with
  accessFlags := 49
  interfaces := #[]
  cf := some (fileOf pool1 8 #[] #[{ accessFlags := 2, nameIndex := 5, descriptorIndex := 6, attributes := #[] }, { accessFlags := 9, nameIndex := 51, descriptorIndex := 52, attributes := #[] }, { accessFlags := 10, nameIndex := 11, descriptorIndex := 12, attributes := #[] }, { accessFlags := 10, nameIndex := 15, descriptorIndex := 16, attributes := #[] }, { accessFlags := 10, nameIndex := 47, descriptorIndex := 48, attributes := #[] }, { accessFlags := 10, nameIndex := 37, descriptorIndex := 38, attributes := #[] }] 49 2 #[] #[])
  fields := #[]
  methods := #[k1m0, k1m1, k1m2, k1m3, k1m4, k1m5]
  instanceTypes := #[]
  staticTypes := #[]
  resolved := Array.replicate 58 none
  statics := none }

def pool2 : Array CpInfo := pool [(1, .class_ 2), (0, u "java/io/Serializable"), (0, .class_ 4), (0, u "java/lang/Object")] 2

/-- java/io/Serializable -/
def k2 : Class := { plain "java/io/Serializable" (some 0) with
  accessFlags := 1537
  interfaces := #[]
  cf := some (fileOf pool2 1 #[] #[] 1537 3 #[] #[])
  fields := #[]
  methods := #[]
  instanceTypes := #[]
  staticTypes := #[]
  resolved := Array.replicate 7 none
  statics := none }

def pool3 : Array CpInfo := pool [(1, .class_ 2), (0, u "java/lang/Comparable"), (0, .class_ 4), (0, u "java/lang/Object")] 7

/-- java/lang/Comparable -/
def k3 : Class := { plain "java/lang/Comparable" (some 0) with
  accessFlags := 1537
  interfaces := #[]
  cf := some (fileOf pool3 1 #[] #[] 1537 3 #[] #[])
  fields := #[]
  methods := #[]
  instanceTypes := #[]
  staticTypes := #[]
  resolved := Array.replicate 12 none
  statics := none }

def pool4 : Array CpInfo := pool [(2, .class_ 4), (1, u "java/lang/CharSequence"), (42, .class_ 48), (0, u "java/lang/CharSequence$1CodePointIterator"), (10, .class_ 60), (0, u "java/lang/CharSequence$1CharIterator"), (5, .class_ 67), (0, u "java/lang/Object")] 63

/-- java/lang/CharSequence -/
def k4 : Class := { plain "java/lang/CharSequence" (some 0) with
  accessFlags := 1537
  interfaces := #[]
  cf := some (fileOf pool4 2 #[.nestMembers #[47, 59]] #[] 1537 66 #[] #[])
  fields := #[]
  methods := #[]
  instanceTypes := #[]
  staticTypes := #[]
  resolved := Array.replicate 131 none
  statics := none }

def pool5 : Array CpInfo := pool [(1, .class_ 2), (0, u "java/lang/constant/Constable"), (0, .class_ 4), (0, u "java/lang/Object")] 6

/-- java/lang/constant/Constable -/
def k5 : Class := { plain "java/lang/constant/Constable" (some 0) with
  accessFlags := 1537
  interfaces := #[]
  cf := some (fileOf pool5 1 #[] #[] 1537 3 #[] #[])
  fields := #[]
  methods := #[]
  instanceTypes := #[]
  staticTypes := #[]
  resolved := Array.replicate 11 none
  statics := none }

def pool6 : Array CpInfo := pool [(1, .class_ 2), (0, u "java/lang/constant/ConstantDesc"), (0, .class_ 4), (0, u "java/lang/Object")] 32

/-- java/lang/constant/ConstantDesc -/
def k6 : Class := { plain "java/lang/constant/ConstantDesc" (some 0) with
  accessFlags := 1537
  interfaces := #[]
  cf := some (fileOf pool6 1 #[] #[] 1537 3 #[] #[])
  fields := #[]
  methods := #[]
  instanceTypes := #[]
  staticTypes := #[]
  resolved := Array.replicate 37 none
  statics := none }

def pool7 : Array CpInfo := pool [(1, .methodref 2 3), (0, .class_ 4), (0, .nameAndType 5 6), (0, u "java/lang/Object"), (0, u "<init>"), (0, u "()V"), (0, .string 8), (0, u ""), (0, .fieldref 10 11), (0, .class_ 12), (0, .nameAndType 13 14), (0, u "java/lang/String"), (0, u "value"), (0, u "[B"), (0, .fieldref 10 16), (0, .nameAndType 17 18), (0, u "coder"), (0, u "B"), (2, u "hash"), (0, u "I"), (2, u "hashIsZero"), (0, u "Z"), (0, .methodref 10 28), (0, .nameAndType 5 29), (0, u "([CIILjava/lang/Void;)V"), (8, .fieldref 10 39), (0, .nameAndType 40 26), (0, u "COMPACT_STRINGS"), (1, .class_ 44), (1, u "java/lang/StringUTF16"), (0, u "compress"), (1, .methodref 42 48), (0, .nameAndType 49 50), (0, u "coderFromArrayLen"), (0, u "([BI)B"), (3, .methodref 55 56), (0, .class_ 57), (0, .nameAndType 58 59), (0, u "java/util/Arrays"), (0, u "copyOfRange"), (0, u "([BII)[B"), (47, .class_ 109), (1, u "java/lang/StringLatin1"), (32, u "()Z"), (34, .methodref 42 178), (0, .nameAndType 45 179), (0, u "([CII)[B"), (13, .class_ 195), (1, u "java/lang/System"), (16, .methodref 193 213), (0, .nameAndType 214 215), (0, u "arraycopy"), (0, u "(Ljava/lang/Object;ILjava/lang/Object;II)V"), (118, u "()I"), (0, .methodref 10 336), (0, .nameAndType 17 337), (0, u "()B"), (2, u "()[B"), (22, u "([BI)C"), (27, u "(II)V"), (35, u "(I)C"), (61, .methodref 10 490), (0, .nameAndType 5 491), (0, u "(Ljava/lang/AbstractStringBuilder;Ljava/lang/Void;)V"), (0, .methodref 10 493), (0, .nameAndType 494 142), (0, u "isLatin1"), (0, .methodref 107 496), (0, .nameAndType 497 363), (0, u "charAt"), (3, u "checkIndex"), (4, .nameAndType 507 334), (0, u "length"), (24, u "getBytes"), (8, .methodref 107 542), (0, .nameAndType 543 544), (0, u "equals"), (0, u "([B[B)Z"), (4, .methodref 550 506), (0, .class_ 551), (0, u "java/lang/AbstractStringBuilder"), (0, .methodref 550 553), (0, .nameAndType 554 340), (0, u "getValue"), (18, u "(Ljava/lang/Object;)Z"), (1, .class_ 576), (0, u "java/lang/CharSequence"), (22, u "CASE_INSENSITIVE_ORDER"), (0, u "Ljava/util/Comparator;"), (220, u "([BIB)V"), (188, u "([C)V"), (36, .methodref 550 493), (5, .fieldref 1054 1055), (0, .class_ 1056), (0, .nameAndType 1057 1058), (0, u "jdk/internal/util/Preconditions"), (0, u "SIOOBE_FORMATTER"), (0, u "Ljava/util/function/BiFunction;"), (0, .methodref 1054 1060), (0, .nameAndType 501 1061), (0, u "(IILjava/util/function/BiFunction;)I"), (39, u "serialPersistentFields"), (0, u "[Ljava/io/ObjectStreamField;"), (0, .class_ 1104), (0, u "java/lang/String$CaseInsensitiveComparator"), (1, .class_ 1107), (0, u "java/io/Serializable"), (0, .class_ 1109), (0, u "java/lang/Comparable"), (0, .class_ 1111), (0, u "java/lang/constant/Constable"), (0, .class_ 1113), (0, u "java/lang/constant/ConstantDesc"), (2, u "serialVersionUID"), (0, u "J"), (3, u "REPL"), (0, u "C"), (2, u "LATIN1"), (1, u "UTF16"), (105, u "(Ljava/lang/StringBuilder;)V")] 217

def k7m0 : Method := { name := "<init>", desc := "()V", sig := { parameters := [], returnType := none }, accessFlags := 1, code := none }
def k7c1 : Code := { maxStack := 5, maxLocals := 2, code := jdk_42_method_3_code, exceptionTable := #[], attributes := #[] }
def k7m1 : Method := { name := "<init>", desc := "([C)V", sig := { parameters := [(.array .char)], returnType := none }, accessFlags := 1, code := some k7c1 }
def k7c2 : Code := { maxStack := 3, maxLocals := 2, code := jdk_42_method_53_code, exceptionTable := #[], attributes := #[] }
def k7m2 : Method := { name := "<init>", desc := "(Ljava/lang/StringBuilder;)V", sig := { parameters := [(.object "java/lang/StringBuilder")], returnType := none }, accessFlags := 1, code := some k7c2 }
def k7c3 : Code := { maxStack := 2, maxLocals := 1, code := jdk_42_method_54_code, exceptionTable := #[], attributes := #[] }
def k7m3 : Method := { name := "length", desc := "()I", sig := { parameters := [], returnType := some .int }, accessFlags := 1, code := some k7c3 }
def k7c4 : Code := { maxStack := 2, maxLocals := 2, code := jdk_42_method_56_code, exceptionTable := #[], attributes := #[] }
def k7m4 : Method := { name := "charAt", desc := "(I)C", sig := { parameters := [.int], returnType := some .char }, accessFlags := 1, code := some k7c4 }
def k7c5 : Code := { maxStack := 2, maxLocals := 3, code := jdk_42_method_66_code, exceptionTable := #[], attributes := #[] }
def k7m5 : Method := { name := "equals", desc := "(Ljava/lang/Object;)Z", sig := { parameters := [(.object "java/lang/Object")], returnType := some .boolean }, accessFlags := 1, code := some k7c5 }
def k7c6 : Code := { maxStack := 5, maxLocals := 4, code := jdk_42_method_147_code, exceptionTable := #[], attributes := #[] }
def k7m6 : Method := { name := "getBytes", desc := "([BIB)V", sig := { parameters := [(.array .byte), .int, .byte], returnType := none }, accessFlags := 0, code := some k7c6 }
def k7c7 : Code := { maxStack := 4, maxLocals := 6, code := jdk_42_method_149_code, exceptionTable := #[], attributes := #[] }
def k7m7 : Method := { name := "<init>", desc := "([CIILjava/lang/Void;)V", sig := { parameters := [(.array .char), .int, .int, (.object "java/lang/Void")], returnType := none }, accessFlags := 2, code := some k7c7 }
def k7c8 : Code := { maxStack := 5, maxLocals := 5, code := jdk_42_method_150_code, exceptionTable := #[], attributes := #[] }
def k7m8 : Method := { name := "<init>", desc := "(Ljava/lang/AbstractStringBuilder;Ljava/lang/Void;)V", sig := { parameters := [(.object "java/lang/AbstractStringBuilder"), (.object "java/lang/Void")], returnType := none }, accessFlags := 0, code := some k7c8 }
def k7c9 : Code := { maxStack := 1, maxLocals := 1, code := jdk_42_method_152_code, exceptionTable := #[], attributes := #[] }
def k7m9 : Method := { name := "coder", desc := "()B", sig := { parameters := [], returnType := some .byte }, accessFlags := 0, code := some k7c9 }
def k7c10 : Code := { maxStack := 1, maxLocals := 1, code := jdk_42_method_154_code, exceptionTable := #[], attributes := #[] }
def k7m10 : Method := { name := "isLatin1", desc := "()Z", sig := { parameters := [], returnType := some .boolean }, accessFlags := 0, code := some k7c10 }
def k7c11 : Code := { maxStack := 3, maxLocals := 2, code := jdk_42_method_155_code, exceptionTable := #[], attributes := #[] }
def k7m11 : Method := { name := "checkIndex", desc := "(II)V", sig := { parameters := [.int, .int], returnType := none }, accessFlags := 8, code := some k7c11 }
/-- java/lang/String -/
def k7 : Class := { plain "java/lang/String" (some 0) with
  accessFlags := 49
  interfaces := #[2, 3, 4, 5, 6]
  cf := some (fileOf pool7 10 #[.nestMembers #[1103]] #[{ accessFlags := 1, nameIndex := 5, descriptorIndex := 6, attributes := #[] }, { accessFlags := 1, nameIndex := 5, descriptorIndex := 1010, attributes := #[] }, { accessFlags := 1, nameIndex := 5, descriptorIndex := 1233, attributes := #[] }, { accessFlags := 1, nameIndex := 507, descriptorIndex := 334, attributes := #[] }, { accessFlags := 1, nameIndex := 497, descriptorIndex := 427, attributes := #[] }, { accessFlags := 1, nameIndex := 543, descriptorIndex := 573, attributes := #[] }, { accessFlags := 0, nameIndex := 532, descriptorIndex := 821, attributes := #[] }, { accessFlags := 2, nameIndex := 5, descriptorIndex := 29, attributes := #[] }, { accessFlags := 0, nameIndex := 5, descriptorIndex := 491, attributes := #[] }, { accessFlags := 0, nameIndex := 17, descriptorIndex := 337, attributes := #[] }, { accessFlags := 0, nameIndex := 494, descriptorIndex := 142, attributes := #[] }, { accessFlags := 8, nameIndex := 501, descriptorIndex := 391, attributes := #[] }] 49 2 #[1106, 1108, 575, 1110, 1112] #[{ accessFlags := 18, nameIndex := 13, descriptorIndex := 14, attributes := #[] }, { accessFlags := 18, nameIndex := 17, descriptorIndex := 18, attributes := #[] }, { accessFlags := 2, nameIndex := 21, descriptorIndex := 22, attributes := #[] }, { accessFlags := 2, nameIndex := 25, descriptorIndex := 26, attributes := #[] }, { accessFlags := 26, nameIndex := 1116, descriptorIndex := 1117, attributes := #[] }, { accessFlags := 24, nameIndex := 40, descriptorIndex := 26, attributes := #[] }, { accessFlags := 26, nameIndex := 1101, descriptorIndex := 1102, attributes := #[] }, { accessFlags := 26, nameIndex := 1121, descriptorIndex := 1122, attributes := #[] }, { accessFlags := 25, nameIndex := 599, descriptorIndex := 600, attributes := #[] }, { accessFlags := 24, nameIndex := 1125, descriptorIndex := 18, attributes := #[] }, { accessFlags := 24, nameIndex := 1127, descriptorIndex := 18, attributes := #[] }])
  fields := #[{ name := "value", type := (.array .byte), accessFlags := 18, slot := 0, constantValue := 0 }, { name := "coder", type := .byte, accessFlags := 18, slot := 1, constantValue := 0 }, { name := "hash", type := .int, accessFlags := 2, slot := 2, constantValue := 0 }, { name := "hashIsZero", type := .boolean, accessFlags := 2, slot := 3, constantValue := 0 }, { name := "serialVersionUID", type := .long, accessFlags := 26, slot := 0, constantValue := 0 }, { name := "COMPACT_STRINGS", type := .boolean, accessFlags := 24, slot := 1, constantValue := 0 }, { name := "serialPersistentFields", type := (.array (.object "java/io/ObjectStreamField")), accessFlags := 26, slot := 2, constantValue := 0 }, { name := "REPL", type := .char, accessFlags := 26, slot := 3, constantValue := 0 }, { name := "CASE_INSENSITIVE_ORDER", type := (.object "java/util/Comparator"), accessFlags := 25, slot := 4, constantValue := 0 }, { name := "LATIN1", type := .byte, accessFlags := 24, slot := 5, constantValue := 0 }, { name := "UTF16", type := .byte, accessFlags := 24, slot := 6, constantValue := 0 }]
  methods := #[k7m0, k7m1, k7m2, k7m3, k7m4, k7m5, k7m6, k7m7, k7m8, k7m9, k7m10, k7m11]
  instanceTypes := #[(.array .byte), .byte, .int, .boolean]
  staticTypes := #[.long, .boolean, (.array (.object "java/io/ObjectStreamField")), .char, (.object "java/util/Comparator"), .byte, .byte]
  resolved := Array.replicate 1451 none
  statics := some 0 }

def pool8 : Array CpInfo := pool [(6, .class_ 8), (1, u "java/lang/Object"), (0, u "<init>"), (0, u "()V"), (1, .class_ 14), (1, u "java/lang/StringUTF16"), (31, u "$assertionsDisabled"), (0, u "Z"), (13, u "HI_BYTE_SHIFT"), (0, u "I"), (2, u "LO_BYTE_SHIFT"), (49, .methodref 12 116), (0, .nameAndType 117 118), (0, u "compress"), (0, u "([CI[BII)I"), (3, u "([CII)[B"), (138, u "coderFromArrayLen"), (0, u "([BI)B"), (106, .class_ 371), (1, u "java/lang/StringUTF16$LinesSpliterator"), (58, u "MAX_LENGTH"), (196, .class_ 628), (0, u "java/lang/StringUTF16$CodePointsSpliterator"), (0, .class_ 630), (0, u "java/lang/StringUTF16$CharsSpliterator")] 4

def k8m0 : Method := { name := "<init>", desc := "()V", sig := { parameters := [], returnType := none }, accessFlags := 0, code := none }
def k8c1 : Code := { maxStack := 2, maxLocals := 2, code := jdk_52_method_15_code, exceptionTable := #[], attributes := #[] }
def k8m1 : Method := { name := "coderFromArrayLen", desc := "([BI)B", sig := { parameters := [(.array .byte), .int], returnType := some .byte }, accessFlags := 8, code := some k8c1 }
def k8c2 : Code := { maxStack := 5, maxLocals := 6, code := jdk_52_method_16_code, exceptionTable := #[], attributes := #[] }
def k8m2 : Method := { name := "compress", desc := "([CII)[B", sig := { parameters := [(.array .char), .int, .int], returnType := some (.array .byte) }, accessFlags := 9, code := some k8c2 }
def k8c3 : Code := { maxStack := 3, maxLocals := 7, code := jdk_52_method_21_code, exceptionTable := #[], attributes := #[] }
def k8m3 : Method := { name := "compress", desc := "([CI[BII)I", sig := { parameters := [(.array .char), .int, (.array .byte), .int, .int], returnType := some .int }, accessFlags := 9, code := some k8c3 }
/-- java/lang/StringUTF16 -/
def k8 : Class := { plain "java/lang/StringUTF16" (some 0) with
  accessFlags := 48
  interfaces := #[]
  cf := some (fileOf pool8 12 #[.nestMembers #[627, 629, 369]] #[{ accessFlags := 0, nameIndex := 9, descriptorIndex := 10, attributes := #[] }, { accessFlags := 8, nameIndex := 261, descriptorIndex := 262, attributes := #[] }, { accessFlags := 9, nameIndex := 117, descriptorIndex := 122, attributes := #[] }, { accessFlags := 9, nameIndex := 117, descriptorIndex := 118, attributes := #[] }] 48 6 #[] #[{ accessFlags := 26, nameIndex := 61, descriptorIndex := 62, attributes := #[] }, { accessFlags := 26, nameIndex := 65, descriptorIndex := 62, attributes := #[] }, { accessFlags := 24, nameIndex := 430, descriptorIndex := 62, attributes := #[] }, { accessFlags := 4120, nameIndex := 46, descriptorIndex := 47, attributes := #[] }])
  fields := #[{ name := "HI_BYTE_SHIFT", type := .int, accessFlags := 26, slot := 0, constantValue := 0 }, { name := "LO_BYTE_SHIFT", type := .int, accessFlags := 26, slot := 1, constantValue := 0 }, { name := "MAX_LENGTH", type := .int, accessFlags := 24, slot := 2, constantValue := 0 }, { name := "$assertionsDisabled", type := .boolean, accessFlags := 4120, slot := 3, constantValue := 0 }]
  methods := #[k8m0, k8m1, k8m2, k8m3]
  instanceTypes := #[]
  staticTypes := #[.int, .int, .int, .boolean]
  resolved := Array.replicate 635 none
  statics := none }

def pool9 : Array CpInfo := pool [(2, .class_ 4), (0, .nameAndType 5 6), (0, u "java/lang/Object"), (0, u "<init>"), (0, u "()V"), (5, .class_ 14), (1, u "com/example/stablebid/stablebid/cli/InputFile"), (2, .class_ 18), (0, u "com/example/stablebid/stablebid/cli/InputException"), (3, u "()Ljava/lang/String;"), (2, u "refusal"), (0, u "(Ljava/lang/String;Ljava/lang/String;)Lcom/example/stablebid/stablebid/cli/InputException;"), (1, .class_ 30), (1, u "com/example/stablebid/stablebid/cli/InputFile$Step"), (5, .methodref 17 37), (0, .nameAndType 5 38), (0, u "(Ljava/lang/String;)V"), (0, .class_ 40), (0, u "java/lang/StringBuilder"), (0, .methodref 39 3), (0, .methodref 12 43), (0, .nameAndType 44 45), (0, u "label"), (0, u "(Ljava/lang/String;)Ljava/lang/String;"), (0, .methodref 39 47), (0, .nameAndType 48 49), (0, u "append"), (0, u "(Ljava/lang/String;)Ljava/lang/StringBuilder;"), (0, .string 51), (0, u ": "), (0, .methodref 39 53), (0, .nameAndType 54 22), (0, u "toString"), (0, .string 56), (0, u "-"), (0, .methodref 58 59), (0, .class_ 60), (0, .nameAndType 61 62), (0, u "java/lang/String"), (0, u "equals"), (0, u "(Ljava/lang/Object;)Z"), (0, .string 64), (0, u "standard input"), (43, .class_ 110), (1, u "com/example/stablebid/stablebid/cli/InputFile$Parser"), (2, u "STANDARD_INPUT"), (0, u "Ljava/lang/String;")] 35

def k9m0 : Method := { name := "<init>", desc := "()V", sig := { parameters := [], returnType := none }, accessFlags := 2, code := none }
def k9c1 : Code := { maxStack := 4, maxLocals := 2, code := prog_22_method_4_code, exceptionTable := #[], attributes := #[] }
def k9m1 : Method := { name := "refusal", desc := "(Ljava/lang/String;Ljava/lang/String;)Lcom/example/stablebid/stablebid/cli/InputException;", sig := { parameters := [(.object "java/lang/String"), (.object "java/lang/String")], returnType := some (.object "com/example/stablebid/stablebid/cli/InputException") }, accessFlags := 8, code := some k9c1 }
def k9c2 : Code := { maxStack := 2, maxLocals := 1, code := prog_22_method_5_code, exceptionTable := #[], attributes := #[] }
def k9m2 : Method := { name := "label", desc := "(Ljava/lang/String;)Ljava/lang/String;", sig := { parameters := [(.object "java/lang/String")], returnType := some (.object "java/lang/String") }, accessFlags := 10, code := some k9c2 }
/-- com/example/stablebid/stablebid/cli/InputFile -/
def k9 : Class := { plain "com/example/stablebid/stablebid/cli/InputFile" (some 0) with
  accessFlags := 48
  interfaces := #[]
  cf := some (fileOf pool9 12 #[.nestMembers #[28, 108]] #[{ accessFlags := 2, nameIndex := 5, descriptorIndex := 6, attributes := #[] }, { accessFlags := 8, nameIndex := 25, descriptorIndex := 26, attributes := #[] }, { accessFlags := 10, nameIndex := 44, descriptorIndex := 45, attributes := #[] }] 48 2 #[] #[{ accessFlags := 24, nameIndex := 113, descriptorIndex := 114, attributes := #[] }])
  fields := #[{ name := "STANDARD_INPUT", type := (.object "java/lang/String"), accessFlags := 24, slot := 0, constantValue := 0 }]
  methods := #[k9m0, k9m1, k9m2]
  instanceTypes := #[]
  staticTypes := #[(.object "java/lang/String")]
  resolved := Array.replicate 150 none
  statics := none }

def pool10 : Array CpInfo := pool [(1, .methodref 2 3), (0, .class_ 4), (0, .nameAndType 5 6), (0, u "java/lang/Object"), (0, u "<init>"), (0, u "()V"), (0, .fieldref 8 9), (0, .class_ 10), (0, .nameAndType 11 12), (0, u "java/lang/Throwable"), (0, u "cause"), (0, u "Ljava/lang/Throwable;"), (0, .fieldref 8 14), (0, .nameAndType 15 16), (0, u "UNASSIGNED_STACK"), (0, u "[Ljava/lang/StackTraceElement;"), (0, .fieldref 8 18), (0, .nameAndType 19 16), (0, u "stackTrace"), (0, .fieldref 8 21), (0, .nameAndType 22 23), (0, u "SUPPRESSED_SENTINEL"), (0, u "Ljava/util/List;"), (0, .fieldref 8 25), (0, .nameAndType 26 23), (0, u "suppressedExceptions"), (0, .methodref 8 28), (0, .nameAndType 29 30), (0, u "fillInStackTrace"), (0, u "()Ljava/lang/Throwable;"), (0, .fieldref 8 32), (0, .nameAndType 33 34), (0, u "detailMessage"), (0, u "Ljava/lang/String;"), (3, u "()Ljava/lang/String;"), (2, u "getMessage"), (51, .class_ 94), (0, u "java/lang/Throwable$WrappedPrintStream"), (6, .class_ 103), (1, u "java/lang/Throwable$PrintStreamOrWriter"), (61, u "$assertionsDisabled"), (0, u "Z"), (26, .class_ 194), (0, u "java/lang/Throwable$WrappedPrintWriter"), (3, .fieldref 8 199), (0, .nameAndType 200 201), (0, u "backtrace"), (0, u "Ljava/lang/Object;"), (0, .methodref 8 203), (0, .nameAndType 29 204), (0, u "(I)Ljava/lang/Throwable;"), (6, u "depth"), (0, u "I"), (10, u "(Ljava/lang/String;)V"), (45, .class_ 271), (1, u "java/lang/Throwable$SentinelHolder"), (32, u "EMPTY_THROWABLE_ARRAY"), (0, u "[Ljava/lang/Throwable;"), (12, .class_ 319), (0, u "java/io/Serializable"), (0, u "serialVersionUID"), (0, u "J"), (5, u "NULL_CAUSE_MESSAGE"), (0, u "SELF_SUPPRESSION_MESSAGE"), (0, u "CAUSE_CAPTION"), (0, u "SUPPRESSED_CAPTION")] 73

def k10c0 : Code := { maxStack := 2, maxLocals := 1, code := jdk_78_method_1_code, exceptionTable := #[], attributes := #[] }
def k10m0 : Method := { name := "<init>", desc := "()V", sig := { parameters := [], returnType := none }, accessFlags := 1, code := some k10c0 }
def k10c1 : Code := { maxStack := 2, maxLocals := 2, code := jdk_78_method_2_code, exceptionTable := #[], attributes := #[] }
def k10m1 : Method := { name := "<init>", desc := "(Ljava/lang/String;)V", sig := { parameters := [(.object "java/lang/String")], returnType := none }, accessFlags := 1, code := some k10c1 }
def k10c2 : Code := { maxStack := 1, maxLocals := 1, code := jdk_78_method_6_code, exceptionTable := #[], attributes := #[] }
def k10m2 : Method := { name := "getMessage", desc := "()Ljava/lang/String;", sig := { parameters := [], returnType := some (.object "java/lang/String") }, accessFlags := 1, code := some k10c2 }
def k10c3 : Code := { maxStack := 2, maxLocals := 1, code := ⟨#[0x2a, 0xb4, 0x00, 0x11, 0xc7, 0x00, 0x0a, 0x2a, 0xb4, 0x00, 0xc6, 0xc6, 0x00, 0x10, 0x2a, 0x03, 0xb6, 0x00, 0xca, 0x57, 0x2a, 0xb2, 0x00, 0x0d, 0xb5, 0x00, 0x11, 0x2a, 0xb0]⟩, exceptionTable := #[], attributes := #[] }
def k10m3 : Method := { name := "fillInStackTrace", desc := "()Ljava/lang/Throwable;", sig := { parameters := [], returnType := some (.object "java/lang/Throwable") }, accessFlags := 33, code := some k10c3 }
def k10m4 : Method := { name := "fillInStackTrace", desc := "(I)Ljava/lang/Throwable;", sig := { parameters := [.int], returnType := some (.object "java/lang/Throwable") }, accessFlags := 258, code := none }
/-- java/lang/Throwable -/
def k10 : Class := { plain "java/lang/Throwable" (some 0) with
  accessFlags := 33
  interfaces := #[2]
  cf := some (fileOf pool10 8 #[.nestMembers #[193, 93, 101, 269]] #[{ accessFlags := 1, nameIndex := 5, descriptorIndex := 6, attributes := #[] }, { accessFlags := 1, nameIndex := 5, descriptorIndex := 223, attributes := #[] }, { accessFlags := 1, nameIndex := 41, descriptorIndex := 38, attributes := #[] }, { accessFlags := 33, nameIndex := 29, descriptorIndex := 30, attributes := #[] }, { accessFlags := 258, nameIndex := 29, descriptorIndex := 204, attributes := #[] }] 33 2 #[318] #[{ accessFlags := 26, nameIndex := 320, descriptorIndex := 321, attributes := #[] }, { accessFlags := 130, nameIndex := 200, descriptorIndex := 201, attributes := #[] }, { accessFlags := 2, nameIndex := 33, descriptorIndex := 34, attributes := #[] }, { accessFlags := 26, nameIndex := 15, descriptorIndex := 16, attributes := #[] }, { accessFlags := 2, nameIndex := 11, descriptorIndex := 12, attributes := #[] }, { accessFlags := 2, nameIndex := 19, descriptorIndex := 16, attributes := #[] }, { accessFlags := 130, nameIndex := 211, descriptorIndex := 212, attributes := #[] }, { accessFlags := 26, nameIndex := 22, descriptorIndex := 23, attributes := #[] }, { accessFlags := 2, nameIndex := 26, descriptorIndex := 23, attributes := #[] }, { accessFlags := 26, nameIndex := 327, descriptorIndex := 34, attributes := #[] }, { accessFlags := 26, nameIndex := 328, descriptorIndex := 34, attributes := #[] }, { accessFlags := 26, nameIndex := 329, descriptorIndex := 34, attributes := #[] }, { accessFlags := 26, nameIndex := 330, descriptorIndex := 34, attributes := #[] }, { accessFlags := 26, nameIndex := 304, descriptorIndex := 305, attributes := #[] }, { accessFlags := 4120, nameIndex := 165, descriptorIndex := 166, attributes := #[] }])
  fields := #[{ name := "serialVersionUID", type := .long, accessFlags := 26, slot := 0, constantValue := 0 }, { name := "backtrace", type := (.object "java/lang/Object"), accessFlags := 130, slot := 0, constantValue := 0 }, { name := "detailMessage", type := (.object "java/lang/String"), accessFlags := 2, slot := 1, constantValue := 0 }, { name := "UNASSIGNED_STACK", type := (.array (.object "java/lang/StackTraceElement")), accessFlags := 26, slot := 1, constantValue := 0 }, { name := "cause", type := (.object "java/lang/Throwable"), accessFlags := 2, slot := 2, constantValue := 0 }, { name := "stackTrace", type := (.array (.object "java/lang/StackTraceElement")), accessFlags := 2, slot := 3, constantValue := 0 }, { name := "depth", type := .int, accessFlags := 130, slot := 4, constantValue := 0 }, { name := "SUPPRESSED_SENTINEL", type := (.object "java/util/List"), accessFlags := 26, slot := 2, constantValue := 0 }, { name := "suppressedExceptions", type := (.object "java/util/List"), accessFlags := 2, slot := 5, constantValue := 0 }, { name := "NULL_CAUSE_MESSAGE", type := (.object "java/lang/String"), accessFlags := 26, slot := 3, constantValue := 0 }, { name := "SELF_SUPPRESSION_MESSAGE", type := (.object "java/lang/String"), accessFlags := 26, slot := 4, constantValue := 0 }, { name := "CAUSE_CAPTION", type := (.object "java/lang/String"), accessFlags := 26, slot := 5, constantValue := 0 }, { name := "SUPPRESSED_CAPTION", type := (.object "java/lang/String"), accessFlags := 26, slot := 6, constantValue := 0 }, { name := "EMPTY_THROWABLE_ARRAY", type := (.array (.object "java/lang/Throwable")), accessFlags := 26, slot := 7, constantValue := 0 }, { name := "$assertionsDisabled", type := .boolean, accessFlags := 4120, slot := 8, constantValue := 0 }]
  methods := #[k10m0, k10m1, k10m2, k10m3, k10m4]
  instanceTypes := #[(.object "java/lang/Object"), (.object "java/lang/String"), (.object "java/lang/Throwable"), (.array (.object "java/lang/StackTraceElement")), .int, (.object "java/util/List")]
  staticTypes := #[.long, (.array (.object "java/lang/StackTraceElement")), (.object "java/util/List"), (.object "java/lang/String"), (.object "java/lang/String"), (.object "java/lang/String"), (.object "java/lang/String"), (.array (.object "java/lang/Throwable")), .boolean]
  resolved := Array.replicate 404 none
  statics := some 1 }

def pool11 : Array CpInfo := pool [(2, .class_ 4), (1, u "java/lang/Throwable"), (0, u "<init>"), (0, u "()V"), (0, .methodref 2 8), (0, .nameAndType 5 9), (0, u "(Ljava/lang/String;)V"), (9, .class_ 20), (0, u "java/lang/Exception"), (0, u "serialVersionUID"), (0, u "J")] 17

def k11m0 : Method := { name := "<init>", desc := "()V", sig := { parameters := [], returnType := none }, accessFlags := 1, code := none }
def k11c1 : Code := { maxStack := 2, maxLocals := 2, code := jdk_59_method_2_code, exceptionTable := #[], attributes := #[] }
def k11m1 : Method := { name := "<init>", desc := "(Ljava/lang/String;)V", sig := { parameters := [(.object "java/lang/String")], returnType := none }, accessFlags := 1, code := some k11c1 }
/-- java/lang/Exception -/
def k11 : Class := { plain "java/lang/Exception" (some 10) with
  accessFlags := 33
  interfaces := #[]
  cf := some (fileOf pool11 19 #[] #[{ accessFlags := 1, nameIndex := 5, descriptorIndex := 6, attributes := #[] }, { accessFlags := 1, nameIndex := 5, descriptorIndex := 9, attributes := #[] }] 33 2 #[] #[{ accessFlags := 24, nameIndex := 21, descriptorIndex := 22, attributes := #[] }])
  fields := #[{ name := "serialVersionUID", type := .long, accessFlags := 24, slot := 0, constantValue := 0 }]
  methods := #[k11m0, k11m1]
  instanceTypes := #[(.object "java/lang/Object"), (.object "java/lang/String"), (.object "java/lang/Throwable"), (.array (.object "java/lang/StackTraceElement")), .int, (.object "java/util/List")]
  staticTypes := #[.long]
  resolved := Array.replicate 40 none
  statics := none }

def pool12 : Array CpInfo := pool [(1, .methodref 2 3), (0, .class_ 4), (0, .nameAndType 5 6), (0, u "java/lang/Exception"), (0, u "<init>"), (0, u "(Ljava/lang/String;)V"), (0, .class_ 8), (0, u "com/example/stablebid/stablebid/cli/InputException"), (0, u "serialVersionUID"), (0, u "J")] 7

def k12c0 : Code := { maxStack := 2, maxLocals := 2, code := prog_21_method_1_code, exceptionTable := #[], attributes := #[] }
def k12m0 : Method := { name := "<init>", desc := "(Ljava/lang/String;)V", sig := { parameters := [(.object "java/lang/String")], returnType := none }, accessFlags := 0, code := some k12c0 }
/-- com/example/stablebid/stablebid/cli/InputException -/
def k12 : Class := { plain "com/example/stablebid/stablebid/cli/InputException" (some 11) with
  accessFlags := 48
  interfaces := #[]
  cf := some (fileOf pool12 7 #[] #[{ accessFlags := 0, nameIndex := 5, descriptorIndex := 6, attributes := #[] }] 48 2 #[] #[{ accessFlags := 26, nameIndex := 9, descriptorIndex := 10, attributes := #[] }])
  fields := #[{ name := "serialVersionUID", type := .long, accessFlags := 26, slot := 0, constantValue := 0 }]
  methods := #[k12m0]
  instanceTypes := #[(.object "java/lang/Object"), (.object "java/lang/String"), (.object "java/lang/Throwable"), (.array (.object "java/lang/StackTraceElement")), .int, (.object "java/util/List")]
  staticTypes := #[.long]
  resolved := Array.replicate 18 none
  statics := none }

def pool13 : Array CpInfo := pool [(1, .class_ 2), (0, u "java/lang/Appendable"), (0, .class_ 4), (0, u "java/lang/Object")] 9

/-- java/lang/Appendable -/
def k13 : Class := { plain "java/lang/Appendable" (some 0) with
  accessFlags := 1537
  interfaces := #[]
  cf := some (fileOf pool13 1 #[] #[] 1537 3 #[] #[])
  fields := #[]
  methods := #[]
  instanceTypes := #[]
  staticTypes := #[]
  resolved := Array.replicate 14 none
  statics := none }

def pool14 : Array CpInfo := pool [(1, .class_ 2), (0, u "java/lang/String"), (0, .methodref 4 5), (0, .class_ 6), (0, .nameAndType 7 8), (0, u "java/lang/Object"), (0, u "<init>"), (0, u "()V"), (1, .class_ 12), (1, u "java/lang/AbstractStringBuilder"), (0, u "EMPTYVALUE"), (0, u "[B"), (0, .fieldref 10 16), (0, .nameAndType 17 14), (0, u "value"), (0, .fieldref 1 19), (0, .nameAndType 20 21), (0, u "COMPACT_STRINGS"), (0, u "Z"), (0, .fieldref 10 23), (0, .nameAndType 24 25), (0, u "coder"), (0, u "B"), (6, .methodref 1 33), (0, .nameAndType 34 35), (0, u "length"), (0, u "()I"), (3, .integer 2147483647), (0, .methodref 1 41), (0, .nameAndType 24 42), (0, u "()B"), (2, u "append"), (0, u "(Ljava/lang/String;)Ljava/lang/AbstractStringBuilder;"), (1, .class_ 49), (0, u "java/lang/CharSequence"), (19, u "(Ljava/lang/String;)V"), (5, u "maybeLatin1"), (3, .fieldref 10 80), (0, .nameAndType 81 82), (0, u "count"), (0, u "I"), (2, u "isLatin1"), (0, u "()Z"), (13, .methodref 10 101), (0, .nameAndType 102 103), (0, u "ensureCapacityInternal"), (0, u "(I)V"), (0, .methodref 10 105), (0, .nameAndType 106 107), (0, u "newCapacity"), (0, u "(I)I"), (0, .methodref 109 110), (0, .class_ 111), (0, .nameAndType 112 113), (0, u "java/util/Arrays"), (0, u "copyOf"), (0, u "([BI)[B"), (0, .methodref 115 116), (0, .class_ 117), (0, .nameAndType 118 119), (0, u "jdk/internal/util/ArraysSupport"), (0, u "newLength"), (0, u "(III)I"), (88, .methodref 10 209), (0, .nameAndType 210 211), (0, u "putStringAt"), (0, u "(ILjava/lang/String;)V"), (5, u "inflateIfNeededFor"), (2, .nameAndType 221 222), (0, u "getBytes"), (0, u "([BIB)V"), (174, .methodref 10 398), (0, .nameAndType 217 69), (0, .methodref 1 220), (3, u "()[B"), (40, .class_ 445), (0, u "java/lang/Appendable"), (106, u "getValue")] 56

def k14m0 : Method := { name := "<init>", desc := "()V", sig := { parameters := [], returnType := none }, accessFlags := 0, code := none }
def k14c1 : Code := { maxStack := 2, maxLocals := 2, code := jdk_68_method_2_code, exceptionTable := #[], attributes := #[] }
def k14m1 : Method := { name := "<init>", desc := "(I)V", sig := { parameters := [.int], returnType := none }, accessFlags := 0, code := some k14c1 }
def k14c2 : Code := { maxStack := 1, maxLocals := 1, code := jdk_68_method_6_code, exceptionTable := #[], attributes := #[] }
def k14m2 : Method := { name := "length", desc := "()I", sig := { parameters := [], returnType := some .int }, accessFlags := 1, code := some k14c2 }
def k14c3 : Code := { maxStack := 4, maxLocals := 3, code := jdk_68_method_9_code, exceptionTable := #[], attributes := #[] }
def k14m3 : Method := { name := "ensureCapacityInternal", desc := "(I)V", sig := { parameters := [.int], returnType := none }, accessFlags := 2, code := some k14c3 }
def k14c4 : Code := { maxStack := 5, maxLocals := 6, code := jdk_68_method_10_code, exceptionTable := #[], attributes := #[] }
def k14m4 : Method := { name := "newCapacity", desc := "(I)I", sig := { parameters := [.int], returnType := some .int }, accessFlags := 2, code := some k14c4 }
def k14c5 : Code := { maxStack := 3, maxLocals := 3, code := jdk_68_method_22_code, exceptionTable := #[], attributes := #[] }
def k14m5 : Method := { name := "append", desc := "(Ljava/lang/String;)Ljava/lang/AbstractStringBuilder;", sig := { parameters := [(.object "java/lang/String")], returnType := some (.object "java/lang/AbstractStringBuilder") }, accessFlags := 1, code := some k14c5 }
def k14c6 : Code := { maxStack := 1, maxLocals := 1, code := jdk_68_method_64_code, exceptionTable := #[], attributes := #[] }
def k14m6 : Method := { name := "getValue", desc := "()[B", sig := { parameters := [], returnType := some (.array .byte) }, accessFlags := 16, code := some k14c6 }
def k14c7 : Code := { maxStack := 1, maxLocals := 1, code := jdk_68_method_68_code, exceptionTable := #[], attributes := #[] }
def k14m7 : Method := { name := "isLatin1", desc := "()Z", sig := { parameters := [], returnType := some .boolean }, accessFlags := 16, code := some k14c7 }
def k14c8 : Code := { maxStack := 2, maxLocals := 2, code := jdk_68_method_71_code, exceptionTable := #[], attributes := #[] }
def k14m8 : Method := { name := "inflateIfNeededFor", desc := "(Ljava/lang/String;)V", sig := { parameters := [(.object "java/lang/String")], returnType := none }, accessFlags := 2, code := some k14c8 }
def k14c9 : Code := { maxStack := 4, maxLocals := 3, code := jdk_68_method_73_code, exceptionTable := #[], attributes := #[] }
def k14m9 : Method := { name := "putStringAt", desc := "(ILjava/lang/String;)V", sig := { parameters := [.int, (.object "java/lang/String")], returnType := none }, accessFlags := 2, code := some k14c9 }
/-- java/lang/AbstractStringBuilder -/
def k14 : Class := { plain "java/lang/AbstractStringBuilder" (some 0) with
  accessFlags := 1056
  interfaces := #[13, 4]
  cf := some (fileOf pool14 10 #[] #[{ accessFlags := 0, nameIndex := 7, descriptorIndex := 8, attributes := #[] }, { accessFlags := 0, nameIndex := 7, descriptorIndex := 103, attributes := #[] }, { accessFlags := 1, nameIndex := 34, descriptorIndex := 35, attributes := #[] }, { accessFlags := 2, nameIndex := 102, descriptorIndex := 103, attributes := #[] }, { accessFlags := 2, nameIndex := 106, descriptorIndex := 107, attributes := #[] }, { accessFlags := 1, nameIndex := 45, descriptorIndex := 46, attributes := #[] }, { accessFlags := 16, nameIndex := 552, descriptorIndex := 403, attributes := #[] }, { accessFlags := 16, nameIndex := 85, descriptorIndex := 86, attributes := #[] }, { accessFlags := 2, nameIndex := 217, descriptorIndex := 69, attributes := #[] }, { accessFlags := 2, nameIndex := 210, descriptorIndex := 211, attributes := #[] }] 1056 4 #[444, 48] #[{ accessFlags := 0, nameIndex := 17, descriptorIndex := 14, attributes := #[] }, { accessFlags := 0, nameIndex := 24, descriptorIndex := 25, attributes := #[] }, { accessFlags := 0, nameIndex := 75, descriptorIndex := 21, attributes := #[] }, { accessFlags := 0, nameIndex := 81, descriptorIndex := 82, attributes := #[] }, { accessFlags := 26, nameIndex := 13, descriptorIndex := 14, attributes := #[] }])
  fields := #[{ name := "value", type := (.array .byte), accessFlags := 0, slot := 0, constantValue := 0 }, { name := "coder", type := .byte, accessFlags := 0, slot := 1, constantValue := 0 }, { name := "maybeLatin1", type := .boolean, accessFlags := 0, slot := 2, constantValue := 0 }, { name := "count", type := .int, accessFlags := 0, slot := 3, constantValue := 0 }, { name := "EMPTYVALUE", type := (.array .byte), accessFlags := 26, slot := 0, constantValue := 0 }]
  methods := #[k14m0, k14m1, k14m2, k14m3, k14m4, k14m5, k14m6, k14m7, k14m8, k14m9]
  instanceTypes := #[(.array .byte), .byte, .boolean, .int]
  staticTypes := #[(.array .byte)]
  resolved := Array.replicate 609 none
  statics := none }

def pool15 : Array CpInfo := pool [(1, .methodref 2 3), (0, .class_ 4), (0, .nameAndType 5 6), (0, u "java/lang/AbstractStringBuilder"), (0, u "<init>"), (0, u "(I)V"), (11, .class_ 20), (1, u "java/lang/String"), (3, .class_ 26), (1, u "java/lang/StringBuilder"), (0, u "append"), (0, u "(Ljava/lang/String;)Ljava/lang/StringBuilder;"), (0, .methodref 2 30), (0, .nameAndType 27 31), (0, u "(Ljava/lang/String;)Ljava/lang/AbstractStringBuilder;"), (105, .methodref 18 138), (0, .nameAndType 5 139), (0, u "(Ljava/lang/StringBuilder;)V"), (5, u "()V"), (10, u "()I"), (186, .methodref 2 344), (0, .nameAndType 345 156), (0, u "length"), (3, .class_ 350), (0, u "java/lang/Appendable"), (0, .class_ 352), (0, u "java/io/Serializable"), (0, .class_ 354), (0, u "java/lang/Comparable"), (0, .class_ 356), (0, u "java/lang/CharSequence"), (0, u "serialVersionUID"), (0, u "J"), (40, u "toString"), (0, u "()Ljava/lang/String;")] 21

def k15c0 : Code := { maxStack := 2, maxLocals := 1, code := jdk_67_method_1_code, exceptionTable := #[], attributes := #[] }
def k15m0 : Method := { name := "<init>", desc := "()V", sig := { parameters := [], returnType := none }, accessFlags := 1, code := some k15c0 }
def k15c1 : Code := { maxStack := 2, maxLocals := 2, code := jdk_67_method_7_code, exceptionTable := #[], attributes := #[] }
def k15m1 : Method := { name := "append", desc := "(Ljava/lang/String;)Ljava/lang/StringBuilder;", sig := { parameters := [(.object "java/lang/String")], returnType := some (.object "java/lang/StringBuilder") }, accessFlags := 1, code := some k15c1 }
def k15c2 : Code := { maxStack := 3, maxLocals := 1, code := jdk_67_method_42_code, exceptionTable := #[], attributes := #[] }
def k15m2 : Method := { name := "toString", desc := "()Ljava/lang/String;", sig := { parameters := [], returnType := some (.object "java/lang/String") }, accessFlags := 1, code := some k15c2 }
def k15c3 : Code := { maxStack := 1, maxLocals := 1, code := jdk_67_method_93_code, exceptionTable := #[], attributes := #[] }
def k15m3 : Method := { name := "length", desc := "()I", sig := { parameters := [], returnType := some .int }, accessFlags := 4161, code := some k15c3 }
/-- java/lang/StringBuilder -/
def k15 : Class := { plain "java/lang/StringBuilder" (some 14) with
  accessFlags := 49
  interfaces := #[13, 2, 3, 4]
  cf := some (fileOf pool15 24 #[] #[{ accessFlags := 1, nameIndex := 5, descriptorIndex := 145, attributes := #[] }, { accessFlags := 1, nameIndex := 27, descriptorIndex := 28, attributes := #[] }, { accessFlags := 1, nameIndex := 399, descriptorIndex := 400, attributes := #[] }, { accessFlags := 4161, nameIndex := 345, descriptorIndex := 156, attributes := #[] }] 49 2 #[349, 351, 353, 355] #[{ accessFlags := 24, nameIndex := 357, descriptorIndex := 358, attributes := #[] }])
  fields := #[{ name := "serialVersionUID", type := .long, accessFlags := 24, slot := 0, constantValue := 0 }]
  methods := #[k15m0, k15m1, k15m2, k15m3]
  instanceTypes := #[(.array .byte), .byte, .boolean, .int]
  staticTypes := #[.long]
  resolved := Array.replicate 422 none
  statics := none }

def pool16 : Array CpInfo := pool [(1, .class_ 2), (0, u "java/lang/String"), (1, .class_ 6), (1, u "java/lang/Object"), (0, u "<init>"), (0, u "()V"), (0, .methodref 1 10), (0, .nameAndType 11 12), (0, u "checkIndex"), (0, u "(II)V"), (1, .class_ 16), (1, u "java/lang/StringLatin1"), (36, u "([BI)C"), (67, u "$assertionsDisabled"), (0, u "Z"), (98, .class_ 223), (1, u "java/lang/StringLatin1$LinesSpliterator"), (28, u "charAt"), (28, u "equals"), (0, u "([B[B)Z"), (107, .class_ 391), (0, u "java/lang/StringLatin1$CharsSpliterator")] 3

def k16m0 : Method := { name := "<init>", desc := "()V", sig := { parameters := [], returnType := none }, accessFlags := 0, code := none }
def k16c1 : Code := { maxStack := 2, maxLocals := 2, code := jdk_43_method_2_code, exceptionTable := #[], attributes := #[] }
def k16m1 : Method := { name := "charAt", desc := "([BI)C", sig := { parameters := [(.array .byte), .int], returnType := some .char }, accessFlags := 9, code := some k16c1 }
def k16c2 : Code := { maxStack := 3, maxLocals := 3, code := jdk_43_method_13_code, exceptionTable := #[], attributes := #[] }
def k16m2 : Method := { name := "equals", desc := "([B[B)Z", sig := { parameters := [(.array .byte), (.array .byte)], returnType := some .boolean }, accessFlags := 9, code := some k16c2 }
/-- java/lang/StringLatin1 -/
def k16 : Class := { plain "java/lang/StringLatin1" (some 0) with
  accessFlags := 48
  interfaces := #[]
  cf := some (fileOf pool16 14 #[.nestMembers #[390, 221]] #[{ accessFlags := 0, nameIndex := 7, descriptorIndex := 8, attributes := #[] }, { accessFlags := 9, nameIndex := 252, descriptorIndex := 53, attributes := #[] }, { accessFlags := 9, nameIndex := 281, descriptorIndex := 282, attributes := #[] }] 48 4 #[] #[{ accessFlags := 4120, nameIndex := 121, descriptorIndex := 122, attributes := #[] }])
  fields := #[{ name := "$assertionsDisabled", type := .boolean, accessFlags := 4120, slot := 0, constantValue := 0 }]
  methods := #[k16m0, k16m1, k16m2]
  instanceTypes := #[]
  staticTypes := #[.boolean]
  resolved := Array.replicate 395 none
  statics := none }

def pool17 : Array CpInfo := pool [(2, .class_ 4), (1, u "java/lang/Object"), (0, u "<init>"), (0, u "()V"), (1, .class_ 10), (1, u "java/lang/System"), (0, u "allowSecurityManager"), (0, u "I"), (16, u "cons"), (0, u "Ljava/io/Console;"), (77, .class_ 110), (1, u "java/lang/System$CallersHolder"), (43, u "initialErrStream"), (0, u "Ljava/io/PrintStream;"), (19, u "security"), (0, u "Ljava/lang/SecurityManager;"), (31, .class_ 209), (0, u "java/lang/System$1"), (7, u "props"), (0, u "Ljava/util/Properties;"), (2, u "lineSeparator"), (0, u "Ljava/lang/String;"), (96, .class_ 321), (1, u "java/lang/System$LoggerFinder"), (5, .class_ 328), (0, u "java/lang/System$Logger"), (67, u "err"), (2, u "out"), (91, u "notSupportedJnuEncoding"), (15, u "in"), (17, u "initialIn"), (0, u "Ljava/io/InputStream;"), (35, u "bootLayer"), (0, u "Ljava/lang/ModuleLayer;"), (99, .class_ 664), (0, u "java/lang/System$2"), (9, u "NEVER"), (2, u "MAYBE"), (49, u "arraycopy"), (0, u "(Ljava/lang/Object;ILjava/lang/Object;II)V"), (72, .class_ 802), (0, u "java/lang/System$Logger$Level")] 31

def k17m0 : Method := { name := "<init>", desc := "()V", sig := { parameters := [], returnType := none }, accessFlags := 2, code := none }
def k17m1 : Method := { name := "arraycopy", desc := "(Ljava/lang/Object;ILjava/lang/Object;II)V", sig := { parameters := [(.object "java/lang/Object"), .int, (.object "java/lang/Object"), .int, .int], returnType := none }, accessFlags := 265, code := none }
/-- java/lang/System -/
def k17 : Class := { plain "java/lang/System" (some 0) with
  accessFlags := 49
  interfaces := #[]
  cf := some (fileOf pool17 8 #[.nestMembers #[319, 327, 801, 108, 663, 208]] #[{ accessFlags := 2, nameIndex := 5, descriptorIndex := 6, attributes := #[] }, { accessFlags := 265, nameIndex := 727, descriptorIndex := 728, attributes := #[] }] 49 2 #[] #[{ accessFlags := 25, nameIndex := 507, descriptorIndex := 526, attributes := #[] }, { accessFlags := 25, nameIndex := 399, descriptorIndex := 155, attributes := #[] }, { accessFlags := 25, nameIndex := 396, descriptorIndex := 155, attributes := #[] }, { accessFlags := 10, nameIndex := 525, descriptorIndex := 526, attributes := #[] }, { accessFlags := 26, nameIndex := 674, descriptorIndex := 12, attributes := #[] }, { accessFlags := 26, nameIndex := 677, descriptorIndex := 12, attributes := #[] }, { accessFlags := 10, nameIndex := 11, descriptorIndex := 12, attributes := #[] }, { accessFlags := 74, nameIndex := 175, descriptorIndex := 176, attributes := #[] }, { accessFlags := 10, nameIndex := 491, descriptorIndex := 222, attributes := #[] }, { accessFlags := 74, nameIndex := 29, descriptorIndex := 30, attributes := #[] }, { accessFlags := 74, nameIndex := 154, descriptorIndex := 155, attributes := #[] }, { accessFlags := 10, nameIndex := 217, descriptorIndex := 218, attributes := #[] }, { accessFlags := 10, nameIndex := 221, descriptorIndex := 222, attributes := #[] }, { accessFlags := 8, nameIndex := 562, descriptorIndex := 563, attributes := #[] }])
  fields := #[{ name := "in", type := (.object "java/io/InputStream"), accessFlags := 25, slot := 0, constantValue := 0 }, { name := "out", type := (.object "java/io/PrintStream"), accessFlags := 25, slot := 1, constantValue := 0 }, { name := "err", type := (.object "java/io/PrintStream"), accessFlags := 25, slot := 2, constantValue := 0 }, { name := "initialIn", type := (.object "java/io/InputStream"), accessFlags := 10, slot := 3, constantValue := 0 }, { name := "NEVER", type := .int, accessFlags := 26, slot := 4, constantValue := 0 }, { name := "MAYBE", type := .int, accessFlags := 26, slot := 5, constantValue := 0 }, { name := "allowSecurityManager", type := .int, accessFlags := 10, slot := 6, constantValue := 0 }, { name := "security", type := (.object "java/lang/SecurityManager"), accessFlags := 74, slot := 7, constantValue := 0 }, { name := "notSupportedJnuEncoding", type := (.object "java/lang/String"), accessFlags := 10, slot := 8, constantValue := 0 }, { name := "cons", type := (.object "java/io/Console"), accessFlags := 74, slot := 9, constantValue := 0 }, { name := "initialErrStream", type := (.object "java/io/PrintStream"), accessFlags := 74, slot := 10, constantValue := 0 }, { name := "props", type := (.object "java/util/Properties"), accessFlags := 10, slot := 11, constantValue := 0 }, { name := "lineSeparator", type := (.object "java/lang/String"), accessFlags := 10, slot := 12, constantValue := 0 }, { name := "bootLayer", type := (.object "java/lang/ModuleLayer"), accessFlags := 8, slot := 13, constantValue := 0 }]
  methods := #[k17m0, k17m1]
  instanceTypes := #[]
  staticTypes := #[(.object "java/io/InputStream"), (.object "java/io/PrintStream"), (.object "java/io/PrintStream"), (.object "java/io/InputStream"), .int, .int, .int, (.object "java/lang/SecurityManager"), (.object "java/lang/String"), (.object "java/io/Console"), (.object "java/io/PrintStream"), (.object "java/util/Properties"), (.object "java/lang/String"), (.object "java/lang/ModuleLayer")]
  resolved := Array.replicate 834 none
  statics := none }

def pool18 : Array CpInfo := pool [(2, .class_ 4), (1, u "java/lang/Object"), (0, u "<init>"), (0, u "()V"), (7, .class_ 16), (1, u "java/util/Arrays"), (57, .class_ 76), (1, u "java/util/Arrays$NaturalOrder"), (32, u "()Ljava/lang/Object;"), (3, .class_ 115), (1, u "java/util/Arrays$LegacyMergeSort"), (1, u "Z"), (10, .nameAndType 129 109), (0, u "clone"), (9, u "copyOfRange"), (10, .methodref 151 152), (0, .class_ 153), (0, .nameAndType 154 155), (0, u "java/lang/System"), (0, u "arraycopy"), (0, u "(Ljava/lang/Object;ILjava/lang/Object;II)V"), (146, u "copyOf"), (1, .methodref 305 306), (0, .class_ 307), (0, .nameAndType 308 309), (0, u "java/lang/Math"), (0, u "min"), (0, u "(II)I"), (0, .methodref 311 128), (0, .class_ 312), (0, u "[B"), (26, .methodref 14 340), (0, .nameAndType 341 342), (0, u "copyOfRangeByte"), (0, u "([BII)[B"), (0, .methodref 14 344), (0, .nameAndType 345 346), (0, u "checkLength"), (0, u "(II)V"), (28, .class_ 376), (0, u "java/util/Arrays$ArrayList"), (68, u "$assertionsDisabled"), (269, u "MIN_ARRAY_SORT_GRAN"), (0, u "I"), (2, u "INSERTIONSORT_THRESHOLD"), (149, u "([BI)[B"), (105, .class_ 976), (0, u "java/util/Arrays$ArrayItr")] 52

def k18m0 : Method := { name := "<init>", desc := "()V", sig := { parameters := [], returnType := none }, accessFlags := 2, code := none }
def k18c1 : Code := { maxStack := 6, maxLocals := 3, code := jdk_65_method_121_code, exceptionTable := #[], attributes := #[] }
def k18m1 : Method := { name := "copyOf", desc := "([BI)[B", sig := { parameters := [(.array .byte), .int], returnType := some (.array .byte) }, accessFlags := 9, code := some k18c1 }
def k18c2 : Code := { maxStack := 4, maxLocals := 2, code := jdk_65_method_131_code, exceptionTable := #[], attributes := #[] }
def k18m2 : Method := { name := "checkLength", desc := "(II)V", sig := { parameters := [.int, .int], returnType := none }, accessFlags := 10, code := some k18c2 }
def k18c3 : Code := { maxStack := 3, maxLocals := 3, code := jdk_65_method_132_code, exceptionTable := #[], attributes := #[] }
def k18m3 : Method := { name := "copyOfRange", desc := "([BII)[B", sig := { parameters := [(.array .byte), .int, .int], returnType := some (.array .byte) }, accessFlags := 9, code := some k18c3 }
def k18c4 : Code := { maxStack := 6, maxLocals := 5, code := jdk_65_method_133_code, exceptionTable := #[], attributes := #[] }
def k18m4 : Method := { name := "copyOfRangeByte", desc := "([BII)[B", sig := { parameters := [(.array .byte), .int, .int], returnType := some (.array .byte) }, accessFlags := 10, code := some k18c4 }
/-- java/util/Arrays -/
def k18 : Class := { plain "java/util/Arrays" (some 0) with
  accessFlags := 49
  interfaces := #[]
  cf := some (fileOf pool18 14 #[.nestMembers #[975, 375, 113, 74]] #[{ accessFlags := 2, nameIndex := 5, descriptorIndex := 6, attributes := #[] }, { accessFlags := 9, nameIndex := 302, descriptorIndex := 869, attributes := #[] }, { accessFlags := 10, nameIndex := 345, descriptorIndex := 346, attributes := #[] }, { accessFlags := 9, nameIndex := 139, descriptorIndex := 342, attributes := #[] }, { accessFlags := 10, nameIndex := 341, descriptorIndex := 342, attributes := #[] }] 49 2 #[] #[{ accessFlags := 26, nameIndex := 715, descriptorIndex := 716, attributes := #[] }, { accessFlags := 26, nameIndex := 719, descriptorIndex := 716, attributes := #[] }, { accessFlags := 4120, nameIndex := 445, descriptorIndex := 117, attributes := #[] }])
  fields := #[{ name := "MIN_ARRAY_SORT_GRAN", type := .int, accessFlags := 26, slot := 0, constantValue := 0 }, { name := "INSERTIONSORT_THRESHOLD", type := .int, accessFlags := 26, slot := 1, constantValue := 0 }, { name := "$assertionsDisabled", type := .boolean, accessFlags := 4120, slot := 2, constantValue := 0 }]
  methods := #[k18m0, k18m1, k18m2, k18m3, k18m4]
  instanceTypes := #[]
  staticTypes := #[.int, .int, .boolean]
  resolved := Array.replicate 1029 none
  statics := none }

def pool19 : Array CpInfo := pool [(1, .class_ 2), (0, u "java/lang/Math"), (1, .class_ 6), (1, u "java/lang/Object"), (0, u "<init>"), (0, u "()V"), (89, .class_ 100), (1, u "java/lang/Math$RandomNumberGeneratorHolder"), (71, u "negativeZeroFloatBits"), (0, u "J"), (2, u "negativeZeroDoubleBits"), (21, u "max"), (2, u "min"), (43, u "$assertionsDisabled"), (0, u "Z"), (88, u "(II)I"), (2, u "twoToTheDoubleScaleDown"), (0, u "D"), (4, u "twoToTheDoubleScaleUp"), (9, u "E"), (3, u "PI"), (2, u "TAU"), (2, u "DEGREES_TO_RADIANS"), (0, u "RADIANS_TO_DEGREES")] 94

def k19m0 : Method := { name := "<init>", desc := "()V", sig := { parameters := [], returnType := none }, accessFlags := 2, code := none }
def k19c1 : Code := { maxStack := 2, maxLocals := 2, code := jdk_29_method_65_code, exceptionTable := #[], attributes := #[] }
def k19m1 : Method := { name := "max", desc := "(II)I", sig := { parameters := [.int, .int], returnType := some .int }, accessFlags := 9, code := some k19c1 }
def k19c2 : Code := { maxStack := 2, maxLocals := 2, code := jdk_29_method_69_code, exceptionTable := #[], attributes := #[] }
def k19m2 : Method := { name := "min", desc := "(II)I", sig := { parameters := [.int, .int], returnType := some .int }, accessFlags := 9, code := some k19c2 }
/-- java/lang/Math -/
def k19 : Class := { plain "java/lang/Math" (some 0) with
  accessFlags := 49
  interfaces := #[]
  cf := some (fileOf pool19 1 #[.nestMembers #[98]] #[{ accessFlags := 2, nameIndex := 7, descriptorIndex := 8, attributes := #[] }, { accessFlags := 9, nameIndex := 198, descriptorIndex := 335, attributes := #[] }, { accessFlags := 9, nameIndex := 201, descriptorIndex := 335, attributes := #[] }] 49 4 #[] #[{ accessFlags := 25, nameIndex := 354, descriptorIndex := 339, attributes := #[] }, { accessFlags := 25, nameIndex := 358, descriptorIndex := 339, attributes := #[] }, { accessFlags := 25, nameIndex := 361, descriptorIndex := 339, attributes := #[] }, { accessFlags := 26, nameIndex := 364, descriptorIndex := 339, attributes := #[] }, { accessFlags := 26, nameIndex := 365, descriptorIndex := 339, attributes := #[] }, { accessFlags := 26, nameIndex := 172, descriptorIndex := 173, attributes := #[] }, { accessFlags := 26, nameIndex := 176, descriptorIndex := 173, attributes := #[] }, { accessFlags := 8, nameIndex := 344, descriptorIndex := 339, attributes := #[] }, { accessFlags := 8, nameIndex := 338, descriptorIndex := 339, attributes := #[] }, { accessFlags := 4120, nameIndex := 245, descriptorIndex := 246, attributes := #[] }])
  fields := #[{ name := "E", type := .double, accessFlags := 25, slot := 0, constantValue := 0 }, { name := "PI", type := .double, accessFlags := 25, slot := 1, constantValue := 0 }, { name := "TAU", type := .double, accessFlags := 25, slot := 2, constantValue := 0 }, { name := "DEGREES_TO_RADIANS", type := .double, accessFlags := 26, slot := 3, constantValue := 0 }, { name := "RADIANS_TO_DEGREES", type := .double, accessFlags := 26, slot := 4, constantValue := 0 }, { name := "negativeZeroFloatBits", type := .long, accessFlags := 26, slot := 5, constantValue := 0 }, { name := "negativeZeroDoubleBits", type := .long, accessFlags := 26, slot := 6, constantValue := 0 }, { name := "twoToTheDoubleScaleUp", type := .double, accessFlags := 8, slot := 7, constantValue := 0 }, { name := "twoToTheDoubleScaleDown", type := .double, accessFlags := 8, slot := 8, constantValue := 0 }, { name := "$assertionsDisabled", type := .boolean, accessFlags := 4120, slot := 9, constantValue := 0 }]
  methods := #[k19m0, k19m1, k19m2]
  instanceTypes := #[]
  staticTypes := #[.double, .double, .double, .double, .double, .long, .long, .double, .double, .boolean]
  resolved := Array.replicate 460 none
  statics := none }

def pool20 : Array CpInfo := pool [(2, .class_ 4), (1, u "java/lang/Object"), (0, u "<init>"), (0, u "()V"), (17, .class_ 26), (1, u "jdk/internal/util/Preconditions"), (6, u "checkIndex"), (21, .class_ 56), (0, u "jdk/internal/util/Preconditions$4"), (57, .class_ 115), (0, u "jdk/internal/util/Preconditions$1"), (7, u "SIOOBE_FORMATTER"), (0, u "Ljava/util/function/BiFunction;"), (0, .class_ 126), (0, u "jdk/internal/util/Preconditions$2"), (3, u "AIOOBE_FORMATTER"), (0, .class_ 132), (0, u "jdk/internal/util/Preconditions$3"), (3, u "IOOBE_FORMATTER"), (41, u "(IILjava/util/function/BiFunction;)I")] 15

def k20m0 : Method := { name := "<init>", desc := "()V", sig := { parameters := [], returnType := none }, accessFlags := 1, code := none }
def k20c1 : Code := { maxStack := 3, maxLocals := 3, code := jdk_41_method_11_code, exceptionTable := #[], attributes := #[] }
def k20m1 : Method := { name := "checkIndex", desc := "(IILjava/util/function/BiFunction;)I", sig := { parameters := [.int, .int, (.object "java/util/function/BiFunction")], returnType := some .int }, accessFlags := 9, code := some k20c1 }
/-- jdk/internal/util/Preconditions -/
def k20 : Class := { plain "jdk/internal/util/Preconditions" (some 0) with
  accessFlags := 33
  interfaces := #[]
  cf := some (fileOf pool20 24 #[.nestMembers #[55, 131, 125, 114]] #[{ accessFlags := 1, nameIndex := 5, descriptorIndex := 6, attributes := #[] }, { accessFlags := 9, nameIndex := 33, descriptorIndex := 178, attributes := #[] }] 33 2 #[] #[{ accessFlags := 25, nameIndex := 123, descriptorIndex := 124, attributes := #[] }, { accessFlags := 25, nameIndex := 130, descriptorIndex := 124, attributes := #[] }, { accessFlags := 25, nameIndex := 136, descriptorIndex := 124, attributes := #[] }])
  fields := #[{ name := "SIOOBE_FORMATTER", type := (.object "java/util/function/BiFunction"), accessFlags := 25, slot := 0, constantValue := 0 }, { name := "AIOOBE_FORMATTER", type := (.object "java/util/function/BiFunction"), accessFlags := 25, slot := 1, constantValue := 0 }, { name := "IOOBE_FORMATTER", type := (.object "java/util/function/BiFunction"), accessFlags := 25, slot := 2, constantValue := 0 }]
  methods := #[k20m0, k20m1]
  instanceTypes := #[]
  staticTypes := #[(.object "java/util/function/BiFunction"), (.object "java/util/function/BiFunction"), (.object "java/util/function/BiFunction")]
  resolved := Array.replicate 194 none
  statics := some 2 }

def pool21 : Array CpInfo := pool [(9, u "<init>"), (6, .class_ 18), (1, u "java/lang/Object"), (0, u "()V"), (1, .class_ 23), (1, u "jdk/internal/util/ArraysSupport"), (0, u "LOG2_ARRAY_LONG_INDEX_SCALE"), (0, u "I"), (2, u "U"), (0, u "Ljdk/internal/misc/Unsafe;"), (8, u "BIG_ENDIAN"), (0, u "Z"), (8, u "LOG2_BYTE_BIT_SIZE"), (4, u "LOG2_ARRAY_INT_INDEX_SCALE"), (54, u "JLA"), (0, u "Ljdk/internal/access/JavaLangAccess;"), (11, u "LOG2_ARRAY_BOOLEAN_INDEX_SCALE"), (9, u "LOG2_ARRAY_BYTE_INDEX_SCALE"), (5, u "LOG2_ARRAY_CHAR_INDEX_SCALE"), (5, u "LOG2_ARRAY_SHORT_INDEX_SCALE"), (18, u "LOG2_ARRAY_FLOAT_INDEX_SCALE"), (24, u "LOG2_ARRAY_DOUBLE_INDEX_SCALE"), (6, .methodref 195 196), (0, .class_ 197), (0, .nameAndType 198 199), (0, u "java/lang/Math"), (0, u "max"), (0, u "(II)I"), (0, .integer 2147483639), (76, u "T_BOOLEAN"), (2, u "T_CHAR"), (1, u "T_FLOAT"), (1, u "T_DOUBLE"), (1, u "T_BYTE"), (1, u "T_SHORT"), (1, u "T_INT"), (1, u "T_LONG"), (1, u "SOFT_MAX_ARRAY_LENGTH"), (56, u "newLength"), (0, u "(III)I")] 25

def k21m0 : Method := { name := "<init>", desc := "()V", sig := { parameters := [], returnType := none }, accessFlags := 2, code := none }
def k21c1 : Code := { maxStack := 3, maxLocals := 4, code := jdk_48_method_27_code, exceptionTable := #[], attributes := #[] }
def k21m1 : Method := { name := "newLength", desc := "(III)I", sig := { parameters := [.int, .int, .int], returnType := some .int }, accessFlags := 9, code := some k21c1 }
/-- jdk/internal/util/ArraysSupport -/
def k21 : Class := { plain "jdk/internal/util/ArraysSupport" (some 0) with
  accessFlags := 33
  interfaces := #[]
  cf := some (fileOf pool21 21 #[] #[{ accessFlags := 2, nameIndex := 9, descriptorIndex := 19, attributes := #[] }, { accessFlags := 9, nameIndex := 351, descriptorIndex := 352, attributes := #[] }] 33 16 #[] #[{ accessFlags := 24, nameIndex := 28, descriptorIndex := 29, attributes := #[] }, { accessFlags := 26, nameIndex := 38, descriptorIndex := 39, attributes := #[] }, { accessFlags := 25, nameIndex := 121, descriptorIndex := 25, attributes := #[] }, { accessFlags := 25, nameIndex := 131, descriptorIndex := 25, attributes := #[] }, { accessFlags := 25, nameIndex := 137, descriptorIndex := 25, attributes := #[] }, { accessFlags := 25, nameIndex := 143, descriptorIndex := 25, attributes := #[] }, { accessFlags := 25, nameIndex := 53, descriptorIndex := 25, attributes := #[] }, { accessFlags := 25, nameIndex := 24, descriptorIndex := 25, attributes := #[] }, { accessFlags := 25, nameIndex := 162, descriptorIndex := 25, attributes := #[] }, { accessFlags := 25, nameIndex := 187, descriptorIndex := 25, attributes := #[] }, { accessFlags := 26, nameIndex := 48, descriptorIndex := 25, attributes := #[] }, { accessFlags := 25, nameIndex := 277, descriptorIndex := 25, attributes := #[] }, { accessFlags := 25, nameIndex := 280, descriptorIndex := 25, attributes := #[] }, { accessFlags := 25, nameIndex := 282, descriptorIndex := 25, attributes := #[] }, { accessFlags := 25, nameIndex := 284, descriptorIndex := 25, attributes := #[] }, { accessFlags := 25, nameIndex := 286, descriptorIndex := 25, attributes := #[] }, { accessFlags := 25, nameIndex := 288, descriptorIndex := 25, attributes := #[] }, { accessFlags := 25, nameIndex := 290, descriptorIndex := 25, attributes := #[] }, { accessFlags := 25, nameIndex := 292, descriptorIndex := 25, attributes := #[] }, { accessFlags := 26, nameIndex := 108, descriptorIndex := 109, attributes := #[] }, { accessFlags := 25, nameIndex := 294, descriptorIndex := 25, attributes := #[] }])
  fields := #[{ name := "U", type := (.object "jdk/internal/misc/Unsafe"), accessFlags := 24, slot := 0, constantValue := 0 }, { name := "BIG_ENDIAN", type := .boolean, accessFlags := 26, slot := 1, constantValue := 0 }, { name := "LOG2_ARRAY_BOOLEAN_INDEX_SCALE", type := .int, accessFlags := 25, slot := 2, constantValue := 0 }, { name := "LOG2_ARRAY_BYTE_INDEX_SCALE", type := .int, accessFlags := 25, slot := 3, constantValue := 0 }, { name := "LOG2_ARRAY_CHAR_INDEX_SCALE", type := .int, accessFlags := 25, slot := 4, constantValue := 0 }, { name := "LOG2_ARRAY_SHORT_INDEX_SCALE", type := .int, accessFlags := 25, slot := 5, constantValue := 0 }, { name := "LOG2_ARRAY_INT_INDEX_SCALE", type := .int, accessFlags := 25, slot := 6, constantValue := 0 }, { name := "LOG2_ARRAY_LONG_INDEX_SCALE", type := .int, accessFlags := 25, slot := 7, constantValue := 0 }, { name := "LOG2_ARRAY_FLOAT_INDEX_SCALE", type := .int, accessFlags := 25, slot := 8, constantValue := 0 }, { name := "LOG2_ARRAY_DOUBLE_INDEX_SCALE", type := .int, accessFlags := 25, slot := 9, constantValue := 0 }, { name := "LOG2_BYTE_BIT_SIZE", type := .int, accessFlags := 26, slot := 10, constantValue := 0 }, { name := "T_BOOLEAN", type := .int, accessFlags := 25, slot := 11, constantValue := 0 }, { name := "T_CHAR", type := .int, accessFlags := 25, slot := 12, constantValue := 0 }, { name := "T_FLOAT", type := .int, accessFlags := 25, slot := 13, constantValue := 0 }, { name := "T_DOUBLE", type := .int, accessFlags := 25, slot := 14, constantValue := 0 }, { name := "T_BYTE", type := .int, accessFlags := 25, slot := 15, constantValue := 0 }, { name := "T_SHORT", type := .int, accessFlags := 25, slot := 16, constantValue := 0 }, { name := "T_INT", type := .int, accessFlags := 25, slot := 17, constantValue := 0 }, { name := "T_LONG", type := .int, accessFlags := 25, slot := 18, constantValue := 0 }, { name := "JLA", type := (.object "jdk/internal/access/JavaLangAccess"), accessFlags := 26, slot := 19, constantValue := 0 }, { name := "SOFT_MAX_ARRAY_LENGTH", type := .int, accessFlags := 25, slot := 20, constantValue := 0 }]
  methods := #[k21m0, k21m1]
  instanceTypes := #[]
  staticTypes := #[(.object "jdk/internal/misc/Unsafe"), .boolean, .int, .int, .int, .int, .int, .int, .int, .int, .int, .int, .int, .int, .int, .int, .int, .int, .int, (.object "jdk/internal/access/JavaLangAccess"), .int]
  resolved := Array.replicate 378 none
  statics := none }

def pool22 : Array CpInfo := pool [(1, .class_ 2), (0, u "java/lang/Cloneable"), (0, .class_ 4), (0, u "java/lang/Object")] 2

/-- java/lang/Cloneable -/
def k22 : Class := { plain "java/lang/Cloneable" (some 0) with
  accessFlags := 1537
  interfaces := #[]
  cf := some (fileOf pool22 1 #[] #[] 1537 3 #[] #[])
  fields := #[]
  methods := #[]
  instanceTypes := #[]
  staticTypes := #[]
  resolved := Array.replicate 7 none
  statics := none }

def pool23 : Array CpInfo := pool [(2, .class_ 4), (1, u "java/lang/Object"), (0, u "<init>"), (0, u "()V"), (12, .class_ 20), (0, u "java/util/Collections"), (63, u "r"), (0, u "Ljava/util/Random;"), (80, .class_ 167), (0, u "java/util/Collections$UnmodifiableCollection"), (6, .class_ 175), (0, u "java/util/Collections$UnmodifiableSequencedCollection"), (6, .class_ 183), (0, u "java/util/Collections$UnmodifiableSet"), (6, .class_ 191), (0, u "java/util/Collections$UnmodifiableSequencedSet"), (6, .class_ 199), (0, u "java/util/Collections$UnmodifiableSortedSet"), (6, .class_ 207), (0, u "java/util/Collections$UnmodifiableNavigableSet"), (4, .class_ 213), (0, u "java/util/Collections$UnmodifiableList"), (1, .class_ 216), (0, u "java/util/Collections$UnmodifiableRandomAccessList"), (6, .class_ 224), (0, u "java/util/Collections$UnmodifiableMap"), (6, .class_ 232), (0, u "java/util/Collections$UnmodifiableSequencedMap"), (4, .class_ 238), (0, u "java/util/Collections$UnmodifiableSortedMap"), (6, .class_ 246), (0, u "java/util/Collections$UnmodifiableNavigableMap"), (3, .class_ 251), (0, u "java/util/Collections$SynchronizedCollection"), (4, .class_ 257), (0, u "java/util/Collections$SynchronizedSet"), (4, .class_ 263), (0, u "java/util/Collections$SynchronizedSortedSet"), (1, .class_ 266), (0, u "java/util/Collections$SynchronizedNavigableSet"), (1, .class_ 269), (0, u "java/util/Collections$SynchronizedRandomAccessList"), (1, .class_ 272), (0, u "java/util/Collections$SynchronizedList"), (5, .class_ 279), (0, u "java/util/Collections$SynchronizedMap"), (1, .class_ 282), (0, u "java/util/Collections$SynchronizedSortedMap"), (1, .class_ 285), (0, u "java/util/Collections$SynchronizedNavigableMap"), (1, .class_ 288), (0, u "java/util/Collections$CheckedCollection"), (11, .class_ 301), (0, u "java/util/Collections$CheckedQueue"), (3, .class_ 306), (0, u "java/util/Collections$CheckedSet"), (3, .class_ 311), (0, u "java/util/Collections$CheckedSortedSet"), (3, .class_ 316), (0, u "java/util/Collections$CheckedNavigableSet"), (3, .class_ 321), (0, u "java/util/Collections$CheckedRandomAccessList"), (3, .class_ 326), (0, u "java/util/Collections$CheckedList"), (1, .class_ 329), (0, u "java/util/Collections$CheckedMap"), (3, .class_ 334), (0, u "java/util/Collections$CheckedSortedMap"), (3, .class_ 339), (0, u "java/util/Collections$CheckedNavigableMap"), (4, .class_ 346), (1, u "java/util/Collections$EmptyIterator"), (3, .class_ 352), (1, u "java/util/Collections$EmptyListIterator"), (2, .class_ 357), (1, u "java/util/Collections$EmptyEnumeration"), (4, u "EMPTY_SET"), (0, u "Ljava/util/Set;"), (6, u "EMPTY_LIST"), (0, u "Ljava/util/List;"), (2, u "EMPTY_MAP"), (0, u "Ljava/util/Map;"), (4, .class_ 381), (0, u "java/util/Collections$SingletonSet"), (2, .class_ 385), (0, u "java/util/Collections$1"), (1, .class_ 388), (0, u "java/util/Collections$2"), (1, .class_ 391), (0, u "java/util/Collections$SingletonList"), (1, .class_ 394), (0, u "java/util/Collections$SingletonMap"), (22, .class_ 418), (0, u "java/util/Collections$CopiesList"), (4, .class_ 425), (1, u "java/util/Collections$ReverseComparator"), (8, .class_ 435), (0, u "java/util/Collections$ReverseComparator2"), (6, .class_ 443), (0, u "java/util/Collections$3"), (25, .class_ 470), (0, u "java/util/Collections$SetFromMap"), (2, .class_ 474), (0, u "java/util/Collections$SequencedSetFromMap"), (3, .class_ 479), (0, u "java/util/Collections$AsLIFOQueue"), (11, .class_ 492), (0, u "java/util/Collections$EmptySet"), (1, .class_ 495), (0, u "java/util/Collections$EmptyList"), (1, .class_ 498), (0, u "java/util/Collections$EmptyMap"), (1, u "BINARYSEARCH_THRESHOLD"), (0, u "I"), (2, u "REVERSE_THRESHOLD"), (1, u "SHUFFLE_THRESHOLD"), (1, u "FILL_THRESHOLD"), (1, u "ROTATE_THRESHOLD"), (1, u "COPY_THRESHOLD"), (1, u "REPLACEALL_THRESHOLD"), (1, u "INDEXOFSUBLIST_THRESHOLD"), (333, .class_ 851), (0, u "java/util/Collections$CheckedMap$CheckedEntrySet"), (0, .class_ 853), (0, u "java/util/Collections$CheckedMap$CheckedEntrySet$CheckedEntry"), (0, .class_ 855), (0, u "java/util/Collections$CheckedMap$CheckedEntrySet$1"), (0, .class_ 857), (0, u "java/util/Collections$CheckedList$1"), (0, .class_ 859), (0, u "java/util/Collections$CheckedCollection$1"), (0, .class_ 861), (0, u "java/util/Collections$UnmodifiableNavigableMap$EmptyNavigableMap"), (0, .class_ 863), (0, u "java/util/Collections$UnmodifiableMap$UnmodifiableEntrySet"), (0, .class_ 865), (0, u "java/util/Collections$UnmodifiableMap$UnmodifiableEntrySet$UnmodifiableEntry"), (0, .class_ 867), (0, u "java/util/Collections$UnmodifiableMap$UnmodifiableEntrySet$UnmodifiableEntrySetSpliterator"), (0, .class_ 869), (0, u "java/util/Collections$UnmodifiableMap$UnmodifiableEntrySet$1"), (0, .class_ 871), (0, u "java/util/Collections$UnmodifiableList$1"), (0, .class_ 873), (0, u "java/util/Collections$UnmodifiableNavigableSet$EmptyNavigableSet"), (0, .class_ 875), (0, u "java/util/Collections$UnmodifiableCollection$1")] 57

def k23m0 : Method := { name := "<init>", desc := "()V", sig := { parameters := [], returnType := none }, accessFlags := 2, code := none }
/-- java/util/Collections -/
def k23 : Class := { plain "java/util/Collections" (some 0) with
  accessFlags := 33
  interfaces := #[]
  cf := some (fileOf pool23 19 #[.nestMembers #[478, 473, 469, 434, 423, 417, 393, 390, 380, 497, 494, 491, 355, 350, 344, 338, 333, 328, 850, 852, 854, 320, 325, 856, 315, 310, 305, 300, 287, 858, 284, 281, 278, 268, 271, 265, 262, 256, 250, 245, 860, 237, 231, 223, 862, 864, 866, 868, 215, 212, 870, 206, 872, 198, 190, 182, 174, 166, 874, 442, 387, 384]] #[{ accessFlags := 2, nameIndex := 5, descriptorIndex := 6, attributes := #[] }] 33 2 #[] #[{ accessFlags := 26, nameIndex := 500, descriptorIndex := 501, attributes := #[] }, { accessFlags := 26, nameIndex := 504, descriptorIndex := 501, attributes := #[] }, { accessFlags := 26, nameIndex := 506, descriptorIndex := 501, attributes := #[] }, { accessFlags := 26, nameIndex := 508, descriptorIndex := 501, attributes := #[] }, { accessFlags := 26, nameIndex := 510, descriptorIndex := 501, attributes := #[] }, { accessFlags := 26, nameIndex := 512, descriptorIndex := 501, attributes := #[] }, { accessFlags := 26, nameIndex := 514, descriptorIndex := 501, attributes := #[] }, { accessFlags := 26, nameIndex := 516, descriptorIndex := 501, attributes := #[] }, { accessFlags := 10, nameIndex := 84, descriptorIndex := 85, attributes := #[] }, { accessFlags := 25, nameIndex := 362, descriptorIndex := 363, attributes := #[] }, { accessFlags := 25, nameIndex := 370, descriptorIndex := 371, attributes := #[] }, { accessFlags := 25, nameIndex := 374, descriptorIndex := 375, attributes := #[] }])
  fields := #[{ name := "BINARYSEARCH_THRESHOLD", type := .int, accessFlags := 26, slot := 0, constantValue := 0 }, { name := "REVERSE_THRESHOLD", type := .int, accessFlags := 26, slot := 1, constantValue := 0 }, { name := "SHUFFLE_THRESHOLD", type := .int, accessFlags := 26, slot := 2, constantValue := 0 }, { name := "FILL_THRESHOLD", type := .int, accessFlags := 26, slot := 3, constantValue := 0 }, { name := "ROTATE_THRESHOLD", type := .int, accessFlags := 26, slot := 4, constantValue := 0 }, { name := "COPY_THRESHOLD", type := .int, accessFlags := 26, slot := 5, constantValue := 0 }, { name := "REPLACEALL_THRESHOLD", type := .int, accessFlags := 26, slot := 6, constantValue := 0 }, { name := "INDEXOFSUBLIST_THRESHOLD", type := .int, accessFlags := 26, slot := 7, constantValue := 0 }, { name := "r", type := (.object "java/util/Random"), accessFlags := 10, slot := 8, constantValue := 0 }, { name := "EMPTY_SET", type := (.object "java/util/Set"), accessFlags := 25, slot := 9, constantValue := 0 }, { name := "EMPTY_LIST", type := (.object "java/util/List"), accessFlags := 25, slot := 10, constantValue := 0 }, { name := "EMPTY_MAP", type := (.object "java/util/Map"), accessFlags := 25, slot := 11, constantValue := 0 }]
  methods := #[k23m0]
  instanceTypes := #[]
  staticTypes := #[.int, .int, .int, .int, .int, .int, .int, .int, (.object "java/util/Random"), (.object "java/util/Set"), (.object "java/util/List"), (.object "java/util/Map")]
  resolved := Array.replicate 933 none
  statics := some 3 }

def pool24 : Array CpInfo := pool [(8, .class_ 10), (1, u "java/lang/Iterable"), (24, .class_ 36), (0, u "java/lang/Object")] 25

/-- java/lang/Iterable -/
def k24 : Class := { plain "java/lang/Iterable" (some 0) with
  accessFlags := 1537
  interfaces := #[]
  cf := some (fileOf pool24 8 #[] #[] 1537 35 #[] #[])
  fields := #[]
  methods := #[]
  instanceTypes := #[]
  staticTypes := #[]
  resolved := Array.replicate 62 none
  statics := none }

def pool25 : Array CpInfo := pool [(10, .class_ 12), (1, u "java/util/Collection"), (47, .class_ 61), (0, u "java/lang/Object"), (0, .class_ 63), (0, u "java/lang/Iterable")] 51

/-- java/util/Collection -/
def k25 : Class := { plain "java/util/Collection" (some 0) with
  accessFlags := 1537
  interfaces := #[24]
  cf := some (fileOf pool25 10 #[] #[] 1537 60 #[62] #[])
  fields := #[]
  methods := #[]
  instanceTypes := #[]
  staticTypes := #[]
  resolved := Array.replicate 115 none
  statics := none }

def pool26 : Array CpInfo := pool [(2, .class_ 4), (1, u "java/lang/Object"), (0, u "<init>"), (0, u "()V"), (1, .class_ 10), (1, u "java/util/AbstractCollection"), (66, .class_ 78), (0, u "java/util/Collection")] 81

def k26m0 : Method := { name := "<init>", desc := "()V", sig := { parameters := [], returnType := none }, accessFlags := 4, code := none }
/-- java/util/AbstractCollection -/
def k26 : Class := { plain "java/util/AbstractCollection" (some 0) with
  accessFlags := 1057
  interfaces := #[25]
  cf := some (fileOf pool26 8 #[] #[{ accessFlags := 4, nameIndex := 5, descriptorIndex := 6, attributes := #[] }] 1057 2 #[77] #[])
  fields := #[]
  methods := #[k26m0]
  instanceTypes := #[]
  staticTypes := #[]
  resolved := Array.replicate 160 none
  statics := none }

def pool27 : Array CpInfo := pool [(8, .class_ 10), (1, u "java/util/SequencedCollection"), (15, .class_ 27), (0, u "java/lang/Object"), (0, .class_ 29), (0, u "java/util/Collection")] 27

/-- java/util/SequencedCollection -/
def k27 : Class := { plain "java/util/SequencedCollection" (some 0) with
  accessFlags := 1537
  interfaces := #[25]
  cf := some (fileOf pool27 8 #[] #[] 1537 26 #[28] #[])
  fields := #[]
  methods := #[]
  instanceTypes := #[]
  staticTypes := #[]
  resolved := Array.replicate 57 none
  statics := none }

def pool28 : Array CpInfo := pool [(8, .class_ 10), (1, u "java/util/List"), (92, .class_ 104), (0, u "java/lang/Object"), (15, .class_ 121), (0, u "java/util/SequencedCollection")] 129

/-- java/util/List -/
def k28 : Class := { plain "java/util/List" (some 0) with
  accessFlags := 1537
  interfaces := #[27]
  cf := some (fileOf pool28 8 #[] #[] 1537 103 #[120] #[])
  fields := #[]
  methods := #[]
  instanceTypes := #[]
  staticTypes := #[]
  resolved := Array.replicate 251 none
  statics := none }

def pool29 : Array CpInfo := pool [(2, .class_ 4), (1, u "java/util/AbstractCollection"), (0, u "<init>"), (0, u "()V"), (1, .class_ 10), (1, u "java/util/AbstractList"), (0, u "modCount"), (0, u "I"), (64, .class_ 78), (0, u "java/util/AbstractList$Itr"), (3, .class_ 83), (0, u "java/util/AbstractList$ListItr"), (9, .class_ 94), (0, u "java/util/AbstractList$RandomAccessSubList"), (3, .class_ 99), (0, u "java/util/AbstractList$SubList"), (33, .class_ 134), (0, u "java/util/List"), (73, .class_ 209), (0, u "java/util/AbstractList$SubList$1"), (0, .class_ 211), (0, u "java/util/AbstractList$RandomAccessSpliterator")] 6

def k29m0 : Method := { name := "<init>", desc := "()V", sig := { parameters := [], returnType := none }, accessFlags := 4, code := none }
/-- java/util/AbstractList -/
def k29 : Class := { plain "java/util/AbstractList" (some 26) with
  accessFlags := 1057
  interfaces := #[28]
  cf := some (fileOf pool29 8 #[.nestMembers #[93, 98, 208, 210, 82, 77]] #[{ accessFlags := 4, nameIndex := 5, descriptorIndex := 6, attributes := #[] }] 1057 2 #[133] #[{ accessFlags := 132, nameIndex := 11, descriptorIndex := 12, attributes := #[] }])
  fields := #[{ name := "modCount", type := .int, accessFlags := 132, slot := 0, constantValue := 0 }]
  methods := #[k29m0]
  instanceTypes := #[.int]
  staticTypes := #[]
  resolved := Array.replicate 218 none
  statics := none }

def pool30 : Array CpInfo := pool [(1, .class_ 2), (0, u "java/util/RandomAccess"), (0, .class_ 4), (0, u "java/lang/Object")] 2

/-- java/util/RandomAccess -/
def k30 : Class := { plain "java/util/RandomAccess" (some 0) with
  accessFlags := 1537
  interfaces := #[]
  cf := some (fileOf pool30 1 #[] #[] 1537 3 #[] #[])
  fields := #[]
  methods := #[]
  instanceTypes := #[]
  staticTypes := #[]
  resolved := Array.replicate 7 none
  statics := none }

def pool31 : Array CpInfo := pool [(2, .class_ 4), (1, u "java/util/AbstractList"), (0, u "<init>"), (0, u "()V"), (1, .class_ 10), (1, u "java/util/Collections"), (54, .class_ 66), (0, u "java/util/Collections$EmptyList"), (0, .class_ 68), (0, u "java/util/RandomAccess"), (0, .class_ 70), (0, u "java/io/Serializable"), (0, u "serialVersionUID"), (0, u "J")] 77

def k31m0 : Method := { name := "<init>", desc := "()V", sig := { parameters := [], returnType := none }, accessFlags := 2, code := none }
/-- java/util/Collections$EmptyList -/
def k31 : Class := { plain "java/util/Collections$EmptyList" (some 29) with
  accessFlags := 32
  interfaces := #[30, 2]
  cf := some (fileOf pool31 65 #[.nestHost 8] #[{ accessFlags := 2, nameIndex := 5, descriptorIndex := 6, attributes := #[] }] 32 2 #[67, 69] #[{ accessFlags := 26, nameIndex := 71, descriptorIndex := 72, attributes := #[] }])
  fields := #[{ name := "serialVersionUID", type := .long, accessFlags := 26, slot := 0, constantValue := 0 }]
  methods := #[k31m0]
  instanceTypes := #[.int]
  staticTypes := #[.long]
  resolved := Array.replicate 150 none
  statics := none }

def pool32 : Array CpInfo := pool [(2, .class_ 4), (1, u "java/lang/StackTraceElement"), (0, u "<init>"), (2, .class_ 10), (1, u "java/lang/Object"), (0, u "()V"), (2, u "format"), (0, u "B"), (2, u "classLoaderName"), (0, u "Ljava/lang/String;"), (2, u "moduleName"), (2, u "moduleVersion"), (12, u "declaringClass"), (4, u "methodName"), (2, u "fileName"), (2, u "lineNumber"), (0, u "I"), (65, u "declaringClassObject"), (0, u "Ljava/lang/Class;"), (33, .class_ 153), (1, u "java/lang/StackTraceElement$HashedModules"), (17, .class_ 172), (0, u "java/io/Serializable"), (0, u "NATIVE_METHOD"), (1, u "UNKNOWN_SOURCE"), (2, u "BUILTIN_CLASS_LOADER"), (1, u "JDK_NON_UPGRADEABLE_MODULE"), (1, u "serialVersionUID"), (0, u "J")] 51

def k32m0 : Method := { name := "<init>", desc := "()V", sig := { parameters := [], returnType := none }, accessFlags := 2, code := none }
/-- java/lang/StackTraceElement -/
def k32 : Class := { plain "java/lang/StackTraceElement" (some 0) with
  accessFlags := 49
  interfaces := #[2]
  cf := some (fileOf pool32 2 #[.nestMembers #[151]] #[{ accessFlags := 2, nameIndex := 5, descriptorIndex := 11, attributes := #[] }] 49 8 #[171] #[{ accessFlags := 26, nameIndex := 173, descriptorIndex := 19, attributes := #[] }, { accessFlags := 26, nameIndex := 175, descriptorIndex := 19, attributes := #[] }, { accessFlags := 130, nameIndex := 116, descriptorIndex := 117, attributes := #[] }, { accessFlags := 2, nameIndex := 18, descriptorIndex := 19, attributes := #[] }, { accessFlags := 2, nameIndex := 22, descriptorIndex := 19, attributes := #[] }, { accessFlags := 2, nameIndex := 25, descriptorIndex := 19, attributes := #[] }, { accessFlags := 2, nameIndex := 38, descriptorIndex := 19, attributes := #[] }, { accessFlags := 2, nameIndex := 43, descriptorIndex := 19, attributes := #[] }, { accessFlags := 2, nameIndex := 46, descriptorIndex := 19, attributes := #[] }, { accessFlags := 2, nameIndex := 49, descriptorIndex := 50, attributes := #[] }, { accessFlags := 2, nameIndex := 14, descriptorIndex := 15, attributes := #[] }, { accessFlags := 26, nameIndex := 178, descriptorIndex := 15, attributes := #[] }, { accessFlags := 26, nameIndex := 180, descriptorIndex := 15, attributes := #[] }, { accessFlags := 26, nameIndex := 182, descriptorIndex := 183, attributes := #[] }])
  fields := #[{ name := "NATIVE_METHOD", type := (.object "java/lang/String"), accessFlags := 26, slot := 0, constantValue := 0 }, { name := "UNKNOWN_SOURCE", type := (.object "java/lang/String"), accessFlags := 26, slot := 1, constantValue := 0 }, { name := "declaringClassObject", type := (.object "java/lang/Class"), accessFlags := 130, slot := 0, constantValue := 0 }, { name := "classLoaderName", type := (.object "java/lang/String"), accessFlags := 2, slot := 1, constantValue := 0 }, { name := "moduleName", type := (.object "java/lang/String"), accessFlags := 2, slot := 2, constantValue := 0 }, { name := "moduleVersion", type := (.object "java/lang/String"), accessFlags := 2, slot := 3, constantValue := 0 }, { name := "declaringClass", type := (.object "java/lang/String"), accessFlags := 2, slot := 4, constantValue := 0 }, { name := "methodName", type := (.object "java/lang/String"), accessFlags := 2, slot := 5, constantValue := 0 }, { name := "fileName", type := (.object "java/lang/String"), accessFlags := 2, slot := 6, constantValue := 0 }, { name := "lineNumber", type := .int, accessFlags := 2, slot := 7, constantValue := 0 }, { name := "format", type := .byte, accessFlags := 2, slot := 8, constantValue := 0 }, { name := "BUILTIN_CLASS_LOADER", type := .byte, accessFlags := 26, slot := 2, constantValue := 0 }, { name := "JDK_NON_UPGRADEABLE_MODULE", type := .byte, accessFlags := 26, slot := 3, constantValue := 0 }, { name := "serialVersionUID", type := .long, accessFlags := 26, slot := 4, constantValue := 0 }]
  methods := #[k32m0]
  instanceTypes := #[(.object "java/lang/Class"), (.object "java/lang/String"), (.object "java/lang/String"), (.object "java/lang/String"), (.object "java/lang/String"), (.object "java/lang/String"), (.object "java/lang/String"), .int, .byte]
  staticTypes := #[(.object "java/lang/String"), (.object "java/lang/String"), .byte, .byte, .long]
  resolved := Array.replicate 235 none
  statics := none }

/-- the primitive byte -/
def k33 : Class := { plain "byte" none with kind := .primitive 'B', accessFlags := 0x411 }
/-- [B -/
def k34 : Class := { plain "[B" (some 0) with kind := .array 33 .byte, interfaces := #[22, 2], accessFlags := 1041 }

/-- the primitive char -/
def k35 : Class := { plain "char" none with kind := .primitive 'C', accessFlags := 0x411 }
/-- [C -/
def k36 : Class := { plain "[C" (some 0) with kind := .array 35 .char, interfaces := #[22, 2], accessFlags := 1041 }

/-- [Ljava/lang/Object; -/
def k37 : Class := { plain "[Ljava/lang/Object;" (some 0) with kind := .array 0 (.object "java/lang/Object"), interfaces := #[22, 2], accessFlags := 1041 }

/-- [Ljava/lang/StackTraceElement; -/
def k38 : Class := { plain "[Ljava/lang/StackTraceElement;" (some 0) with kind := .array 32 (.object "java/lang/StackTraceElement"), interfaces := #[22, 2], accessFlags := 1041 }

/-- [Ljava/lang/Throwable; -/
def k39 : Class := { plain "[Ljava/lang/Throwable;" (some 0) with kind := .array 10 (.object "java/lang/Throwable"), interfaces := #[22, 2], accessFlags := 1041 }

def heap : Heap := #[{ cls := 7, slots := #[.long 0, .int 1, .null, .int 0, .null, .int 0, .int 0], vm := .statics 7 },
  { cls := 10, slots := #[.long 0, .ref 4, .ref 5, .null, .null, .null, .null, .ref 6, .int 1], vm := .statics 10 },
  { cls := 20, slots := #[.null, .null, .null], vm := .statics 20 },
  { cls := 23, slots := #[.int 0, .int 0, .int 0, .int 0, .int 0, .int 0, .int 0, .int 0, .null, .null, .ref 5, .null], vm := .statics 23 },
  { cls := 38, slots := #[], vm := .none },
  { cls := 31, slots := #[.int 0], vm := .none },
  { cls := 39, slots := #[], vm := .none }]
def classes : Array Class := #[k0, k1, k2, k3, k4, k5, k6, k7, k8, k9, k10, k11, k12, k13, k14, k15, k16, k17, k18, k19, k20, k21, k22, k23, k24, k25, k26, k27, k28, k29, k30, k31, k32, k33, k34, k35, k36, k37, k38, k39]
def interned : List (Array UInt16 × Addr) := []
def slotsUsed : Nat := 32
def theMethod : MethodId := ⟨1, 1⟩
def args0 : Array Value := #[.int 5, .int 5]
def aboutOver (below : List Frame) : State where
  vm := { classes := classes, interned := interned.toArray }
  heap := heap
  slotsUsed := slotsUsed
  threads := #[{ frames := .invoking theMethod args0 :: below }]
def below0 : List Frame := [.native { method := ⟨0, 0⟩, args := #[] }]
def about1 : State := aboutOver below0
def p0 : Program := .bare "" "" ""
def e0 : Env := launch0.env 0 0 0
theorem w_frames : about1.frames = Frame.invoking theMethod args0 :: below0 := rfl
set_option maxRecDepth 65536 in
theorem w_args : argsFit about1.vm theMethod args0 = true := by decide +kernel
set_option maxRecDepth 65536 in
theorem w_heap : heapFits about1 = true := by decide +kernel
set_option maxRecDepth 65536 in
theorem w_runnable : about1.curStatus? = some .runnable := by decide +kernel
set_option maxRecDepth 65536 in
theorem w_alone : about1.alone = true := by decide +kernel
set_option maxRecDepth 65536 in
theorem w_named : about1.methodNamed? x = some theMethod := by decide +kernel
set_option maxRecDepth 65536 in
theorem w_hears : about1.hears theMethod below0 = true := by decide +kernel
set_option maxRecDepth 65536 in
theorem w_ripe : about1.ripe theMethod args0 below0 = true := by decide +kernel
theorem w_running : about1.status = .running := rfl
set_option maxRecDepth 65536 in
theorem w_room : about1.hasRoom e0.platform room_1 = true :=
  launch0.hasRoom_least _ room_1 (by decide +kernel) (by decide +kernel) (by decide +kernel) (by decide +kernel) (by decide +kernel) (by decide +kernel)
theorem allAtoms_all (ts : List Jvm.Cond) (a : Array Jvm.Value) (st : Jvm.State) : (allAtoms ts).before a st = ts.all (fun c => c.before a st) := by
  induction ts with
  | nil => rfl
  | cons c t ih =>
    show (Jvm.Cond.and c (allAtoms t)).before a st = _
    rw [Jvm.Cond.before_and, ih, List.all_cons]
def words1 : List Jvm.Cond := Jvm.Cond.code x code maxLocals ret :: tables_1
/-- a 'code' word, met by the world's own term for the bytes: nothing is compared byte by byte -/
theorem code_word {y : MethodName} {bytes : ByteArray} {mx : Nat} {rt : Option FieldType} {a : Array Value} {s : State} {m : MethodId} {meth : Method} {c : Code} (h1 : s.methodNamed? y = some m) (h2 : s.vm.method? m = some meth) (h3 : meth.code = some c) (h4 : c.code = bytes)
    (h5 : (c.maxLocals == mx && c.exceptionTable.isEmpty && decide (c.maxStack ≤ mostOperands) && decide (meth.sig.returnType = rt) && !meth.locks && decide (parseMethodDescriptor y.desc = some meth.sig)) = true) : (Jvm.Cond.code y bytes mx rt).before a s = true := by
  simp only [Bool.and_eq_true, beq_iff_eq, Bool.not_eq_true', decide_eq_true_eq] at h5
  obtain ⟨⟨⟨⟨⟨g1, g2⟩, g3⟩, g4⟩, g5⟩, g6⟩ := h5
  simp [Cond.before, Cond.holds, Cond.value, h1, h2, h3, h4, g1, g2, g3, g4, g5, g6]
def isCode : Jvm.Cond → Bool
  | .code _ _ _ _ => true
  | _ => false
theorem all_split {L : List Jvm.Cond} {P : Jvm.Cond → Bool} (h1 : L.all (fun c => isCode c || P c) = true) (h2 : ∀ c ∈ L.filter isCode, P c = true) : L.all P = true := by
  refine List.all_eq_true.mpr fun c hc => ?_
  have h := List.all_eq_true.mp h1 c hc
  rcases Bool.eq_false_or_eq_true (isCode c) with hi | hi
  · exact h2 c (List.mem_filter.mpr ⟨hc, hi⟩)
  · simpa [hi] using h
set_option maxRecDepth 65536 in
theorem w_c0 : (Jvm.Cond.code x code maxLocals ret).before args0 about1 = true := code_word (m := ⟨1, 1⟩) (meth := k1m1) (c := k1c1) (by decide +kernel) rfl rfl rfl (by decide +kernel)
set_option maxRecDepth 65536 in
theorem w_c1 : (Jvm.Cond.code ({ cls := "com/example/stablebid/stablebid/cli/InputFileRefusalPinLaw", name := "nameChar", desc := "(I)C" } : Jvm.MethodName) method_3_code (1 : Nat) (Option.some Jvm.ClassFile.FieldType.char)).before args0 about1 = true := code_word (m := ⟨1, 2⟩) (meth := k1m2) (c := k1c2) (by decide +kernel) rfl rfl rfl (by decide +kernel)
set_option maxRecDepth 65536 in
theorem w_c2 : (Jvm.Cond.code ({ cls := "com/example/stablebid/stablebid/cli/InputFileRefusalPinLaw", name := "str", desc := "(ICCC)Ljava/lang/String;" } : Jvm.MethodName) method_4_code (4 : Nat) (Option.some (Jvm.ClassFile.FieldType.object "java/lang/String"))).before args0 about1 = true := code_word (m := ⟨1, 3⟩) (meth := k1m3) (c := k1c3) (by decide +kernel) rfl rfl rfl (by decide +kernel)
set_option maxRecDepth 65536 in
theorem w_c3 : (Jvm.Cond.code ({ cls := "java/lang/String", name := "<init>", desc := "([C)V" } : Jvm.MethodName) jdk_42_method_3_code (2 : Nat) (Option.none : Option Jvm.ClassFile.FieldType)).before args0 about1 = true := code_word (m := ⟨7, 1⟩) (meth := k7m1) (c := k7c1) (by decide +kernel) rfl rfl rfl (by decide +kernel)
set_option maxRecDepth 65536 in
theorem w_c4 : (Jvm.Cond.code ({ cls := "java/lang/String", name := "<init>", desc := "([CIILjava/lang/Void;)V" } : Jvm.MethodName) jdk_42_method_149_code (6 : Nat) (Option.none : Option Jvm.ClassFile.FieldType)).before args0 about1 = true := code_word (m := ⟨7, 7⟩) (meth := k7m7) (c := k7c7) (by decide +kernel) rfl rfl rfl (by decide +kernel)
set_option maxRecDepth 65536 in
theorem w_c5 : (Jvm.Cond.code ({ cls := "java/lang/Object", name := "<init>", desc := "()V" } : Jvm.MethodName) object_method_1_code (1 : Nat) (Option.none : Option Jvm.ClassFile.FieldType)).before args0 about1 = true := code_word (m := ⟨0, 0⟩) (meth := k0m0) (c := k0c0) (by decide +kernel) rfl rfl rfl (by decide +kernel)
set_option maxRecDepth 65536 in
theorem w_c6 : (Jvm.Cond.code ({ cls := "java/lang/StringUTF16", name := "compress", desc := "([CII)[B" } : Jvm.MethodName) jdk_52_method_16_code (6 : Nat) (Option.some (Jvm.ClassFile.FieldType.array Jvm.ClassFile.FieldType.byte))).before args0 about1 = true := code_word (m := ⟨8, 2⟩) (meth := k8m2) (c := k8c2) (by decide +kernel) rfl rfl rfl (by decide +kernel)
set_option maxRecDepth 65536 in
theorem w_c7 : (Jvm.Cond.code ({ cls := "java/lang/StringUTF16", name := "compress", desc := "([CI[BII)I" } : Jvm.MethodName) jdk_52_method_21_code (7 : Nat) (Option.some Jvm.ClassFile.FieldType.int)).before args0 about1 = true := code_word (m := ⟨8, 3⟩) (meth := k8m3) (c := k8c3) (by decide +kernel) rfl rfl rfl (by decide +kernel)
set_option maxRecDepth 65536 in
theorem w_c8 : (Jvm.Cond.code ({ cls := "java/lang/StringUTF16", name := "coderFromArrayLen", desc := "([BI)B" } : Jvm.MethodName) jdk_52_method_15_code (2 : Nat) (Option.some Jvm.ClassFile.FieldType.byte)).before args0 about1 = true := code_word (m := ⟨8, 1⟩) (meth := k8m1) (c := k8c1) (by decide +kernel) rfl rfl rfl (by decide +kernel)
set_option maxRecDepth 65536 in
theorem w_c9 : (Jvm.Cond.code ({ cls := "com/example/stablebid/stablebid/cli/InputFile", name := "refusal", desc := "(Ljava/lang/String;Ljava/lang/String;)Lcom/example/stablebid/stablebid/cli/InputException;" } : Jvm.MethodName) prog_22_method_4_code (2 : Nat) (Option.some (Jvm.ClassFile.FieldType.object "com/example/stablebid/stablebid/cli/InputException"))).before args0 about1 = true := code_word (m := ⟨9, 1⟩) (meth := k9m1) (c := k9c1) (by decide +kernel) rfl rfl rfl (by decide +kernel)
set_option maxRecDepth 65536 in
theorem w_c10 : (Jvm.Cond.code ({ cls := "java/lang/StringBuilder", name := "<init>", desc := "()V" } : Jvm.MethodName) jdk_67_method_1_code (1 : Nat) (Option.none : Option Jvm.ClassFile.FieldType)).before args0 about1 = true := code_word (m := ⟨15, 0⟩) (meth := k15m0) (c := k15c0) (by decide +kernel) rfl rfl rfl (by decide +kernel)
set_option maxRecDepth 65536 in
theorem w_c11 : (Jvm.Cond.code ({ cls := "java/lang/AbstractStringBuilder", name := "<init>", desc := "(I)V" } : Jvm.MethodName) jdk_68_method_2_code (2 : Nat) (Option.none : Option Jvm.ClassFile.FieldType)).before args0 about1 = true := code_word (m := ⟨14, 1⟩) (meth := k14m1) (c := k14c1) (by decide +kernel) rfl rfl rfl (by decide +kernel)
set_option maxRecDepth 65536 in
theorem w_c12 : (Jvm.Cond.code ({ cls := "com/example/stablebid/stablebid/cli/InputFile", name := "label", desc := "(Ljava/lang/String;)Ljava/lang/String;" } : Jvm.MethodName) prog_22_method_5_code (1 : Nat) (Option.some (Jvm.ClassFile.FieldType.object "java/lang/String"))).before args0 about1 = true := code_word (m := ⟨9, 2⟩) (meth := k9m2) (c := k9c2) (by decide +kernel) rfl rfl rfl (by decide +kernel)
set_option maxRecDepth 65536 in
theorem w_c13 : (Jvm.Cond.code ({ cls := "java/lang/String", name := "equals", desc := "(Ljava/lang/Object;)Z" } : Jvm.MethodName) jdk_42_method_66_code (3 : Nat) (Option.some Jvm.ClassFile.FieldType.boolean)).before args0 about1 = true := code_word (m := ⟨7, 5⟩) (meth := k7m5) (c := k7c5) (by decide +kernel) rfl rfl rfl (by decide +kernel)
set_option maxRecDepth 65536 in
theorem w_c14 : (Jvm.Cond.code ({ cls := "java/lang/StringLatin1", name := "equals", desc := "([B[B)Z" } : Jvm.MethodName) jdk_43_method_13_code (3 : Nat) (Option.some Jvm.ClassFile.FieldType.boolean)).before args0 about1 = true := code_word (m := ⟨16, 2⟩) (meth := k16m2) (c := k16c2) (by decide +kernel) rfl rfl rfl (by decide +kernel)
set_option maxRecDepth 65536 in
theorem w_c15 : (Jvm.Cond.code ({ cls := "java/lang/StringBuilder", name := "append", desc := "(Ljava/lang/String;)Ljava/lang/StringBuilder;" } : Jvm.MethodName) jdk_67_method_7_code (2 : Nat) (Option.some (Jvm.ClassFile.FieldType.object "java/lang/StringBuilder"))).before args0 about1 = true := code_word (m := ⟨15, 1⟩) (meth := k15m1) (c := k15c1) (by decide +kernel) rfl rfl rfl (by decide +kernel)
set_option maxRecDepth 65536 in
theorem w_c16 : (Jvm.Cond.code ({ cls := "java/lang/AbstractStringBuilder", name := "append", desc := "(Ljava/lang/String;)Ljava/lang/AbstractStringBuilder;" } : Jvm.MethodName) jdk_68_method_22_code (3 : Nat) (Option.some (Jvm.ClassFile.FieldType.object "java/lang/AbstractStringBuilder"))).before args0 about1 = true := code_word (m := ⟨14, 5⟩) (meth := k14m5) (c := k14c5) (by decide +kernel) rfl rfl rfl (by decide +kernel)
set_option maxRecDepth 65536 in
theorem w_c17 : (Jvm.Cond.code ({ cls := "java/lang/String", name := "length", desc := "()I" } : Jvm.MethodName) jdk_42_method_54_code (1 : Nat) (Option.some Jvm.ClassFile.FieldType.int)).before args0 about1 = true := code_word (m := ⟨7, 3⟩) (meth := k7m3) (c := k7c3) (by decide +kernel) rfl rfl rfl (by decide +kernel)
set_option maxRecDepth 65536 in
theorem w_c18 : (Jvm.Cond.code ({ cls := "java/lang/String", name := "coder", desc := "()B" } : Jvm.MethodName) jdk_42_method_152_code (1 : Nat) (Option.some Jvm.ClassFile.FieldType.byte)).before args0 about1 = true := code_word (m := ⟨7, 9⟩) (meth := k7m9) (c := k7c9) (by decide +kernel) rfl rfl rfl (by decide +kernel)
set_option maxRecDepth 65536 in
theorem w_c19 : (Jvm.Cond.code ({ cls := "java/lang/AbstractStringBuilder", name := "ensureCapacityInternal", desc := "(I)V" } : Jvm.MethodName) jdk_68_method_9_code (3 : Nat) (Option.none : Option Jvm.ClassFile.FieldType)).before args0 about1 = true := code_word (m := ⟨14, 3⟩) (meth := k14m3) (c := k14c3) (by decide +kernel) rfl rfl rfl (by decide +kernel)
set_option maxRecDepth 65536 in
theorem w_c20 : (Jvm.Cond.code ({ cls := "java/lang/AbstractStringBuilder", name := "putStringAt", desc := "(ILjava/lang/String;)V" } : Jvm.MethodName) jdk_68_method_73_code (3 : Nat) (Option.none : Option Jvm.ClassFile.FieldType)).before args0 about1 = true := code_word (m := ⟨14, 9⟩) (meth := k14m9) (c := k14c9) (by decide +kernel) rfl rfl rfl (by decide +kernel)
set_option maxRecDepth 65536 in
theorem w_c21 : (Jvm.Cond.code ({ cls := "java/lang/AbstractStringBuilder", name := "inflateIfNeededFor", desc := "(Ljava/lang/String;)V" } : Jvm.MethodName) jdk_68_method_71_code (2 : Nat) (Option.none : Option Jvm.ClassFile.FieldType)).before args0 about1 = true := code_word (m := ⟨14, 8⟩) (meth := k14m8) (c := k14c8) (by decide +kernel) rfl rfl rfl (by decide +kernel)
set_option maxRecDepth 65536 in
theorem w_c22 : (Jvm.Cond.code ({ cls := "java/lang/String", name := "getBytes", desc := "([BIB)V" } : Jvm.MethodName) jdk_42_method_147_code (4 : Nat) (Option.none : Option Jvm.ClassFile.FieldType)).before args0 about1 = true := code_word (m := ⟨7, 6⟩) (meth := k7m6) (c := k7c6) (by decide +kernel) rfl rfl rfl (by decide +kernel)
set_option maxRecDepth 65536 in
theorem w_c23 : (Jvm.Cond.code ({ cls := "java/lang/StringBuilder", name := "toString", desc := "()Ljava/lang/String;" } : Jvm.MethodName) jdk_67_method_42_code (1 : Nat) (Option.some (Jvm.ClassFile.FieldType.object "java/lang/String"))).before args0 about1 = true := code_word (m := ⟨15, 2⟩) (meth := k15m2) (c := k15c2) (by decide +kernel) rfl rfl rfl (by decide +kernel)
set_option maxRecDepth 65536 in
theorem w_c24 : (Jvm.Cond.code ({ cls := "java/lang/String", name := "<init>", desc := "(Ljava/lang/StringBuilder;)V" } : Jvm.MethodName) jdk_42_method_53_code (2 : Nat) (Option.none : Option Jvm.ClassFile.FieldType)).before args0 about1 = true := code_word (m := ⟨7, 2⟩) (meth := k7m2) (c := k7c2) (by decide +kernel) rfl rfl rfl (by decide +kernel)
set_option maxRecDepth 65536 in
theorem w_c25 : (Jvm.Cond.code ({ cls := "java/lang/String", name := "<init>", desc := "(Ljava/lang/AbstractStringBuilder;Ljava/lang/Void;)V" } : Jvm.MethodName) jdk_42_method_150_code (5 : Nat) (Option.none : Option Jvm.ClassFile.FieldType)).before args0 about1 = true := code_word (m := ⟨7, 8⟩) (meth := k7m8) (c := k7c8) (by decide +kernel) rfl rfl rfl (by decide +kernel)
set_option maxRecDepth 65536 in
theorem w_c26 : (Jvm.Cond.code ({ cls := "java/lang/AbstractStringBuilder", name := "getValue", desc := "()[B" } : Jvm.MethodName) jdk_68_method_64_code (1 : Nat) (Option.some (Jvm.ClassFile.FieldType.array Jvm.ClassFile.FieldType.byte))).before args0 about1 = true := code_word (m := ⟨14, 6⟩) (meth := k14m6) (c := k14c6) (by decide +kernel) rfl rfl rfl (by decide +kernel)
set_option maxRecDepth 65536 in
theorem w_c27 : (Jvm.Cond.code ({ cls := "java/lang/StringBuilder", name := "length", desc := "()I" } : Jvm.MethodName) jdk_67_method_93_code (1 : Nat) (Option.some Jvm.ClassFile.FieldType.int)).before args0 about1 = true := code_word (m := ⟨15, 3⟩) (meth := k15m3) (c := k15c3) (by decide +kernel) rfl rfl rfl (by decide +kernel)
set_option maxRecDepth 65536 in
theorem w_c28 : (Jvm.Cond.code ({ cls := "java/lang/AbstractStringBuilder", name := "length", desc := "()I" } : Jvm.MethodName) jdk_68_method_6_code (1 : Nat) (Option.some Jvm.ClassFile.FieldType.int)).before args0 about1 = true := code_word (m := ⟨14, 2⟩) (meth := k14m2) (c := k14c2) (by decide +kernel) rfl rfl rfl (by decide +kernel)
set_option maxRecDepth 65536 in
theorem w_c29 : (Jvm.Cond.code ({ cls := "java/lang/AbstractStringBuilder", name := "isLatin1", desc := "()Z" } : Jvm.MethodName) jdk_68_method_68_code (1 : Nat) (Option.some Jvm.ClassFile.FieldType.boolean)).before args0 about1 = true := code_word (m := ⟨14, 7⟩) (meth := k14m7) (c := k14c7) (by decide +kernel) rfl rfl rfl (by decide +kernel)
set_option maxRecDepth 65536 in
theorem w_c30 : (Jvm.Cond.code ({ cls := "java/util/Arrays", name := "copyOfRange", desc := "([BII)[B" } : Jvm.MethodName) jdk_65_method_132_code (3 : Nat) (Option.some (Jvm.ClassFile.FieldType.array Jvm.ClassFile.FieldType.byte))).before args0 about1 = true := code_word (m := ⟨18, 3⟩) (meth := k18m3) (c := k18c3) (by decide +kernel) rfl rfl rfl (by decide +kernel)
set_option maxRecDepth 65536 in
theorem w_c31 : (Jvm.Cond.code ({ cls := "java/util/Arrays", name := "copyOfRangeByte", desc := "([BII)[B" } : Jvm.MethodName) jdk_65_method_133_code (5 : Nat) (Option.some (Jvm.ClassFile.FieldType.array Jvm.ClassFile.FieldType.byte))).before args0 about1 = true := code_word (m := ⟨18, 4⟩) (meth := k18m4) (c := k18c4) (by decide +kernel) rfl rfl rfl (by decide +kernel)
set_option maxRecDepth 65536 in
theorem w_c32 : (Jvm.Cond.code ({ cls := "java/util/Arrays", name := "checkLength", desc := "(II)V" } : Jvm.MethodName) jdk_65_method_131_code (2 : Nat) (Option.none : Option Jvm.ClassFile.FieldType)).before args0 about1 = true := code_word (m := ⟨18, 2⟩) (meth := k18m2) (c := k18c2) (by decide +kernel) rfl rfl rfl (by decide +kernel)
set_option maxRecDepth 65536 in
theorem w_c33 : (Jvm.Cond.code ({ cls := "java/lang/Math", name := "min", desc := "(II)I" } : Jvm.MethodName) jdk_29_method_69_code (2 : Nat) (Option.some Jvm.ClassFile.FieldType.int)).before args0 about1 = true := code_word (m := ⟨19, 2⟩) (meth := k19m2) (c := k19c2) (by decide +kernel) rfl rfl rfl (by decide +kernel)
set_option maxRecDepth 65536 in
theorem w_c34 : (Jvm.Cond.code ({ cls := "com/example/stablebid/stablebid/cli/InputException", name := "<init>", desc := "(Ljava/lang/String;)V" } : Jvm.MethodName) prog_21_method_1_code (2 : Nat) (Option.none : Option Jvm.ClassFile.FieldType)).before args0 about1 = true := code_word (m := ⟨12, 0⟩) (meth := k12m0) (c := k12c0) (by decide +kernel) rfl rfl rfl (by decide +kernel)
set_option maxRecDepth 65536 in
theorem w_c35 : (Jvm.Cond.code ({ cls := "java/lang/Exception", name := "<init>", desc := "(Ljava/lang/String;)V" } : Jvm.MethodName) jdk_59_method_2_code (2 : Nat) (Option.none : Option Jvm.ClassFile.FieldType)).before args0 about1 = true := code_word (m := ⟨11, 1⟩) (meth := k11m1) (c := k11c1) (by decide +kernel) rfl rfl rfl (by decide +kernel)
set_option maxRecDepth 65536 in
theorem w_c36 : (Jvm.Cond.code ({ cls := "java/lang/Throwable", name := "<init>", desc := "(Ljava/lang/String;)V" } : Jvm.MethodName) jdk_78_method_2_code (2 : Nat) (Option.none : Option Jvm.ClassFile.FieldType)).before args0 about1 = true := code_word (m := ⟨10, 1⟩) (meth := k10m1) (c := k10c1) (by decide +kernel) rfl rfl rfl (by decide +kernel)
set_option maxRecDepth 65536 in
theorem w_c37 : (Jvm.Cond.code ({ cls := "java/lang/Throwable", name := "<init>", desc := "()V" } : Jvm.MethodName) jdk_78_method_1_code (1 : Nat) (Option.none : Option Jvm.ClassFile.FieldType)).before args0 about1 = true := code_word (m := ⟨10, 0⟩) (meth := k10m0) (c := k10c0) (by decide +kernel) rfl rfl rfl (by decide +kernel)
set_option maxRecDepth 65536 in
theorem w_c38 : (Jvm.Cond.code ({ cls := "java/lang/Throwable", name := "getMessage", desc := "()Ljava/lang/String;" } : Jvm.MethodName) jdk_78_method_6_code (1 : Nat) (Option.some (Jvm.ClassFile.FieldType.object "java/lang/String"))).before args0 about1 = true := code_word (m := ⟨10, 2⟩) (meth := k10m2) (c := k10c2) (by decide +kernel) rfl rfl rfl (by decide +kernel)
set_option maxRecDepth 65536 in
theorem w_c39 : (Jvm.Cond.code ({ cls := "com/example/stablebid/stablebid/cli/InputFileRefusalPinLaw", name := "eq", desc := "(Ljava/lang/String;II[CI[C)Z" } : Jvm.MethodName) method_6_code (6 : Nat) (Option.some Jvm.ClassFile.FieldType.boolean)).before args0 about1 = true := code_word (m := ⟨1, 5⟩) (meth := k1m5) (c := k1c5) (by decide +kernel) rfl rfl rfl (by decide +kernel)
set_option maxRecDepth 65536 in
theorem w_c40 : (Jvm.Cond.code ({ cls := "java/lang/String", name := "charAt", desc := "(I)C" } : Jvm.MethodName) jdk_42_method_56_code (2 : Nat) (Option.some Jvm.ClassFile.FieldType.char)).before args0 about1 = true := code_word (m := ⟨7, 4⟩) (meth := k7m4) (c := k7c4) (by decide +kernel) rfl rfl rfl (by decide +kernel)
set_option maxRecDepth 65536 in
theorem w_c41 : (Jvm.Cond.code ({ cls := "java/lang/String", name := "isLatin1", desc := "()Z" } : Jvm.MethodName) jdk_42_method_154_code (1 : Nat) (Option.some Jvm.ClassFile.FieldType.boolean)).before args0 about1 = true := code_word (m := ⟨7, 10⟩) (meth := k7m10) (c := k7c10) (by decide +kernel) rfl rfl rfl (by decide +kernel)
set_option maxRecDepth 65536 in
theorem w_c42 : (Jvm.Cond.code ({ cls := "java/lang/StringLatin1", name := "charAt", desc := "([BI)C" } : Jvm.MethodName) jdk_43_method_2_code (2 : Nat) (Option.some Jvm.ClassFile.FieldType.char)).before args0 about1 = true := code_word (m := ⟨16, 1⟩) (meth := k16m1) (c := k16c1) (by decide +kernel) rfl rfl rfl (by decide +kernel)
set_option maxRecDepth 65536 in
theorem w_c43 : (Jvm.Cond.code ({ cls := "java/lang/String", name := "checkIndex", desc := "(II)V" } : Jvm.MethodName) jdk_42_method_155_code (2 : Nat) (Option.none : Option Jvm.ClassFile.FieldType)).before args0 about1 = true := code_word (m := ⟨7, 11⟩) (meth := k7m11) (c := k7c11) (by decide +kernel) rfl rfl rfl (by decide +kernel)
set_option maxRecDepth 65536 in
theorem w_c44 : (Jvm.Cond.code ({ cls := "jdk/internal/util/Preconditions", name := "checkIndex", desc := "(IILjava/util/function/BiFunction;)I" } : Jvm.MethodName) jdk_41_method_11_code (3 : Nat) (Option.some Jvm.ClassFile.FieldType.int)).before args0 about1 = true := code_word (m := ⟨20, 1⟩) (meth := k20m1) (c := k20c1) (by decide +kernel) rfl rfl rfl (by decide +kernel)
set_option maxRecDepth 65536 in
theorem w_c45 : (Jvm.Cond.code ({ cls := "com/example/stablebid/stablebid/cli/InputFileRefusalPinLaw", name := "pick", desc := "(I[CI[C)C" } : Jvm.MethodName) method_5_code (4 : Nat) (Option.some Jvm.ClassFile.FieldType.char)).before args0 about1 = true := code_word (m := ⟨1, 4⟩) (meth := k1m4) (c := k1c4) (by decide +kernel) rfl rfl rfl (by decide +kernel)
set_option maxRecDepth 65536 in
theorem w_c46 : (Jvm.Cond.code ({ cls := "java/lang/AbstractStringBuilder", name := "newCapacity", desc := "(I)I" } : Jvm.MethodName) jdk_68_method_10_code (6 : Nat) (Option.some Jvm.ClassFile.FieldType.int)).before args0 about1 = true := code_word (m := ⟨14, 4⟩) (meth := k14m4) (c := k14c4) (by decide +kernel) rfl rfl rfl (by decide +kernel)
set_option maxRecDepth 65536 in
theorem w_c47 : (Jvm.Cond.code ({ cls := "jdk/internal/util/ArraysSupport", name := "newLength", desc := "(III)I" } : Jvm.MethodName) jdk_48_method_27_code (4 : Nat) (Option.some Jvm.ClassFile.FieldType.int)).before args0 about1 = true := code_word (m := ⟨21, 1⟩) (meth := k21m1) (c := k21c1) (by decide +kernel) rfl rfl rfl (by decide +kernel)
set_option maxRecDepth 65536 in
theorem w_c48 : (Jvm.Cond.code ({ cls := "java/lang/Math", name := "max", desc := "(II)I" } : Jvm.MethodName) jdk_29_method_65_code (2 : Nat) (Option.some Jvm.ClassFile.FieldType.int)).before args0 about1 = true := code_word (m := ⟨19, 1⟩) (meth := k19m1) (c := k19c1) (by decide +kernel) rfl rfl rfl (by decide +kernel)
set_option maxRecDepth 65536 in
theorem w_c49 : (Jvm.Cond.code ({ cls := "java/util/Arrays", name := "copyOf", desc := "([BI)[B" } : Jvm.MethodName) jdk_65_method_121_code (3 : Nat) (Option.some (Jvm.ClassFile.FieldType.array Jvm.ClassFile.FieldType.byte))).before args0 about1 = true := code_word (m := ⟨18, 1⟩) (meth := k18m1) (c := k18c1) (by decide +kernel) rfl rfl rfl (by decide +kernel)
def codes1 : List Jvm.Cond := [Jvm.Cond.code x code maxLocals ret, Jvm.Cond.code ({ cls := "com/example/stablebid/stablebid/cli/InputFileRefusalPinLaw", name := "nameChar", desc := "(I)C" } : Jvm.MethodName) method_3_code (1 : Nat) (Option.some Jvm.ClassFile.FieldType.char), Jvm.Cond.code ({ cls := "com/example/stablebid/stablebid/cli/InputFileRefusalPinLaw", name := "str", desc := "(ICCC)Ljava/lang/String;" } : Jvm.MethodName) method_4_code (4 : Nat) (Option.some (Jvm.ClassFile.FieldType.object "java/lang/String")), Jvm.Cond.code ({ cls := "java/lang/String", name := "<init>", desc := "([C)V" } : Jvm.MethodName) jdk_42_method_3_code (2 : Nat) (Option.none : Option Jvm.ClassFile.FieldType), Jvm.Cond.code ({ cls := "java/lang/String", name := "<init>", desc := "([CIILjava/lang/Void;)V" } : Jvm.MethodName) jdk_42_method_149_code (6 : Nat) (Option.none : Option Jvm.ClassFile.FieldType), Jvm.Cond.code ({ cls := "java/lang/Object", name := "<init>", desc := "()V" } : Jvm.MethodName) object_method_1_code (1 : Nat) (Option.none : Option Jvm.ClassFile.FieldType), Jvm.Cond.code ({ cls := "java/lang/StringUTF16", name := "compress", desc := "([CII)[B" } : Jvm.MethodName) jdk_52_method_16_code (6 : Nat) (Option.some (Jvm.ClassFile.FieldType.array Jvm.ClassFile.FieldType.byte)), Jvm.Cond.code ({ cls := "java/lang/StringUTF16", name := "compress", desc := "([CI[BII)I" } : Jvm.MethodName) jdk_52_method_21_code (7 : Nat) (Option.some Jvm.ClassFile.FieldType.int), Jvm.Cond.code ({ cls := "java/lang/StringUTF16", name := "coderFromArrayLen", desc := "([BI)B" } : Jvm.MethodName) jdk_52_method_15_code (2 : Nat) (Option.some Jvm.ClassFile.FieldType.byte), Jvm.Cond.code ({ cls := "com/example/stablebid/stablebid/cli/InputFile", name := "refusal", desc := "(Ljava/lang/String;Ljava/lang/String;)Lcom/example/stablebid/stablebid/cli/InputException;" } : Jvm.MethodName) prog_22_method_4_code (2 : Nat) (Option.some (Jvm.ClassFile.FieldType.object "com/example/stablebid/stablebid/cli/InputException")), Jvm.Cond.code ({ cls := "java/lang/StringBuilder", name := "<init>", desc := "()V" } : Jvm.MethodName) jdk_67_method_1_code (1 : Nat) (Option.none : Option Jvm.ClassFile.FieldType), Jvm.Cond.code ({ cls := "java/lang/AbstractStringBuilder", name := "<init>", desc := "(I)V" } : Jvm.MethodName) jdk_68_method_2_code (2 : Nat) (Option.none : Option Jvm.ClassFile.FieldType), Jvm.Cond.code ({ cls := "com/example/stablebid/stablebid/cli/InputFile", name := "label", desc := "(Ljava/lang/String;)Ljava/lang/String;" } : Jvm.MethodName) prog_22_method_5_code (1 : Nat) (Option.some (Jvm.ClassFile.FieldType.object "java/lang/String")), Jvm.Cond.code ({ cls := "java/lang/String", name := "equals", desc := "(Ljava/lang/Object;)Z" } : Jvm.MethodName) jdk_42_method_66_code (3 : Nat) (Option.some Jvm.ClassFile.FieldType.boolean), Jvm.Cond.code ({ cls := "java/lang/StringLatin1", name := "equals", desc := "([B[B)Z" } : Jvm.MethodName) jdk_43_method_13_code (3 : Nat) (Option.some Jvm.ClassFile.FieldType.boolean), Jvm.Cond.code ({ cls := "java/lang/StringBuilder", name := "append", desc := "(Ljava/lang/String;)Ljava/lang/StringBuilder;" } : Jvm.MethodName) jdk_67_method_7_code (2 : Nat) (Option.some (Jvm.ClassFile.FieldType.object "java/lang/StringBuilder")), Jvm.Cond.code ({ cls := "java/lang/AbstractStringBuilder", name := "append", desc := "(Ljava/lang/String;)Ljava/lang/AbstractStringBuilder;" } : Jvm.MethodName) jdk_68_method_22_code (3 : Nat) (Option.some (Jvm.ClassFile.FieldType.object "java/lang/AbstractStringBuilder")), Jvm.Cond.code ({ cls := "java/lang/String", name := "length", desc := "()I" } : Jvm.MethodName) jdk_42_method_54_code (1 : Nat) (Option.some Jvm.ClassFile.FieldType.int), Jvm.Cond.code ({ cls := "java/lang/String", name := "coder", desc := "()B" } : Jvm.MethodName) jdk_42_method_152_code (1 : Nat) (Option.some Jvm.ClassFile.FieldType.byte), Jvm.Cond.code ({ cls := "java/lang/AbstractStringBuilder", name := "ensureCapacityInternal", desc := "(I)V" } : Jvm.MethodName) jdk_68_method_9_code (3 : Nat) (Option.none : Option Jvm.ClassFile.FieldType), Jvm.Cond.code ({ cls := "java/lang/AbstractStringBuilder", name := "putStringAt", desc := "(ILjava/lang/String;)V" } : Jvm.MethodName) jdk_68_method_73_code (3 : Nat) (Option.none : Option Jvm.ClassFile.FieldType), Jvm.Cond.code ({ cls := "java/lang/AbstractStringBuilder", name := "inflateIfNeededFor", desc := "(Ljava/lang/String;)V" } : Jvm.MethodName) jdk_68_method_71_code (2 : Nat) (Option.none : Option Jvm.ClassFile.FieldType), Jvm.Cond.code ({ cls := "java/lang/String", name := "getBytes", desc := "([BIB)V" } : Jvm.MethodName) jdk_42_method_147_code (4 : Nat) (Option.none : Option Jvm.ClassFile.FieldType), Jvm.Cond.code ({ cls := "java/lang/StringBuilder", name := "toString", desc := "()Ljava/lang/String;" } : Jvm.MethodName) jdk_67_method_42_code (1 : Nat) (Option.some (Jvm.ClassFile.FieldType.object "java/lang/String")), Jvm.Cond.code ({ cls := "java/lang/String", name := "<init>", desc := "(Ljava/lang/StringBuilder;)V" } : Jvm.MethodName) jdk_42_method_53_code (2 : Nat) (Option.none : Option Jvm.ClassFile.FieldType), Jvm.Cond.code ({ cls := "java/lang/String", name := "<init>", desc := "(Ljava/lang/AbstractStringBuilder;Ljava/lang/Void;)V" } : Jvm.MethodName) jdk_42_method_150_code (5 : Nat) (Option.none : Option Jvm.ClassFile.FieldType), Jvm.Cond.code ({ cls := "java/lang/AbstractStringBuilder", name := "getValue", desc := "()[B" } : Jvm.MethodName) jdk_68_method_64_code (1 : Nat) (Option.some (Jvm.ClassFile.FieldType.array Jvm.ClassFile.FieldType.byte)), Jvm.Cond.code ({ cls := "java/lang/StringBuilder", name := "length", desc := "()I" } : Jvm.MethodName) jdk_67_method_93_code (1 : Nat) (Option.some Jvm.ClassFile.FieldType.int), Jvm.Cond.code ({ cls := "java/lang/AbstractStringBuilder", name := "length", desc := "()I" } : Jvm.MethodName) jdk_68_method_6_code (1 : Nat) (Option.some Jvm.ClassFile.FieldType.int), Jvm.Cond.code ({ cls := "java/lang/AbstractStringBuilder", name := "isLatin1", desc := "()Z" } : Jvm.MethodName) jdk_68_method_68_code (1 : Nat) (Option.some Jvm.ClassFile.FieldType.boolean), Jvm.Cond.code ({ cls := "java/util/Arrays", name := "copyOfRange", desc := "([BII)[B" } : Jvm.MethodName) jdk_65_method_132_code (3 : Nat) (Option.some (Jvm.ClassFile.FieldType.array Jvm.ClassFile.FieldType.byte)), Jvm.Cond.code ({ cls := "java/util/Arrays", name := "copyOfRangeByte", desc := "([BII)[B" } : Jvm.MethodName) jdk_65_method_133_code (5 : Nat) (Option.some (Jvm.ClassFile.FieldType.array Jvm.ClassFile.FieldType.byte)), Jvm.Cond.code ({ cls := "java/util/Arrays", name := "checkLength", desc := "(II)V" } : Jvm.MethodName) jdk_65_method_131_code (2 : Nat) (Option.none : Option Jvm.ClassFile.FieldType), Jvm.Cond.code ({ cls := "java/lang/Math", name := "min", desc := "(II)I" } : Jvm.MethodName) jdk_29_method_69_code (2 : Nat) (Option.some Jvm.ClassFile.FieldType.int), Jvm.Cond.code ({ cls := "com/example/stablebid/stablebid/cli/InputException", name := "<init>", desc := "(Ljava/lang/String;)V" } : Jvm.MethodName) prog_21_method_1_code (2 : Nat) (Option.none : Option Jvm.ClassFile.FieldType), Jvm.Cond.code ({ cls := "java/lang/Exception", name := "<init>", desc := "(Ljava/lang/String;)V" } : Jvm.MethodName) jdk_59_method_2_code (2 : Nat) (Option.none : Option Jvm.ClassFile.FieldType), Jvm.Cond.code ({ cls := "java/lang/Throwable", name := "<init>", desc := "(Ljava/lang/String;)V" } : Jvm.MethodName) jdk_78_method_2_code (2 : Nat) (Option.none : Option Jvm.ClassFile.FieldType), Jvm.Cond.code ({ cls := "java/lang/Throwable", name := "<init>", desc := "()V" } : Jvm.MethodName) jdk_78_method_1_code (1 : Nat) (Option.none : Option Jvm.ClassFile.FieldType), Jvm.Cond.code ({ cls := "java/lang/Throwable", name := "getMessage", desc := "()Ljava/lang/String;" } : Jvm.MethodName) jdk_78_method_6_code (1 : Nat) (Option.some (Jvm.ClassFile.FieldType.object "java/lang/String")), Jvm.Cond.code ({ cls := "com/example/stablebid/stablebid/cli/InputFileRefusalPinLaw", name := "eq", desc := "(Ljava/lang/String;II[CI[C)Z" } : Jvm.MethodName) method_6_code (6 : Nat) (Option.some Jvm.ClassFile.FieldType.boolean), Jvm.Cond.code ({ cls := "java/lang/String", name := "charAt", desc := "(I)C" } : Jvm.MethodName) jdk_42_method_56_code (2 : Nat) (Option.some Jvm.ClassFile.FieldType.char), Jvm.Cond.code ({ cls := "java/lang/String", name := "isLatin1", desc := "()Z" } : Jvm.MethodName) jdk_42_method_154_code (1 : Nat) (Option.some Jvm.ClassFile.FieldType.boolean), Jvm.Cond.code ({ cls := "java/lang/StringLatin1", name := "charAt", desc := "([BI)C" } : Jvm.MethodName) jdk_43_method_2_code (2 : Nat) (Option.some Jvm.ClassFile.FieldType.char), Jvm.Cond.code ({ cls := "java/lang/String", name := "checkIndex", desc := "(II)V" } : Jvm.MethodName) jdk_42_method_155_code (2 : Nat) (Option.none : Option Jvm.ClassFile.FieldType), Jvm.Cond.code ({ cls := "jdk/internal/util/Preconditions", name := "checkIndex", desc := "(IILjava/util/function/BiFunction;)I" } : Jvm.MethodName) jdk_41_method_11_code (3 : Nat) (Option.some Jvm.ClassFile.FieldType.int), Jvm.Cond.code ({ cls := "com/example/stablebid/stablebid/cli/InputFileRefusalPinLaw", name := "pick", desc := "(I[CI[C)C" } : Jvm.MethodName) method_5_code (4 : Nat) (Option.some Jvm.ClassFile.FieldType.char), Jvm.Cond.code ({ cls := "java/lang/AbstractStringBuilder", name := "newCapacity", desc := "(I)I" } : Jvm.MethodName) jdk_68_method_10_code (6 : Nat) (Option.some Jvm.ClassFile.FieldType.int), Jvm.Cond.code ({ cls := "jdk/internal/util/ArraysSupport", name := "newLength", desc := "(III)I" } : Jvm.MethodName) jdk_48_method_27_code (4 : Nat) (Option.some Jvm.ClassFile.FieldType.int), Jvm.Cond.code ({ cls := "java/lang/Math", name := "max", desc := "(II)I" } : Jvm.MethodName) jdk_29_method_65_code (2 : Nat) (Option.some Jvm.ClassFile.FieldType.int), Jvm.Cond.code ({ cls := "java/util/Arrays", name := "copyOf", desc := "([BI)[B" } : Jvm.MethodName) jdk_65_method_121_code (3 : Nat) (Option.some (Jvm.ClassFile.FieldType.array Jvm.ClassFile.FieldType.byte))]
set_option maxRecDepth 65536 in
theorem codes_eq : words1.filter isCode = codes1 := rfl
theorem w_codes : ∀ c ∈ words1.filter isCode, c.before args0 about1 = true := by
  rw [codes_eq]
  intro c hc
  simp only [codes1, List.mem_cons, List.not_mem_nil, or_false] at hc
  rcases hc with rfl | rfl | rfl | rfl | rfl | rfl | rfl | rfl | rfl | rfl | rfl | rfl | rfl | rfl | rfl | rfl | rfl | rfl | rfl | rfl | rfl | rfl | rfl | rfl | rfl | rfl | rfl | rfl | rfl | rfl | rfl | rfl | rfl | rfl | rfl | rfl | rfl | rfl | rfl | rfl | rfl | rfl | rfl | rfl | rfl | rfl | rfl | rfl | rfl | rfl
  · exact w_c0
  · exact w_c1
  · exact w_c2
  · exact w_c3
  · exact w_c4
  · exact w_c5
  · exact w_c6
  · exact w_c7
  · exact w_c8
  · exact w_c9
  · exact w_c10
  · exact w_c11
  · exact w_c12
  · exact w_c13
  · exact w_c14
  · exact w_c15
  · exact w_c16
  · exact w_c17
  · exact w_c18
  · exact w_c19
  · exact w_c20
  · exact w_c21
  · exact w_c22
  · exact w_c23
  · exact w_c24
  · exact w_c25
  · exact w_c26
  · exact w_c27
  · exact w_c28
  · exact w_c29
  · exact w_c30
  · exact w_c31
  · exact w_c32
  · exact w_c33
  · exact w_c34
  · exact w_c35
  · exact w_c36
  · exact w_c37
  · exact w_c38
  · exact w_c39
  · exact w_c40
  · exact w_c41
  · exact w_c42
  · exact w_c43
  · exact w_c44
  · exact w_c45
  · exact w_c46
  · exact w_c47
  · exact w_c48
  · exact w_c49
set_option maxRecDepth 65536 in
theorem w_t1 : (words1.take 24).all (fun c => isCode c || c.before args0 about1) = true := by decide +kernel
set_option maxRecDepth 65536 in
theorem w_t2 : ((words1.drop 24).take 24).all (fun c => isCode c || c.before args0 about1) = true := by decide +kernel
set_option maxRecDepth 65536 in
theorem w_t3 : (((words1.drop 24).drop 24).take 24).all (fun c => isCode c || c.before args0 about1) = true := by decide +kernel
set_option maxRecDepth 65536 in
theorem w_t4 : ((((words1.drop 24).drop 24).drop 24).take 24).all (fun c => isCode c || c.before args0 about1) = true := by decide +kernel
set_option maxRecDepth 65536 in
theorem w_t5 : (((((words1.drop 24).drop 24).drop 24).drop 24).take 24).all (fun c => isCode c || c.before args0 about1) = true := by decide +kernel
set_option maxRecDepth 65536 in
theorem w_t6 : ((((((words1.drop 24).drop 24).drop 24).drop 24).drop 24).take 24).all (fun c => isCode c || c.before args0 about1) = true := by decide +kernel
set_option maxRecDepth 65536 in
theorem w_t7 : (((((((words1.drop 24).drop 24).drop 24).drop 24).drop 24).drop 24).take 24).all (fun c => isCode c || c.before args0 about1) = true := by decide +kernel
set_option maxRecDepth 65536 in
theorem w_t8 : ((((((((words1.drop 24).drop 24).drop 24).drop 24).drop 24).drop 24).drop 24).take 24).all (fun c => isCode c || c.before args0 about1) = true := by decide +kernel
set_option maxRecDepth 65536 in
theorem w_t9 : (((((((((words1.drop 24).drop 24).drop 24).drop 24).drop 24).drop 24).drop 24).drop 24).take 24).all (fun c => isCode c || c.before args0 about1) = true := by decide +kernel
set_option maxRecDepth 65536 in
theorem w_t10 : ((((((((((words1.drop 24).drop 24).drop 24).drop 24).drop 24).drop 24).drop 24).drop 24).drop 24).take 24).all (fun c => isCode c || c.before args0 about1) = true := by decide +kernel
set_option maxRecDepth 65536 in
theorem w_t11 : (((((((((((words1.drop 24).drop 24).drop 24).drop 24).drop 24).drop 24).drop 24).drop 24).drop 24).drop 24).take 24).all (fun c => isCode c || c.before args0 about1) = true := by decide +kernel
set_option maxRecDepth 65536 in
theorem w_t12 : (((((((((((words1.drop 24).drop 24).drop 24).drop 24).drop 24).drop 24).drop 24).drop 24).drop 24).drop 24).drop 24).all (fun c => isCode c || c.before args0 about1) = true := by decide +kernel
theorem w_tables : (allAtoms (Jvm.Cond.code x code maxLocals ret :: tables_1)).before args0 about1 = true := by
  rw [allAtoms_all]
  show words1.all (fun c => c.before args0 about1) = true
  refine all_split ?_ w_codes
  rw [← List.take_append_drop 24 words1, List.all_append, w_t1, ← List.take_append_drop 24 (words1.drop 24), List.all_append, w_t2, ← List.take_append_drop 24 ((words1.drop 24).drop 24), List.all_append, w_t3, ← List.take_append_drop 24 (((words1.drop 24).drop 24).drop 24), List.all_append, w_t4, ← List.take_append_drop 24 ((((words1.drop 24).drop 24).drop 24).drop 24), List.all_append, w_t5, ← List.take_append_drop 24 (((((words1.drop 24).drop 24).drop 24).drop 24).drop 24), List.all_append, w_t6, ← List.take_append_drop 24 ((((((words1.drop 24).drop 24).drop 24).drop 24).drop 24).drop 24), List.all_append, w_t7, ← List.take_append_drop 24 (((((((words1.drop 24).drop 24).drop 24).drop 24).drop 24).drop 24).drop 24), List.all_append, w_t8, ← List.take_append_drop 24 ((((((((words1.drop 24).drop 24).drop 24).drop 24).drop 24).drop 24).drop 24).drop 24), List.all_append, w_t9, ← List.take_append_drop 24 (((((((((words1.drop 24).drop 24).drop 24).drop 24).drop 24).drop 24).drop 24).drop 24).drop 24), List.all_append, w_t10, ← List.take_append_drop 24 ((((((((((words1.drop 24).drop 24).drop 24).drop 24).drop 24).drop 24).drop 24).drop 24).drop 24).drop 24), List.all_append, w_t11, w_t12]
  rfl
set_option maxRecDepth 65536 in
theorem w_rest : rest_1_c.before args0 about1 = true := by decide +kernel
set_option maxRecDepth 65536 in
theorem w_case : (Jvm.Cond.and given_1 narrow_1).before args0 about1 = true := by decide +kernel
set_option maxRecDepth 65536 in
theorem w_consts : constsHeld consts_1 about1 := Jvm.Lit.constsHeldB_iff.mp (by decide +kernel)
theorem w_applies : (headSpec (Jvm.Cond.code x code maxLocals ret :: tables_1) room_1).applies x e0.platform about1 = true :=
  (Spec.applies_iff w_frames).mpr ⟨w_running, w_runnable, w_alone, w_named, w_hears, w_ripe, w_room, w_tables⟩
theorem atStart : AtStart classFile x code maxLocals ret World_1 tables_1 room_1 Calls_1 rest_1 Pre_1 launch0 p0 e0 about1 theMethod args0 below0 :=
  ⟨lists_1, trivial, launch0.admits_env _ _ _, launch0.least_env, fairChoices_fair.cas, fairChoices_fair.clock, w_frames, w_args, w_heap, w_applies, ⟨(by decide +kernel : framesKnown about1 = true), ⟨(by decide +kernel : tablesKnown about1 = true), ⟨w_consts, trivial⟩⟩⟩, w_rest, w_case⟩
end start1
theorem witness_1 : WitnessClaimed_1 := ⟨start1.p0, start1.e0, start1.about1, start1.theMethod, start1.args0, start1.below0, start1.atStart⟩
end Jvm.Pilot.@@N@@
