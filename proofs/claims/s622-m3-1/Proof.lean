import JvmDerived
import JvmDerived.Pilot.@@N@@Statement
import JvmDerived.Pilot.@@N@@Code
set_option linter.unusedVariables false
set_option linter.unusedSimpArgs false
namespace Jvm.RoadKit
open Sem ClassFile Op Lib Jvm.Stand Jvm.Free Jvm.LawKit
section New
variable {p : Program} {l : Launch} {e : Env} {R : Room} {s : State} {m : MethodId} {args : Array Value} {below : List Frame} {meth : Method} {c : Code} {T : State} {locs : List Loc} {cells slots : Nat}
theorem retI (X : Stand p l e R s m args below meth c T locs cells slots) (hx : p.tables.exec = Jvm.exec) {pc : Nat} {Ls : Array Slot} {z : Int32} {rest : List Value} (hret : meth.sig.returnType = some .int) (hd : decode c.code pc = .ok (.ireturn, 1)) {fs : List Frame}
  (hl : ∀ (f : JFrame) (acts : List Action), f.method = m → f.locked = none → f.entered = [] → (doReturn e (T.setTop f) acts (some (.int z))).1 = T.setFrames fs) : Steps p.tables e below (T.setTop (mkF m pc Ls (.int z :: rest))) (T.setFrames fs) := by
 have hm' : T.vm.method? m = some meth := X.method'
 have hn : narrow .int (.int z) = .int z := rfl
 show Steps p.tables e below (T.setTop { method := m, pc := pc, locals := Ls, stack := _ :: rest, locked := none }) _
 jvm_step X.here [X.here.top, hx, hd, hm', hret, hn]
 first | (intro acts; rw [hl _ acts rfl rfl rfl]) | rw [hl _ _ rfl rfl rfl]
 exact Steps.refl _
end New
end Jvm.RoadKit
namespace Jvm.Pilot.@@N@@
set_option maxRecDepth 65536
set_option maxHeartbeats 40000000
open Jvm Jvm.ClassFile Sem Op Lib Jvm.Free Jvm.Stand Jvm.LawKit Jvm.RoadKit Bundle Jvm.Pilot.@@N@@.Jvm.D
section OwnKit
variable {p : Program} {l : Launch} {e : Env} {R : Room} {s : State} {m : MethodId} {args : Array Value} {below : List Frame} {meth : Method} {c : Code} {T : State} {locs : List Loc} {cells slots : Nat} {Z : State} {a0 : Array Value} {h : Heap} {P : Outcome → State → Prop} {pc pc' pc1 pc2 : Nat} {L L' : Array Slot} {S : List Value}
/-- the run from U comes to an end that P holds of -/
def OG (p : Program) (e : Env) (below : List Frame) (P : Outcome → State → Prop) (U : State) : Prop := ∃ s₂ o, Steps p.tables e below U s₂ ∧ s₂.status = .running ∧ Ended s₂ below o ∧ P o s₂
theorem OG.of {U U' : State} (k : ∀ t, Steps p.tables e below U' t → Steps p.tables e below U t) (h : OG p e below P U') : OG p e below P U := by
 obtain ⟨t, o, h1, h2⟩ := h; exact ⟨t, o, k t h1, h2⟩
theorem OG.cast {g g' : JFrame} (q : g = g') (k : OG p e below P (T.setTop g')) : OG p e below P (T.setTop g) := q ▸ k
theorem own_mono (X : Stand p l e R s m args below meth c T locs cells slots) {c' n' : Nat} (h1 : cells ≤ c') (h2 : slots ≤ n') : Stand p l e R s m args below meth c T locs c' n' :=
 ⟨X.admits, X.cas, X.clock, X.frames, X.room, X.hears, X.method, X.code, X.here, X.tail, X.warmed, X.limits, X.bytes, X.same.mono h1 h2⟩
theorem og_iadd (X : Stand p l e R s m args below meth c T locs cells slots) (hx : p.tables.exec = Jvm.exec) {x y : Int32} (hd : decode c.code pc = .ok (.iadd, 1)) (hp : pc + 1 = pc') (k : OG p e below P (T.setTop (mkF m pc' L (.int (x + y) :: S)))) : OG p e below P (T.setTop (mkF m pc L (.int y :: .int x :: S))) := by
 subst hp; exact OG.of (fun t k => XS.iadd X.here hx rfl hd rfl k) k
theorem og_isub (X : Stand p l e R s m args below meth c T locs cells slots) (hx : p.tables.exec = Jvm.exec) {x y : Int32} (hd : decode c.code pc = .ok (.isub, 1)) (hp : pc + 1 = pc') (k : OG p e below P (T.setTop (mkF m pc' L (.int (x - y) :: S)))) : OG p e below P (T.setTop (mkF m pc L (.int y :: .int x :: S))) := by
 subst hp; exact OG.of (fun t k => XS.isub X.here hx rfl hd rfl k) k
theorem og_iand (X : Stand p l e R s m args below meth c T locs cells slots) (hx : p.tables.exec = Jvm.exec) {x y : Int32} (hd : decode c.code pc = .ok (.iand, 1)) (hp : pc + 1 = pc') (k : OG p e below P (T.setTop (mkF m pc' L (.int (x &&& y) :: S)))) : OG p e below P (T.setTop (mkF m pc L (.int y :: .int x :: S))) := by
 subst hp; exact OG.of (fun t k => XS.iand X.here hx rfl hd rfl k) k
theorem og_irem (X : Stand p l e R s m args below meth c T locs cells slots) (hx : p.tables.exec = Jvm.exec) {x y : Int32} (hy : y ≠ 0) (hd : decode c.code pc = .ok (.irem, 1)) (hp : pc + 1 = pc') (k : OG p e below P (T.setTop (mkF m pc' L (.int (x % y) :: S)))) : OG p e below P (T.setTop (mkF m pc L (.int y :: .int x :: S))) := by
 subst hp; exact OG.of (fun t k => iremM X hx rfl hd rfl hy k) k
theorem og_ishl (X : Stand p l e R s m args below meth c T locs cells slots) (hx : p.tables.exec = Jvm.exec) {x y : Int32} (hd : decode c.code pc = .ok (.ishl, 1)) (hp : pc + 1 = pc') (k : OG p e below P (T.setTop (mkF m pc' L (.int (x <<< (y &&& 31)) :: S)))) : OG p e below P (T.setTop (mkF m pc L (.int y :: .int x :: S))) := by
 subst hp; exact OG.of (fun t k => XS.ishl X.here hx rfl hd rfl k) k
theorem og_ishr (X : Stand p l e R s m args below meth c T locs cells slots) (hx : p.tables.exec = Jvm.exec) {x y : Int32} (hd : decode c.code pc = .ok (.ishr, 1)) (hp : pc + 1 = pc') (k : OG p e below P (T.setTop (mkF m pc' L (.int (x >>> (y &&& 31)) :: S)))) : OG p e below P (T.setTop (mkF m pc L (.int y :: .int x :: S))) := by
 subst hp; exact OG.of (fun t k => XS.ishr X.here hx rfl hd rfl k) k
theorem og_iushr (X : Stand p l e R s m args below meth c T locs cells slots) (hx : p.tables.exec = Jvm.exec) {x y : Int32} (hd : decode c.code pc = .ok (.iushr, 1)) (hp : pc + 1 = pc') (k : OG p e below P (T.setTop (mkF m pc' L (.int ((x.toUInt32 >>> (y &&& 31).toUInt32).toInt32) :: S)))) : OG p e below P (T.setTop (mkF m pc L (.int y :: .int x :: S))) := by
 subst hp; exact OG.of (fun t k => XS.iushr X.here hx rfl hd rfl k) k
theorem og_i2b (X : Stand p l e R s m args below meth c T locs cells slots) (hx : p.tables.exec = Jvm.exec) {x : Int32} (hd : decode c.code pc = .ok (.i2b, 1)) (hp : pc + 1 = pc') (k : OG p e below P (T.setTop (mkF m pc' L (.int (x.toInt8.toInt32) :: S)))) : OG p e below P (T.setTop (mkF m pc L (.int x :: S))) := by
 subst hp; exact OG.of (fun t k => XS.i2b X.here hx rfl hd rfl k) k
theorem og_i2c (X : Stand p l e R s m args below meth c T locs cells slots) (hx : p.tables.exec = Jvm.exec) {x : Int32} (hd : decode c.code pc = .ok (.i2c, 1)) (hp : pc + 1 = pc') (k : OG p e below P (T.setTop (mkF m pc' L (.int (x.toUInt32.toUInt16.toUInt32.toInt32) :: S)))) : OG p e below P (T.setTop (mkF m pc L (.int x :: S))) := by
 subst hp; exact OG.of (fun t k => XS.i2c X.here hx rfl hd rfl k) k
theorem og_iconst (X : Stand p l e R s m args below meth c T locs cells slots) (hx : p.tables.exec = Jvm.exec) {i : Int} {v : Int32} (hv : Int32.ofInt i = v) (hd : decode c.code pc = .ok (.iconst i, 1)) (hp : pc + 1 = pc') (k : OG p e below P (T.setTop (mkF m pc' L (.int v :: S)))) : OG p e below P (T.setTop (mkF m pc L S)) := by
 subst hp; exact OG.of (fun t k => XS.iconst X.here hx rfl hd (hv ▸ k)) k
theorem og_bipush (X : Stand p l e R s m args below meth c T locs cells slots) (hx : p.tables.exec = Jvm.exec) {i : Int} {v : Int32} (hv : (Int8.ofInt i).toInt32 = v) (hd : decode c.code pc = .ok (.bipush i, 2)) (hp : pc + 2 = pc') (k : OG p e below P (T.setTop (mkF m pc' L (.int v :: S)))) : OG p e below P (T.setTop (mkF m pc L S)) := by
 subst hp; exact OG.of (fun t k => XS.bipush X.here hx rfl hd (hv ▸ k)) k
theorem og_sipush (X : Stand p l e R s m args below meth c T locs cells slots) (hx : p.tables.exec = Jvm.exec) {i : Int} {v : Int32} (hv : (Int16.ofInt i).toInt32 = v) (hd : decode c.code pc = .ok (.sipush i, 3)) (hp : pc + 3 = pc') (k : OG p e below P (T.setTop (mkF m pc' L (.int v :: S)))) : OG p e below P (T.setTop (mkF m pc L S)) := by
 subst hp; exact OG.of (fun t k => XS.sipush X.here hx rfl hd (hv ▸ k)) k
theorem og_aconst_null (X : Stand p l e R s m args below meth c T locs cells slots) (hx : p.tables.exec = Jvm.exec)  (hd : decode c.code pc = .ok (.aconst_null, 1)) (hp : pc + 1 = pc') (k : OG p e below P (T.setTop (mkF m pc' L (.null :: S)))) : OG p e below P (T.setTop (mkF m pc L S)) := by
 subst hp; exact OG.of (fun t k => XS.aconstNull X.here hx rfl hd k) k
theorem og_iload (X : Stand p l e R s m args below meth c T locs cells slots) (hx : p.tables.exec = Jvm.exec) {j : Nat} {v : Int32} (hl : L[j]? = some (.val (.int v))) (hd : decode c.code pc = .ok (.iload j, 2)) (hp : pc + 2 = pc') (k : OG p e below P (T.setTop (mkF m pc' L (.int v :: S)))) : OG p e below P (T.setTop (mkF m pc L S)) := by
 subst hp; exact OG.of (fun t k => XS.iload X.here hx rfl hd hl k) k
theorem og_iloadN (X : Stand p l e R s m args below meth c T locs cells slots) (hx : p.tables.exec = Jvm.exec) {j : Fin 4} {v : Int32} (hl : L[j.val]? = some (.val (.int v))) (hd : decode c.code pc = .ok (.iload_n j, 1)) (hp : pc + 1 = pc') (k : OG p e below P (T.setTop (mkF m pc' L (.int v :: S)))) : OG p e below P (T.setTop (mkF m pc L S)) := by
 subst hp; exact OG.of (fun t k => XS.iloadN X.here hx rfl hd hl k) k
theorem og_istore (X : Stand p l e R s m args below meth c T locs cells slots) (hx : p.tables.exec = Jvm.exec) {j : Nat} {v : Int32} (hl : storeLocals L j (.int v) = some L') (hd : decode c.code pc = .ok (.istore j, 2)) (hp : pc + 2 = pc') (k : OG p e below P (T.setTop (mkF m pc' L' S))) : OG p e below P (T.setTop (mkF m pc L (.int v :: S))) := by
 subst hp; exact OG.of (fun t k => XS.istore X.here hx rfl hd rfl hl k) k
theorem og_istoreN (X : Stand p l e R s m args below meth c T locs cells slots) (hx : p.tables.exec = Jvm.exec) {j : Fin 4} {v : Int32} (hl : storeLocals L j.val (.int v) = some L') (hd : decode c.code pc = .ok (.istore_n j, 1)) (hp : pc + 1 = pc') (k : OG p e below P (T.setTop (mkF m pc' L' S))) : OG p e below P (T.setTop (mkF m pc L (.int v :: S))) := by
 subst hp; exact OG.of (fun t k => XS.istoreN X.here hx rfl hd rfl hl k) k
theorem og_aload (X : Stand p l e R s m args below meth c T locs cells slots) (hx : p.tables.exec = Jvm.exec) {j : Nat} {v : Value} (hl : L[j]? = some (.val v)) (hv : v.isRef = true) (hd : decode c.code pc = .ok (.aload j, 2)) (hp : pc + 2 = pc') (k : OG p e below P (T.setTop (mkF m pc' L (v :: S)))) : OG p e below P (T.setTop (mkF m pc L S)) := by
 subst hp; exact OG.of (fun t k => XS.aload X.here hx rfl hd hl hv k) k
theorem og_aloadN (X : Stand p l e R s m args below meth c T locs cells slots) (hx : p.tables.exec = Jvm.exec) {j : Fin 4} {v : Value} (hl : L[j.val]? = some (.val v)) (hv : v.isRef = true) (hd : decode c.code pc = .ok (.aload_n j, 1)) (hp : pc + 1 = pc') (k : OG p e below P (T.setTop (mkF m pc' L (v :: S)))) : OG p e below P (T.setTop (mkF m pc L S)) := by
 subst hp; exact OG.of (fun t k => XS.aloadN X.here hx rfl hd hl hv k) k
theorem og_astore (X : Stand p l e R s m args below meth c T locs cells slots) (hx : p.tables.exec = Jvm.exec) {j : Nat} {v : Value} (hv : v.isRef = true) (hl : storeLocals L j v = some L') (hd : decode c.code pc = .ok (.astore j, 2)) (hp : pc + 2 = pc') (k : OG p e below P (T.setTop (mkF m pc' L' S))) : OG p e below P (T.setTop (mkF m pc L (v :: S))) := by
 subst hp; exact OG.of (fun t k => XS.astore X.here hx rfl hd rfl hv hl k) k
theorem og_astoreN (X : Stand p l e R s m args below meth c T locs cells slots) (hx : p.tables.exec = Jvm.exec) {j : Fin 4} {v : Value} (hv : v.isRef = true) (hl : storeLocals L j.val v = some L') (hd : decode c.code pc = .ok (.astore_n j, 1)) (hp : pc + 1 = pc') (k : OG p e below P (T.setTop (mkF m pc' L' S))) : OG p e below P (T.setTop (mkF m pc L (v :: S))) := by
 subst hp; exact OG.of (fun t k => XS.astoreN X.here hx rfl hd rfl hv hl k) k
theorem og_iinc (X : Stand p l e R s m args below meth c T locs cells slots) (hx : p.tables.exec = Jvm.exec) {j : Nat} {i : Int} {v w : Int32} (h1 : L[j]? = some (.val (.int v))) (hv : Int32.ofInt i = w) (hl : storeLocals L j (.int (v + w)) = some L') (hd : decode c.code pc = .ok (.iinc j i, 3)) (hp : pc + 3 = pc') (k : OG p e below P (T.setTop (mkF m pc' L' S))) : OG p e below P (T.setTop (mkF m pc L S)) := by
 subst hp; exact OG.of (fun t k => XS.iinc X.here hx rfl hd h1 (hv.symm ▸ hl) k) k
theorem og_dup (X : Stand p l e R s m args below meth c T locs cells slots) (hx : p.tables.exec = Jvm.exec) {v : Value} (hv : v.category = 1) (hd : decode c.code pc = .ok (.dup, 1)) (hp : pc + 1 = pc') (k : OG p e below P (T.setTop (mkF m pc' L (v :: v :: S)))) : OG p e below P (T.setTop (mkF m pc L (v :: S))) := by
 subst hp; exact OG.of (fun t k => XS.dup X.here hx rfl hd rfl hv k) k
theorem og_pop (X : Stand p l e R s m args below meth c T locs cells slots) (hx : p.tables.exec = Jvm.exec) {v : Value} (hv : v.category = 1) (hd : decode c.code pc = .ok (.pop, 1)) (hp : pc + 1 = pc') (k : OG p e below P (T.setTop (mkF m pc' L S))) : OG p e below P (T.setTop (mkF m pc L (v :: S))) := by
 subst hp; exact OG.of (fun t k => XS.pop X.here hx rfl hd rfl hv k) k
theorem og_goto (X : Stand p l e R s m args below meth c T locs cells slots) (hx : p.tables.exec = Jvm.exec) {o : Int} (hd : decode c.code pc = .ok (.goto o, 3)) (ho : 0 ≤ (pc : Int) + o) (hp : ((pc : Int) + o).toNat = pc') (k : OG p e below P (T.setTop (mkF m pc' L S))) : OG p e below P (T.setTop (mkF m pc L S)) :=
 OG.of (fun t k => XS.goto X.here hx rfl rfl hd ho hp k) k
theorem og_icmp_lt (X : Stand p l e R s m args below meth c T locs cells slots) (hx : p.tables.exec = Jvm.exec) {x y : Int32} {o : Int} (hd : decode c.code pc = .ok (.if_icmp .lt o, 3)) (ho : 0 ≤ (pc : Int) + o) (hp1 : ((pc : Int) + o).toNat = pc1) (hp2 : pc + 3 = pc2) (k1 : x < y → OG p e below P (T.setTop (mkF m pc1 L S))) (k2 : ¬ x < y → OG p e below P (T.setTop (mkF m pc2 L S))) : OG p e below P (T.setTop (mkF m pc L (.int y :: .int x :: S))) := by
  subst hp2; by_cases q : x < y
  · exact OG.of (fun t k => XS.icmpYes X.here hx rfl rfl hd rfl ((tlt q).1) ho hp1 k) (k1 q)
  · exact OG.of (fun t k => XS.icmpNo X.here hx rfl hd rfl ((flt q).1) k) (k2 q)
theorem og_if_lt (X : Stand p l e R s m args below meth c T locs cells slots) (hx : p.tables.exec = Jvm.exec) {x : Int32} {o : Int} (hd : decode c.code pc = .ok (.ifCond .lt o, 3)) (ho : 0 ≤ (pc : Int) + o) (hp1 : ((pc : Int) + o).toNat = pc1) (hp2 : pc + 3 = pc2) (k1 : x < (0 : Int32) → OG p e below P (T.setTop (mkF m pc1 L S))) (k2 : ¬ x < (0 : Int32) → OG p e below P (T.setTop (mkF m pc2 L S))) : OG p e below P (T.setTop (mkF m pc L (.int x :: S))) := by
  subst hp2; by_cases q : x < (0 : Int32)
  · exact OG.of (fun t k => XS.ifYes X.here hx rfl rfl hd rfl ((if0 _ _).trans (tlt q).1) ho hp1 k) (k1 q)
  · exact OG.of (fun t k => XS.ifNo X.here hx rfl hd rfl ((if0 _ _).trans (flt q).1) k) (k2 q)
theorem og_icmp_ge (X : Stand p l e R s m args below meth c T locs cells slots) (hx : p.tables.exec = Jvm.exec) {x y : Int32} {o : Int} (hd : decode c.code pc = .ok (.if_icmp .ge o, 3)) (ho : 0 ≤ (pc : Int) + o) (hp1 : ((pc : Int) + o).toNat = pc1) (hp2 : pc + 3 = pc2) (k1 : ¬ x < y → OG p e below P (T.setTop (mkF m pc1 L S))) (k2 : x < y → OG p e below P (T.setTop (mkF m pc2 L S))) : OG p e below P (T.setTop (mkF m pc L (.int y :: .int x :: S))) := by
  subst hp2; by_cases q : x < y
  · exact OG.of (fun t k => XS.icmpNo X.here hx rfl hd rfl ((tlt q).2.1) k) (k2 q)
  · exact OG.of (fun t k => XS.icmpYes X.here hx rfl rfl hd rfl ((flt q).2.1) ho hp1 k) (k1 q)
theorem og_if_ge (X : Stand p l e R s m args below meth c T locs cells slots) (hx : p.tables.exec = Jvm.exec) {x : Int32} {o : Int} (hd : decode c.code pc = .ok (.ifCond .ge o, 3)) (ho : 0 ≤ (pc : Int) + o) (hp1 : ((pc : Int) + o).toNat = pc1) (hp2 : pc + 3 = pc2) (k1 : ¬ x < (0 : Int32) → OG p e below P (T.setTop (mkF m pc1 L S))) (k2 : x < (0 : Int32) → OG p e below P (T.setTop (mkF m pc2 L S))) : OG p e below P (T.setTop (mkF m pc L (.int x :: S))) := by
  subst hp2; by_cases q : x < (0 : Int32)
  · exact OG.of (fun t k => XS.ifNo X.here hx rfl hd rfl ((if0 _ _).trans (tlt q).2.1) k) (k2 q)
  · exact OG.of (fun t k => XS.ifYes X.here hx rfl rfl hd rfl ((if0 _ _).trans (flt q).2.1) ho hp1 k) (k1 q)
theorem og_icmp_le (X : Stand p l e R s m args below meth c T locs cells slots) (hx : p.tables.exec = Jvm.exec) {x y : Int32} {o : Int} (hd : decode c.code pc = .ok (.if_icmp .le o, 3)) (ho : 0 ≤ (pc : Int) + o) (hp1 : ((pc : Int) + o).toNat = pc1) (hp2 : pc + 3 = pc2) (k1 : ¬ y < x → OG p e below P (T.setTop (mkF m pc1 L S))) (k2 : y < x → OG p e below P (T.setTop (mkF m pc2 L S))) : OG p e below P (T.setTop (mkF m pc L (.int y :: .int x :: S))) := by
  subst hp2; by_cases q : y < x
  · exact OG.of (fun t k => XS.icmpNo X.here hx rfl hd rfl ((tlt q).2.2.2) k) (k2 q)
  · exact OG.of (fun t k => XS.icmpYes X.here hx rfl rfl hd rfl ((flt q).2.2.2) ho hp1 k) (k1 q)
theorem og_icmp_eq (X : Stand p l e R s m args below meth c T locs cells slots) (hx : p.tables.exec = Jvm.exec) {x y : Int32} {o : Int} (hd : decode c.code pc = .ok (.if_icmp .eq o, 3)) (ho : 0 ≤ (pc : Int) + o) (hp1 : ((pc : Int) + o).toNat = pc1) (hp2 : pc + 3 = pc2) (k1 : x = y → OG p e below P (T.setTop (mkF m pc1 L S))) (k2 : ¬ x = y → OG p e below P (T.setTop (mkF m pc2 L S))) : OG p e below P (T.setTop (mkF m pc L (.int y :: .int x :: S))) := by
  subst hp2; by_cases q : x = y
  · exact OG.of (fun t k => XS.icmpYes X.here hx rfl rfl hd rfl ((teq q).1) ho hp1 k) (k1 q)
  · exact OG.of (fun t k => XS.icmpNo X.here hx rfl hd rfl ((feq q).1) k) (k2 q)
theorem og_if_eq (X : Stand p l e R s m args below meth c T locs cells slots) (hx : p.tables.exec = Jvm.exec) {x : Int32} {o : Int} (hd : decode c.code pc = .ok (.ifCond .eq o, 3)) (ho : 0 ≤ (pc : Int) + o) (hp1 : ((pc : Int) + o).toNat = pc1) (hp2 : pc + 3 = pc2) (k1 : x = (0 : Int32) → OG p e below P (T.setTop (mkF m pc1 L S))) (k2 : ¬ x = (0 : Int32) → OG p e below P (T.setTop (mkF m pc2 L S))) : OG p e below P (T.setTop (mkF m pc L (.int x :: S))) := by
  subst hp2; by_cases q : x = (0 : Int32)
  · exact OG.of (fun t k => XS.ifYes X.here hx rfl rfl hd rfl ((if0 _ _).trans (teq q).1) ho hp1 k) (k1 q)
  · exact OG.of (fun t k => XS.ifNo X.here hx rfl hd rfl ((if0 _ _).trans (feq q).1) k) (k2 q)
theorem og_icmp_ne (X : Stand p l e R s m args below meth c T locs cells slots) (hx : p.tables.exec = Jvm.exec) {x y : Int32} {o : Int} (hd : decode c.code pc = .ok (.if_icmp .ne o, 3)) (ho : 0 ≤ (pc : Int) + o) (hp1 : ((pc : Int) + o).toNat = pc1) (hp2 : pc + 3 = pc2) (k1 : ¬ x = y → OG p e below P (T.setTop (mkF m pc1 L S))) (k2 : x = y → OG p e below P (T.setTop (mkF m pc2 L S))) : OG p e below P (T.setTop (mkF m pc L (.int y :: .int x :: S))) := by
  subst hp2; by_cases q : x = y
  · exact OG.of (fun t k => XS.icmpNo X.here hx rfl hd rfl ((teq q).2) k) (k2 q)
  · exact OG.of (fun t k => XS.icmpYes X.here hx rfl rfl hd rfl ((feq q).2) ho hp1 k) (k1 q)
theorem og_if_ne (X : Stand p l e R s m args below meth c T locs cells slots) (hx : p.tables.exec = Jvm.exec) {x : Int32} {o : Int} (hd : decode c.code pc = .ok (.ifCond .ne o, 3)) (ho : 0 ≤ (pc : Int) + o) (hp1 : ((pc : Int) + o).toNat = pc1) (hp2 : pc + 3 = pc2) (k1 : ¬ x = (0 : Int32) → OG p e below P (T.setTop (mkF m pc1 L S))) (k2 : x = (0 : Int32) → OG p e below P (T.setTop (mkF m pc2 L S))) : OG p e below P (T.setTop (mkF m pc L (.int x :: S))) := by
  subst hp2; by_cases q : x = (0 : Int32)
  · exact OG.of (fun t k => XS.ifNo X.here hx rfl hd rfl ((if0 _ _).trans (teq q).2) k) (k2 q)
  · exact OG.of (fun t k => XS.ifYes X.here hx rfl rfl hd rfl ((if0 _ _).trans (feq q).2) ho hp1 k) (k1 q)
theorem og_acmp_ne (X : Stand p l e R s m args below meth c T locs cells slots) (hx : p.tables.exec = Jvm.exec) {v w : Value} (hv : v.isRef = true) (hw : w.isRef = true) {o : Int} (hd : decode c.code pc = .ok (.if_acmp .ne o, 3)) (ho : 0 ≤ (pc : Int) + o) (hp1 : ((pc : Int) + o).toNat = pc1) (hp2 : pc + 3 = pc2) (k1 : ¬ v = w → OG p e below P (T.setTop (mkF m pc1 L S))) (k2 : v = w → OG p e below P (T.setTop (mkF m pc2 L S))) : OG p e below P (T.setTop (mkF m pc L (w :: v :: S))) := by
  subst hp2 hp1; by_cases q : v = w
  · exact OG.of (fun t k => Jvm.RoadKit.acmp X hx rfl hv hw (same := true) rfl hd rfl (decide_eq_true q) ho rfl k) (k2 q)
  · exact OG.of (fun t k => Jvm.RoadKit.acmp X hx rfl hv hw (same := false) rfl hd rfl (decide_eq_false q) ho rfl k) (k1 q)
theorem og_getstatic (X : Stand p l e R s m args below meth c T locs cells slots) (hx : p.tables.exec = Jvm.exec) (hZ : Z.Warmed39 s.vm) {own R0 O n d host : String} {index : Nat} (hown : s.vm.findClass own = some m.cls) (w : (Cond.fieldLink own index R0 n d).before a0 Z = true ∨ (Cond.fieldLinkNest own index R0 n d host).before a0 Z = true) (via : Via Z R0 O n d) (eT : T.heap = h) {v : Value} (F : Sta Z h O n d v) (hd : decode c.code pc = .ok (.getstatic index, 3)) (hp : pc + 3 = pc') (k : ∀ T', Stand p l e R s m args below meth c T' locs cells slots → T'.heap = h → OG p e below P (T'.setTop (mkF m pc' L (v :: S)))) : OG p e below P (T.setTop (mkF m pc L S)) := by
 subst hp; obtain ⟨T', X', e', st⟩ := getS2 X hx hZ hown w via eT F (g := mkF m pc L S) rfl hd
 exact OG.of st (k T' X' e')
theorem og_getfield (X : Stand p l e R s m args below meth c T locs cells slots) (hx : p.tables.exec = Jvm.exec) (hZ : Z.Warmed39 s.vm) {own R0 O n d host : String} {index : Nat} (hown : s.vm.findClass own = some m.cls) (w : (Cond.fieldLink own index R0 n d).before a0 Z = true ∨ (Cond.fieldLinkNest own index R0 n d host).before a0 Z = true) (via : Via Z R0 O n d) (eT : T.heap = h) {a : Addr} {v : Value} (F : Fld Z h a O n d v) (hd : decode c.code pc = .ok (.getfield index, 3)) (hp : pc + 3 = pc') (k : ∀ T', Stand p l e R s m args below meth c T' locs cells slots → T'.heap = h → OG p e below P (T'.setTop (mkF m pc' L (v :: S)))) : OG p e below P (T.setTop (mkF m pc L (.ref a :: S))) := by
 subst hp; obtain ⟨T', X', e', st⟩ := getF X hx hZ hown w via eT F (g := mkF m pc L (.ref a :: S)) rfl rfl hd
 exact OG.of st (k T' X' e')
theorem og_putfield (X : Stand p l e R s m args below meth c T locs cells slots) (hx : p.tables.exec = Jvm.exec) (hZ : Z.Warmed39 s.vm) {C : String} {kk : Nat} {ty : FieldType} {own R0 O n d host : String} {index : Nat} (hown : s.vm.findClass own = some m.cls) (w : (Cond.fieldLink own index R0 n d).before a0 Z = true ∨ (Cond.fieldLinkNest own index R0 n d host).before a0 Z = true) (via : Via Z R0 O n d) (eT : T.heap = h) {a : Addr} {v old : Value} (F : Fld Z h a O n d old) (E : Exa Z h a C) (Ly : (Cond.lays C O n d).before a0 Z = true ∨ ((Cond.laysFinal C O n d).before a0 Z = true ∧ own = O ∧ meth.name = "<init>")) (wi : (Cond.instantiable C kk).before a0 Z = true) (hty : parseFieldDescriptor d = some ty) (hn : narrow ty v = v) (hf : fits ty v = true) (hd : decode c.code pc = .ok (.putfield index, 3)) (hp : pc + 3 = pc') (k : ∀ T' h', Stand p l e R s m args below meth c T' (locs ++ [⟨a, Jvm.RoadKit.slotOf Z O n d⟩]) cells slots → T'.heap = h' → Wr h h' a (Jvm.RoadKit.slotOf Z O n d) v → OG p e below P (T'.setTop (mkF m pc' L S))) : OG p e below P (T.setTop (mkF m pc L (v :: .ref a :: S))) := by
 subst hp; obtain ⟨T', h', X', e', W', st⟩ := putF X hx hZ hown w via eT F E Ly wi hty hn hf (g := mkF m pc L (v :: .ref a :: S)) rfl rfl hd
 exact OG.of st (k T' h' X' e' W')
theorem og_new (X : Stand p l e R s m args below meth c T locs cells slots) (hx : p.tables.exec = Jvm.exec) (hZ : Z.Warmed39 s.vm) {own C : String} {index n : Nat} {cells' slots' : Nat} (hown : s.vm.findClass own = some m.cls) (w : (Cond.classLink own index C).before a0 Z = true) (wi : (Cond.instantiable C n).before a0 Z = true) (wz : (Cond.initialized C).before a0 Z = true) (eT : T.heap = h) (hd : decode c.code pc = .ok (.new index, 3)) (hp : pc + 3 = pc') (hc' : cells + 1 = cells') (hs' : slots + n = slots') (hc : cells' ≤ R.cells) (hl : slots' ≤ R.slots) (k : ∀ T' h' a, Stand p l e R s m args below meth c T' locs cells' slots' → T'.heap = h' → Ext h h' → a = h.size → Exa Z h' a C → (∀ {O nm d : String} {ty : FieldType}, Laid Z a0 C O nm d → parseFieldDescriptor d = some ty → Fld Z h' a O nm d (defaultValue ty)) → (∃ cell : Cell, h'[a]? = some cell ∧ cell.vm = .none ∧ cell.monitor = {}) → OG p e below P (T'.setTop (mkF m pc' L (.ref a :: S)))) : OG p e below P (T.setTop (mkF m pc L S)) := by
 subst hp hc' hs'; obtain ⟨T', h', X', e', E', A', D', B', st⟩ := newO X hx hZ hown w wi wz eT (g := mkF m pc L S) rfl hd hc hl
 exact OG.of st (k T' h' _ X' e' E' rfl A' D' B')
theorem og_newarray (X : Stand p l e R s m args below meth c T locs cells slots) (hx : p.tables.exec = Jvm.exec) (hZ : Z.Warmed39 s.vm) {aty : ArrayType} {ty : FieldType} {cells' slots' : Nat} (hty : newarray.typeOf aty = ty) (w : (Cond.arrayClass ty).before a0 Z = true) (eT : T.heap = h) {n : Int32} (hn : ¬ n < 0) {cap : Nat} (hcap : n.toNatClampNeg ≤ cap) (hb : cap * 8 ≤ 536870912) (hd : decode c.code pc = .ok (.newarray aty, 2)) (hp : pc + 2 = pc') (hc' : cells + 1 = cells') (hs' : slots + cap = slots') (hc : cells' ≤ R.cells) (hl : slots' ≤ R.slots) (k : ∀ T' h' a kA, Stand p l e R s m args below meth c T' locs cells' slots' → T'.heap = h' → Ext h h' → a = h.size → Arv Z h' a kA ty n [] (defaultValue ty) → OG p e below P (T'.setTop (mkF m pc' L (.ref a :: S)))) : OG p e below P (T.setTop (mkF m pc L (.int n :: S))) := by
 subst hp hc' hs' hty; obtain ⟨T', h', kA, X', e', E', A', st⟩ := newP X hx hZ w eT (g := mkF m pc L (.int n :: S)) rfl hd rfl hn hcap hb hc hl
 exact OG.of st (k T' h' _ kA X' e' E' rfl (Arv.new A' hn))
theorem og_iastore (X : Stand p l e R s m args below meth c T locs cells slots) (hx : p.tables.exec = Jvm.exec) (hZ : Z.Warmed39 s.vm) (eT : T.heap = h) {a : Addr} {kA : ClassId} {j x z : Int32} {vs : List Value} {dv : Value} (F : Arv Z h a kA .int z vs dv) (q : ¬ j < 0 ∧ j < z) (i : Nat) (hj : j.toNatClampNeg = i) (hi : i < vs.length) (hd : decode c.code pc = .ok (.iastore, 1)) (hp : pc + 1 = pc') (k : ∀ T' h', Stand p l e R s m args below meth c T' (locs ++ [⟨a, j.toNatClampNeg⟩]) cells slots → T'.heap = h' → Wr h h' a j.toNatClampNeg (.int x) → Arv Z h' a kA .int z (vs.set i (.int x)) dv → OG p e below P (T'.setTop (mkF m pc' L S))) : OG p e below P (T.setTop (mkF m pc L (.int x :: .int j :: .ref a :: S))) := by
 subst hp; obtain ⟨cl, A, q1, S1, q3, H, G⟩ := F
 obtain ⟨T', h', X', e', W', st⟩ := stI X hx hZ eT A (j := j) (inb_of S1 q) (g := mkF m pc L (.int x :: .int j :: .ref a :: S)) rfl rfl hd
 exact OG.of st (k T' h' X' e' W' (Arv.set A q1 S1 q3 H G rfl W' i hj hi))
theorem og_castore (X : Stand p l e R s m args below meth c T locs cells slots) (hx : p.tables.exec = Jvm.exec) (hZ : Z.Warmed39 s.vm) (eT : T.heap = h) {a : Addr} {kA : ClassId} {j x z : Int32} {vs : List Value} {dv : Value} (F : Arv Z h a kA .char z vs dv) (q : ¬ j < 0 ∧ j < z) (i : Nat) (hj : j.toNatClampNeg = i) (hi : i < vs.length) (hd : decode c.code pc = .ok (.castore, 1)) (hp : pc + 1 = pc') (k : ∀ T' h', Stand p l e R s m args below meth c T' (locs ++ [⟨a, j.toNatClampNeg⟩]) cells slots → T'.heap = h' → Wr h h' a j.toNatClampNeg (.int (nar .char x)) → Arv Z h' a kA .char z (vs.set i (.int (nar .char x))) dv → OG p e below P (T'.setTop (mkF m pc' L S))) : OG p e below P (T.setTop (mkF m pc L (.int x :: .int j :: .ref a :: S))) := by
 subst hp; obtain ⟨cl, A, q1, S1, q3, H, G⟩ := F
 obtain ⟨T', h', X', e', W', st⟩ := stC X hx hZ eT A (j := j) (inb_of S1 q) (g := mkF m pc L (.int x :: .int j :: .ref a :: S)) rfl rfl hd
 exact OG.of st (k T' h' X' e' W' (Arv.set A q1 S1 q3 H G (fits_nar_char _) W' i hj hi))
theorem og_bastore (X : Stand p l e R s m args below meth c T locs cells slots) (hx : p.tables.exec = Jvm.exec) (hZ : Z.Warmed39 s.vm) (eT : T.heap = h) {a : Addr} {kA : ClassId} {j x z : Int32} {vs : List Value} {dv : Value} (F : Arv Z h a kA .byte z vs dv) (q : ¬ j < 0 ∧ j < z) (i : Nat) (hj : j.toNatClampNeg = i) (hi : i < vs.length) (hd : decode c.code pc = .ok (.bastore, 1)) (hp : pc + 1 = pc') (k : ∀ T' h', Stand p l e R s m args below meth c T' (locs ++ [⟨a, j.toNatClampNeg⟩]) cells slots → T'.heap = h' → Wr h h' a j.toNatClampNeg (.int (nar .byte x)) → Arv Z h' a kA .byte z (vs.set i (.int (nar .byte x))) dv → OG p e below P (T'.setTop (mkF m pc' L S))) : OG p e below P (T.setTop (mkF m pc L (.int x :: .int j :: .ref a :: S))) := by
 subst hp; obtain ⟨cl, A, q1, S1, q3, H, G⟩ := F
 obtain ⟨T', h', X', e', W', st⟩ := stB X hx hZ eT A (j := j) (inb_of S1 q) (g := mkF m pc L (.int x :: .int j :: .ref a :: S)) rfl rfl hd
 exact OG.of st (k T' h' X' e' W' (Arv.set A q1 S1 q3 H G (fits_nar_byte _) W' i hj hi))
theorem og_iaload (X : Stand p l e R s m args below meth c T locs cells slots) (hx : p.tables.exec = Jvm.exec) (hZ : Z.Warmed39 s.vm) (eT : T.heap = h) {a : Addr} {kA : ClassId} {j z : Int32} {vs : List Value} {dv v : Value} (F : Arv Z h a kA .int z vs dv) (q : ¬ j < 0 ∧ j < z) (hv : vs.getD j.toNatClampNeg dv = v) (hd : decode c.code pc = .ok (.iaload, 1)) (hp : pc + 1 = pc') (k : OG p e below P (T.setTop (mkF m pc' L (v :: S)))) : OG p e below P (T.setTop (mkF m pc L (.int j :: .ref a :: S))) := by
 subst hp; obtain ⟨cl, A, q1, S1, q3, H, G⟩ := F
 exact OG.of (fun t k => X.iaload hx (j := j) (v := v) (by rw [eT]; exact A.1) (State.isArrayOf_alike hZ.alike A.2.1) A.2.2 (inb_of S1 q) (H.at (inb_of S1 q) hv) (g := mkF m pc L (.int j :: .ref a :: S)) rfl rfl hd t k) k
theorem og_caload (X : Stand p l e R s m args below meth c T locs cells slots) (hx : p.tables.exec = Jvm.exec) (hZ : Z.Warmed39 s.vm) (eT : T.heap = h) {a : Addr} {kA : ClassId} {j z : Int32} {vs : List Value} {dv v : Value} (F : Arv Z h a kA .char z vs dv) (q : ¬ j < 0 ∧ j < z) (hv : vs.getD j.toNatClampNeg dv = v) (hd : decode c.code pc = .ok (.caload, 1)) (hp : pc + 1 = pc') (k : OG p e below P (T.setTop (mkF m pc' L (v :: S)))) : OG p e below P (T.setTop (mkF m pc L (.int j :: .ref a :: S))) := by
 subst hp; obtain ⟨cl, A, q1, S1, q3, H, G⟩ := F
 exact OG.of (fun t k => X.caload hx (j := j) (v := v) (by rw [eT]; exact A.1) (State.isArrayOf_alike hZ.alike A.2.1) A.2.2 (inb_of S1 q) (H.at (inb_of S1 q) hv) (g := mkF m pc L (.int j :: .ref a :: S)) rfl rfl hd t k) k
theorem og_baload (X : Stand p l e R s m args below meth c T locs cells slots) (hx : p.tables.exec = Jvm.exec) (hZ : Z.Warmed39 s.vm) (eT : T.heap = h) {a : Addr} {kA : ClassId} {j z : Int32} {vs : List Value} {dv v : Value} (F : Arv Z h a kA .byte z vs dv) (q : ¬ j < 0 ∧ j < z) (hv : vs.getD j.toNatClampNeg dv = v) (hd : decode c.code pc = .ok (.baload, 1)) (hp : pc + 1 = pc') (k : OG p e below P (T.setTop (mkF m pc' L (v :: S)))) : OG p e below P (T.setTop (mkF m pc L (.int j :: .ref a :: S))) := by
 subst hp; obtain ⟨cl, A, q1, S1, q3, H, G⟩ := F
 exact OG.of (fun t k => X.baloadBytes hx (j := j) (v := v) (by rw [eT]; exact A.1) (State.isArrayOf_alike hZ.alike A.2.1) A.2.2 (inb_of S1 q) (H.at (inb_of S1 q) hv) (g := mkF m pc L (.int j :: .ref a :: S)) rfl rfl hd t k) k
theorem og_aaload (X : Stand p l e R s m args below meth c T locs cells slots) (hx : p.tables.exec = Jvm.exec) (hZ : Z.Warmed39 s.vm) (eT : T.heap = h) {a : Addr} {kA : ClassId} {j z : Int32} {vs : List Value} {dv v : Value} {ty : FieldType} (hty : ty.isReference = true) (F : Arv Z h a kA ty z vs dv) (q : ¬ j < 0 ∧ j < z) (hv : vs.getD j.toNatClampNeg dv = v) (hd : decode c.code pc = .ok (.aaload, 1)) (hp : pc + 1 = pc') (k : OG p e below P (T.setTop (mkF m pc' L (v :: S)))) : OG p e below P (T.setTop (mkF m pc L (.int j :: .ref a :: S))) := by
 subst hp; obtain ⟨cl, A, q1, S1, q3, H, G⟩ := F
 exact OG.of (fun t k => X.aaload hx (j := j) (v := v) (by rw [eT]; exact A.1) (State.isArrayOf_alike hZ.alike A.2.1) hty A.2.2 (inb_of S1 q) (H.at (inb_of S1 q) hv) (g := mkF m pc L (.int j :: .ref a :: S)) rfl rfl hd t k) k
theorem og_arraylength (X : Stand p l e R s m args below meth c T locs cells slots) (hx : p.tables.exec = Jvm.exec) (hZ : Z.Warmed39 s.vm) (eT : T.heap = h) {a : Addr} {kA : ClassId} {z : Int32} {vs : List Value} {dv : Value} {ty : FieldType} (F : Arv Z h a kA ty z vs dv) (hd : decode c.code pc = .ok (.arraylength, 1)) (hp : pc + 1 = pc') (k : OG p e below P (T.setTop (mkF m pc' L (.int z :: S)))) : OG p e below P (T.setTop (mkF m pc L (.ref a :: S))) := by
 subst hp; obtain ⟨cl, A, q1, S1, q3, H, G⟩ := F
 refine OG.of (fun t k => X.arraylength hx (by rw [eT]; exact A.1) (State.isArrayOf_alike hZ.alike A.2.1) (g := mkF m pc L (.ref a :: S)) rfl rfl hd t k) ?_
 rw [len_of S1 q3]; exact k
theorem og_initO (X : Stand p l e R s m args below meth c T locs cells slots) (hx : p.tables.exec = Jvm.exec) (hZ : Z.Warmed39 s.vm) {own : String} {idx : Nat} (hml : L.size = c.maxLocals) (hown : s.vm.findClass own = some m.cls) (w1 : (Cond.methodLink own idx Lib.objectInit).before a0 Z = true) (w2 : (Cond.instanceMethod Lib.objectInit).before a0 Z = true) (w3 : (Cond.code Lib.objectInit ⟨#[0xb1]⟩ 1 none).before a0 Z = true) (eT : T.heap = h) {a : Addr} {W : Nat} (hW : (S.map fun v => v.category).sum = W) (hf : 1 ≤ R.frames) (hl : W + 12 ≤ R.locals) (hd : decode c.code pc = .ok (.invokespecial idx, 3)) (hp : pc + 3 = pc') (k : ∀ T', Stand p l e R s m args below meth c T' locs cells slots → T'.heap = h → OG p e below P (T'.setTop (mkF m pc' L S))) : OG p e below P (T.setTop (mkF m pc L (.ref a :: S))) := by
 subst hp; obtain ⟨T', X', e', st⟩ := initO X hx hZ hown w1 w2 w3 eT (g := mkF m pc L (.ref a :: S)) rfl hml rfl hd hf (W := W) (by show 2 * 0 + _ ≤ _; rw [hW]; omega) hl
 exact OG.of st (k T' X' e')
theorem og_grid5 (X : Stand p l e R s m args below meth c T locs cells slots) (hx : p.tables.exec = Jvm.exec) (hZ : Z.Warmed39 s.vm) {own C ad : String} {ty : FieldType} {index : Nat} {cells' slots' : Nat} (hown : s.vm.findClass own = some m.cls) (hC : (FieldType.array ty).toString = C) (had : "[" ++ C = ad) (w1 : (Cond.classLink own index ad).before a0 Z = true) (w2 : (Cond.arrayOver (.array ty)).before a0 Z = true) (w3 : (Cond.arrayClass ty).before a0 Z = true) (eT : T.heap = h) {k : Int32} (hk : ¬ k < 0) {cap : Nat} (hcap : k.toNatClampNeg ≤ cap) (hb : cap * 8 ≤ 536870912) (hdf : fits ty (defaultValue ty) = true) (hdd : (defaultValue ty).isDefault = true) (hd : decode c.code pc = .ok (.multianewarray index 2, 4)) (hp : pc + 4 = pc') (hc' : cells + 6 = cells') (hs' : slots + (5 + 5 * cap) = slots') (hc : cells' ≤ R.cells) (hl : slots' ≤ R.slots) (kk : ∀ T' h' a x0 x1 x2 x3 x4 cA comp, Stand p l e R s m args below meth c T' locs cells' slots' → T'.heap = h' → Ext h h' → a = h.size → x0 = h.size + 1 → x1 = h.size + 2 → x2 = h.size + 3 → x3 = h.size + 4 → x4 = h.size + 5 → Arv Z h' a cA (.array ty) 5 [.ref x0, .ref x1, .ref x2, .ref x3, .ref x4] .null → Arv Z h' x0 comp ty k [] (defaultValue ty) → Arv Z h' x1 comp ty k [] (defaultValue ty) → Arv Z h' x2 comp ty k [] (defaultValue ty) → Arv Z h' x3 comp ty k [] (defaultValue ty) → Arv Z h' x4 comp ty k [] (defaultValue ty) → OG p e below P (T'.setTop (mkF m pc' L (.ref a :: S)))) : OG p e below P (T.setTop (mkF m pc L (.int k :: .int 5 :: S))) := by
 subst hp hc' hs'
 obtain ⟨T', h', cA, comp, X', e', E', V, -, -, rows, st⟩ := gridM X hx hZ hown hC had w1 w2 w3 eT (g := mkF m pc L (.int k :: .int 5 :: S)) rfl hd rfl (by decide) hk (N := 5) rfl (xs := [h.size + 1, h.size + 2, h.size + 3, h.size + 4, h.size + 5]) rfl hcap hb (by decide) hdf hdd hc hl
 exact OG.of st (kk T' h' _ _ _ _ _ _ cA comp X' e' E' rfl rfl rfl rfl rfl rfl V (Arv.new (rows 0 _ rfl).1 hk) (Arv.new (rows 1 _ rfl).1 hk) (Arv.new (rows 2 _ rfl).1 hk) (Arv.new (rows 3 _ rfl).1 hk) (Arv.new (rows 4 _ rfl).1 hk))
def Con (l : Launch) (Z : State) (y : MethodName) (bytes : ByteArray) (maxL : Nat) (ret : Option FieldType) (rm : Room) (as' : Array Value) (h : Heap) (Q : Option Value → Heap → List Loc → Prop) : Prop :=
 MetFree l y (head1 [Cond.code y bytes maxL ret] rm) (fun a U => a = as' ∧ Z.Warmed39 U.vm ∧ U.heap = h) (fun _ _ _ _ _ => True) (fun _ U o U' => ∃ v L, o = .returned v ∧ Q v U'.heap L ∧ FrameEnd U o U' L rm.cells rm.slots)
abbrev OFin (s : State) (Q : Option Value → Heap → List Loc → Prop) (k n : Nat) (o : Outcome) (t : State) : Prop := ∃ v L, o = .returned v ∧ Q v t.heap L ∧ FrameEnd s o t L k n
theorem own_start {y : MethodName} {bytes : ByteArray} {maxL : Nat} {ret : Option FieldType} {rm : Room} {as' : Array Value} {ws : List Cond} {Q : Option Value → Heap → List Loc → Prop} {kc ks : Nat} (hpn : plainFor y = true)
  (body : ∀ (p : Program) (e : Env) (s : State) (m : MethodId) (below : List Frame) (meth : Method) (c : Code) (T : State), Stand p l e rm s m as' below meth c T [] 0 0 → p.tables.exec = Jvm.exec → c.code = bytes → c.maxLocals = maxL → Z.Warmed39 s.vm → s.vm.findClass y.cls = some m.cls → meth.name = y.name → meth.sig.returnType = ret → meth.locks = false → T.heap = h → OG p e below (OFin s Q kc ks) (T.setTop (entryFrame m as' maxL))) :
  MetFree l y (head1 (Cond.code y bytes maxL ret :: ws) rm) (fun a U => a = as' ∧ Z.Warmed39 U.vm ∧ U.heap = h) (fun _ _ _ _ _ => True) (fun _ U o U' => ∃ v L, o = .returned v ∧ Q v U'.heap L ∧ FrameEnd U o U' L kc ks) := by
 refine MetFree.of_bodySF hpn hisR ?_
 intro p e s m args below meth c s₁ Bd hml0 hP hK
 obtain ⟨rfl, hZ, hh⟩ := hP
 exact body p e s m below meth c s₁ (Stand.of_body Bd) Bd.exec Bd.bytes hml0 hZ (findClass_of_methodNamed Bd.named) (name_of_methodNamed Bd.named Bd.method).1 Bd.returns Bd.notSynchronized (by rw [← hh, Bd.state]; rfl)
theorem own_startC {y : MethodName} {bytes : ByteArray} {maxL : Nat} {ret : Option FieldType} {rm : Room} {as' : Array Value} {Q : Option Value → Heap → List Loc → Prop} (hpn : plainFor y = true)
  (body : ∀ (p : Program) (e : Env) (s : State) (m : MethodId) (below : List Frame) (meth : Method) (c : Code) (T : State), Stand p l e rm s m as' below meth c T [] 0 0 → p.tables.exec = Jvm.exec → c.code = bytes → c.maxLocals = maxL → Z.Warmed39 s.vm → s.vm.findClass y.cls = some m.cls → meth.name = y.name → meth.sig.returnType = ret → meth.locks = false → T.heap = h → OG p e below (OFin s Q rm.cells rm.slots) (T.setTop (entryFrame m as' maxL))) : Con l Z y bytes maxL ret rm as' h Q := own_start (Q := Q) hpn body
theorem og_ret (X : Stand p l e R s m args below meth c T locs cells slots) (hlk : meth.locks = false) {Q : Option Value → Heap → List Loc → Prop} {kc ks : Nat} {g : JFrame} (v : Option Value) (hv : meth.sig.returnType = none → v = none)
  (st : ∀ fs, (∀ (f : JFrame) (acts : List Action), f.method = m → f.locked = none → f.entered = [] → (doReturn e (T.setTop f) acts v).1 = T.setFrames fs) → Steps p.tables e below (T.setTop g) (T.setFrames fs)) (hc : cells ≤ kc) (hs : slots ≤ ks) (hQ : Q v T.heap locs) : OG p e below (OFin s Q kc ks) (T.setTop g) := by
 obtain ⟨fs, hr, hrun, hended, hW, hsame⟩ := X.leave hv hlk
 exact ⟨_, _, st fs hr, hrun, hended, v, locs, rfl, hQ, ⟨_, rfl⟩, hW, hsame.mono hc hs⟩
theorem og_retI (X : Stand p l e R s m args below meth c T locs cells slots) (hx : p.tables.exec = Jvm.exec) (hlk : meth.locks = false) (hret : meth.sig.returnType = some .int) {Q : Option Value → Heap → List Loc → Prop} {kc ks : Nat} {z : Int32} (hd : decode c.code pc = .ok (.ireturn, 1)) (hc : cells ≤ kc) (hs : slots ≤ ks) (hQ : Q (some (.int z)) T.heap locs) : OG p e below (OFin s Q kc ks) (T.setTop (mkF m pc L (.int z :: S))) :=
 og_ret X hlk (some (.int z)) (fun q => by rw [hret] at q; cases q) (fun fs hr => retI X hx hret hd hr) hc hs hQ
theorem og_retN (X : Stand p l e R s m args below meth c T locs cells slots) (hx : p.tables.exec = Jvm.exec) (hlk : meth.locks = false) {t : FieldType} (hret : meth.sig.returnType = some t) (ht : t = .boolean ∨ t = .byte ∨ t = .char ∨ t = .short) {Q : Option Value → Heap → List Loc → Prop} {kc ks : Nat} {z : Int32} (hd : decode c.code pc = .ok (.ireturn, 1)) (hc : cells ≤ kc) (hs : slots ≤ ks) (hQ : Q (some (.int (nar t z))) T.heap locs) : OG p e below (OFin s Q kc ks) (T.setTop (mkF m pc L (.int z :: S))) :=
 og_ret X hlk (some (.int (nar t z))) (fun q => by rw [hret] at q; cases q) (fun fs hr => retN X hx hret ht hd hr) hc hs hQ
theorem og_retR (X : Stand p l e R s m args below meth c T locs cells slots) (hx : p.tables.exec = Jvm.exec) (hlk : meth.locks = false) {t : FieldType} (hret : meth.sig.returnType = some t) (ht : t.isReference = true) {Q : Option Value → Heap → List Loc → Prop} {kc ks : Nat} {v : Value} (hv : v.isRef = true) (hn : narrow t v = v) (hd : decode c.code pc = .ok (.areturn, 1)) (hc : cells ≤ kc) (hs : slots ≤ ks) (hQ : Q (some v) T.heap locs) : OG p e below (OFin s Q kc ks) (T.setTop (mkF m pc L (v :: S))) :=
 og_ret X hlk (some v) (fun q => by rw [hret] at q; cases q) (fun fs hr => retOut X hx hret hn (Or.inr (Or.inr (Or.inr (Or.inr ⟨rfl, ht, hv⟩)))) hd hr) hc hs hQ
theorem og_retV (X : Stand p l e R s m args below meth c T locs cells slots) (hx : p.tables.exec = Jvm.exec) (hlk : meth.locks = false) (hret : meth.sig.returnType = none) {Q : Option Value → Heap → List Loc → Prop} {kc ks : Nat} (hd : decode c.code pc = .ok (.return_, 1)) (hc : cells ≤ kc) (hs : slots ≤ ks) (hQ : Q none T.heap locs) : OG p e below (OFin s Q kc ks) (T.setTop (mkF m pc L [])) :=
 og_ret X hlk none (fun _ => rfl) (fun fs hr => X.returnOut hx hret hd hr) hc hs hQ
theorem og_static (X : Stand p l e R s m args below meth c T locs cells slots) (hx : p.tables.exec = Jvm.exec) (hZ : Z.Warmed39 s.vm) {own : String} {index : Nat} {y : MethodName} {bytes : ByteArray} {maxL : Nat} {ret : Option FieldType} {rm : Room} {as' : Array Value} {Q : Option Value → Heap → List Loc → Prop} {W cells' slots' : Nat} (hM : Con l Z y bytes maxL ret rm as' h Q) (hown : s.vm.findClass own = some m.cls) (w1 : (Cond.methodLink own index y).before a0 Z = true) (w2 : (Cond.static y).before a0 Z = true) (wz : (Cond.initialized y.cls).before a0 Z = true) (wc : (Cond.code y bytes maxL ret).before a0 Z = true) (hy : y.cls ≠ "java/lang/invoke/MethodHandle" ∧ y.cls ≠ "java/lang/invoke/VarHandle") (hml : L.size = c.maxLocals) (eT : T.heap = h) {ps : List FieldType} {rt : Option FieldType} (hpd : parseMethodDescriptor y.desc = some ⟨ps, rt⟩) (argsL rest : List Value) (hll : argsL.length = ps.length) (has : argsL.toArray = as') (hst : S = argsL.reverse ++ rest) (hW : (rest.map fun v => v.category).sum = W) (hf : rm.frames + 1 ≤ R.frames) (hl : W + (maxL + 11) + rm.locals ≤ R.locals) (hc' : cells + rm.cells = cells') (hs' : slots + rm.slots = slots') (hc : cells' ≤ R.cells) (hs : slots' ≤ R.slots) (hd : decode c.code pc = .ok (.invokestatic index, 3)) (hp : pc + 3 = pc') (k : ∀ v T' h' Lc, Stand p l e R s m args below meth c T' (locs ++ Lc) cells' slots' → T'.heap = h' → Q v h' Lc → OG p e below P (T'.setTop (mkF m pc' L (v.toList ++ rest)))) : OG p e below P (T.setTop (mkF m pc L S)) := by
 subst hp hst hc' hs' has
 obtain ⟨v, _, ⟨T1, L1, k1, n1⟩, -, X1, ⟨Lc, hQ, l1, y1, z1⟩, st⟩ := Jvm.LawKit.callS X hx (y := y) hown (mvT hZ w1) (mvT hZ w2) (mvT hZ wz) (mvT hZ wc) hy (backOf (W := W) hM hZ wc wz hf hl) (g := mkF m pc L (argsL.reverse ++ rest)) rfl hml (argsL := argsL) (rest := rest) (lenOf hpd hll) rfl (by show 2 * 0 + _ ≤ _; rw [hW]; omega) hd (fun _ _ => ⟨rfl, eT, hc, hs⟩)
 dsimp only [Pt.U, Pt.locs, Pt.cells, Pt.slots] at X1 l1 y1 z1 st hQ
 subst l1 y1 z1
 exact OG.of st (k v T1 _ Lc X1 rfl hQ)
theorem og_special (X : Stand p l e R s m args below meth c T locs cells slots) (hx : p.tables.exec = Jvm.exec) (hZ : Z.Warmed39 s.vm) {own : String} {index : Nat} {y : MethodName} {bytes : ByteArray} {maxL : Nat} {rm : Room} {as' : Array Value} {Q : Option Value → Heap → List Loc → Prop} {W cells' slots' : Nat} (hM : Con l Z y bytes maxL none rm as' h Q) (hin : y.name = "<init>") (hown : s.vm.findClass own = some m.cls) (w1 : (Cond.methodLink own index y).before a0 Z = true) (w2 : (Cond.instanceMethod y).before a0 Z = true) (wz : (Cond.initialized y.cls).before a0 Z = true) (wc : (Cond.code y bytes maxL none).before a0 Z = true) (hy : y.cls ≠ "java/lang/invoke/MethodHandle" ∧ y.cls ≠ "java/lang/invoke/VarHandle") (hml : L.size = c.maxLocals) (eT : T.heap = h) {ps : List FieldType} {rt : Option FieldType} (hpd : parseMethodDescriptor y.desc = some ⟨ps, rt⟩) {a : Addr} (argsL rest : List Value) (hll : argsL.length = ps.length) (has : (.ref a :: argsL).toArray = as') (hst : S = argsL.reverse ++ .ref a :: rest) (hW : (rest.map fun v => v.category).sum = W) (hf : rm.frames + 1 ≤ R.frames) (hl : W + (maxL + 11) + rm.locals ≤ R.locals) (hc' : cells + rm.cells = cells') (hs' : slots + rm.slots = slots') (hc : cells' ≤ R.cells) (hs : slots' ≤ R.slots) (hd : decode c.code pc = .ok (.invokespecial index, 3)) (hp : pc + 3 = pc') (k : ∀ v T' h' Lc, Stand p l e R s m args below meth c T' (locs ++ Lc) cells' slots' → T'.heap = h' → Q v h' Lc → OG p e below P (T'.setTop (mkF m pc' L (v.toList ++ rest)))) : OG p e below P (T.setTop (mkF m pc L S)) := by
 subst hp hst hc' hs' has
 obtain ⟨v, _, ⟨T1, L1, k1, n1⟩, -, X1, ⟨Lc, hQ, l1, y1, z1⟩, st⟩ := X.specialBack hx (y := y) hin hown (mvT hZ w1) (mvT hZ w2) (mvT hZ wc) hy (backOf (W := W) hM hZ wc wz hf hl) (g := mkF m pc L (argsL.reverse ++ .ref a :: rest)) rfl hml (Steps.refl _) (a := a) (argsL := argsL) (rest := rest) (lenOf hpd hll) rfl (by show 2 * 0 + _ ≤ _; rw [hW]; omega) hd (fun _ _ => ⟨rfl, eT, hc, hs⟩)
 dsimp only [Pt.U, Pt.locs, Pt.cells, Pt.slots] at X1 l1 y1 z1 st hQ
 subst l1 y1 z1
 exact OG.of (fun t k => st.trans k) (k v T1 _ Lc X1 rfl hQ)
theorem og_virtual (X : Stand p l e R s m args below meth c T locs cells slots) (hx : p.tables.exec = Jvm.exec) (hZ : Z.Warmed39 s.vm) {own C : String} {index : Nat} {y z : MethodName} {bytes : ByteArray} {maxL : Nat} {ret : Option FieldType} {rm : Room} {as' : Array Value} {Q : Option Value → Heap → List Loc → Prop} {W cells' slots' : Nat} (hM : Con l Z z bytes maxL ret rm as' h Q) (hown : s.vm.findClass own = some m.cls) (w1 : (Cond.methodLink own index y).before a0 Z = true) (w2 : (Cond.declares y).before a0 Z = true) (hnf : NotFace s y) (w3 : (Cond.selects C y z).before a0 Z = true) (w4 : (Cond.instanceMethod z).before a0 Z = true) (wz : (Cond.initialized z.cls).before a0 Z = true) (wc : (Cond.code z bytes maxL ret).before a0 Z = true) (hy : y.cls ≠ "java/lang/invoke/MethodHandle" ∧ y.cls ≠ "java/lang/invoke/VarHandle") (hml : L.size = c.maxLocals) (eT : T.heap = h) {ps : List FieldType} {rt : Option FieldType} (hpd : parseMethodDescriptor y.desc = some ⟨ps, rt⟩) {a : Addr} (argsL rest : List Value) (hll : argsL.length = ps.length) (has : (.ref a :: argsL).toArray = as') (hst : S = argsL.reverse ++ .ref a :: rest) (hW : (rest.map fun v => v.category).sum = W) (hf : rm.frames + 1 ≤ R.frames) (hl : W + (maxL + 11) + rm.locals ≤ R.locals) (hc' : cells + rm.cells = cells') (hs' : slots + rm.slots = slots') (hc : cells' ≤ R.cells) (hs : slots' ≤ R.slots) (E : Exa Z h a C) (hd : decode c.code pc = .ok (.invokevirtual index, 3)) (hp : pc + 3 = pc') (k : ∀ v T' h' Lc, Stand p l e R s m args below meth c T' (locs ++ Lc) cells' slots' → T'.heap = h' → Q v h' Lc → OG p e below P (T'.setTop (mkF m pc' L (v.toList ++ rest)))) : OG p e below P (T.setTop (mkF m pc L S)) := by
 subst hp hst hc' hs' has
 obtain ⟨cq, kq, qa, qb, qc⟩ := isOf hZ eT E
 obtain ⟨v, _, ⟨T1, L1, k1, n1⟩, -, X1, ⟨Lc, hQ, l1, y1, z1⟩, st⟩ := X.virtualBack hx (y := y) (z := z) hown (mvT hZ w1) (mvT hZ w2) hnf (mvT hZ w3) (mvT hZ w4) hy (backOf (W := W) hM hZ wc wz hf hl) qa qc (g := mkF m pc L (argsL.reverse ++ .ref a :: rest)) rfl hml (Steps.refl _) (argsL := argsL) (rest := rest) (lenOf hpd hll) rfl (by show 2 * 0 + _ ≤ _; rw [hW]; omega) hd (fun _ _ => ⟨rfl, eT, hc, hs⟩)
 dsimp only [Pt.U, Pt.locs, Pt.cells, Pt.slots] at X1 l1 y1 z1 st hQ
 subst l1 y1 z1
 exact OG.of (fun t k => st.trans k) (k v T1 _ Lc X1 rfl hQ)
theorem own_nf (hZ : Z.Warmed39 s.vm) {C : String} {y : MethodName} (w : (Cond.selects C y y).before a0 Z = true) : NotFace s y := notFace_of_selects (args := #[]) (mvT hZ w)
theorem own_n0 {n0 : Nat} (O : Old Z n0 h) : n0 ≤ h.size := O.1 ▸ O.2.1
theorem own_eqint {args : Array Value} {t : Term} {n : Int32} (q : (Cond.eq t (Term.int n)).value args s none s [] = some true) : t.eval args s none [] s = some (.int n) := by
  simp only [Cond.value, Term.eval] at q
  cases ht : t.eval args s none [] s with
  | none => simp [ht] at q
  | some x => cases x <;> simp [ht] at q ⊢; exact q
theorem own_fldstart {args : Array Value} {t : Term} {C n d : String} {a : Addr} {v : Value} (ht : t.eval args s none [] s = some (.ref a)) (q : (Term.field t C n d).eval args s none [] s = some v) : Fld s s.heap a C n d v := Fld.start (by rw [← fld_at ht]; exact q)
theorem og_virtualUp (X : Stand p l e R s m args below meth c T locs cells slots) (hx : p.tables.exec = Jvm.exec) (hZ : Z.Warmed39 s.vm) {own C owner : String} {index : Nat} {y z : MethodName} {bytes : ByteArray} {maxL : Nat} {ret : Option FieldType} {rm : Room} {as' : Array Value} {Q : Option Value → Heap → List Loc → Prop} {W cells' slots' : Nat} (hM : Con l Z z bytes maxL ret rm as' h Q) (hown : s.vm.findClass own = some m.cls) (w1 : (Cond.methodLink own index y).before a0 Z = true) (w2 : (Cond.sameMethod y.cls owner y.name y.desc).before a0 Z = true) (w2' : (Cond.declares ⟨owner, y.name, y.desc⟩).before a0 Z = true) (hy' : owner ≠ "java/lang/invoke/MethodHandle" ∧ owner ≠ "java/lang/invoke/VarHandle") (w3 : (Cond.selects C y z).before a0 Z = true) (w4 : (Cond.instanceMethod z).before a0 Z = true) (wz : (Cond.initialized z.cls).before a0 Z = true) (wc : (Cond.code z bytes maxL ret).before a0 Z = true) (hy : y.cls ≠ "java/lang/invoke/MethodHandle" ∧ y.cls ≠ "java/lang/invoke/VarHandle") (hml : L.size = c.maxLocals) (eT : T.heap = h) {ps : List FieldType} {rt : Option FieldType} (hpd : parseMethodDescriptor y.desc = some ⟨ps, rt⟩) {a : Addr} (argsL rest : List Value) (hll : argsL.length = ps.length) (has : (.ref a :: argsL).toArray = as') (hst : S = argsL.reverse ++ .ref a :: rest) (hW : (rest.map fun v => v.category).sum = W) (hf : rm.frames + 1 ≤ R.frames) (hl : W + (maxL + 11) + rm.locals ≤ R.locals) (hc' : cells + rm.cells = cells') (hs' : slots + rm.slots = slots') (hc : cells' ≤ R.cells) (hs : slots' ≤ R.slots) (E : Exa Z h a C) (hd : decode c.code pc = .ok (.invokevirtual index, 3)) (hp : pc + 3 = pc') (k : ∀ v T' h' Lc, Stand p l e R s m args below meth c T' (locs ++ Lc) cells' slots' → T'.heap = h' → Q v h' Lc → OG p e below P (T'.setTop (mkF m pc' L (v.toList ++ rest)))) : OG p e below P (T.setTop (mkF m pc L S)) := by
 subst hp hst hc' hs' has
 obtain ⟨cq, kq, qa, qb, qc⟩ := isOf hZ eT E
 obtain ⟨v, _, ⟨T1, L1, k1, n1⟩, -, X1, ⟨Lc, hQ, l1, y1, z1⟩, st⟩ := X.virtualBackUp hx (x := y) (y := z) hown (mvT hZ w1) (mvT hZ w2) (mvT hZ w2') hy' (mvT hZ w3) (mvT hZ w4) (backOf (W := W) hM hZ wc wz hf hl) qa qc (g := mkF m pc L (argsL.reverse ++ .ref a :: rest)) rfl hml (Steps.refl _) (argsL := argsL) (rest := rest) (lenOf hpd hll) rfl (by show 2 * 0 + _ ≤ _; rw [hW]; omega) hd (fun _ _ => ⟨rfl, eT, hc, hs⟩)
 dsimp only [Pt.U, Pt.locs, Pt.cells, Pt.slots] at X1 l1 y1 z1 st hQ
 subst l1 y1 z1
 exact OG.of (fun t k => st.trans k) (k v T1 _ Lc X1 rfl hQ)
end OwnKit
abbrev HW (a0 : Array Value) (Z : State) : Prop := ∀ d ∈ tables_1, d.before a0 Z = true
theorem mg {c : Jvm.Cond} (i : Nat) (h : tables_1[i]? = some c) : c ∈ tables_1 := List.mem_of_getElem? h
section Words
variable {a0 : Array Value} {Z : State} (hw : HW a0 Z)
def ow0 := hw _ (mg 0 rfl)
def ow1 := hw _ (mg 1 rfl)
def ow2 := hw _ (mg 2 rfl)
def ow3 := hw _ (mg 3 rfl)
def ow4 := hw _ (mg 4 rfl)
def ow5 := hw _ (mg 5 rfl)
def ow6 := hw _ (mg 6 rfl)
def ow7 := hw _ (mg 7 rfl)
def ow8 := hw _ (mg 8 rfl)
def ow9 := hw _ (mg 9 rfl)
def ow10 := hw _ (mg 10 rfl)
def ow11 := hw _ (mg 11 rfl)
def ow12 := hw _ (mg 12 rfl)
def ow14 := hw _ (mg 14 rfl)
def ow15 := hw _ (mg 15 rfl)
def ow16 := hw _ (mg 16 rfl)
def ow17 := hw _ (mg 17 rfl)
def ow18 := hw _ (mg 18 rfl)
def ow19 := hw _ (mg 19 rfl)
def ow20 := hw _ (mg 20 rfl)
def ow21 := hw _ (mg 21 rfl)
def ow22 := hw _ (mg 22 rfl)
def ow23 := hw _ (mg 23 rfl)
def ow24 := hw _ (mg 24 rfl)
def ow25 := hw _ (mg 25 rfl)
def ow26 := hw _ (mg 26 rfl)
def ow27 := hw _ (mg 27 rfl)
def ow28 := hw _ (mg 28 rfl)
def ow29 := hw _ (mg 29 rfl)
def ow30 := hw _ (mg 30 rfl)
def ow31 := hw _ (mg 31 rfl)
def ow32 := hw _ (mg 32 rfl)
def ow33 := hw _ (mg 33 rfl)
def ow34 := hw _ (mg 34 rfl)
def ow35 := hw _ (mg 35 rfl)
def ow36 := hw _ (mg 36 rfl)
def ow37 := hw _ (mg 37 rfl)
def ow38 := hw _ (mg 38 rfl)
def ow39 := hw _ (mg 39 rfl)
def ow40 := hw _ (mg 40 rfl)
def ow41 := hw _ (mg 41 rfl)
def ow42 := hw _ (mg 42 rfl)
def ow43 := hw _ (mg 43 rfl)
def ow44 := hw _ (mg 44 rfl)
def ow45 := hw _ (mg 45 rfl)
def ow46 := hw _ (mg 46 rfl)
def ow47 := hw _ (mg 47 rfl)
def ow48 := hw _ (mg 48 rfl)
def ow49 := hw _ (mg 49 rfl)
def ow50 := hw _ (mg 50 rfl)
def ow51 := hw _ (mg 51 rfl)
def ow52 := hw _ (mg 52 rfl)
def ow53 := hw _ (mg 53 rfl)
def ow54 := hw _ (mg 54 rfl)
def ow55 := hw _ (mg 55 rfl)
def ow56 := hw _ (mg 56 rfl)
def ow57 := hw _ (mg 57 rfl)
def ow58 := hw _ (mg 58 rfl)
def ow59 := hw _ (mg 59 rfl)
def ow60 := hw _ (mg 60 rfl)
def ow61 := hw _ (mg 61 rfl)
def ow62 := hw _ (mg 62 rfl)
def ow63 := hw _ (mg 63 rfl)
def ow64 := hw _ (mg 64 rfl)
def ow65 := hw _ (mg 65 rfl)
def ow66 := hw _ (mg 66 rfl)
def ow67 := hw _ (mg 67 rfl)
def ow68 := hw _ (mg 68 rfl)
def ow69 := hw _ (mg 69 rfl)
def ow70 := hw _ (mg 70 rfl)
def ow71 := hw _ (mg 71 rfl)
def ow72 := hw _ (mg 72 rfl)
def ow73 := hw _ (mg 73 rfl)
def ow74 := hw _ (mg 74 rfl)
def ow75 := hw _ (mg 75 rfl)
def ow76 := hw _ (mg 76 rfl)
def ow77 := hw _ (mg 77 rfl)
def ow78 := hw _ (mg 78 rfl)
def ow79 := hw _ (mg 79 rfl)
def ow80 := hw _ (mg 80 rfl)
def ow81 := hw _ (mg 81 rfl)
def ow82 := hw _ (mg 82 rfl)
def ow83 := hw _ (mg 83 rfl)
def ow84 := hw _ (mg 84 rfl)
def ow85 := hw _ (mg 85 rfl)
def ow86 := hw _ (mg 86 rfl)
def ow87 := hw _ (mg 87 rfl)
def ow88 := hw _ (mg 88 rfl)
def ow89 := hw _ (mg 89 rfl)
def ow90 := hw _ (mg 90 rfl)
def ow91 := hw _ (mg 91 rfl)
def ow92 := hw _ (mg 92 rfl)
def ow93 := hw _ (mg 93 rfl)
def ow94 := hw _ (mg 94 rfl)
def ow95 := hw _ (mg 95 rfl)
def ow97 := hw _ (mg 97 rfl)
def ow98 := hw _ (mg 98 rfl)
def ow99 := hw _ (mg 99 rfl)
def ow100 := hw _ (mg 100 rfl)
def ow101 := hw _ (mg 101 rfl)
def ow102 := hw _ (mg 102 rfl)
def ow103 := hw _ (mg 103 rfl)
def ow104 := hw _ (mg 104 rfl)
def ow105 := hw _ (mg 105 rfl)
def ow106 := hw _ (mg 106 rfl)
def ow107 := hw _ (mg 107 rfl)
def ow108 := hw _ (mg 108 rfl)
def ow109 := hw _ (mg 109 rfl)
def ow110 := hw _ (mg 110 rfl)
def ow111 := hw _ (mg 111 rfl)
def ow112 := hw _ (mg 112 rfl)
def ow113 := hw _ (mg 113 rfl)
def ow114 := hw _ (mg 114 rfl)
def ow115 := hw _ (mg 115 rfl)
def ow116 := hw _ (mg 116 rfl)
def ow117 := hw _ (mg 117 rfl)
def ow118 := hw _ (mg 118 rfl)
def ow119 := hw _ (mg 119 rfl)
def ow120 := hw _ (mg 120 rfl)
def ow121 := hw _ (mg 121 rfl)
def ow122 := hw _ (mg 122 rfl)
end Words
abbrev DD (b : ByteArray) (p : Nat) (i : ClassFile.Instr) (n : Nat) : Prop := decode b p = .ok (i, n)
theorem opd_0 : parseMethodDescriptor "()I" = some ⟨[], some .int⟩ := by decide +kernel
theorem opd_1 : parseMethodDescriptor "([CI[BII)I" = some ⟨[(.array .char), .int, (.array .byte), .int, .int], some .int⟩ := by decide +kernel
theorem opd_2 : parseMethodDescriptor "([CII)[B" = some ⟨[(.array .char), .int, .int], some (.array .byte)⟩ := by decide +kernel
theorem opd_3 : parseMethodDescriptor "([BI)B" = some ⟨[(.array .byte), .int], some .byte⟩ := by decide +kernel
theorem opd_4 : parseMethodDescriptor "([CIILjava/lang/Void;)V" = some ⟨[(.array .char), .int, .int, (.object "java/lang/Void")], none⟩ := by decide +kernel
theorem opd_5 : parseMethodDescriptor "(IILjava/util/function/BiFunction;)I" = some ⟨[.int, .int, (.object "java/util/function/BiFunction")], some .int⟩ := by decide +kernel
theorem opd_6 : parseMethodDescriptor "(II)V" = some ⟨[.int, .int], none⟩ := by decide +kernel
theorem opd_7 : parseMethodDescriptor "()Z" = some ⟨[], some .boolean⟩ := by decide +kernel
theorem opd_8 : parseMethodDescriptor "([BI)C" = some ⟨[(.array .byte), .int], some .char⟩ := by decide +kernel
theorem opd_9 : parseMethodDescriptor "()B" = some ⟨[], some .byte⟩ := by decide +kernel
theorem opd_10 : parseMethodDescriptor "([[I)V" = some ⟨[(.array (.array .int))], none⟩ := by decide +kernel
theorem opd_11 : parseMethodDescriptor "(I)C" = some ⟨[.int], some .char⟩ := by decide +kernel
theorem opd_12 : parseMethodDescriptor "(C)Lcom/example/nitpick/nitpick/internal/interpolation/ExpressionLiterals$Quoting;" = some ⟨[.char], some (.object "com/example/nitpick/nitpick/internal/interpolation/ExpressionLiterals$Quoting")⟩ := by decide +kernel
theorem opd_13 : parseMethodDescriptor "([C)V" = some ⟨[(.array .char)], none⟩ := by decide +kernel
theorem opd_14 : parseMethodDescriptor "(Ljava/lang/String;)Lcom/example/nitpick/nitpick/internal/interpolation/ExpressionEnds;" = some ⟨[(.object "java/lang/String")], some (.object "com/example/nitpick/nitpick/internal/interpolation/ExpressionEnds")⟩ := by decide +kernel
theorem opd_15 : parseMethodDescriptor "(I)I" = some ⟨[.int], some .int⟩ := by decide +kernel
theorem opd_16 : parseMethodDescriptor "(IC)Z" = some ⟨[.int, .char], some .boolean⟩ := by decide +kernel
theorem opd_17 : parseMethodDescriptor "(IC)I" = some ⟨[.int, .char], some .int⟩ := by decide +kernel
abbrev b1 := method_2_code
theorem d1_0 : DD b1 0 (.iload_n 0) 1 := by decide +kernel
theorem d1_1 : DD b1 1 (.bipush 7) 2 := by decide +kernel
theorem d1_3 : DD b1 3 (.iand) 1 := by decide +kernel
theorem d1_4 : DD b1 4 (.istore_n 1) 1 := by decide +kernel
theorem d1_5 : DD b1 5 (.iload_n 1) 1 := by decide +kernel
theorem d1_6 : DD b1 6 (.ifCond .ne 6) 3 := by decide +kernel
theorem d1_9 : DD b1 9 (.bipush 123) 2 := by decide +kernel
theorem d1_11 : DD b1 11 (.ireturn) 1 := by decide +kernel
theorem d1_12 : DD b1 12 (.iload_n 1) 1 := by decide +kernel
theorem d1_13 : DD b1 13 (.iconst 1) 1 := by decide +kernel
theorem d1_14 : DD b1 14 (.if_icmp .ne 6) 3 := by decide +kernel
theorem d1_17 : DD b1 17 (.bipush 125) 2 := by decide +kernel
theorem d1_19 : DD b1 19 (.ireturn) 1 := by decide +kernel
theorem d1_20 : DD b1 20 (.iload_n 1) 1 := by decide +kernel
theorem d1_21 : DD b1 21 (.iconst 2) 1 := by decide +kernel
theorem d1_22 : DD b1 22 (.if_icmp .ne 6) 3 := by decide +kernel
theorem d1_25 : DD b1 25 (.bipush 39) 2 := by decide +kernel
theorem d1_27 : DD b1 27 (.ireturn) 1 := by decide +kernel
theorem d1_28 : DD b1 28 (.iload_n 1) 1 := by decide +kernel
theorem d1_29 : DD b1 29 (.iconst 3) 1 := by decide +kernel
theorem d1_30 : DD b1 30 (.if_icmp .ne 6) 3 := by decide +kernel
theorem d1_33 : DD b1 33 (.bipush 34) 2 := by decide +kernel
theorem d1_35 : DD b1 35 (.ireturn) 1 := by decide +kernel
theorem d1_36 : DD b1 36 (.iload_n 1) 1 := by decide +kernel
theorem d1_37 : DD b1 37 (.iconst 4) 1 := by decide +kernel
theorem d1_38 : DD b1 38 (.if_icmp .ne 6) 3 := by decide +kernel
theorem d1_41 : DD b1 41 (.bipush 92) 2 := by decide +kernel
theorem d1_43 : DD b1 43 (.ireturn) 1 := by decide +kernel
theorem d1_44 : DD b1 44 (.iload_n 1) 1 := by decide +kernel
theorem d1_45 : DD b1 45 (.iconst 5) 1 := by decide +kernel
theorem d1_46 : DD b1 46 (.if_icmp .ne 6) 3 := by decide +kernel
theorem d1_49 : DD b1 49 (.bipush 36) 2 := by decide +kernel
theorem d1_51 : DD b1 51 (.ireturn) 1 := by decide +kernel
theorem d1_52 : DD b1 52 (.iload_n 1) 1 := by decide +kernel
theorem d1_53 : DD b1 53 (.bipush 6) 2 := by decide +kernel
theorem d1_55 : DD b1 55 (.if_icmp .ne 6) 3 := by decide +kernel
theorem d1_58 : DD b1 58 (.bipush 97) 2 := by decide +kernel
theorem d1_60 : DD b1 60 (.ireturn) 1 := by decide +kernel
theorem d1_61 : DD b1 61 (.iload_n 0) 1 := by decide +kernel
theorem d1_62 : DD b1 62 (.iconst 3) 1 := by decide +kernel
theorem d1_63 : DD b1 63 (.iushr) 1 := by decide +kernel
theorem d1_64 : DD b1 64 (.sipush 255) 3 := by decide +kernel
theorem d1_67 : DD b1 67 (.iand) 1 := by decide +kernel
theorem d1_68 : DD b1 68 (.i2c) 1 := by decide +kernel
theorem d1_69 : DD b1 69 (.ireturn) 1 := by decide +kernel
abbrev b2 := jdk_42_method_3_code
theorem d2_0 : DD b2 0 (.aload_n 0) 1 := by decide +kernel
theorem d2_1 : DD b2 1 (.aload_n 1) 1 := by decide +kernel
theorem d2_2 : DD b2 2 (.iconst 0) 1 := by decide +kernel
theorem d2_3 : DD b2 3 (.aload_n 1) 1 := by decide +kernel
theorem d2_4 : DD b2 4 (.arraylength) 1 := by decide +kernel
theorem d2_5 : DD b2 5 (.aconst_null) 1 := by decide +kernel
theorem d2_6 : DD b2 6 (.invokespecial 27) 3 := by decide +kernel
theorem d2_9 : DD b2 9 (.return_) 1 := by decide +kernel
abbrev b3 := jdk_42_method_149_code
theorem d3_0 : DD b3 0 (.aload_n 0) 1 := by decide +kernel
theorem d3_1 : DD b3 1 (.invokespecial 1) 3 := by decide +kernel
theorem d3_4 : DD b3 4 (.iload_n 3) 1 := by decide +kernel
theorem d3_5 : DD b3 5 (.ifCond .ne 22) 3 := by decide +kernel
theorem d3_27 : DD b3 27 (.getstatic 38) 3 := by decide +kernel
theorem d3_30 : DD b3 30 (.ifCond .eq 28) 3 := by decide +kernel
theorem d3_33 : DD b3 33 (.aload_n 1) 1 := by decide +kernel
theorem d3_34 : DD b3 34 (.iload_n 2) 1 := by decide +kernel
theorem d3_35 : DD b3 35 (.iload_n 3) 1 := by decide +kernel
theorem d3_36 : DD b3 36 (.invokestatic 177) 3 := by decide +kernel
theorem d3_39 : DD b3 39 (.astore 5) 2 := by decide +kernel
theorem d3_41 : DD b3 41 (.aload_n 0) 1 := by decide +kernel
theorem d3_42 : DD b3 42 (.aload 5) 2 := by decide +kernel
theorem d3_44 : DD b3 44 (.iload_n 3) 1 := by decide +kernel
theorem d3_45 : DD b3 45 (.invokestatic 47) 3 := by decide +kernel
theorem d3_48 : DD b3 48 (.putfield 15) 3 := by decide +kernel
theorem d3_51 : DD b3 51 (.aload_n 0) 1 := by decide +kernel
theorem d3_52 : DD b3 52 (.aload 5) 2 := by decide +kernel
theorem d3_54 : DD b3 54 (.putfield 9) 3 := by decide +kernel
theorem d3_57 : DD b3 57 (.return_) 1 := by decide +kernel
abbrev b5 := jdk_52_method_16_code
theorem d5_0 : DD b5 0 (.iload_n 2) 1 := by decide +kernel
theorem d5_1 : DD b5 1 (.newarray .byte) 2 := by decide +kernel
theorem d5_3 : DD b5 3 (.astore_n 3) 1 := by decide +kernel
theorem d5_4 : DD b5 4 (.aload_n 0) 1 := by decide +kernel
theorem d5_5 : DD b5 5 (.iload_n 1) 1 := by decide +kernel
theorem d5_6 : DD b5 6 (.aload_n 3) 1 := by decide +kernel
theorem d5_7 : DD b5 7 (.iconst 0) 1 := by decide +kernel
theorem d5_8 : DD b5 8 (.iload_n 2) 1 := by decide +kernel
theorem d5_9 : DD b5 9 (.invokestatic 115) 3 := by decide +kernel
theorem d5_12 : DD b5 12 (.istore 4) 2 := by decide +kernel
theorem d5_14 : DD b5 14 (.iload 4) 2 := by decide +kernel
theorem d5_16 : DD b5 16 (.iload_n 2) 1 := by decide +kernel
theorem d5_17 : DD b5 17 (.if_icmp .eq 40) 3 := by decide +kernel
theorem d5_57 : DD b5 57 (.aload_n 3) 1 := by decide +kernel
theorem d5_58 : DD b5 58 (.areturn) 1 := by decide +kernel
abbrev b6 := jdk_52_method_21_code
theorem d6_0 : DD b6 0 (.iconst 0) 1 := by decide +kernel
theorem d6_1 : DD b6 1 (.istore 5) 2 := by decide +kernel
theorem d6_3 : DD b6 3 (.iload 5) 2 := by decide +kernel
theorem d6_5 : DD b6 5 (.iload 4) 2 := by decide +kernel
theorem d6_7 : DD b6 7 (.if_icmp .ge 37) 3 := by decide +kernel
theorem d6_10 : DD b6 10 (.aload_n 0) 1 := by decide +kernel
theorem d6_11 : DD b6 11 (.iload_n 1) 1 := by decide +kernel
theorem d6_12 : DD b6 12 (.caload) 1 := by decide +kernel
theorem d6_13 : DD b6 13 (.istore 6) 2 := by decide +kernel
theorem d6_15 : DD b6 15 (.iload 6) 2 := by decide +kernel
theorem d6_17 : DD b6 17 (.sipush 255) 3 := by decide +kernel
theorem d6_20 : DD b6 20 (.if_icmp .le 6) 3 := by decide +kernel
theorem d6_26 : DD b6 26 (.aload_n 2) 1 := by decide +kernel
theorem d6_27 : DD b6 27 (.iload_n 3) 1 := by decide +kernel
theorem d6_28 : DD b6 28 (.iload 6) 2 := by decide +kernel
theorem d6_30 : DD b6 30 (.i2b) 1 := by decide +kernel
theorem d6_31 : DD b6 31 (.bastore) 1 := by decide +kernel
theorem d6_32 : DD b6 32 (.iinc 1 1) 3 := by decide +kernel
theorem d6_35 : DD b6 35 (.iinc 3 1) 3 := by decide +kernel
theorem d6_38 : DD b6 38 (.iinc 5 1) 3 := by decide +kernel
theorem d6_41 : DD b6 41 (.goto (-38)) 3 := by decide +kernel
theorem d6_44 : DD b6 44 (.iload 4) 2 := by decide +kernel
theorem d6_46 : DD b6 46 (.ireturn) 1 := by decide +kernel
abbrev b7 := jdk_52_method_15_code
theorem d7_0 : DD b7 0 (.iload_n 1) 1 := by decide +kernel
theorem d7_1 : DD b7 1 (.aload_n 0) 1 := by decide +kernel
theorem d7_2 : DD b7 2 (.arraylength) 1 := by decide +kernel
theorem d7_3 : DD b7 3 (.isub) 1 := by decide +kernel
theorem d7_4 : DD b7 4 (.bipush 31) 2 := by decide +kernel
theorem d7_6 : DD b7 6 (.iushr) 1 := by decide +kernel
theorem d7_7 : DD b7 7 (.i2b) 1 := by decide +kernel
theorem d7_8 : DD b7 8 (.ireturn) 1 := by decide +kernel
abbrev b8 := method_3_code
theorem d8_0 : DD b8 0 (.iload_n 0) 1 := by decide +kernel
theorem d8_1 : DD b8 1 (.bipush 7) 2 := by decide +kernel
theorem d8_3 : DD b8 3 (.iand) 1 := by decide +kernel
theorem d8_4 : DD b8 4 (.ifCond .ne 19) 3 := by decide +kernel
theorem d8_7 : DD b8 7 (.iload_n 0) 1 := by decide +kernel
theorem d8_8 : DD b8 8 (.iconst 3) 1 := by decide +kernel
theorem d8_9 : DD b8 9 (.iushr) 1 := by decide +kernel
theorem d8_10 : DD b8 10 (.ifCond .ne 13) 3 := by decide +kernel
theorem d8_13 : DD b8 13 (.iload_n 1) 1 := by decide +kernel
theorem d8_14 : DD b8 14 (.bipush 125) 2 := by decide +kernel
theorem d8_16 : DD b8 16 (.if_icmp .ne 7) 3 := by decide +kernel
theorem d8_19 : DD b8 19 (.iconst 1) 1 := by decide +kernel
theorem d8_20 : DD b8 20 (.goto 4) 3 := by decide +kernel
theorem d8_23 : DD b8 23 (.iconst 0) 1 := by decide +kernel
theorem d8_24 : DD b8 24 (.ireturn) 1 := by decide +kernel
abbrev b9 := method_4_code
theorem d9_0 : DD b9 0 (.iload_n 0) 1 := by decide +kernel
theorem d9_1 : DD b9 1 (.bipush 7) 2 := by decide +kernel
theorem d9_3 : DD b9 3 (.iand) 1 := by decide +kernel
theorem d9_4 : DD b9 4 (.istore_n 2) 1 := by decide +kernel
theorem d9_5 : DD b9 5 (.iload_n 0) 1 := by decide +kernel
theorem d9_6 : DD b9 6 (.iconst 3) 1 := by decide +kernel
theorem d9_7 : DD b9 7 (.iushr) 1 := by decide +kernel
theorem d9_8 : DD b9 8 (.istore_n 3) 1 := by decide +kernel
theorem d9_9 : DD b9 9 (.iload_n 2) 1 := by decide +kernel
theorem d9_10 : DD b9 10 (.ifCond .ne 51) 3 := by decide +kernel
theorem d9_13 : DD b9 13 (.iload_n 1) 1 := by decide +kernel
theorem d9_14 : DD b9 14 (.bipush 125) 2 := by decide +kernel
theorem d9_16 : DD b9 16 (.if_icmp .ne 10) 3 := by decide +kernel
theorem d9_19 : DD b9 19 (.iload_n 3) 1 := by decide +kernel
theorem d9_20 : DD b9 20 (.iconst 1) 1 := by decide +kernel
theorem d9_21 : DD b9 21 (.isub) 1 := by decide +kernel
theorem d9_22 : DD b9 22 (.istore_n 3) 1 := by decide +kernel
theorem d9_23 : DD b9 23 (.goto 104) 3 := by decide +kernel
theorem d9_26 : DD b9 26 (.iload_n 1) 1 := by decide +kernel
theorem d9_27 : DD b9 27 (.bipush 123) 2 := by decide +kernel
theorem d9_29 : DD b9 29 (.if_icmp .ne 10) 3 := by decide +kernel
theorem d9_32 : DD b9 32 (.iload_n 3) 1 := by decide +kernel
theorem d9_33 : DD b9 33 (.iconst 1) 1 := by decide +kernel
theorem d9_34 : DD b9 34 (.iadd) 1 := by decide +kernel
theorem d9_35 : DD b9 35 (.istore_n 3) 1 := by decide +kernel
theorem d9_36 : DD b9 36 (.goto 91) 3 := by decide +kernel
theorem d9_39 : DD b9 39 (.iload_n 1) 1 := by decide +kernel
theorem d9_40 : DD b9 40 (.bipush 39) 2 := by decide +kernel
theorem d9_42 : DD b9 42 (.if_icmp .ne 8) 3 := by decide +kernel
theorem d9_45 : DD b9 45 (.iconst 1) 1 := by decide +kernel
theorem d9_46 : DD b9 46 (.istore_n 2) 1 := by decide +kernel
theorem d9_47 : DD b9 47 (.goto 80) 3 := by decide +kernel
theorem d9_50 : DD b9 50 (.iload_n 1) 1 := by decide +kernel
theorem d9_51 : DD b9 51 (.bipush 34) 2 := by decide +kernel
theorem d9_53 : DD b9 53 (.if_icmp .ne 74) 3 := by decide +kernel
theorem d9_56 : DD b9 56 (.iconst 3) 1 := by decide +kernel
theorem d9_57 : DD b9 57 (.istore_n 2) 1 := by decide +kernel
theorem d9_58 : DD b9 58 (.goto 69) 3 := by decide +kernel
theorem d9_61 : DD b9 61 (.iload_n 2) 1 := by decide +kernel
theorem d9_62 : DD b9 62 (.iconst 1) 1 := by decide +kernel
theorem d9_63 : DD b9 63 (.if_icmp .ne 25) 3 := by decide +kernel
theorem d9_66 : DD b9 66 (.iload_n 1) 1 := by decide +kernel
theorem d9_67 : DD b9 67 (.bipush 92) 2 := by decide +kernel
theorem d9_69 : DD b9 69 (.if_icmp .ne 8) 3 := by decide +kernel
theorem d9_72 : DD b9 72 (.iconst 2) 1 := by decide +kernel
theorem d9_73 : DD b9 73 (.istore_n 2) 1 := by decide +kernel
theorem d9_74 : DD b9 74 (.goto 53) 3 := by decide +kernel
theorem d9_77 : DD b9 77 (.iload_n 1) 1 := by decide +kernel
theorem d9_78 : DD b9 78 (.bipush 39) 2 := by decide +kernel
theorem d9_80 : DD b9 80 (.if_icmp .ne 47) 3 := by decide +kernel
theorem d9_83 : DD b9 83 (.iconst 0) 1 := by decide +kernel
theorem d9_84 : DD b9 84 (.istore_n 2) 1 := by decide +kernel
theorem d9_85 : DD b9 85 (.goto 42) 3 := by decide +kernel
theorem d9_88 : DD b9 88 (.iload_n 2) 1 := by decide +kernel
theorem d9_89 : DD b9 89 (.iconst 2) 1 := by decide +kernel
theorem d9_90 : DD b9 90 (.if_icmp .ne 8) 3 := by decide +kernel
theorem d9_93 : DD b9 93 (.iconst 1) 1 := by decide +kernel
theorem d9_94 : DD b9 94 (.istore_n 2) 1 := by decide +kernel
theorem d9_95 : DD b9 95 (.goto 32) 3 := by decide +kernel
theorem d9_98 : DD b9 98 (.iload_n 2) 1 := by decide +kernel
theorem d9_99 : DD b9 99 (.iconst 3) 1 := by decide +kernel
theorem d9_100 : DD b9 100 (.if_icmp .ne 25) 3 := by decide +kernel
theorem d9_103 : DD b9 103 (.iload_n 1) 1 := by decide +kernel
theorem d9_104 : DD b9 104 (.bipush 92) 2 := by decide +kernel
theorem d9_106 : DD b9 106 (.if_icmp .ne 8) 3 := by decide +kernel
theorem d9_109 : DD b9 109 (.iconst 4) 1 := by decide +kernel
theorem d9_110 : DD b9 110 (.istore_n 2) 1 := by decide +kernel
theorem d9_111 : DD b9 111 (.goto 16) 3 := by decide +kernel
theorem d9_114 : DD b9 114 (.iload_n 1) 1 := by decide +kernel
theorem d9_115 : DD b9 115 (.bipush 34) 2 := by decide +kernel
theorem d9_117 : DD b9 117 (.if_icmp .ne 10) 3 := by decide +kernel
theorem d9_120 : DD b9 120 (.iconst 0) 1 := by decide +kernel
theorem d9_121 : DD b9 121 (.istore_n 2) 1 := by decide +kernel
theorem d9_122 : DD b9 122 (.goto 5) 3 := by decide +kernel
theorem d9_125 : DD b9 125 (.iconst 3) 1 := by decide +kernel
theorem d9_126 : DD b9 126 (.istore_n 2) 1 := by decide +kernel
theorem d9_127 : DD b9 127 (.iload_n 2) 1 := by decide +kernel
theorem d9_128 : DD b9 128 (.iload_n 3) 1 := by decide +kernel
theorem d9_129 : DD b9 129 (.iconst 3) 1 := by decide +kernel
theorem d9_130 : DD b9 130 (.ishl) 1 := by decide +kernel
theorem d9_131 : DD b9 131 (.iadd) 1 := by decide +kernel
theorem d9_132 : DD b9 132 (.ireturn) 1 := by decide +kernel
abbrev b10 := prog_57_method_2_code
theorem d10_0 : DD b10 0 (.aload_n 0) 1 := by decide +kernel
theorem d10_1 : DD b10 1 (.invokevirtual 13) 3 := by decide +kernel
theorem d10_4 : DD b10 4 (.istore_n 1) 1 := by decide +kernel
theorem d10_5 : DD b10 5 (.getstatic 19) 3 := by decide +kernel
theorem d10_8 : DD b10 8 (.arraylength) 1 := by decide +kernel
theorem d10_9 : DD b10 9 (.iload_n 1) 1 := by decide +kernel
theorem d10_10 : DD b10 10 (.iconst 1) 1 := by decide +kernel
theorem d10_11 : DD b10 11 (.iadd) 1 := by decide +kernel
theorem d10_12 : DD b10 12 (.multianewarray 23 2) 4 := by decide +kernel
theorem d10_16 : DD b10 16 (.astore_n 2) 1 := by decide +kernel
theorem d10_17 : DD b10 17 (.aload_n 2) 1 := by decide +kernel
theorem d10_18 : DD b10 18 (.astore_n 3) 1 := by decide +kernel
theorem d10_19 : DD b10 19 (.aload_n 3) 1 := by decide +kernel
theorem d10_20 : DD b10 20 (.arraylength) 1 := by decide +kernel
theorem d10_21 : DD b10 21 (.istore 4) 2 := by decide +kernel
theorem d10_23 : DD b10 23 (.iconst 0) 1 := by decide +kernel
theorem d10_24 : DD b10 24 (.istore 5) 2 := by decide +kernel
theorem d10_26 : DD b10 26 (.iload 5) 2 := by decide +kernel
theorem d10_28 : DD b10 28 (.iload 4) 2 := by decide +kernel
theorem d10_30 : DD b10 30 (.if_icmp .ge 20) 3 := by decide +kernel
theorem d10_33 : DD b10 33 (.aload_n 3) 1 := by decide +kernel
theorem d10_34 : DD b10 34 (.iload 5) 2 := by decide +kernel
theorem d10_36 : DD b10 36 (.aaload) 1 := by decide +kernel
theorem d10_37 : DD b10 37 (.astore 6) 2 := by decide +kernel
theorem d10_39 : DD b10 39 (.aload 6) 2 := by decide +kernel
theorem d10_41 : DD b10 41 (.iload_n 1) 1 := by decide +kernel
theorem d10_42 : DD b10 42 (.iconst (-1)) 1 := by decide +kernel
theorem d10_43 : DD b10 43 (.iastore) 1 := by decide +kernel
theorem d10_44 : DD b10 44 (.iinc 5 1) 3 := by decide +kernel
theorem d10_47 : DD b10 47 (.goto (-21)) 3 := by decide +kernel
theorem d10_50 : DD b10 50 (.iload_n 1) 1 := by decide +kernel
theorem d10_51 : DD b10 51 (.iconst 1) 1 := by decide +kernel
theorem d10_52 : DD b10 52 (.isub) 1 := by decide +kernel
theorem d10_53 : DD b10 53 (.istore_n 3) 1 := by decide +kernel
theorem d10_54 : DD b10 54 (.iload_n 3) 1 := by decide +kernel
theorem d10_55 : DD b10 55 (.ifCond .lt 131) 3 := by decide +kernel
theorem d10_58 : DD b10 58 (.aload_n 0) 1 := by decide +kernel
theorem d10_59 : DD b10 59 (.iload_n 3) 1 := by decide +kernel
theorem d10_60 : DD b10 60 (.invokevirtual 24) 3 := by decide +kernel
theorem d10_63 : DD b10 63 (.istore 4) 2 := by decide +kernel
theorem d10_65 : DD b10 65 (.getstatic 19) 3 := by decide +kernel
theorem d10_68 : DD b10 68 (.astore 5) 2 := by decide +kernel
theorem d10_70 : DD b10 70 (.aload 5) 2 := by decide +kernel
theorem d10_72 : DD b10 72 (.arraylength) 1 := by decide +kernel
theorem d10_73 : DD b10 73 (.istore 6) 2 := by decide +kernel
theorem d10_75 : DD b10 75 (.iconst 0) 1 := by decide +kernel
theorem d10_76 : DD b10 76 (.istore 7) 2 := by decide +kernel
theorem d10_78 : DD b10 78 (.iload 7) 2 := by decide +kernel
theorem d10_80 : DD b10 80 (.iload 6) 2 := by decide +kernel
theorem d10_82 : DD b10 82 (.if_icmp .ge 98) 3 := by decide +kernel
theorem d10_85 : DD b10 85 (.aload 5) 2 := by decide +kernel
theorem d10_87 : DD b10 87 (.iload 7) 2 := by decide +kernel
theorem d10_89 : DD b10 89 (.aaload) 1 := by decide +kernel
theorem d10_90 : DD b10 90 (.astore 8) 2 := by decide +kernel
theorem d10_92 : DD b10 92 (.aload_n 2) 1 := by decide +kernel
theorem d10_93 : DD b10 93 (.aload 8) 2 := by decide +kernel
theorem d10_95 : DD b10 95 (.iload 4) 2 := by decide +kernel
theorem d10_97 : DD b10 97 (.invokevirtual 28) 3 := by decide +kernel
theorem d10_100 : DD b10 100 (.invokevirtual 34) 3 := by decide +kernel
theorem d10_103 : DD b10 103 (.aaload) 1 := by decide +kernel
theorem d10_104 : DD b10 104 (.iload_n 3) 1 := by decide +kernel
theorem d10_105 : DD b10 105 (.iconst 1) 1 := by decide +kernel
theorem d10_106 : DD b10 106 (.iadd) 1 := by decide +kernel
theorem d10_107 : DD b10 107 (.iaload) 1 := by decide +kernel
theorem d10_108 : DD b10 108 (.istore 9) 2 := by decide +kernel
theorem d10_110 : DD b10 110 (.aload 8) 2 := by decide +kernel
theorem d10_112 : DD b10 112 (.getstatic 37) 3 := by decide +kernel
theorem d10_115 : DD b10 115 (.if_acmp .ne 18) 3 := by decide +kernel
theorem d10_118 : DD b10 118 (.iload 4) 2 := by decide +kernel
theorem d10_120 : DD b10 120 (.bipush 125) 2 := by decide +kernel
theorem d10_122 : DD b10 122 (.if_icmp .ne 11) 3 := by decide +kernel
theorem d10_125 : DD b10 125 (.iload_n 3) 1 := by decide +kernel
theorem d10_126 : DD b10 126 (.iconst 1) 1 := by decide +kernel
theorem d10_127 : DD b10 127 (.iadd) 1 := by decide +kernel
theorem d10_128 : DD b10 128 (.istore 9) 2 := by decide +kernel
theorem d10_130 : DD b10 130 (.goto 33) 3 := by decide +kernel
theorem d10_133 : DD b10 133 (.aload 8) 2 := by decide +kernel
theorem d10_135 : DD b10 135 (.getstatic 37) 3 := by decide +kernel
theorem d10_138 : DD b10 138 (.if_acmp .ne 25) 3 := by decide +kernel
theorem d10_141 : DD b10 141 (.iload 4) 2 := by decide +kernel
theorem d10_143 : DD b10 143 (.bipush 123) 2 := by decide +kernel
theorem d10_145 : DD b10 145 (.if_icmp .ne 18) 3 := by decide +kernel
theorem d10_148 : DD b10 148 (.iload 9) 2 := by decide +kernel
theorem d10_150 : DD b10 150 (.ifCond .lt 13) 3 := by decide +kernel
theorem d10_153 : DD b10 153 (.aload_n 2) 1 := by decide +kernel
theorem d10_154 : DD b10 154 (.getstatic 41) 3 := by decide +kernel
theorem d10_157 : DD b10 157 (.aaload) 1 := by decide +kernel
theorem d10_158 : DD b10 158 (.iload 9) 2 := by decide +kernel
theorem d10_160 : DD b10 160 (.iaload) 1 := by decide +kernel
theorem d10_161 : DD b10 161 (.istore 9) 2 := by decide +kernel
theorem d10_163 : DD b10 163 (.aload_n 2) 1 := by decide +kernel
theorem d10_164 : DD b10 164 (.aload 8) 2 := by decide +kernel
theorem d10_166 : DD b10 166 (.invokevirtual 34) 3 := by decide +kernel
theorem d10_169 : DD b10 169 (.aaload) 1 := by decide +kernel
theorem d10_170 : DD b10 170 (.iload_n 3) 1 := by decide +kernel
theorem d10_171 : DD b10 171 (.iload 9) 2 := by decide +kernel
theorem d10_173 : DD b10 173 (.iastore) 1 := by decide +kernel
theorem d10_174 : DD b10 174 (.iinc 7 1) 3 := by decide +kernel
theorem d10_177 : DD b10 177 (.goto (-99)) 3 := by decide +kernel
theorem d10_180 : DD b10 180 (.iinc 3 (-1)) 3 := by decide +kernel
theorem d10_183 : DD b10 183 (.goto (-129)) 3 := by decide +kernel
theorem d10_186 : DD b10 186 (.new 8) 3 := by decide +kernel
theorem d10_189 : DD b10 189 (.dup) 1 := by decide +kernel
theorem d10_190 : DD b10 190 (.aload_n 2) 1 := by decide +kernel
theorem d10_191 : DD b10 191 (.invokespecial 44) 3 := by decide +kernel
theorem d10_194 : DD b10 194 (.areturn) 1 := by decide +kernel
abbrev b11 := jdk_42_method_54_code
theorem d11_0 : DD b11 0 (.aload_n 0) 1 := by decide +kernel
theorem d11_1 : DD b11 1 (.getfield 9) 3 := by decide +kernel
theorem d11_4 : DD b11 4 (.arraylength) 1 := by decide +kernel
theorem d11_5 : DD b11 5 (.aload_n 0) 1 := by decide +kernel
theorem d11_6 : DD b11 6 (.invokevirtual 335) 3 := by decide +kernel
theorem d11_9 : DD b11 9 (.ishr) 1 := by decide +kernel
theorem d11_10 : DD b11 10 (.ireturn) 1 := by decide +kernel
abbrev b12 := jdk_42_method_152_code
theorem d12_0 : DD b12 0 (.getstatic 38) 3 := by decide +kernel
theorem d12_3 : DD b12 3 (.ifCond .eq 10) 3 := by decide +kernel
theorem d12_6 : DD b12 6 (.aload_n 0) 1 := by decide +kernel
theorem d12_7 : DD b12 7 (.getfield 15) 3 := by decide +kernel
theorem d12_10 : DD b12 10 (.goto 4) 3 := by decide +kernel
theorem d12_14 : DD b12 14 (.ireturn) 1 := by decide +kernel
abbrev b13 := jdk_42_method_56_code
theorem d13_0 : DD b13 0 (.aload_n 0) 1 := by decide +kernel
theorem d13_1 : DD b13 1 (.invokevirtual 492) 3 := by decide +kernel
theorem d13_4 : DD b13 4 (.ifCond .eq 12) 3 := by decide +kernel
theorem d13_7 : DD b13 7 (.aload_n 0) 1 := by decide +kernel
theorem d13_8 : DD b13 8 (.getfield 9) 3 := by decide +kernel
theorem d13_11 : DD b13 11 (.iload_n 1) 1 := by decide +kernel
theorem d13_12 : DD b13 12 (.invokestatic 495) 3 := by decide +kernel
theorem d13_15 : DD b13 15 (.ireturn) 1 := by decide +kernel
abbrev b14 := jdk_42_method_154_code
theorem d14_0 : DD b14 0 (.getstatic 38) 3 := by decide +kernel
theorem d14_3 : DD b14 3 (.ifCond .eq 14) 3 := by decide +kernel
theorem d14_6 : DD b14 6 (.aload_n 0) 1 := by decide +kernel
theorem d14_7 : DD b14 7 (.getfield 15) 3 := by decide +kernel
theorem d14_10 : DD b14 10 (.ifCond .ne 7) 3 := by decide +kernel
theorem d14_13 : DD b14 13 (.iconst 1) 1 := by decide +kernel
theorem d14_14 : DD b14 14 (.goto 4) 3 := by decide +kernel
theorem d14_18 : DD b14 18 (.ireturn) 1 := by decide +kernel
abbrev b15 := jdk_43_method_2_code
theorem d15_0 : DD b15 0 (.iload_n 1) 1 := by decide +kernel
theorem d15_1 : DD b15 1 (.aload_n 0) 1 := by decide +kernel
theorem d15_2 : DD b15 2 (.arraylength) 1 := by decide +kernel
theorem d15_3 : DD b15 3 (.invokestatic 9) 3 := by decide +kernel
theorem d15_6 : DD b15 6 (.aload_n 0) 1 := by decide +kernel
theorem d15_7 : DD b15 7 (.iload_n 1) 1 := by decide +kernel
theorem d15_8 : DD b15 8 (.baload) 1 := by decide +kernel
theorem d15_9 : DD b15 9 (.sipush 255) 3 := by decide +kernel
theorem d15_12 : DD b15 12 (.iand) 1 := by decide +kernel
theorem d15_13 : DD b15 13 (.i2c) 1 := by decide +kernel
theorem d15_14 : DD b15 14 (.ireturn) 1 := by decide +kernel
abbrev b16 := jdk_42_method_155_code
theorem d16_0 : DD b16 0 (.iload_n 0) 1 := by decide +kernel
theorem d16_1 : DD b16 1 (.iload_n 1) 1 := by decide +kernel
theorem d16_2 : DD b16 2 (.getstatic 1053) 3 := by decide +kernel
theorem d16_5 : DD b16 5 (.invokestatic 1059) 3 := by decide +kernel
theorem d16_8 : DD b16 8 (.pop) 1 := by decide +kernel
theorem d16_9 : DD b16 9 (.return_) 1 := by decide +kernel
abbrev b17 := jdk_41_method_11_code
theorem d17_0 : DD b17 0 (.iload_n 0) 1 := by decide +kernel
theorem d17_1 : DD b17 1 (.ifCond .lt 8) 3 := by decide +kernel
theorem d17_4 : DD b17 4 (.iload_n 0) 1 := by decide +kernel
theorem d17_5 : DD b17 5 (.iload_n 1) 1 := by decide +kernel
theorem d17_6 : DD b17 6 (.if_icmp .lt 10) 3 := by decide +kernel
theorem d17_16 : DD b17 16 (.iload_n 0) 1 := by decide +kernel
theorem d17_17 : DD b17 17 (.ireturn) 1 := by decide +kernel
abbrev b18 := prog_61_method_4_code
theorem d18_0 : DD b18 0 (.aload_n 0) 1 := by decide +kernel
theorem d18_1 : DD b18 1 (.invokevirtual 38) 3 := by decide +kernel
theorem d18_4 : DD b18 4 (.tableswitch 36 0 4 #[46, 76, 136, 106, 142]) 36 := by decide +kernel
theorem d18_50 : DD b18 50 (.iload_n 1) 1 := by decide +kernel
theorem d18_51 : DD b18 51 (.bipush 39) 2 := by decide +kernel
theorem d18_53 : DD b18 53 (.if_icmp .ne 9) 3 := by decide +kernel
theorem d18_56 : DD b18 56 (.getstatic 7) 3 := by decide +kernel
theorem d18_59 : DD b18 59 (.goto 90) 3 := by decide +kernel
theorem d18_62 : DD b18 62 (.iload_n 1) 1 := by decide +kernel
theorem d18_63 : DD b18 63 (.bipush 34) 2 := by decide +kernel
theorem d18_65 : DD b18 65 (.if_icmp .ne 9) 3 := by decide +kernel
theorem d18_68 : DD b18 68 (.getstatic 13) 3 := by decide +kernel
theorem d18_71 : DD b18 71 (.goto 78) 3 := by decide +kernel
theorem d18_74 : DD b18 74 (.getstatic 3) 3 := by decide +kernel
theorem d18_77 : DD b18 77 (.goto 72) 3 := by decide +kernel
theorem d18_80 : DD b18 80 (.iload_n 1) 1 := by decide +kernel
theorem d18_81 : DD b18 81 (.bipush 92) 2 := by decide +kernel
theorem d18_83 : DD b18 83 (.if_icmp .ne 9) 3 := by decide +kernel
theorem d18_86 : DD b18 86 (.getstatic 10) 3 := by decide +kernel
theorem d18_89 : DD b18 89 (.goto 60) 3 := by decide +kernel
theorem d18_92 : DD b18 92 (.iload_n 1) 1 := by decide +kernel
theorem d18_93 : DD b18 93 (.bipush 39) 2 := by decide +kernel
theorem d18_95 : DD b18 95 (.if_icmp .ne 9) 3 := by decide +kernel
theorem d18_98 : DD b18 98 (.getstatic 3) 3 := by decide +kernel
theorem d18_101 : DD b18 101 (.goto 48) 3 := by decide +kernel
theorem d18_104 : DD b18 104 (.getstatic 7) 3 := by decide +kernel
theorem d18_107 : DD b18 107 (.goto 42) 3 := by decide +kernel
theorem d18_110 : DD b18 110 (.iload_n 1) 1 := by decide +kernel
theorem d18_111 : DD b18 111 (.bipush 92) 2 := by decide +kernel
theorem d18_113 : DD b18 113 (.if_icmp .ne 9) 3 := by decide +kernel
theorem d18_116 : DD b18 116 (.getstatic 16) 3 := by decide +kernel
theorem d18_119 : DD b18 119 (.goto 30) 3 := by decide +kernel
theorem d18_122 : DD b18 122 (.iload_n 1) 1 := by decide +kernel
theorem d18_123 : DD b18 123 (.bipush 34) 2 := by decide +kernel
theorem d18_125 : DD b18 125 (.if_icmp .ne 9) 3 := by decide +kernel
theorem d18_128 : DD b18 128 (.getstatic 3) 3 := by decide +kernel
theorem d18_131 : DD b18 131 (.goto 18) 3 := by decide +kernel
theorem d18_134 : DD b18 134 (.getstatic 13) 3 := by decide +kernel
theorem d18_137 : DD b18 137 (.goto 12) 3 := by decide +kernel
theorem d18_140 : DD b18 140 (.getstatic 7) 3 := by decide +kernel
theorem d18_143 : DD b18 143 (.goto 6) 3 := by decide +kernel
theorem d18_146 : DD b18 146 (.getstatic 13) 3 := by decide +kernel
theorem d18_149 : DD b18 149 (.areturn) 1 := by decide +kernel
abbrev b19 := jdk_37_method_2_code
theorem d19_0 : DD b19 0 (.aload_n 0) 1 := by decide +kernel
theorem d19_1 : DD b19 1 (.getfield 7) 3 := by decide +kernel
theorem d19_4 : DD b19 4 (.ireturn) 1 := by decide +kernel
abbrev b20 := prog_57_method_1_code
theorem d20_0 : DD b20 0 (.aload_n 0) 1 := by decide +kernel
theorem d20_1 : DD b20 1 (.invokespecial 1) 3 := by decide +kernel
theorem d20_4 : DD b20 4 (.aload_n 0) 1 := by decide +kernel
theorem d20_5 : DD b20 5 (.aload_n 1) 1 := by decide +kernel
theorem d20_6 : DD b20 6 (.putfield 7) 3 := by decide +kernel
theorem d20_9 : DD b20 9 (.return_) 1 := by decide +kernel
abbrev b21 := prog_57_method_3_code
theorem d21_0 : DD b21 0 (.aload_n 0) 1 := by decide +kernel
theorem d21_1 : DD b21 1 (.getfield 7) 3 := by decide +kernel
theorem d21_4 : DD b21 4 (.getstatic 41) 3 := by decide +kernel
theorem d21_7 : DD b21 7 (.aaload) 1 := by decide +kernel
theorem d21_8 : DD b21 8 (.iload_n 1) 1 := by decide +kernel
theorem d21_9 : DD b21 9 (.iconst 2) 1 := by decide +kernel
theorem d21_10 : DD b21 10 (.iadd) 1 := by decide +kernel
theorem d21_11 : DD b21 11 (.iaload) 1 := by decide +kernel
theorem d21_12 : DD b21 12 (.istore_n 2) 1 := by decide +kernel
theorem d21_13 : DD b21 13 (.iload_n 2) 1 := by decide +kernel
theorem d21_14 : DD b21 14 (.ifCond .ge 7) 3 := by decide +kernel
theorem d21_17 : DD b21 17 (.iconst (-1)) 1 := by decide +kernel
theorem d21_18 : DD b21 18 (.goto 6) 3 := by decide +kernel
theorem d21_21 : DD b21 21 (.iload_n 2) 1 := by decide +kernel
theorem d21_22 : DD b21 22 (.iconst 1) 1 := by decide +kernel
theorem d21_23 : DD b21 23 (.isub) 1 := by decide +kernel
theorem d21_24 : DD b21 24 (.ireturn) 1 := by decide +kernel
theorem oef0 (m : MethodId) (x0 : Addr) : entryFrame m #[(.ref x0)] 1 = mkF m 0 #[.val (.ref x0)] [] := by first | (simp [entryFrame, mkF, argsToLocals, Value.category]; done) | rfl
theorem oef1 (m : MethodId) (x0 : Addr) (x1 : Int32) : entryFrame m #[(.ref x0), (.int x1)] 2 = mkF m 0 #[.val (.ref x0), .val (.int x1)] [] := by first | (simp [entryFrame, mkF, argsToLocals, Value.category]; done) | rfl
theorem oef2 (m : MethodId) (x0 : Addr) (x1 : Int32) (x2 : Addr) (x3 : Int32) (x4 : Int32) : entryFrame m #[(.ref x0), (.int x1), (.ref x2), (.int x3), (.int x4)] 7 = mkF m 0 #[.val (.ref x0), .val (.int x1), .val (.ref x2), .val (.int x3), .val (.int x4), .unset, .unset] [] := by first | (simp [entryFrame, mkF, argsToLocals, Value.category]; done) | rfl
theorem oef3 (m : MethodId) (x0 : Addr) (x1 : Int32) (x2 : Int32) : entryFrame m #[(.ref x0), (.int x1), (.int x2)] 6 = mkF m 0 #[.val (.ref x0), .val (.int x1), .val (.int x2), .unset, .unset, .unset] [] := by first | (simp [entryFrame, mkF, argsToLocals, Value.category]; done) | rfl
theorem oef4 (m : MethodId) (x0 : Addr) (x1 : Addr) (x2 : Int32) (x3 : Int32) : entryFrame m #[(.ref x0), (.ref x1), (.int x2), (.int x3), .null] 6 = mkF m 0 #[.val (.ref x0), .val (.ref x1), .val (.int x2), .val (.int x3), .val .null, .unset] [] := by first | (simp [entryFrame, mkF, argsToLocals, Value.category]; done) | rfl
theorem oef5 (m : MethodId) (x0 : Addr) (x1 : Addr) : entryFrame m #[(.ref x0), (.ref x1)] 2 = mkF m 0 #[.val (.ref x0), .val (.ref x1)] [] := by first | (simp [entryFrame, mkF, argsToLocals, Value.category]; done) | rfl
theorem oef6 (m : MethodId) (x0 : Int32) (x1 : Int32) (x2 : Value) (hx2 : x2.isRef = true) : entryFrame m #[(.int x0), (.int x1), x2] 3 = mkF m 0 #[.val (.int x0), .val (.int x1), .val x2] [] := by rcases ref_cases hx2 with rfl | ⟨_, rfl⟩ <;> first | (simp [entryFrame, mkF, argsToLocals, Value.category]; done) | rfl
theorem oef7 (m : MethodId) (x0 : Int32) (x1 : Int32) : entryFrame m #[(.int x0), (.int x1)] 2 = mkF m 0 #[.val (.int x0), .val (.int x1)] [] := by first | (simp [entryFrame, mkF, argsToLocals, Value.category]; done) | rfl
theorem oef8 (m : MethodId) (x0 : Int32) : entryFrame m #[(.int x0)] 2 = mkF m 0 #[.val (.int x0), .unset] [] := by first | (simp [entryFrame, mkF, argsToLocals, Value.category]; done) | rfl
theorem oef9 (m : MethodId) (x0 : Int32) (x1 : Int32) : entryFrame m #[(.int x0), (.int x1)] 4 = mkF m 0 #[.val (.int x0), .val (.int x1), .unset, .unset] [] := by first | (simp [entryFrame, mkF, argsToLocals, Value.category]; done) | rfl
theorem oef10 (m : MethodId) (x0 : Addr) : entryFrame m #[(.ref x0)] 10 = mkF m 0 #[.val (.ref x0), .unset, .unset, .unset, .unset, .unset, .unset, .unset, .unset, .unset] [] := by first | (simp [entryFrame, mkF, argsToLocals, Value.category]; done) | rfl
theorem oef11 (m : MethodId) (x0 : Addr) (x1 : Int32) : entryFrame m #[(.ref x0), (.int x1)] 3 = mkF m 0 #[.val (.ref x0), .val (.int x1), .unset] [] := by first | (simp [entryFrame, mkF, argsToLocals, Value.category]; done) | rfl
theorem oef12 (m : MethodId) (x0 : Int32) (x1 : Int32) (x2 : Int32) (x3 : Int32) (x4 : Int32) (x5 : Int32) : entryFrame m #[(.int x0), (.int x1), (.int x2), (.int x3), (.int x4), (.int x5)] maxLocals = mkF m 0 #[.val (.int x0), .val (.int x1), .val (.int x2), .val (.int x3), .val (.int x4), .val (.int x5), .unset, .unset, .unset, .unset, .unset, .unset] [] := by first | (simp [entryFrame, mkF, argsToLocals, Value.category, maxLocals]; done) | rfl
theorem opn_0 : plainFor x = true := plainFor_of_name (by first | (simp [plainName, overriddenIn]; done) | decide +kernel)
theorem opn_1 : plainFor (⟨"com/example/nitpick/nitpick/internal/interpolation/ExpressionEndsOfPinLaw", "pick", "(I)C"⟩ : MethodName) = true := plainFor_of_name (by first | (simp [plainName, overriddenIn]; done) | decide +kernel)
theorem opn_2 : plainFor (⟨"java/lang/String", "<init>", "([C)V"⟩ : MethodName) = true := plainFor_of_name (by first | (simp [plainName, overriddenIn]; done) | decide +kernel)
theorem opn_3 : plainFor (⟨"java/lang/String", "<init>", "([CIILjava/lang/Void;)V"⟩ : MethodName) = true := plainFor_of_name (by first | (simp [plainName, overriddenIn]; done) | decide +kernel)
theorem opn_5 : plainFor (⟨"java/lang/StringUTF16", "compress", "([CII)[B"⟩ : MethodName) = true := plainFor_of_name (by first | (simp [plainName, overriddenIn]; done) | decide +kernel)
theorem opn_6 : plainFor (⟨"java/lang/StringUTF16", "compress", "([CI[BII)I"⟩ : MethodName) = true := plainFor_of_name (by first | (simp [plainName, overriddenIn]; done) | decide +kernel)
theorem opn_7 : plainFor (⟨"java/lang/StringUTF16", "coderFromArrayLen", "([BI)B"⟩ : MethodName) = true := plainFor_of_name (by first | (simp [plainName, overriddenIn]; done) | decide +kernel)
theorem opn_8 : plainFor (⟨"com/example/nitpick/nitpick/internal/interpolation/ExpressionEndsOfPinLaw", "closes", "(IC)Z"⟩ : MethodName) = true := plainFor_of_name (by first | (simp [plainName, overriddenIn]; done) | decide +kernel)
theorem opn_9 : plainFor (⟨"com/example/nitpick/nitpick/internal/interpolation/ExpressionEndsOfPinLaw", "step", "(IC)I"⟩ : MethodName) = true := plainFor_of_name (by first | (simp [plainName, overriddenIn]; done) | decide +kernel)
theorem opn_10 : plainFor (⟨"com/example/nitpick/nitpick/internal/interpolation/ExpressionEnds", "of", "(Ljava/lang/String;)Lcom/example/nitpick/nitpick/internal/interpolation/ExpressionEnds;"⟩ : MethodName) = true := plainFor_of_name (by first | (simp [plainName, overriddenIn]; done) | decide +kernel)
theorem opn_11 : plainFor (⟨"java/lang/String", "length", "()I"⟩ : MethodName) = true := plainFor_of_name (by first | (simp [plainName, overriddenIn]; done) | decide +kernel)
theorem opn_12 : plainFor (⟨"java/lang/String", "coder", "()B"⟩ : MethodName) = true := plainFor_of_name (by first | (simp [plainName, overriddenIn]; done) | decide +kernel)
theorem opn_13 : plainFor (⟨"java/lang/String", "charAt", "(I)C"⟩ : MethodName) = true := plainFor_of_name (by first | (simp [plainName, overriddenIn]; done) | decide +kernel)
theorem opn_14 : plainFor (⟨"java/lang/String", "isLatin1", "()Z"⟩ : MethodName) = true := plainFor_of_name (by first | (simp [plainName, overriddenIn]; done) | decide +kernel)
theorem opn_15 : plainFor (⟨"java/lang/StringLatin1", "charAt", "([BI)C"⟩ : MethodName) = true := plainFor_of_name (by first | (simp [plainName, overriddenIn]; done) | decide +kernel)
theorem opn_16 : plainFor (⟨"java/lang/String", "checkIndex", "(II)V"⟩ : MethodName) = true := plainFor_of_name (by first | (simp [plainName, overriddenIn]; done) | decide +kernel)
theorem opn_17 : plainFor (⟨"jdk/internal/util/Preconditions", "checkIndex", "(IILjava/util/function/BiFunction;)I"⟩ : MethodName) = true := plainFor_of_name (by first | (simp [plainName, overriddenIn]; done) | decide +kernel)
theorem opn_18 : plainFor (⟨"com/example/nitpick/nitpick/internal/interpolation/ExpressionLiterals$Quoting", "next", "(C)Lcom/example/nitpick/nitpick/internal/interpolation/ExpressionLiterals$Quoting;"⟩ : MethodName) = true := plainFor_of_name (by first | (simp [plainName, overriddenIn]; done) | decide +kernel)
theorem opn_19 : plainFor (⟨"java/lang/Enum", "ordinal", "()I"⟩ : MethodName) = true := plainFor_of_name (by first | (simp [plainName, overriddenIn]; done) | decide +kernel)
theorem opn_20 : plainFor (⟨"com/example/nitpick/nitpick/internal/interpolation/ExpressionEnds", "<init>", "([[I)V"⟩ : MethodName) = true := plainFor_of_name (by first | (simp [plainName, overriddenIn]; done) | decide +kernel)
theorem opn_21 : plainFor (⟨"com/example/nitpick/nitpick/internal/interpolation/ExpressionEnds", "endOf", "(I)I"⟩ : MethodName) = true := plainFor_of_name (by first | (simp [plainName, overriddenIn]; done) | decide +kernel)
def HSL (x : Slot) : Prop := x = .unset ∨ (∃ v : Int32, x = .val (.int v)) ∨ (∃ a : Addr, x = .val (.ref a))
theorem own_nb (x : Int32) : nar .byte (x.toInt8.toInt32) = x.toInt8.toInt32 := by
 show x.toInt8.toInt32.toInt8.toInt32 = x.toInt8.toInt32
 simp
theorem own_strarr {Z : State} {h : Heap} {a b : Addr} {C : String} {k : ClassId} {ty : FieldType} {z : Int32} {vs : List Value} {dv : Value} {a0 : Array Value} {n : Nat} (E : Exa Z h a C) (A : Arv Z h b k ty z vs dv) (w : (Cond.instantiable C n).before a0 Z = true) (q : a = b) : False := by
 obtain ⟨cl, A, -⟩ := A
 exact ne_arr E w A q
theorem own_ne0 {args : Array Value} {s : State} {t : Term} {x : Int32} (e : t.eval args s none [] s = some (.int x)) (h : (Cond.not (Cond.eq t (Term.int 0))).value args s none s [] = some true) : ¬ x = 0 := by
 have h := not_v h
 simp only [Cond.value, Term.eval, e] at h
 simpa using h
theorem own_byte {c : Int32} (h : 0 ≤ c.toInt ∧ c.toInt ≤ 255) : ∃ n : Fin 256, c = Int32.ofNat n.val := by
 refine ⟨⟨c.toInt.toNat, by omega⟩, ?_⟩
 apply Int32.toInt_inj.mp
 rw [Int32.toInt_ofNat_of_lt (by omega)]
 show c.toInt = ((c.toInt.toNat : Nat) : Int)
 omega
theorem own_ch {c : Int32} (h : 0 ≤ c.toInt ∧ c.toInt ≤ 255) : nar .char ((c.toInt8.toInt32 &&& 255).toUInt32.toUInt16.toUInt32.toInt32) = c := by
 obtain ⟨n, rfl⟩ := own_byte h
 revert n; decide +kernel
theorem own_nc {c : Int32} (h : 0 ≤ c.toInt ∧ c.toInt ≤ 255) : nar .char c = c := by
 obtain ⟨n, rfl⟩ := own_byte h
 revert n; decide +kernel
theorem own_shr0 (x : Int32) : x >>> ((0 : Int32) &&& 31) = x := by
 have h := c_ishr x 0 0 (by decide)
 apply Int32.toInt_inj.mp
 rw [h]; simp
theorem own_le255 {c : Int32} (h : 0 ≤ c.toInt ∧ c.toInt ≤ 255) : ¬ (255 : Int32) < c := by
 rw [Int32.lt_iff_toInt_lt]
 have e : (255 : Int32).toInt = 255 := by decide
 omega
theorem own_arvstart {s : State} {args : Array Value} {t : Term} {a : Addr} {cl : Cell} {ty : FieldType} {z : Int32} {vs : List Value} {dv : Value} (hf : Fit s) (ev : t.eval args s none [] s = some (.ref a)) (A : Arr s s.heap a cl ty) (hl : (Term.length t).eval args s none [] s = some (.int z)) (hz : ¬ z < 0) (hn : z.toNatClampNeg = vs.length) (H : HasL cl 0 vs) : Arv s s.heap a cl.cls ty z vs dv := by
 obtain ⟨a', cell, e1, e2, e3, e4⟩ := Jvm.Free.SB.Term.length_small hl
 cases ev.symm.trans e1
 cases (Arr.fin (Vm.Alike.refl _) A).symm.trans e2
 exact Arv.start hf A e4 (Value.int.inj e3).symm hz hn H
theorem own_elem {s : State} {args : Array Value} {t u : Term} {a b : Addr} {cl : Cell} {ty : FieldType} {j : Int32} {k : Nat} (ev : t.eval args s none [] s = some (.ref a)) (A : Arr s s.heap a cl ty) (eu : u.eval args s none [] s = some (.ref b)) (h : (Cond.eq (Term.elem t (Term.int j)) u).value args s none s [] = some true) (hj : j.toNatClampNeg = k) : cl.slots[k]? = some (.ref b) := by
 subst hj
 obtain ⟨x, y, e1, e2, -, -⟩ := cmp_v (Or.inl h)
 cases eu.symm.trans e2
 have hx : x = .ref b := by
  have h' := h
  simp only [Cond.value, e1, e2] at h'
  cases x <;> simp at h' ⊢
  exact h'
 subst hx
 exact (elem_in e1 ev (Term.int_eval j) A.1).2
def own_nx (q : Nat) (c : Int32) : Nat :=
 if q = 0 then (if c = 39 then 1 else if c = 34 then 3 else 0) else if q = 1 then (if c = 92 then 2 else if c = 39 then 0 else 1) else if q = 2 then 1 else if q = 3 then (if c = 92 then 4 else if c = 34 then 0 else 3) else 3
/-- the table, k columns filled: column j of row q (N columns and the last, -1) -/
def own_tab (f : Nat → Int32) (N : Nat) : Nat → Nat → Nat → Int
  | 0 => fun _ _ => -1
  | k + 1 => fun q j => if j = N - (k + 1) then
      (if q = 0 ∧ f j = 125 then (j : Int) + 1 else if q = 0 ∧ f j = 123 ∧ 0 ≤ own_tab f N k 0 (j + 1) then own_tab f N k 0 (own_tab f N k 0 (j + 1)).toNat else own_tab f N k (own_nx q (f j)) (j + 1))
    else own_tab f N k q j
/-- the law's own walk: k chars left, quoting q, depth d -/
def own_sim (f : Nat → Int32) (N : Nat) : Nat → Nat → Nat → Int
  | 0, _, _ => -1
  | k + 1, q, d => if q = 0 ∧ d = 0 ∧ f (N - (k + 1)) = 125 then ((N - (k + 1) : Nat) : Int)
      else own_sim f N k (own_nx q (f (N - (k + 1)))) (if q = 0 then (if f (N - (k + 1)) = 125 then d - 1 else if f (N - (k + 1)) = 123 then d + 1 else d) else d)
theorem own_rng (f : Nat → Int32) (N : Nat) : ∀ k, k ≤ N → ∀ q j, N - k ≤ j → own_tab f N k q j < 0 ∨ ((j : Int) < own_tab f N k q j ∧ own_tab f N k q j ≤ N)
  | 0, _, q, j, _ => Or.inl (by simp [own_tab])
  | k + 1, hk, q, j, hj => by
    have ih := own_rng f N k (by omega)
    simp only [own_tab]
    split
    · rename_i e
      split
      · exact Or.inr ⟨by omega, by omega⟩
      · split
        · rename_i h
          have a := ih 0 (j + 1) (by omega)
          have b := ih 0 (own_tab f N k 0 (j + 1)).toNat (by omega)
          omega
        · have a := ih (own_nx q (f j)) (j + 1) (by omega)
          omega
    · exact ih q j (by omega)
theorem own_stab (f : Nat → Int32) (N : Nat) (k : Nat) (hk : k + 1 ≤ N) (q j : Nat) (hj : N - k ≤ j) : own_tab f N (k + 1) q j = own_tab f N k q j := by
 simp only [own_tab]; rw [if_neg (by omega)]
theorem own_stabs (f : Nat → Int32) (N k' : Nat) (q j : Nat) (hj : N - k' ≤ j) : ∀ m, k' + m ≤ N → own_tab f N (k' + m) q j = own_tab f N k' q j
  | 0, _ => rfl
  | m + 1, h => by
    rw [show k' + (m + 1) = (k' + m) + 1 by omega, own_stab f N (k' + m) (by omega) q j (by omega)]
    exact own_stabs f N k' q j hj m (by omega)
theorem own_key (f : Nat → Int32) (N : Nat) : ∀ n k, k ≤ n → k ≤ N → ∀ q d, own_sim f N k q d = if own_tab f N k q (N - k) < 0 then -1 else if d = 0 then own_tab f N k q (N - k) - 1 else own_sim f N (N - (own_tab f N k q (N - k)).toNat) 0 (d - 1)
  | _, 0, _, _, q, d => by simp [own_sim, own_tab]
  | 0, k + 1, h, _, _, _ => absurd h (by omega)
  | n + 1, k + 1, hn, hk, q, d => by
    have ih := own_key f N n
    have hi : N - (k + 1) + 1 = N - k := by omega
    have hT : own_tab f N (k + 1) q (N - (k + 1)) = (if q = 0 ∧ f (N - (k + 1)) = 125 then ((N - (k + 1) : Nat) : Int) + 1 else if q = 0 ∧ f (N - (k + 1)) = 123 ∧ 0 ≤ own_tab f N k 0 (N - k) then own_tab f N k 0 (own_tab f N k 0 (N - k)).toNat else own_tab f N k (own_nx q (f (N - (k + 1)))) (N - k)) := by
      simp only [own_tab, hi]; rw [if_pos trivial]
    rw [hT]
    generalize hc : f (N - (k + 1)) = c at *
    simp only [own_sim, hc]
    by_cases h1 : q = 0 ∧ c = 125
    · obtain ⟨rfl, rfl⟩ := h1
      by_cases hd : d = 0
      · subst hd; simp; omega
      · simp [hd, own_nx]
        rw [if_neg (by omega), show N - (N - (k + 1) + 1) = k by omega]
    · by_cases h2 : q = 0 ∧ c = 123
      · obtain ⟨rfl, rfl⟩ := h2
        have a := ih k (by omega) (by omega) 0 (d + 1)
        have r := own_rng f N k (by omega) 0 (N - k) (by omega)
        have nx : own_nx 0 123 = 0 := by decide
        simp [nx]
        rw [a]
        by_cases hv : own_tab f N k 0 (N - k) < 0
        · rw [if_pos hv, if_neg (show ¬ 0 ≤ own_tab f N k 0 (N - k) by omega), if_pos hv]
        · rw [if_neg hv, if_neg (show ¬ d + 1 = 0 by omega), if_pos (show 0 ≤ own_tab f N k 0 (N - k) by omega), Nat.add_sub_cancel]
          generalize own_tab f N k 0 (N - k) = v at *
          have b := ih (N - v.toNat) (by omega) (by omega) 0 d
          rw [show N - (N - v.toNat) = v.toNat by omega] at b
          have s := own_stabs f N (N - v.toNat) 0 v.toNat (by omega) (k - (N - v.toNat)) (by omega)
          rw [show N - v.toNat + (k - (N - v.toNat)) = k by omega] at s
          rw [b, ← s]
      · have a := ih k (by omega) (by omega) (own_nx q c) d
        have hdd : (if q = 0 then (if c = 125 then d - 1 else if c = 123 then d + 1 else d) else d) = d := by
          by_cases hq : q = 0
          · rw [if_pos hq, if_neg (fun e => h1 ⟨hq, e⟩), if_neg (fun e => h2 ⟨hq, e⟩)]
          · rw [if_neg hq]
        have n1 : ¬ (q = 0 ∧ d = 0 ∧ c = 125) := fun h => h1 ⟨h.1, h.2.2⟩
        have n2 : ¬ (q = 0 ∧ c = 123 ∧ 0 ≤ own_tab f N k 0 (N - k)) := fun h => h2 ⟨h.1, h.2.1⟩
        rw [if_neg n1, hdd, if_neg h1, if_neg n2, a]
def own_f (ds : List Int32) (j : Nat) : Int32 := ds.getD j 0
def own_e (f : Nat → Int32) (k q j : Nat) : Int32 := Int32.ofInt (own_tab f 7 k q j)
def own_row (f : Nat → Int32) (k q : Nat) : List Value := (List.range 8).map fun j => .int (if j < 7 - k then 0 else own_e f k q j)
theorem own_row0 (f : Nat → Int32) (q : Nat) : own_row f 0 q = [(.int 0), (.int 0), (.int 0), (.int 0), (.int 0), (.int 0), (.int 0), (.int (-1))] := rfl
theorem own_get (f : Nat → Int32) {k q j : Nat} {z : Int32} (hz : z.toNatClampNeg = j) (h1 : 7 - k ≤ j) (h2 : j ≤ 7) : (own_row f k q).getD z.toNatClampNeg (.int 0) = .int (own_e f k q j) := by
 rw [hz]; simp only [own_row, List.getD_eq_getElem?_getD, List.getElem?_map]
 rw [List.getElem?_range (by omega)]
 simp only [Option.map_some, Option.getD_some]
 rw [if_neg (by omega)]
theorem own_rlen (f : Nat → Int32) (k q : Nat) : (own_row f k q).length = 8 := by simp [own_row]
theorem own_setr (f : Nat → Int32) {k q : Nat} {z : Int32} (hk : k < 7) (hz : z = own_e f (k + 1) q (6 - k)) : (own_row f k q).set (6 - k) (.int z) = own_row f (k + 1) q := by
  subst hz
  apply List.ext_getElem?
  intro j
  rw [List.getElem?_set, own_rlen]
  by_cases hj : j < 8
  · simp only [own_row, List.getElem?_map, List.getElem?_range hj, Option.map_some]
    by_cases e : 6 - k = j
    · subst e
      rw [if_pos rfl, if_pos (by omega), if_neg (by omega)]
    · rw [if_neg e]
      by_cases a : j < 7 - k
      · rw [if_pos a, if_pos (by omega)]
      · rw [if_neg a, if_neg (by omega)]; unfold own_e; rw [own_stab f 7 k (by omega) q j (by omega)]
  · rw [if_neg (by omega), List.getElem?_eq_none (by rw [own_rlen]; omega), List.getElem?_eq_none (by rw [own_rlen]; omega)]
theorem own_lo (f : Nat → Int32) : ∀ k q j, -1 ≤ own_tab f 7 k q j
  | 0, q, j => by simp [own_tab]
  | k + 1, q, j => by
    have ih := own_lo f k
    simp only [own_tab]
    split
    · split
      · omega
      · split
        · exact ih _ _
        · exact ih _ _
    · exact ih _ _
theorem own_et (f : Nat → Int32) {k q j : Nat} (hk : k ≤ 7) (h1 : 7 - k ≤ j) (h2 : j ≤ 7) : (own_e f k q j).toInt = own_tab f 7 k q j := by
 have a := own_lo f k q j
 have b := own_rng f 7 k hk q j h1
 have e : Int32.size = 4294967296 := by decide
 unfold own_e
 rw [Int32.toInt_ofInt, e, Int.bmod_eq_of_le] <;> omega
theorem own_t0 : (0 : Int32).toInt = 0 := by decide
theorem own_ix {ii : Int32} {k : Nat} (hi : ii.toInt = 6 - (k : Int)) (hk : k < 7) : (¬ ii < 0 ∧ ii < 8) ∧ (¬ ii < 0 ∧ ii < 7) ∧ ii.toNatClampNeg = 6 - k := by
 have e8 : (8 : Int32).toInt = 8 := by decide
 have e7 : (7 : Int32).toInt = 7 := by decide
 simp only [Int32.lt_iff_toInt_lt, own_t0, e8, e7]
 unfold Int32.toNatClampNeg
 omega
theorem own_ix1 {ii : Int32} {k : Nat} (hi : ii.toInt = 6 - (k : Int)) (hk : k < 7) : (¬ (ii + 1) < 0 ∧ (ii + 1) < 8) ∧ (ii + 1).toNatClampNeg = 7 - k ∧ (ii + 1).toInt = 7 - (k : Int) := by
 have e8 : (8 : Int32).toInt = 8 := by decide
 have e1 : (1 : Int32).toInt = 1 := by decide
 have a := c_iadd ii 1
 have r := rng32 (ii + 1)
 rw [e1] at a
 simp only [Int32.lt_iff_toInt_lt, own_t0, e8]
 unfold Int32.toNatClampNeg
 omega
theorem own_ixm {ii : Int32} {k : Nat} (hi : ii.toInt = 6 - (k : Int)) (hk : k < 7) : (ii + (-1)).toInt = 6 - ((k + 1 : Nat) : Int) := by
 have e1 : (-1 : Int32).toInt = -1 := by decide
 have a := c_iadd ii (-1)
 have r := rng32 (ii + (-1))
 rw [e1] at a
 omega
theorem own_ixz {ii : Int32} {k : Nat} (hi : ii.toInt = 6 - (k : Int)) (hk : 0 + k = 7) : ii < 0 := by
 rw [Int32.lt_iff_toInt_lt, own_t0]; omega
theorem own_tS (f : Nat → Int32) {k q : Nat} (hk : k < 7) : own_tab f 7 (k + 1) q (6 - k) = (if q = 0 ∧ f (6 - k) = 125 then ((6 - k : Nat) : Int) + 1 else if q = 0 ∧ f (6 - k) = 123 ∧ 0 ≤ own_tab f 7 k 0 (7 - k) then own_tab f 7 k 0 (own_tab f 7 k 0 (7 - k)).toNat else own_tab f 7 k (own_nx q (f (6 - k))) (7 - k)) := by
 have e : 6 - k + 1 = 7 - k := by omega
 have e2 : 7 - (k + 1) = 6 - k := by omega
 simp only [own_tab, e, e2]; rw [if_pos trivial]
/-- a column by the next row (not yet filled at this place) -/
theorem own_eA (f : Nat → Int32) {k q r : Nat} {cc : Int32} (hk : k < 7) (hc : f (6 - k) = cc) (h1 : ¬ (q = 0 ∧ cc = 125)) (h2 : ¬ (q = 0 ∧ cc = 123)) (hr : own_nx q cc = r) : own_e f k r (7 - k) = own_e f (k + 1) q (6 - k) := by
 subst hc hr; unfold own_e; rw [own_tS f hk, if_neg h1, if_neg (fun z => h2 ⟨z.1, z.2.1⟩)]
theorem own_eB (f : Nat → Int32) {k r : Nat} (hk : k < 7) : own_e f (k + 1) r (7 - k) = own_e f k r (7 - k) := by
 unfold own_e; rw [own_stab f 7 k (by omega) r (7 - k) (by omega)]
theorem own_eC (f : Nat → Int32) {k : Nat} {ii : Int32} (hk : k < 7) (hc : f (6 - k) = 125) (hi : ii.toInt = 6 - (k : Int)) : ii + 1 = own_e f (k + 1) 0 (6 - k) := by
 apply Int32.toInt_inj.mp
 rw [own_et f (by omega) (by omega) (by omega), own_tS f hk, if_pos ⟨rfl, hc⟩, (own_ix1 hi hk).2.2]
 omega
theorem own_eD (f : Nat → Int32) {k : Nat} (hk : k < 7) (hc : f (6 - k) = 123) (hv : own_e f k 0 (7 - k) < 0) : own_e f k 0 (7 - k) = own_e f (k + 1) 0 (6 - k) := by
 have e := own_et f (k := k) (q := 0) (j := 7 - k) (by omega) (by omega) (by omega)
 rw [Int32.lt_iff_toInt_lt, own_t0, e] at hv
 unfold own_e
 rw [own_tS f hk, if_neg (fun z => by rw [hc] at z; exact absurd z.2 (by decide)), if_neg (fun z => by omega), hc]
 rfl
theorem own_eE (f : Nat → Int32) {k : Nat} (hk : k < 7) (hv : ¬ own_e f k 0 (7 - k) < 0) : (¬ own_e f k 0 (7 - k) < 0 ∧ own_e f k 0 (7 - k) < 8) ∧ (own_e f k 0 (7 - k)).toNatClampNeg = (own_tab f 7 k 0 (7 - k)).toNat ∧ 7 - k ≤ (own_tab f 7 k 0 (7 - k)).toNat ∧ (own_tab f 7 k 0 (7 - k)).toNat ≤ 7 ∧ 0 ≤ own_tab f 7 k 0 (7 - k) := by
 have e := own_et f (k := k) (q := 0) (j := 7 - k) (by omega) (by omega) (by omega)
 have b := own_rng f 7 k (by omega) 0 (7 - k) (by omega)
 have e8 : (8 : Int32).toInt = 8 := by decide
 simp only [Int32.lt_iff_toInt_lt, own_t0, e8] at hv ⊢
 unfold Int32.toNatClampNeg
 rw [e] at hv ⊢
 omega
theorem own_eF (f : Nat → Int32) {k : Nat} (hk : k < 7) (hc : f (6 - k) = 123) (hv : 0 ≤ own_tab f 7 k 0 (7 - k)) : own_e f k 0 (own_tab f 7 k 0 (7 - k)).toNat = own_e f (k + 1) 0 (6 - k) := by
 unfold own_e
 rw [own_tS f hk, if_neg (fun z => by rw [hc] at z; exact absurd z.2 (by decide)), if_pos ⟨rfl, hc, hv⟩]
theorem own_fv (ds : List Int32) {z : Int32} {j : Nat} (hz : z.toNatClampNeg = j) (hj : j < ds.length) : (ds.map fun d => Value.int d.toInt8.toInt32).getD z.toNatClampNeg (.int 0) = .int (own_f ds j).toInt8.toInt32 := by
 rw [hz]; simp only [own_f, List.getD_eq_getElem?_getD, List.getElem?_map, List.getElem?_eq_getElem hj, Option.map_some, Option.getD_some]
theorem own_fb (ds : List Int32) (h : ∀ d ∈ ds, 0 ≤ d.toInt ∧ d.toInt ≤ 255) {j : Nat} (hj : j < ds.length) : 0 ≤ (own_f ds j).toInt ∧ (own_f ds j).toInt ≤ 255 := by
 simp only [own_f, List.getD_eq_getElem?_getD, List.getElem?_eq_getElem hj, Option.getD_some]
 exact h _ (List.getElem_mem hj)
theorem own_c0 (z : Int32) : z = 39 ∨ z = 34 ∨ z = 125 ∨ z = 123 ∨ (¬ z = 39 ∧ ¬ z = 34 ∧ ¬ z = 125 ∧ ¬ z = 123) := by
  by_cases h1 : z = 39
  · exact Or.inl h1
  by_cases h2 : z = 34
  · exact Or.inr (Or.inl h2)
  by_cases h3 : z = 125
  · exact Or.inr (Or.inr (Or.inl h3))
  by_cases h4 : z = 123
  · exact Or.inr (Or.inr (Or.inr (Or.inl h4)))
  exact Or.inr (Or.inr (Or.inr (Or.inr ⟨h1, h2, h3, h4⟩)))
theorem own_c1 (a b z : Int32) : z = a ∨ z = b ∨ (¬ z = a ∧ ¬ z = b) := by
  by_cases h1 : z = a
  · exact Or.inl h1
  by_cases h2 : z = b
  · exact Or.inr (Or.inl h2)
  exact Or.inr (Or.inr ⟨h1, h2⟩)
/-- endOf's answer -/
theorem own_dd {dd : Int32} (h : 0 ≤ dd.toInt ∧ dd.toInt < 6) : ∃ sn : Nat, (¬ (dd + 2) < 0 ∧ (dd + 2) < 8) ∧ (dd + 2).toNatClampNeg = sn ∧ (dd + 2).toInt = sn ∧ 2 ≤ sn ∧ sn ≤ 7 := by
 have e8 : (8 : Int32).toInt = 8 := by decide
 have e2 : (2 : Int32).toInt = 2 := by decide
 have a := c_iadd dd 2
 have r := rng32 (dd + 2)
 rw [e2] at a
 refine ⟨(dd + 2).toInt.toNat, ?_⟩
 simp only [Int32.lt_iff_toInt_lt, own_t0, e8]
 unfold Int32.toNatClampNeg
 omega
/-- the law's own walk -/
def own_enc (q d : Nat) : Int32 := Int32.ofNat (q + 8 * d)
abbrev own_hi (x : Int32) : Int32 := ((x.toUInt32 >>> ((3 : Int32) &&& 31).toUInt32).toInt32)
def own_cl (x c : Int32) : Int32 := if (x &&& (7 : Int32)) = (0 : Int32) then (if own_hi x = (0 : Int32) then (if c = (125 : Int32) then 1 else 0) else 0) else 0
def own_sh (q d : Int32) : Int32 := q + (d <<< ((3 : Int32) &&& 31))
def own_stp (x c : Int32) : Int32 :=
 if (x &&& (7 : Int32)) = (0 : Int32) then (if c = (125 : Int32) then own_sh (x &&& 7) (own_hi x - 1) else if c = (123 : Int32) then own_sh (x &&& 7) (own_hi x + 1) else if c = (39 : Int32) then own_sh 1 (own_hi x) else if c = (34 : Int32) then own_sh 3 (own_hi x) else own_sh (x &&& 7) (own_hi x))
 else if (x &&& (7 : Int32)) = (1 : Int32) then (if c = (92 : Int32) then own_sh 2 (own_hi x) else if c = (39 : Int32) then own_sh 0 (own_hi x) else own_sh (x &&& 7) (own_hi x))
 else if (x &&& (7 : Int32)) = (2 : Int32) then own_sh 1 (own_hi x)
 else if (x &&& (7 : Int32)) = (3 : Int32) then (if c = (92 : Int32) then own_sh 4 (own_hi x) else if c = (34 : Int32) then own_sh 0 (own_hi x) else own_sh (x &&& 7) (own_hi x))
 else own_sh 3 (own_hi x)
theorem own_enc1 {q d : Nat} (hq : q < 5) (hd : d < 8) : (own_enc q d &&& 7) = Int32.ofNat q ∧ own_hi (own_enc q d) = Int32.ofNat d ∧ own_sh (Int32.ofNat q) (Int32.ofNat d) = own_enc q d := by
 have h : ∀ (q : Fin 5) (d : Fin 8), (own_enc q d &&& 7) = Int32.ofNat q ∧ own_hi (own_enc q d) = Int32.ofNat d ∧ own_sh (Int32.ofNat q) (Int32.ofNat d) = own_enc q d := by decide
 exact h ⟨q, hq⟩ ⟨d, hd⟩
theorem own_enc2 {d : Nat} (hd : d < 7) : own_sh 0 (Int32.ofNat (d + 1) - 1) = own_enc 0 d ∧ own_sh 0 (Int32.ofNat d + 1) = own_enc 0 (d + 1) ∧ ¬ Int32.ofNat (d + 1) = 0 := by
 have h : ∀ (d : Fin 7), own_sh 0 (Int32.ofNat (d + 1) - 1) = own_enc 0 d ∧ own_sh 0 (Int32.ofNat d + 1) = own_enc 0 (d + 1) ∧ ¬ Int32.ofNat (d + 1) = 0 := by decide
 exact h ⟨d, hd⟩
theorem own_cl1 {q d : Nat} {c : Int32} (hq : q < 5) (hd : d < 8) : own_cl (own_enc q d) c = if q = 0 ∧ d = 0 ∧ c = 125 then 1 else 0 := by
  have h : ∀ (q : Fin 5) (d : Fin 8), ((own_enc q d &&& 7) = 0 ↔ (q : Nat) = 0) ∧ (own_hi (own_enc q d) = 0 ↔ (d : Nat) = 0) := by decide
  have e := h ⟨q, hq⟩ ⟨d, hd⟩
  unfold own_cl
  by_cases a : q = 0
  · rw [if_pos (e.1.mpr a)]
    by_cases b : d = 0
    · rw [if_pos (e.2.mpr b)]; simp [a, b]
    · rw [if_neg (fun z => b (e.2.mp z))]; simp [b]
  · rw [if_neg (fun z => a (e.1.mp z))]; simp [a]
theorem own_stp1 {q d : Nat} {c : Int32} (hq : q < 5) (hd : d < 7) (hn : ¬ (q = 0 ∧ d = 0 ∧ c = 125)) : own_stp (own_enc q d) c = own_enc (own_nx q c) (if q = 0 then (if c = 125 then d - 1 else if c = 123 then d + 1 else d) else d) := by
  obtain ⟨e1, e2, e3⟩ := own_enc1 hq (show d < 8 by omega)
  have sh : ∀ r, r < 5 → own_sh (Int32.ofNat r) (Int32.ofNat d) = own_enc r d := fun r hr => (own_enc1 hr (show d < 8 by omega)).2.2
  have s0 := sh 0 (by omega); have s1 := sh 1 (by omega); have s2 := sh 2 (by omega); have s3 := sh 3 (by omega); have s4 := sh 4 (by omega)
  have qs : q = 0 ∨ q = 1 ∨ q = 2 ∨ q = 3 ∨ q = 4 := by omega
  rcases qs with rfl | rfl | rfl | rfl | rfl
  · show _ = own_enc (if c = 39 then 1 else if c = 34 then 3 else 0) (if c = 125 then d - 1 else if c = 123 then d + 1 else d)
    unfold own_stp
    rw [e1, e2, if_pos (show Int32.ofNat 0 = 0 from rfl)]
    by_cases a : c = 125
    · rw [if_pos a, if_neg (show ¬ c = 39 by rw [a]; decide), if_neg (show ¬ c = 34 by rw [a]; decide), if_pos a]
      have d0 : d ≠ 0 := fun z => hn ⟨rfl, z, a⟩
      obtain ⟨d', rfl⟩ : ∃ d', d = d' + 1 := ⟨d - 1, by omega⟩
      exact (own_enc2 (d := d') (by omega)).1
    · rw [if_neg a]
      by_cases b : c = 123
      · rw [if_pos b, if_neg (show ¬ c = 39 by rw [b]; decide), if_neg (show ¬ c = 34 by rw [b]; decide), if_neg a, if_pos b]
        exact (own_enc2 (d := d) (by omega)).2.1
      · rw [if_neg b, if_neg a, if_neg b]
        by_cases x : c = 39
        · rw [if_pos x, if_pos x]; exact s1
        · rw [if_neg x, if_neg x]
          by_cases y : c = 34
          · rw [if_pos y, if_pos y]; exact s3
          · rw [if_neg y, if_neg y]; exact s0
  · show _ = own_enc (if c = 92 then 2 else if c = 39 then 0 else 1) d
    unfold own_stp
    rw [e1, e2, if_neg (show ¬ Int32.ofNat 1 = 0 by decide), if_pos (show Int32.ofNat 1 = 1 from rfl)]
    by_cases x : c = 92
    · rw [if_pos x, if_pos x]; exact s2
    · rw [if_neg x, if_neg x]
      by_cases y : c = 39
      · rw [if_pos y, if_pos y]; exact s0
      · rw [if_neg y, if_neg y]; exact s1
  · show _ = own_enc 1 d
    unfold own_stp
    rw [e1, e2, if_neg (show ¬ Int32.ofNat 2 = 0 by decide), if_neg (show ¬ Int32.ofNat 2 = 1 by decide), if_pos (show Int32.ofNat 2 = 2 from rfl)]; exact s1
  · show _ = own_enc (if c = 92 then 4 else if c = 34 then 0 else 3) d
    unfold own_stp
    rw [e1, e2, if_neg (show ¬ Int32.ofNat 3 = 0 by decide), if_neg (show ¬ Int32.ofNat 3 = 1 by decide), if_neg (show ¬ Int32.ofNat 3 = 2 by decide), if_pos (show Int32.ofNat 3 = 3 from rfl)]
    by_cases x : c = 92
    · rw [if_pos x, if_pos x]; exact s4
    · rw [if_neg x, if_neg x]
      by_cases y : c = 34
      · rw [if_pos y, if_pos y]; exact s0
      · rw [if_neg y, if_neg y]; exact s3
  · show _ = own_enc 3 d
    unfold own_stp
    rw [e1, e2, if_neg (show ¬ Int32.ofNat 4 = 0 by decide), if_neg (show ¬ Int32.ofNat 4 = 1 by decide), if_neg (show ¬ Int32.ofNat 4 = 2 by decide), if_neg (show ¬ Int32.ofNat 4 = 3 by decide)]; exact s3
theorem own_nxb (q : Nat) (c : Int32) : own_nx q c < 5 := by
 unfold own_nx; repeat' split
 all_goals decide
def own_P (f : Nat → Int32) (s i : Nat) (x ans : Int32) : Prop :=
 (ans = -1 ∧ ∃ q d, q < 5 ∧ d < i ∧ x = own_enc q d ∧ own_sim f 7 (7 - s) 0 0 = own_sim f 7 (7 - max i s) q d ∧ (i < s → q = 0 ∧ d = 0)) ∨ (¬ ans < 0 ∧ ans.toInt = own_sim f 7 (7 - s) 0 0)
theorem own_P0 (f : Nat → Int32) {s : Nat} (hs : 2 ≤ s) : own_P f s 2 0 (-1) := Or.inl ⟨rfl, 0, 0, by decide, by decide, rfl, by rw [Nat.max_eq_right hs], fun _ => ⟨rfl, rfl⟩⟩
theorem own_Pa {f : Nat → Int32} {s i : Nat} {x ans : Int32} (h : own_P f s i x ans) (ha : ¬ ans < 0) : own_P f s (i + 1) x ans := by
  rcases h with ⟨rfl, _⟩ | h
  · exact absurd (by decide) ha
  · exact Or.inr h
theorem own_Pb {f : Nat → Int32} {s i : Nat} {x ans : Int32} (h : own_P f s i x ans) (ha : ans < 0) (hi : i < s) : own_P f s (i + 1) x ans := by
  rcases h with ⟨rfl, q, d, h1, h2, h3, h4, h5⟩ | h
  · obtain ⟨rfl, rfl⟩ := h5 hi
    refine Or.inl ⟨rfl, 0, 0, h1, by omega, h3, ?_, fun _ => ⟨rfl, rfl⟩⟩
    rw [h4, Nat.max_eq_right (by omega), Nat.max_eq_right (by omega)]
  · exact absurd ha h.1
theorem own_Pc {f : Nat → Int32} {s i : Nat} {x ans c : Int32} (h : own_P f s i x ans) (ha : ans < 0) (hi : ¬ i < s) (hi7 : i < 7) (hc : f i = c) (hl : ¬ own_cl x c = 0) : own_P f s (i + 1) x (Int32.ofNat i) := by
  rcases h with ⟨rfl, q, d, h1, h2, rfl, h4, h5⟩ | h
  · rw [own_cl1 h1 (by omega)] at hl
    have z : q = 0 ∧ d = 0 ∧ c = 125 := Classical.byContradiction fun n => hl (if_neg n)
    obtain ⟨rfl, rfl, rfl⟩ := z
    have e : 7 - max i s = (6 - i) + 1 := by omega
    have e2 : 7 - (6 - i + 1) = i := by omega
    rw [e] at h4
    simp only [own_sim, e2] at h4
    rw [if_pos ⟨trivial, trivial, hc⟩] at h4
    have t : (Int32.ofNat i).toInt = i := by
      have : ∀ j : Fin 7, (Int32.ofNat j).toInt = (j : Nat) := by decide
      exact this ⟨i, hi7⟩
    refine Or.inr ⟨?_, t.trans h4.symm⟩
    rw [Int32.lt_iff_toInt_lt, own_t0, t]; omega
  · exact absurd ha h.1
theorem own_Pd {f : Nat → Int32} {s i : Nat} {x ans c : Int32} (h : own_P f s i x ans) (ha : ans < 0) (hi : ¬ i < s) (hi7 : i < 7) (hc : f i = c) (hl : own_cl x c = 0) : own_P f s (i + 1) (own_stp x c) ans := by
  rcases h with ⟨rfl, q, d, h1, h2, rfl, h4, h5⟩ | h
  · rw [own_cl1 h1 (by omega)] at hl
    have z : ¬ (q = 0 ∧ d = 0 ∧ c = 125) := fun n => by rw [if_pos n] at hl; exact absurd hl (by decide)
    have e : 7 - max i s = (6 - i) + 1 := by omega
    have e2 : 7 - (6 - i + 1) = i := by omega
    have e3 : 7 - max (i + 1) s = 6 - i := by omega
    rw [e] at h4
    simp only [own_sim, e2, hc] at h4
    rw [if_neg z] at h4
    refine Or.inl ⟨rfl, _, _, own_nxb q c, ?_, own_stp1 h1 (by omega) z, by rw [e3]; exact h4, fun w => absurd w (by omega)⟩
    split
    · split
      · omega
      · split <;> omega
    · omega
  · exact absurd ha h.1
theorem own_Pz {f : Nat → Int32} {s : Nat} {x ans : Int32} (h : own_P f s 7 x ans) (hs : s ≤ 7) : ans.toInt = own_sim f 7 (7 - s) 0 0 := by
  rcases h with ⟨rfl, q, d, h1, h2, h3, h4, h5⟩ | h
  · rw [h4, Nat.max_eq_left hs]; rfl
  · exact h.2
theorem own_law {f : Nat → Int32} {s : Nat} {x ans : Int32} (h : own_P f s 7 x ans) (hs : s ≤ 7) : (if own_e f 7 0 s < 0 then (-1 : Int32) else own_e f 7 0 s - 1) = ans := by
  apply Int32.toInt_inj.mp
  have e := own_et f (k := 7) (q := 0) (j := s) (by omega) (by omega) hs
  have st := own_stabs f 7 (7 - s) 0 s (by omega) s (by omega)
  rw [show 7 - s + s = 7 by omega] at st
  have k := own_key f 7 7 (7 - s) (by omega) (by omega) 0 0
  rw [show 7 - (7 - s) = s by omega, ← st] at k
  have b := own_rng f 7 7 (by omega) 0 s (by omega)
  rw [own_Pz h hs, k]
  simp only [Int32.lt_iff_toInt_lt, own_t0, e]
  by_cases n : own_tab f 7 7 0 s < 0
  · rw [if_pos n, if_pos n]; decide
  · rw [if_neg n, if_neg n, if_pos trivial]
    have a := c_isub (own_e f 7 0 s) 1
    have r := rng32 (own_e f 7 0 s - 1)
    have e1 : (1 : Int32).toInt = 1 := by decide
    rw [e1, e] at a
    omega
theorem own_lts {ss : Int32} {s i : Nat} (h : ss.toInt = s) {z : Int32} (hz : z.toInt = i) : z < ss ↔ i < s := by
 rw [Int32.lt_iff_toInt_lt, h, hz]; omega
theorem own_dr (x : Int32) : 0 ≤ (((x.toUInt32 >>> ((11 : Int32) &&& 31).toUInt32).toInt32) % (6 : Int32)).toInt ∧ (((x.toUInt32 >>> ((11 : Int32) &&& 31).toUInt32).toInt32) % (6 : Int32)).toInt < 6 := by
 have h1 := c_iushr x 11 11 (by decide) (by decide)
 have h2 := (c_irem ((x.toUInt32 >>> ((11 : Int32) &&& 31).toUInt32).toInt32) 6 6 (by decide)).1 (by rw [h1]; omega)
 rw [h2]; omega
theorem own_pk (x : Int32) : 0 ≤ (nar .char ((((x.toUInt32 >>> ((3 : Int32) &&& 31).toUInt32).toInt32) &&& (255 : Int32)).toUInt32.toUInt16.toUInt32.toInt32)).toInt ∧ (nar .char ((((x.toUInt32 >>> ((3 : Int32) &&& 31).toUInt32).toInt32) &&& (255 : Int32)).toUInt32.toUInt16.toUInt32.toInt32)).toInt ≤ 255 := by
 have h := c_and ((x.toUInt32 >>> ((3 : Int32) &&& 31).toUInt32).toInt32) 255 (by decide)
 have e : (255 : Int32).toInt = 255 := by decide
 rw [e] at h
 have e2 : (((x.toUInt32 >>> ((3 : Int32) &&& 31).toUInt32).toInt32) &&& (255 : Int32)).toUInt32.toUInt16.toUInt32.toInt32 = (((x.toUInt32 >>> ((3 : Int32) &&& 31).toUInt32).toInt32) &&& (255 : Int32)) := own_nc h
 rw [e2, own_nc h]; exact h
theorem rm_ord (l : Launch) (Z : State) (a0 : Array Value) (hw : HW a0 Z) (a1 : Addr) (k : Int32) (h0 : Heap) (n0 : Nat) (O : Old Z n0 h0) (F1 : Fld Z Z.heap a1 "java/lang/Enum" "ordinal" "I" (.int k)) :
  Con l Z (⟨"java/lang/Enum", "ordinal", "()I"⟩ : MethodName) jdk_37_method_2_code 1 (some .int) ({ frames := 0, cells := 0, slots := 0, locals := 0 } : Room) #[(.ref a1)] h0 (fun v h L => v = some (.int k) ∧ Fr n0 L ∧ h = h0) := by
 refine own_startC opn_19 ?_
 intro p e s m below meth c T0 X0 hx hby hml hZ hown hnm hret hlk e0
 have N := Fr.nil n0
 refine OG.cast (oef0 m a1) ?_
 refine og_aloadN X0 hx rfl rfl (hb hby d19_0) rfl ?_
 refine og_getfield X0 hx hZ (host := "") hown (Or.inl (ow95 hw)) Via.refl e0 (F1.ext O.2) (hb hby d19_1) rfl (fun T11 X11 e11 => ?_)
 refine og_retI X11 hx hlk hret (hb hby d19_4) (by decide) (by decide) ?_
 rw [e11]; exact ⟨rfl, N, rfl⟩
theorem rm_nx0 (l : Launch) (Z : State) (a0 : Array Value) (hw : HW a0 Z) (w0 w1 w2 w3 w4 : Addr) (cc : Int32) (r : Addr) (hr : (if cc = 39 then w1 else if cc = 34 then w3 else w0) = r) (h0 : Heap) (n0 : Nat) (O : Old Z n0 h0) (S_CODE : Sta Z Z.heap "com/example/nitpick/nitpick/internal/interpolation/ExpressionLiterals$Quoting" "CODE" "Lcom/example/nitpick/nitpick/internal/interpolation/ExpressionLiterals$Quoting;" (.ref w0)) (S_SINGLE : Sta Z Z.heap "com/example/nitpick/nitpick/internal/interpolation/ExpressionLiterals$Quoting" "SINGLE" "Lcom/example/nitpick/nitpick/internal/interpolation/ExpressionLiterals$Quoting;" (.ref w1)) (S_SINGLE_ESCAPED : Sta Z Z.heap "com/example/nitpick/nitpick/internal/interpolation/ExpressionLiterals$Quoting" "SINGLE_ESCAPED" "Lcom/example/nitpick/nitpick/internal/interpolation/ExpressionLiterals$Quoting;" (.ref w2)) (S_DOUBLE : Sta Z Z.heap "com/example/nitpick/nitpick/internal/interpolation/ExpressionLiterals$Quoting" "DOUBLE" "Lcom/example/nitpick/nitpick/internal/interpolation/ExpressionLiterals$Quoting;" (.ref w3)) (S_DOUBLE_ESCAPED : Sta Z Z.heap "com/example/nitpick/nitpick/internal/interpolation/ExpressionLiterals$Quoting" "DOUBLE_ESCAPED" "Lcom/example/nitpick/nitpick/internal/interpolation/ExpressionLiterals$Quoting;" (.ref w4)) (E_w0 : Exa Z Z.heap w0 "com/example/nitpick/nitpick/internal/interpolation/ExpressionLiterals$Quoting") (E_w1 : Exa Z Z.heap w1 "com/example/nitpick/nitpick/internal/interpolation/ExpressionLiterals$Quoting") (E_w2 : Exa Z Z.heap w2 "com/example/nitpick/nitpick/internal/interpolation/ExpressionLiterals$Quoting") (E_w3 : Exa Z Z.heap w3 "com/example/nitpick/nitpick/internal/interpolation/ExpressionLiterals$Quoting") (E_w4 : Exa Z Z.heap w4 "com/example/nitpick/nitpick/internal/interpolation/ExpressionLiterals$Quoting") (F_w0 : Fld Z Z.heap w0 "java/lang/Enum" "ordinal" "I" (.int 0)) (F_w1 : Fld Z Z.heap w1 "java/lang/Enum" "ordinal" "I" (.int 1)) (F_w2 : Fld Z Z.heap w2 "java/lang/Enum" "ordinal" "I" (.int 2)) (F_w3 : Fld Z Z.heap w3 "java/lang/Enum" "ordinal" "I" (.int 3)) (F_w4 : Fld Z Z.heap w4 "java/lang/Enum" "ordinal" "I" (.int 4)) :
  Con l Z (⟨"com/example/nitpick/nitpick/internal/interpolation/ExpressionLiterals$Quoting", "next", "(C)Lcom/example/nitpick/nitpick/internal/interpolation/ExpressionLiterals$Quoting;"⟩ : MethodName) prog_61_method_4_code 2 (some (.object "com/example/nitpick/nitpick/internal/interpolation/ExpressionLiterals$Quoting")) ({ frames := 1, cells := 0, slots := 0, locals := 12 } : Room) #[(.ref w0), (.int cc)] h0 (fun v h L => v = some (.ref r) ∧ Fr n0 L ∧ h = h0) := by
 refine own_startC opn_18 ?_
 intro p e s m below meth c T0 X0 hx hby hml hZ hown hnm hret hlk e0
 have N := Fr.nil n0
 refine OG.cast (oef1 m w0 cc) ?_
 refine og_aloadN X0 hx rfl rfl (hb hby d18_0) rfl ?_
 refine og_virtualUp (pc' := 4) (cells' := 0) (slots' := 0) (W := 0) X0 hx hZ (y := (⟨"com/example/nitpick/nitpick/internal/interpolation/ExpressionLiterals$Quoting", "ordinal", "()I"⟩ : MethodName)) (rm_ord l Z a0 hw w0 0 h0 n0 O F_w0) hown (ow88 hw) (ow89 hw) (ow90 hw) (by decide) (ow92 hw) (ow91 hw) (ow93 hw) (ow94 hw) (by decide) (by rw [hml]; rfl) e0 opd_0 [] [] rfl rfl rfl rfl (by decide) (by decide) rfl rfl (by decide) (by decide) (E_w0.ext O.2) (hb hby d18_1) rfl (fun v11 T11 h11 L11 X11 e11 z11 => ?_)
 obtain ⟨rfl, Nq11, hq11⟩ := z11; replace e11 := e11.trans hq11; have N := Fr.app N Nq11
 refine OG.of (fun t k => XS.tswIn X11.here hx rfl (pc0 := 4) (pc' := 50) rfl (hb hby d18_4) rfl (by decide) (o := 46) (by decide) (by decide) (by decide) k) ?_
 show OG p e below _ (T11.setTop (mkF m 50 #[.val (.ref w0), .val (.int cc)] []))
 refine og_iloadN X11 hx rfl (hb hby d18_50) rfl ?_
 refine og_bipush (v := 39) X11 hx rfl (hb hby d18_51) rfl ?_
 refine og_icmp_ne (pc1 := 62) (pc2 := 56) X11 hx (hb hby d18_53) (by decide) (by decide) rfl (fun hc53 => ?_) (fun hc53 => ?_)
 ·
  refine og_iloadN X11 hx rfl (hb hby d18_62) rfl ?_
  refine og_bipush (v := 34) X11 hx rfl (hb hby d18_63) rfl ?_
  refine og_icmp_ne (pc1 := 74) (pc2 := 68) X11 hx (hb hby d18_65) (by decide) (by decide) rfl (fun hc65 => ?_) (fun hc65 => ?_)
  ·
   refine og_getstatic X11 hx hZ (host := "") hown (Or.inl (ow97 hw)) Via.refl e11 (S_CODE.ext O.2) (hb hby d18_74) rfl (fun T12 X12 e12 => ?_)
   refine og_goto (pc' := 149) X12 hx (hb hby d18_77) (by decide) (by decide) ?_
   refine og_retR X12 hx hlk hret rfl rfl rfl (hb hby d18_149) (by decide) (by decide) ?_
   rw [e12]; refine ⟨?_, N, rfl⟩
   rw [← hr]; simp [hc53, hc65]
  ·
   subst hc65
   refine og_getstatic X11 hx hZ (host := "") hown (Or.inl (ow104 hw)) Via.refl e11 (S_DOUBLE.ext O.2) (hb hby d18_68) rfl (fun T13 X13 e13 => ?_)
   refine og_goto (pc' := 149) X13 hx (hb hby d18_71) (by decide) (by decide) ?_
   refine og_retR X13 hx hlk hret rfl rfl rfl (hb hby d18_149) (by decide) (by decide) ?_
   rw [e13]; refine ⟨?_, N, rfl⟩
   rw [← hr]; simp [hc53]
 ·
  subst hc53
  refine og_getstatic X11 hx hZ (host := "") hown (Or.inl (ow101 hw)) Via.refl e11 (S_SINGLE.ext O.2) (hb hby d18_56) rfl (fun T14 X14 e14 => ?_)
  refine og_goto (pc' := 149) X14 hx (hb hby d18_59) (by decide) (by decide) ?_
  refine og_retR X14 hx hlk hret rfl rfl rfl (hb hby d18_149) (by decide) (by decide) ?_
  rw [e14]; refine ⟨?_, N, rfl⟩
  rw [← hr]; simp
theorem rm_nx1 (l : Launch) (Z : State) (a0 : Array Value) (hw : HW a0 Z) (w0 w1 w2 w3 w4 : Addr) (cc : Int32) (r : Addr) (hr : (if cc = 92 then w2 else if cc = 39 then w0 else w1) = r) (h0 : Heap) (n0 : Nat) (O : Old Z n0 h0) (S_CODE : Sta Z Z.heap "com/example/nitpick/nitpick/internal/interpolation/ExpressionLiterals$Quoting" "CODE" "Lcom/example/nitpick/nitpick/internal/interpolation/ExpressionLiterals$Quoting;" (.ref w0)) (S_SINGLE : Sta Z Z.heap "com/example/nitpick/nitpick/internal/interpolation/ExpressionLiterals$Quoting" "SINGLE" "Lcom/example/nitpick/nitpick/internal/interpolation/ExpressionLiterals$Quoting;" (.ref w1)) (S_SINGLE_ESCAPED : Sta Z Z.heap "com/example/nitpick/nitpick/internal/interpolation/ExpressionLiterals$Quoting" "SINGLE_ESCAPED" "Lcom/example/nitpick/nitpick/internal/interpolation/ExpressionLiterals$Quoting;" (.ref w2)) (S_DOUBLE : Sta Z Z.heap "com/example/nitpick/nitpick/internal/interpolation/ExpressionLiterals$Quoting" "DOUBLE" "Lcom/example/nitpick/nitpick/internal/interpolation/ExpressionLiterals$Quoting;" (.ref w3)) (S_DOUBLE_ESCAPED : Sta Z Z.heap "com/example/nitpick/nitpick/internal/interpolation/ExpressionLiterals$Quoting" "DOUBLE_ESCAPED" "Lcom/example/nitpick/nitpick/internal/interpolation/ExpressionLiterals$Quoting;" (.ref w4)) (E_w0 : Exa Z Z.heap w0 "com/example/nitpick/nitpick/internal/interpolation/ExpressionLiterals$Quoting") (E_w1 : Exa Z Z.heap w1 "com/example/nitpick/nitpick/internal/interpolation/ExpressionLiterals$Quoting") (E_w2 : Exa Z Z.heap w2 "com/example/nitpick/nitpick/internal/interpolation/ExpressionLiterals$Quoting") (E_w3 : Exa Z Z.heap w3 "com/example/nitpick/nitpick/internal/interpolation/ExpressionLiterals$Quoting") (E_w4 : Exa Z Z.heap w4 "com/example/nitpick/nitpick/internal/interpolation/ExpressionLiterals$Quoting") (F_w0 : Fld Z Z.heap w0 "java/lang/Enum" "ordinal" "I" (.int 0)) (F_w1 : Fld Z Z.heap w1 "java/lang/Enum" "ordinal" "I" (.int 1)) (F_w2 : Fld Z Z.heap w2 "java/lang/Enum" "ordinal" "I" (.int 2)) (F_w3 : Fld Z Z.heap w3 "java/lang/Enum" "ordinal" "I" (.int 3)) (F_w4 : Fld Z Z.heap w4 "java/lang/Enum" "ordinal" "I" (.int 4)) :
  Con l Z (⟨"com/example/nitpick/nitpick/internal/interpolation/ExpressionLiterals$Quoting", "next", "(C)Lcom/example/nitpick/nitpick/internal/interpolation/ExpressionLiterals$Quoting;"⟩ : MethodName) prog_61_method_4_code 2 (some (.object "com/example/nitpick/nitpick/internal/interpolation/ExpressionLiterals$Quoting")) ({ frames := 1, cells := 0, slots := 0, locals := 12 } : Room) #[(.ref w1), (.int cc)] h0 (fun v h L => v = some (.ref r) ∧ Fr n0 L ∧ h = h0) := by
 refine own_startC opn_18 ?_
 intro p e s m below meth c T0 X0 hx hby hml hZ hown hnm hret hlk e0
 have N := Fr.nil n0
 refine OG.cast (oef1 m w1 cc) ?_
 refine og_aloadN X0 hx rfl rfl (hb hby d18_0) rfl ?_
 refine og_virtualUp (pc' := 4) (cells' := 0) (slots' := 0) (W := 0) X0 hx hZ (y := (⟨"com/example/nitpick/nitpick/internal/interpolation/ExpressionLiterals$Quoting", "ordinal", "()I"⟩ : MethodName)) (rm_ord l Z a0 hw w1 1 h0 n0 O F_w1) hown (ow88 hw) (ow89 hw) (ow90 hw) (by decide) (ow92 hw) (ow91 hw) (ow93 hw) (ow94 hw) (by decide) (by rw [hml]; rfl) e0 opd_0 [] [] rfl rfl rfl rfl (by decide) (by decide) rfl rfl (by decide) (by decide) (E_w1.ext O.2) (hb hby d18_1) rfl (fun v11 T11 h11 L11 X11 e11 z11 => ?_)
 obtain ⟨rfl, Nq11, hq11⟩ := z11; replace e11 := e11.trans hq11; have N := Fr.app N Nq11
 refine OG.of (fun t k => XS.tswIn X11.here hx rfl (pc0 := 4) (pc' := 80) rfl (hb hby d18_4) rfl (by decide) (o := 76) (by decide) (by decide) (by decide) k) ?_
 show OG p e below _ (T11.setTop (mkF m 80 #[.val (.ref w1), .val (.int cc)] []))
 refine og_iloadN X11 hx rfl (hb hby d18_80) rfl ?_
 refine og_bipush (v := 92) X11 hx rfl (hb hby d18_81) rfl ?_
 refine og_icmp_ne (pc1 := 92) (pc2 := 86) X11 hx (hb hby d18_83) (by decide) (by decide) rfl (fun hc83 => ?_) (fun hc83 => ?_)
 ·
  refine og_iloadN X11 hx rfl (hb hby d18_92) rfl ?_
  refine og_bipush (v := 39) X11 hx rfl (hb hby d18_93) rfl ?_
  refine og_icmp_ne (pc1 := 104) (pc2 := 98) X11 hx (hb hby d18_95) (by decide) (by decide) rfl (fun hc95 => ?_) (fun hc95 => ?_)
  ·
   refine og_getstatic X11 hx hZ (host := "") hown (Or.inl (ow101 hw)) Via.refl e11 (S_SINGLE.ext O.2) (hb hby d18_104) rfl (fun T12 X12 e12 => ?_)
   refine og_goto (pc' := 149) X12 hx (hb hby d18_107) (by decide) (by decide) ?_
   refine og_retR X12 hx hlk hret rfl rfl rfl (hb hby d18_149) (by decide) (by decide) ?_
   rw [e12]; refine ⟨?_, N, rfl⟩
   rw [← hr]; simp [hc83, hc95]
  ·
   subst hc95
   refine og_getstatic X11 hx hZ (host := "") hown (Or.inl (ow97 hw)) Via.refl e11 (S_CODE.ext O.2) (hb hby d18_98) rfl (fun T13 X13 e13 => ?_)
   refine og_goto (pc' := 149) X13 hx (hb hby d18_101) (by decide) (by decide) ?_
   refine og_retR X13 hx hlk hret rfl rfl rfl (hb hby d18_149) (by decide) (by decide) ?_
   rw [e13]; refine ⟨?_, N, rfl⟩
   rw [← hr]; simp [hc83]
 ·
  subst hc83
  refine og_getstatic X11 hx hZ (host := "") hown (Or.inl (ow121 hw)) Via.refl e11 (S_SINGLE_ESCAPED.ext O.2) (hb hby d18_86) rfl (fun T14 X14 e14 => ?_)
  refine og_goto (pc' := 149) X14 hx (hb hby d18_89) (by decide) (by decide) ?_
  refine og_retR X14 hx hlk hret rfl rfl rfl (hb hby d18_149) (by decide) (by decide) ?_
  rw [e14]; refine ⟨?_, N, rfl⟩
  rw [← hr]; simp
theorem rm_nx2 (l : Launch) (Z : State) (a0 : Array Value) (hw : HW a0 Z) (w0 w1 w2 w3 w4 : Addr) (cc : Int32) (r : Addr) (hr : (w1) = r) (h0 : Heap) (n0 : Nat) (O : Old Z n0 h0) (S_CODE : Sta Z Z.heap "com/example/nitpick/nitpick/internal/interpolation/ExpressionLiterals$Quoting" "CODE" "Lcom/example/nitpick/nitpick/internal/interpolation/ExpressionLiterals$Quoting;" (.ref w0)) (S_SINGLE : Sta Z Z.heap "com/example/nitpick/nitpick/internal/interpolation/ExpressionLiterals$Quoting" "SINGLE" "Lcom/example/nitpick/nitpick/internal/interpolation/ExpressionLiterals$Quoting;" (.ref w1)) (S_SINGLE_ESCAPED : Sta Z Z.heap "com/example/nitpick/nitpick/internal/interpolation/ExpressionLiterals$Quoting" "SINGLE_ESCAPED" "Lcom/example/nitpick/nitpick/internal/interpolation/ExpressionLiterals$Quoting;" (.ref w2)) (S_DOUBLE : Sta Z Z.heap "com/example/nitpick/nitpick/internal/interpolation/ExpressionLiterals$Quoting" "DOUBLE" "Lcom/example/nitpick/nitpick/internal/interpolation/ExpressionLiterals$Quoting;" (.ref w3)) (S_DOUBLE_ESCAPED : Sta Z Z.heap "com/example/nitpick/nitpick/internal/interpolation/ExpressionLiterals$Quoting" "DOUBLE_ESCAPED" "Lcom/example/nitpick/nitpick/internal/interpolation/ExpressionLiterals$Quoting;" (.ref w4)) (E_w0 : Exa Z Z.heap w0 "com/example/nitpick/nitpick/internal/interpolation/ExpressionLiterals$Quoting") (E_w1 : Exa Z Z.heap w1 "com/example/nitpick/nitpick/internal/interpolation/ExpressionLiterals$Quoting") (E_w2 : Exa Z Z.heap w2 "com/example/nitpick/nitpick/internal/interpolation/ExpressionLiterals$Quoting") (E_w3 : Exa Z Z.heap w3 "com/example/nitpick/nitpick/internal/interpolation/ExpressionLiterals$Quoting") (E_w4 : Exa Z Z.heap w4 "com/example/nitpick/nitpick/internal/interpolation/ExpressionLiterals$Quoting") (F_w0 : Fld Z Z.heap w0 "java/lang/Enum" "ordinal" "I" (.int 0)) (F_w1 : Fld Z Z.heap w1 "java/lang/Enum" "ordinal" "I" (.int 1)) (F_w2 : Fld Z Z.heap w2 "java/lang/Enum" "ordinal" "I" (.int 2)) (F_w3 : Fld Z Z.heap w3 "java/lang/Enum" "ordinal" "I" (.int 3)) (F_w4 : Fld Z Z.heap w4 "java/lang/Enum" "ordinal" "I" (.int 4)) :
  Con l Z (⟨"com/example/nitpick/nitpick/internal/interpolation/ExpressionLiterals$Quoting", "next", "(C)Lcom/example/nitpick/nitpick/internal/interpolation/ExpressionLiterals$Quoting;"⟩ : MethodName) prog_61_method_4_code 2 (some (.object "com/example/nitpick/nitpick/internal/interpolation/ExpressionLiterals$Quoting")) ({ frames := 1, cells := 0, slots := 0, locals := 12 } : Room) #[(.ref w2), (.int cc)] h0 (fun v h L => v = some (.ref r) ∧ Fr n0 L ∧ h = h0) := by
 refine own_startC opn_18 ?_
 intro p e s m below meth c T0 X0 hx hby hml hZ hown hnm hret hlk e0
 have N := Fr.nil n0
 refine OG.cast (oef1 m w2 cc) ?_
 refine og_aloadN X0 hx rfl rfl (hb hby d18_0) rfl ?_
 refine og_virtualUp (pc' := 4) (cells' := 0) (slots' := 0) (W := 0) X0 hx hZ (y := (⟨"com/example/nitpick/nitpick/internal/interpolation/ExpressionLiterals$Quoting", "ordinal", "()I"⟩ : MethodName)) (rm_ord l Z a0 hw w2 2 h0 n0 O F_w2) hown (ow88 hw) (ow89 hw) (ow90 hw) (by decide) (ow92 hw) (ow91 hw) (ow93 hw) (ow94 hw) (by decide) (by rw [hml]; rfl) e0 opd_0 [] [] rfl rfl rfl rfl (by decide) (by decide) rfl rfl (by decide) (by decide) (E_w2.ext O.2) (hb hby d18_1) rfl (fun v11 T11 h11 L11 X11 e11 z11 => ?_)
 obtain ⟨rfl, Nq11, hq11⟩ := z11; replace e11 := e11.trans hq11; have N := Fr.app N Nq11
 refine OG.of (fun t k => XS.tswIn X11.here hx rfl (pc0 := 4) (pc' := 140) rfl (hb hby d18_4) rfl (by decide) (o := 136) (by decide) (by decide) (by decide) k) ?_
 show OG p e below _ (T11.setTop (mkF m 140 #[.val (.ref w2), .val (.int cc)] []))
 refine og_getstatic X11 hx hZ (host := "") hown (Or.inl (ow101 hw)) Via.refl e11 (S_SINGLE.ext O.2) (hb hby d18_140) rfl (fun T12 X12 e12 => ?_)
 refine og_goto (pc' := 149) X12 hx (hb hby d18_143) (by decide) (by decide) ?_
 refine og_retR X12 hx hlk hret rfl rfl rfl (hb hby d18_149) (by decide) (by decide) ?_
 rw [e12]; exact ⟨by rw [← hr], N, rfl⟩
theorem rm_nx3 (l : Launch) (Z : State) (a0 : Array Value) (hw : HW a0 Z) (w0 w1 w2 w3 w4 : Addr) (cc : Int32) (r : Addr) (hr : (if cc = 92 then w4 else if cc = 34 then w0 else w3) = r) (h0 : Heap) (n0 : Nat) (O : Old Z n0 h0) (S_CODE : Sta Z Z.heap "com/example/nitpick/nitpick/internal/interpolation/ExpressionLiterals$Quoting" "CODE" "Lcom/example/nitpick/nitpick/internal/interpolation/ExpressionLiterals$Quoting;" (.ref w0)) (S_SINGLE : Sta Z Z.heap "com/example/nitpick/nitpick/internal/interpolation/ExpressionLiterals$Quoting" "SINGLE" "Lcom/example/nitpick/nitpick/internal/interpolation/ExpressionLiterals$Quoting;" (.ref w1)) (S_SINGLE_ESCAPED : Sta Z Z.heap "com/example/nitpick/nitpick/internal/interpolation/ExpressionLiterals$Quoting" "SINGLE_ESCAPED" "Lcom/example/nitpick/nitpick/internal/interpolation/ExpressionLiterals$Quoting;" (.ref w2)) (S_DOUBLE : Sta Z Z.heap "com/example/nitpick/nitpick/internal/interpolation/ExpressionLiterals$Quoting" "DOUBLE" "Lcom/example/nitpick/nitpick/internal/interpolation/ExpressionLiterals$Quoting;" (.ref w3)) (S_DOUBLE_ESCAPED : Sta Z Z.heap "com/example/nitpick/nitpick/internal/interpolation/ExpressionLiterals$Quoting" "DOUBLE_ESCAPED" "Lcom/example/nitpick/nitpick/internal/interpolation/ExpressionLiterals$Quoting;" (.ref w4)) (E_w0 : Exa Z Z.heap w0 "com/example/nitpick/nitpick/internal/interpolation/ExpressionLiterals$Quoting") (E_w1 : Exa Z Z.heap w1 "com/example/nitpick/nitpick/internal/interpolation/ExpressionLiterals$Quoting") (E_w2 : Exa Z Z.heap w2 "com/example/nitpick/nitpick/internal/interpolation/ExpressionLiterals$Quoting") (E_w3 : Exa Z Z.heap w3 "com/example/nitpick/nitpick/internal/interpolation/ExpressionLiterals$Quoting") (E_w4 : Exa Z Z.heap w4 "com/example/nitpick/nitpick/internal/interpolation/ExpressionLiterals$Quoting") (F_w0 : Fld Z Z.heap w0 "java/lang/Enum" "ordinal" "I" (.int 0)) (F_w1 : Fld Z Z.heap w1 "java/lang/Enum" "ordinal" "I" (.int 1)) (F_w2 : Fld Z Z.heap w2 "java/lang/Enum" "ordinal" "I" (.int 2)) (F_w3 : Fld Z Z.heap w3 "java/lang/Enum" "ordinal" "I" (.int 3)) (F_w4 : Fld Z Z.heap w4 "java/lang/Enum" "ordinal" "I" (.int 4)) :
  Con l Z (⟨"com/example/nitpick/nitpick/internal/interpolation/ExpressionLiterals$Quoting", "next", "(C)Lcom/example/nitpick/nitpick/internal/interpolation/ExpressionLiterals$Quoting;"⟩ : MethodName) prog_61_method_4_code 2 (some (.object "com/example/nitpick/nitpick/internal/interpolation/ExpressionLiterals$Quoting")) ({ frames := 1, cells := 0, slots := 0, locals := 12 } : Room) #[(.ref w3), (.int cc)] h0 (fun v h L => v = some (.ref r) ∧ Fr n0 L ∧ h = h0) := by
 refine own_startC opn_18 ?_
 intro p e s m below meth c T0 X0 hx hby hml hZ hown hnm hret hlk e0
 have N := Fr.nil n0
 refine OG.cast (oef1 m w3 cc) ?_
 refine og_aloadN X0 hx rfl rfl (hb hby d18_0) rfl ?_
 refine og_virtualUp (pc' := 4) (cells' := 0) (slots' := 0) (W := 0) X0 hx hZ (y := (⟨"com/example/nitpick/nitpick/internal/interpolation/ExpressionLiterals$Quoting", "ordinal", "()I"⟩ : MethodName)) (rm_ord l Z a0 hw w3 3 h0 n0 O F_w3) hown (ow88 hw) (ow89 hw) (ow90 hw) (by decide) (ow92 hw) (ow91 hw) (ow93 hw) (ow94 hw) (by decide) (by rw [hml]; rfl) e0 opd_0 [] [] rfl rfl rfl rfl (by decide) (by decide) rfl rfl (by decide) (by decide) (E_w3.ext O.2) (hb hby d18_1) rfl (fun v11 T11 h11 L11 X11 e11 z11 => ?_)
 obtain ⟨rfl, Nq11, hq11⟩ := z11; replace e11 := e11.trans hq11; have N := Fr.app N Nq11
 refine OG.of (fun t k => XS.tswIn X11.here hx rfl (pc0 := 4) (pc' := 110) rfl (hb hby d18_4) rfl (by decide) (o := 106) (by decide) (by decide) (by decide) k) ?_
 show OG p e below _ (T11.setTop (mkF m 110 #[.val (.ref w3), .val (.int cc)] []))
 refine og_iloadN X11 hx rfl (hb hby d18_110) rfl ?_
 refine og_bipush (v := 92) X11 hx rfl (hb hby d18_111) rfl ?_
 refine og_icmp_ne (pc1 := 122) (pc2 := 116) X11 hx (hb hby d18_113) (by decide) (by decide) rfl (fun hc113 => ?_) (fun hc113 => ?_)
 ·
  refine og_iloadN X11 hx rfl (hb hby d18_122) rfl ?_
  refine og_bipush (v := 34) X11 hx rfl (hb hby d18_123) rfl ?_
  refine og_icmp_ne (pc1 := 134) (pc2 := 128) X11 hx (hb hby d18_125) (by decide) (by decide) rfl (fun hc125 => ?_) (fun hc125 => ?_)
  ·
   refine og_getstatic X11 hx hZ (host := "") hown (Or.inl (ow104 hw)) Via.refl e11 (S_DOUBLE.ext O.2) (hb hby d18_134) rfl (fun T12 X12 e12 => ?_)
   refine og_goto (pc' := 149) X12 hx (hb hby d18_137) (by decide) (by decide) ?_
   refine og_retR X12 hx hlk hret rfl rfl rfl (hb hby d18_149) (by decide) (by decide) ?_
   rw [e12]; refine ⟨?_, N, rfl⟩
   rw [← hr]; simp [hc113, hc125]
  ·
   subst hc125
   refine og_getstatic X11 hx hZ (host := "") hown (Or.inl (ow97 hw)) Via.refl e11 (S_CODE.ext O.2) (hb hby d18_128) rfl (fun T13 X13 e13 => ?_)
   refine og_goto (pc' := 149) X13 hx (hb hby d18_131) (by decide) (by decide) ?_
   refine og_retR X13 hx hlk hret rfl rfl rfl (hb hby d18_149) (by decide) (by decide) ?_
   rw [e13]; refine ⟨?_, N, rfl⟩
   rw [← hr]; simp [hc113]
 ·
  subst hc113
  refine og_getstatic X11 hx hZ (host := "") hown (Or.inl (ow122 hw)) Via.refl e11 (S_DOUBLE_ESCAPED.ext O.2) (hb hby d18_116) rfl (fun T14 X14 e14 => ?_)
  refine og_goto (pc' := 149) X14 hx (hb hby d18_119) (by decide) (by decide) ?_
  refine og_retR X14 hx hlk hret rfl rfl rfl (hb hby d18_149) (by decide) (by decide) ?_
  rw [e14]; refine ⟨?_, N, rfl⟩
  rw [← hr]; simp
theorem rm_nx4 (l : Launch) (Z : State) (a0 : Array Value) (hw : HW a0 Z) (w0 w1 w2 w3 w4 : Addr) (cc : Int32) (r : Addr) (hr : (w3) = r) (h0 : Heap) (n0 : Nat) (O : Old Z n0 h0) (S_CODE : Sta Z Z.heap "com/example/nitpick/nitpick/internal/interpolation/ExpressionLiterals$Quoting" "CODE" "Lcom/example/nitpick/nitpick/internal/interpolation/ExpressionLiterals$Quoting;" (.ref w0)) (S_SINGLE : Sta Z Z.heap "com/example/nitpick/nitpick/internal/interpolation/ExpressionLiterals$Quoting" "SINGLE" "Lcom/example/nitpick/nitpick/internal/interpolation/ExpressionLiterals$Quoting;" (.ref w1)) (S_SINGLE_ESCAPED : Sta Z Z.heap "com/example/nitpick/nitpick/internal/interpolation/ExpressionLiterals$Quoting" "SINGLE_ESCAPED" "Lcom/example/nitpick/nitpick/internal/interpolation/ExpressionLiterals$Quoting;" (.ref w2)) (S_DOUBLE : Sta Z Z.heap "com/example/nitpick/nitpick/internal/interpolation/ExpressionLiterals$Quoting" "DOUBLE" "Lcom/example/nitpick/nitpick/internal/interpolation/ExpressionLiterals$Quoting;" (.ref w3)) (S_DOUBLE_ESCAPED : Sta Z Z.heap "com/example/nitpick/nitpick/internal/interpolation/ExpressionLiterals$Quoting" "DOUBLE_ESCAPED" "Lcom/example/nitpick/nitpick/internal/interpolation/ExpressionLiterals$Quoting;" (.ref w4)) (E_w0 : Exa Z Z.heap w0 "com/example/nitpick/nitpick/internal/interpolation/ExpressionLiterals$Quoting") (E_w1 : Exa Z Z.heap w1 "com/example/nitpick/nitpick/internal/interpolation/ExpressionLiterals$Quoting") (E_w2 : Exa Z Z.heap w2 "com/example/nitpick/nitpick/internal/interpolation/ExpressionLiterals$Quoting") (E_w3 : Exa Z Z.heap w3 "com/example/nitpick/nitpick/internal/interpolation/ExpressionLiterals$Quoting") (E_w4 : Exa Z Z.heap w4 "com/example/nitpick/nitpick/internal/interpolation/ExpressionLiterals$Quoting") (F_w0 : Fld Z Z.heap w0 "java/lang/Enum" "ordinal" "I" (.int 0)) (F_w1 : Fld Z Z.heap w1 "java/lang/Enum" "ordinal" "I" (.int 1)) (F_w2 : Fld Z Z.heap w2 "java/lang/Enum" "ordinal" "I" (.int 2)) (F_w3 : Fld Z Z.heap w3 "java/lang/Enum" "ordinal" "I" (.int 3)) (F_w4 : Fld Z Z.heap w4 "java/lang/Enum" "ordinal" "I" (.int 4)) :
  Con l Z (⟨"com/example/nitpick/nitpick/internal/interpolation/ExpressionLiterals$Quoting", "next", "(C)Lcom/example/nitpick/nitpick/internal/interpolation/ExpressionLiterals$Quoting;"⟩ : MethodName) prog_61_method_4_code 2 (some (.object "com/example/nitpick/nitpick/internal/interpolation/ExpressionLiterals$Quoting")) ({ frames := 1, cells := 0, slots := 0, locals := 12 } : Room) #[(.ref w4), (.int cc)] h0 (fun v h L => v = some (.ref r) ∧ Fr n0 L ∧ h = h0) := by
 refine own_startC opn_18 ?_
 intro p e s m below meth c T0 X0 hx hby hml hZ hown hnm hret hlk e0
 have N := Fr.nil n0
 refine OG.cast (oef1 m w4 cc) ?_
 refine og_aloadN X0 hx rfl rfl (hb hby d18_0) rfl ?_
 refine og_virtualUp (pc' := 4) (cells' := 0) (slots' := 0) (W := 0) X0 hx hZ (y := (⟨"com/example/nitpick/nitpick/internal/interpolation/ExpressionLiterals$Quoting", "ordinal", "()I"⟩ : MethodName)) (rm_ord l Z a0 hw w4 4 h0 n0 O F_w4) hown (ow88 hw) (ow89 hw) (ow90 hw) (by decide) (ow92 hw) (ow91 hw) (ow93 hw) (ow94 hw) (by decide) (by rw [hml]; rfl) e0 opd_0 [] [] rfl rfl rfl rfl (by decide) (by decide) rfl rfl (by decide) (by decide) (E_w4.ext O.2) (hb hby d18_1) rfl (fun v11 T11 h11 L11 X11 e11 z11 => ?_)
 obtain ⟨rfl, Nq11, hq11⟩ := z11; replace e11 := e11.trans hq11; have N := Fr.app N Nq11
 refine OG.of (fun t k => XS.tswIn X11.here hx rfl (pc0 := 4) (pc' := 146) rfl (hb hby d18_4) rfl (by decide) (o := 142) (by decide) (by decide) (by decide) k) ?_
 show OG p e below _ (T11.setTop (mkF m 146 #[.val (.ref w4), .val (.int cc)] []))
 refine og_getstatic X11 hx hZ (host := "") hown (Or.inl (ow104 hw)) Via.refl e11 (S_DOUBLE.ext O.2) (hb hby d18_146) rfl (fun T12 X12 e12 => ?_)
 refine og_retR X12 hx hlk hret rfl rfl rfl (hb hby d18_149) (by decide) (by decide) ?_
 rw [e12]; exact ⟨by rw [← hr], N, rfl⟩
theorem rm_c2_7 (l : Launch) (Z : State) (a0 : Array Value) (hw : HW a0 Z) (ca ba : Addr) (kc kb : ClassId) (c0 c1 c2 c3 c4 c5 c6 : Int32) (hb0 : ¬ 255 < c0) (hb1 : ¬ 255 < c1) (hb2 : ¬ 255 < c2) (hb3 : ¬ 255 < c3) (hb4 : ¬ 255 < c4) (hb5 : ¬ 255 < c5) (hb6 : ¬ 255 < c6) (h0 : Heap) (n0 : Nat) (O : Old Z n0 h0) (V_ca : Arv Z h0 ca kc .char (7 : Int32) [(.int c0), (.int c1), (.int c2), (.int c3), (.int c4), (.int c5), (.int c6)] (.int 0)) (V_ba : Arv Z h0 ba kb .byte (7 : Int32) [(.int 0), (.int 0), (.int 0), (.int 0), (.int 0), (.int 0), (.int 0)] (.int 0)) (g_ba : n0 ≤ ba) (ne_ca_ba : ca ≠ ba) :
  Con l Z (⟨"java/lang/StringUTF16", "compress", "([CI[BII)I"⟩ : MethodName) jdk_52_method_21_code 7 (some .int) ({ frames := 0, cells := 0, slots := 0, locals := 0 } : Room) #[(.ref ca), (.int 0), (.ref ba), (.int 0), (.int 7)] h0 (fun v h L => v = some (.int 7) ∧ Fr n0 L ∧ Keep h0 h [ba] ∧ Arv Z h ba kb .byte (7 : Int32) [(.int c0.toInt8.toInt32), (.int c1.toInt8.toInt32), (.int c2.toInt8.toInt32), (.int c3.toInt8.toInt32), (.int c4.toInt8.toInt32), (.int c5.toInt8.toInt32), (.int c6.toInt8.toInt32)] (.int 0)) := by
 refine own_startC opn_6 ?_
 intro p e s m below meth c T0 X0 hx hby hml hZ hown hnm hret hlk e0
 have N := Fr.nil n0; have K := Keep.refl h0 [ba]
 refine OG.cast (oef2 m ca (0 : Int32) ba (0 : Int32) (7 : Int32)) ?_
 refine og_iconst (v := 0) X0 hx rfl (hb hby d6_0) rfl ?_
 refine og_istore (L' := #[.val (.ref ca), .val (.int 0), .val (.ref ba), .val (.int 0), .val (.int 7), .val (.int 0), .unset]) X0 hx rfl (hb hby d6_1) rfl ?_
 refine og_iload X0 hx rfl (hb hby d6_3) rfl ?_
 refine og_iload X0 hx rfl (hb hby d6_5) rfl ?_
 refine og_icmp_ge (pc1 := 44) (pc2 := 10) X0 hx (hb hby d6_7) (by decide) (by decide) rfl (fun q => absurd q (by decide)) (fun _ => ?_)
 refine og_aloadN X0 hx rfl rfl (hb hby d6_10) rfl ?_
 refine og_iloadN X0 hx rfl (hb hby d6_11) rfl ?_
 refine og_caload (v := (.int c0)) X0 hx hZ e0 V_ca ⟨by decide, by decide⟩ rfl (hb hby d6_12) rfl ?_
 refine og_istore (L' := #[.val (.ref ca), .val (.int 0), .val (.ref ba), .val (.int 0), .val (.int 7), .val (.int 0), .val (.int c0)]) X0 hx rfl (hb hby d6_13) rfl ?_
 refine og_iload X0 hx rfl (hb hby d6_15) rfl ?_
 refine og_sipush (v := 255) X0 hx rfl (hb hby d6_17) rfl ?_
 refine og_icmp_le (pc1 := 26) (pc2 := 23) X0 hx (hb hby d6_20) (by decide) (by decide) rfl (fun _ => ?_) (fun q => absurd q hb0)
 refine og_aloadN X0 hx rfl rfl (hb hby d6_26) rfl ?_
 refine og_iloadN X0 hx rfl (hb hby d6_27) rfl ?_
 refine og_iload X0 hx rfl (hb hby d6_28) rfl ?_
 refine og_i2b X0 hx (hb hby d6_30) rfl ?_
 refine og_bastore X0 hx hZ e0 V_ba ⟨by decide, by decide⟩ 0 (by decide) (Nat.le_of_ble_eq_true rfl) (hb hby d6_31) rfl (fun T11 h11 X11 e11 W11 V11 => ?_)
 have V_ca := V_ca.other W11 ne_ca_ba; have K := K.wr W11 (Or.inl (List.mem_of_getElem? (i := 0) rfl))
 have N := Fr.snoc X11 N g_ba
 have V_ba : Arv Z h11 ba kb .byte (7 : Int32) [(.int (nar .byte (c0.toInt8.toInt32))), (.int 0), (.int 0), (.int 0), (.int 0), (.int 0), (.int 0)] (.int 0) := V11
 rw [own_nb] at V_ba
 refine og_iinc (L' := #[.val (.ref ca), .val (.int 1), .val (.ref ba), .val (.int 0), .val (.int 7), .val (.int 0), .val (.int c0)]) (w := 1) X11 hx rfl rfl rfl (hb hby d6_32) rfl ?_
 refine og_iinc (L' := #[.val (.ref ca), .val (.int 1), .val (.ref ba), .val (.int 1), .val (.int 7), .val (.int 0), .val (.int c0)]) (w := 1) X11 hx rfl rfl rfl (hb hby d6_35) rfl ?_
 refine og_iinc (L' := #[.val (.ref ca), .val (.int 1), .val (.ref ba), .val (.int 1), .val (.int 7), .val (.int 1), .val (.int c0)]) (w := 1) X11 hx rfl rfl rfl (hb hby d6_38) rfl ?_
 refine og_goto (pc' := 3) X11 hx (hb hby d6_41) (by decide) (by decide) ?_
 refine og_iload X11 hx rfl (hb hby d6_3) rfl ?_
 refine og_iload X11 hx rfl (hb hby d6_5) rfl ?_
 refine og_icmp_ge (pc1 := 44) (pc2 := 10) X11 hx (hb hby d6_7) (by decide) (by decide) rfl (fun q => absurd q (by decide)) (fun _ => ?_)
 refine og_aloadN X11 hx rfl rfl (hb hby d6_10) rfl ?_
 refine og_iloadN X11 hx rfl (hb hby d6_11) rfl ?_
 refine og_caload (v := (.int c1)) X11 hx hZ e11 V_ca ⟨by decide, by decide⟩ rfl (hb hby d6_12) rfl ?_
 refine og_istore (L' := #[.val (.ref ca), .val (.int 1), .val (.ref ba), .val (.int 1), .val (.int 7), .val (.int 1), .val (.int c1)]) X11 hx rfl (hb hby d6_13) rfl ?_
 refine og_iload X11 hx rfl (hb hby d6_15) rfl ?_
 refine og_sipush (v := 255) X11 hx rfl (hb hby d6_17) rfl ?_
 refine og_icmp_le (pc1 := 26) (pc2 := 23) X11 hx (hb hby d6_20) (by decide) (by decide) rfl (fun _ => ?_) (fun q => absurd q hb1)
 refine og_aloadN X11 hx rfl rfl (hb hby d6_26) rfl ?_
 refine og_iloadN X11 hx rfl (hb hby d6_27) rfl ?_
 refine og_iload X11 hx rfl (hb hby d6_28) rfl ?_
 refine og_i2b X11 hx (hb hby d6_30) rfl ?_
 refine og_bastore X11 hx hZ e11 V_ba ⟨by decide, by decide⟩ 1 (by decide) (Nat.le_of_ble_eq_true rfl) (hb hby d6_31) rfl (fun T12 h12 X12 e12 W12 V12 => ?_)
 have V_ca := V_ca.other W12 ne_ca_ba; have K := K.wr W12 (Or.inl (List.mem_of_getElem? (i := 0) rfl))
 have N := Fr.snoc X12 N g_ba
 have V_ba : Arv Z h12 ba kb .byte (7 : Int32) [(.int c0.toInt8.toInt32), (.int (nar .byte (c1.toInt8.toInt32))), (.int 0), (.int 0), (.int 0), (.int 0), (.int 0)] (.int 0) := V12
 rw [own_nb] at V_ba
 refine og_iinc (L' := #[.val (.ref ca), .val (.int 2), .val (.ref ba), .val (.int 1), .val (.int 7), .val (.int 1), .val (.int c1)]) (w := 1) X12 hx rfl rfl rfl (hb hby d6_32) rfl ?_
 refine og_iinc (L' := #[.val (.ref ca), .val (.int 2), .val (.ref ba), .val (.int 2), .val (.int 7), .val (.int 1), .val (.int c1)]) (w := 1) X12 hx rfl rfl rfl (hb hby d6_35) rfl ?_
 refine og_iinc (L' := #[.val (.ref ca), .val (.int 2), .val (.ref ba), .val (.int 2), .val (.int 7), .val (.int 2), .val (.int c1)]) (w := 1) X12 hx rfl rfl rfl (hb hby d6_38) rfl ?_
 refine og_goto (pc' := 3) X12 hx (hb hby d6_41) (by decide) (by decide) ?_
 refine og_iload X12 hx rfl (hb hby d6_3) rfl ?_
 refine og_iload X12 hx rfl (hb hby d6_5) rfl ?_
 refine og_icmp_ge (pc1 := 44) (pc2 := 10) X12 hx (hb hby d6_7) (by decide) (by decide) rfl (fun q => absurd q (by decide)) (fun _ => ?_)
 refine og_aloadN X12 hx rfl rfl (hb hby d6_10) rfl ?_
 refine og_iloadN X12 hx rfl (hb hby d6_11) rfl ?_
 refine og_caload (v := (.int c2)) X12 hx hZ e12 V_ca ⟨by decide, by decide⟩ rfl (hb hby d6_12) rfl ?_
 refine og_istore (L' := #[.val (.ref ca), .val (.int 2), .val (.ref ba), .val (.int 2), .val (.int 7), .val (.int 2), .val (.int c2)]) X12 hx rfl (hb hby d6_13) rfl ?_
 refine og_iload X12 hx rfl (hb hby d6_15) rfl ?_
 refine og_sipush (v := 255) X12 hx rfl (hb hby d6_17) rfl ?_
 refine og_icmp_le (pc1 := 26) (pc2 := 23) X12 hx (hb hby d6_20) (by decide) (by decide) rfl (fun _ => ?_) (fun q => absurd q hb2)
 refine og_aloadN X12 hx rfl rfl (hb hby d6_26) rfl ?_
 refine og_iloadN X12 hx rfl (hb hby d6_27) rfl ?_
 refine og_iload X12 hx rfl (hb hby d6_28) rfl ?_
 refine og_i2b X12 hx (hb hby d6_30) rfl ?_
 refine og_bastore X12 hx hZ e12 V_ba ⟨by decide, by decide⟩ 2 (by decide) (Nat.le_of_ble_eq_true rfl) (hb hby d6_31) rfl (fun T13 h13 X13 e13 W13 V13 => ?_)
 have V_ca := V_ca.other W13 ne_ca_ba; have K := K.wr W13 (Or.inl (List.mem_of_getElem? (i := 0) rfl))
 have N := Fr.snoc X13 N g_ba
 have V_ba : Arv Z h13 ba kb .byte (7 : Int32) [(.int c0.toInt8.toInt32), (.int c1.toInt8.toInt32), (.int (nar .byte (c2.toInt8.toInt32))), (.int 0), (.int 0), (.int 0), (.int 0)] (.int 0) := V13
 rw [own_nb] at V_ba
 refine og_iinc (L' := #[.val (.ref ca), .val (.int 3), .val (.ref ba), .val (.int 2), .val (.int 7), .val (.int 2), .val (.int c2)]) (w := 1) X13 hx rfl rfl rfl (hb hby d6_32) rfl ?_
 refine og_iinc (L' := #[.val (.ref ca), .val (.int 3), .val (.ref ba), .val (.int 3), .val (.int 7), .val (.int 2), .val (.int c2)]) (w := 1) X13 hx rfl rfl rfl (hb hby d6_35) rfl ?_
 refine og_iinc (L' := #[.val (.ref ca), .val (.int 3), .val (.ref ba), .val (.int 3), .val (.int 7), .val (.int 3), .val (.int c2)]) (w := 1) X13 hx rfl rfl rfl (hb hby d6_38) rfl ?_
 refine og_goto (pc' := 3) X13 hx (hb hby d6_41) (by decide) (by decide) ?_
 refine og_iload X13 hx rfl (hb hby d6_3) rfl ?_
 refine og_iload X13 hx rfl (hb hby d6_5) rfl ?_
 refine og_icmp_ge (pc1 := 44) (pc2 := 10) X13 hx (hb hby d6_7) (by decide) (by decide) rfl (fun q => absurd q (by decide)) (fun _ => ?_)
 refine og_aloadN X13 hx rfl rfl (hb hby d6_10) rfl ?_
 refine og_iloadN X13 hx rfl (hb hby d6_11) rfl ?_
 refine og_caload (v := (.int c3)) X13 hx hZ e13 V_ca ⟨by decide, by decide⟩ rfl (hb hby d6_12) rfl ?_
 refine og_istore (L' := #[.val (.ref ca), .val (.int 3), .val (.ref ba), .val (.int 3), .val (.int 7), .val (.int 3), .val (.int c3)]) X13 hx rfl (hb hby d6_13) rfl ?_
 refine og_iload X13 hx rfl (hb hby d6_15) rfl ?_
 refine og_sipush (v := 255) X13 hx rfl (hb hby d6_17) rfl ?_
 refine og_icmp_le (pc1 := 26) (pc2 := 23) X13 hx (hb hby d6_20) (by decide) (by decide) rfl (fun _ => ?_) (fun q => absurd q hb3)
 refine og_aloadN X13 hx rfl rfl (hb hby d6_26) rfl ?_
 refine og_iloadN X13 hx rfl (hb hby d6_27) rfl ?_
 refine og_iload X13 hx rfl (hb hby d6_28) rfl ?_
 refine og_i2b X13 hx (hb hby d6_30) rfl ?_
 refine og_bastore X13 hx hZ e13 V_ba ⟨by decide, by decide⟩ 3 (by decide) (Nat.le_of_ble_eq_true rfl) (hb hby d6_31) rfl (fun T14 h14 X14 e14 W14 V14 => ?_)
 have V_ca := V_ca.other W14 ne_ca_ba; have K := K.wr W14 (Or.inl (List.mem_of_getElem? (i := 0) rfl))
 have N := Fr.snoc X14 N g_ba
 have V_ba : Arv Z h14 ba kb .byte (7 : Int32) [(.int c0.toInt8.toInt32), (.int c1.toInt8.toInt32), (.int c2.toInt8.toInt32), (.int (nar .byte (c3.toInt8.toInt32))), (.int 0), (.int 0), (.int 0)] (.int 0) := V14
 rw [own_nb] at V_ba
 refine og_iinc (L' := #[.val (.ref ca), .val (.int 4), .val (.ref ba), .val (.int 3), .val (.int 7), .val (.int 3), .val (.int c3)]) (w := 1) X14 hx rfl rfl rfl (hb hby d6_32) rfl ?_
 refine og_iinc (L' := #[.val (.ref ca), .val (.int 4), .val (.ref ba), .val (.int 4), .val (.int 7), .val (.int 3), .val (.int c3)]) (w := 1) X14 hx rfl rfl rfl (hb hby d6_35) rfl ?_
 refine og_iinc (L' := #[.val (.ref ca), .val (.int 4), .val (.ref ba), .val (.int 4), .val (.int 7), .val (.int 4), .val (.int c3)]) (w := 1) X14 hx rfl rfl rfl (hb hby d6_38) rfl ?_
 refine og_goto (pc' := 3) X14 hx (hb hby d6_41) (by decide) (by decide) ?_
 refine og_iload X14 hx rfl (hb hby d6_3) rfl ?_
 refine og_iload X14 hx rfl (hb hby d6_5) rfl ?_
 refine og_icmp_ge (pc1 := 44) (pc2 := 10) X14 hx (hb hby d6_7) (by decide) (by decide) rfl (fun q => absurd q (by decide)) (fun _ => ?_)
 refine og_aloadN X14 hx rfl rfl (hb hby d6_10) rfl ?_
 refine og_iloadN X14 hx rfl (hb hby d6_11) rfl ?_
 refine og_caload (v := (.int c4)) X14 hx hZ e14 V_ca ⟨by decide, by decide⟩ rfl (hb hby d6_12) rfl ?_
 refine og_istore (L' := #[.val (.ref ca), .val (.int 4), .val (.ref ba), .val (.int 4), .val (.int 7), .val (.int 4), .val (.int c4)]) X14 hx rfl (hb hby d6_13) rfl ?_
 refine og_iload X14 hx rfl (hb hby d6_15) rfl ?_
 refine og_sipush (v := 255) X14 hx rfl (hb hby d6_17) rfl ?_
 refine og_icmp_le (pc1 := 26) (pc2 := 23) X14 hx (hb hby d6_20) (by decide) (by decide) rfl (fun _ => ?_) (fun q => absurd q hb4)
 refine og_aloadN X14 hx rfl rfl (hb hby d6_26) rfl ?_
 refine og_iloadN X14 hx rfl (hb hby d6_27) rfl ?_
 refine og_iload X14 hx rfl (hb hby d6_28) rfl ?_
 refine og_i2b X14 hx (hb hby d6_30) rfl ?_
 refine og_bastore X14 hx hZ e14 V_ba ⟨by decide, by decide⟩ 4 (by decide) (Nat.le_of_ble_eq_true rfl) (hb hby d6_31) rfl (fun T15 h15 X15 e15 W15 V15 => ?_)
 have V_ca := V_ca.other W15 ne_ca_ba; have K := K.wr W15 (Or.inl (List.mem_of_getElem? (i := 0) rfl))
 have N := Fr.snoc X15 N g_ba
 have V_ba : Arv Z h15 ba kb .byte (7 : Int32) [(.int c0.toInt8.toInt32), (.int c1.toInt8.toInt32), (.int c2.toInt8.toInt32), (.int c3.toInt8.toInt32), (.int (nar .byte (c4.toInt8.toInt32))), (.int 0), (.int 0)] (.int 0) := V15
 rw [own_nb] at V_ba
 refine og_iinc (L' := #[.val (.ref ca), .val (.int 5), .val (.ref ba), .val (.int 4), .val (.int 7), .val (.int 4), .val (.int c4)]) (w := 1) X15 hx rfl rfl rfl (hb hby d6_32) rfl ?_
 refine og_iinc (L' := #[.val (.ref ca), .val (.int 5), .val (.ref ba), .val (.int 5), .val (.int 7), .val (.int 4), .val (.int c4)]) (w := 1) X15 hx rfl rfl rfl (hb hby d6_35) rfl ?_
 refine og_iinc (L' := #[.val (.ref ca), .val (.int 5), .val (.ref ba), .val (.int 5), .val (.int 7), .val (.int 5), .val (.int c4)]) (w := 1) X15 hx rfl rfl rfl (hb hby d6_38) rfl ?_
 refine og_goto (pc' := 3) X15 hx (hb hby d6_41) (by decide) (by decide) ?_
 refine og_iload X15 hx rfl (hb hby d6_3) rfl ?_
 refine og_iload X15 hx rfl (hb hby d6_5) rfl ?_
 refine og_icmp_ge (pc1 := 44) (pc2 := 10) X15 hx (hb hby d6_7) (by decide) (by decide) rfl (fun q => absurd q (by decide)) (fun _ => ?_)
 refine og_aloadN X15 hx rfl rfl (hb hby d6_10) rfl ?_
 refine og_iloadN X15 hx rfl (hb hby d6_11) rfl ?_
 refine og_caload (v := (.int c5)) X15 hx hZ e15 V_ca ⟨by decide, by decide⟩ rfl (hb hby d6_12) rfl ?_
 refine og_istore (L' := #[.val (.ref ca), .val (.int 5), .val (.ref ba), .val (.int 5), .val (.int 7), .val (.int 5), .val (.int c5)]) X15 hx rfl (hb hby d6_13) rfl ?_
 refine og_iload X15 hx rfl (hb hby d6_15) rfl ?_
 refine og_sipush (v := 255) X15 hx rfl (hb hby d6_17) rfl ?_
 refine og_icmp_le (pc1 := 26) (pc2 := 23) X15 hx (hb hby d6_20) (by decide) (by decide) rfl (fun _ => ?_) (fun q => absurd q hb5)
 refine og_aloadN X15 hx rfl rfl (hb hby d6_26) rfl ?_
 refine og_iloadN X15 hx rfl (hb hby d6_27) rfl ?_
 refine og_iload X15 hx rfl (hb hby d6_28) rfl ?_
 refine og_i2b X15 hx (hb hby d6_30) rfl ?_
 refine og_bastore X15 hx hZ e15 V_ba ⟨by decide, by decide⟩ 5 (by decide) (Nat.le_of_ble_eq_true rfl) (hb hby d6_31) rfl (fun T16 h16 X16 e16 W16 V16 => ?_)
 have V_ca := V_ca.other W16 ne_ca_ba; have K := K.wr W16 (Or.inl (List.mem_of_getElem? (i := 0) rfl))
 have N := Fr.snoc X16 N g_ba
 have V_ba : Arv Z h16 ba kb .byte (7 : Int32) [(.int c0.toInt8.toInt32), (.int c1.toInt8.toInt32), (.int c2.toInt8.toInt32), (.int c3.toInt8.toInt32), (.int c4.toInt8.toInt32), (.int (nar .byte (c5.toInt8.toInt32))), (.int 0)] (.int 0) := V16
 rw [own_nb] at V_ba
 refine og_iinc (L' := #[.val (.ref ca), .val (.int 6), .val (.ref ba), .val (.int 5), .val (.int 7), .val (.int 5), .val (.int c5)]) (w := 1) X16 hx rfl rfl rfl (hb hby d6_32) rfl ?_
 refine og_iinc (L' := #[.val (.ref ca), .val (.int 6), .val (.ref ba), .val (.int 6), .val (.int 7), .val (.int 5), .val (.int c5)]) (w := 1) X16 hx rfl rfl rfl (hb hby d6_35) rfl ?_
 refine og_iinc (L' := #[.val (.ref ca), .val (.int 6), .val (.ref ba), .val (.int 6), .val (.int 7), .val (.int 6), .val (.int c5)]) (w := 1) X16 hx rfl rfl rfl (hb hby d6_38) rfl ?_
 refine og_goto (pc' := 3) X16 hx (hb hby d6_41) (by decide) (by decide) ?_
 refine og_iload X16 hx rfl (hb hby d6_3) rfl ?_
 refine og_iload X16 hx rfl (hb hby d6_5) rfl ?_
 refine og_icmp_ge (pc1 := 44) (pc2 := 10) X16 hx (hb hby d6_7) (by decide) (by decide) rfl (fun q => absurd q (by decide)) (fun _ => ?_)
 refine og_aloadN X16 hx rfl rfl (hb hby d6_10) rfl ?_
 refine og_iloadN X16 hx rfl (hb hby d6_11) rfl ?_
 refine og_caload (v := (.int c6)) X16 hx hZ e16 V_ca ⟨by decide, by decide⟩ rfl (hb hby d6_12) rfl ?_
 refine og_istore (L' := #[.val (.ref ca), .val (.int 6), .val (.ref ba), .val (.int 6), .val (.int 7), .val (.int 6), .val (.int c6)]) X16 hx rfl (hb hby d6_13) rfl ?_
 refine og_iload X16 hx rfl (hb hby d6_15) rfl ?_
 refine og_sipush (v := 255) X16 hx rfl (hb hby d6_17) rfl ?_
 refine og_icmp_le (pc1 := 26) (pc2 := 23) X16 hx (hb hby d6_20) (by decide) (by decide) rfl (fun _ => ?_) (fun q => absurd q hb6)
 refine og_aloadN X16 hx rfl rfl (hb hby d6_26) rfl ?_
 refine og_iloadN X16 hx rfl (hb hby d6_27) rfl ?_
 refine og_iload X16 hx rfl (hb hby d6_28) rfl ?_
 refine og_i2b X16 hx (hb hby d6_30) rfl ?_
 refine og_bastore X16 hx hZ e16 V_ba ⟨by decide, by decide⟩ 6 (by decide) (Nat.le_of_ble_eq_true rfl) (hb hby d6_31) rfl (fun T17 h17 X17 e17 W17 V17 => ?_)
 have K := K.wr W17 (Or.inl (List.mem_of_getElem? (i := 0) rfl))
 have N := Fr.snoc X17 N g_ba
 have V_ba : Arv Z h17 ba kb .byte (7 : Int32) [(.int c0.toInt8.toInt32), (.int c1.toInt8.toInt32), (.int c2.toInt8.toInt32), (.int c3.toInt8.toInt32), (.int c4.toInt8.toInt32), (.int c5.toInt8.toInt32), (.int (nar .byte (c6.toInt8.toInt32)))] (.int 0) := V17
 rw [own_nb] at V_ba
 refine og_iinc (L' := #[.val (.ref ca), .val (.int 7), .val (.ref ba), .val (.int 6), .val (.int 7), .val (.int 6), .val (.int c6)]) (w := 1) X17 hx rfl rfl rfl (hb hby d6_32) rfl ?_
 refine og_iinc (L' := #[.val (.ref ca), .val (.int 7), .val (.ref ba), .val (.int 7), .val (.int 7), .val (.int 6), .val (.int c6)]) (w := 1) X17 hx rfl rfl rfl (hb hby d6_35) rfl ?_
 refine og_iinc (L' := #[.val (.ref ca), .val (.int 7), .val (.ref ba), .val (.int 7), .val (.int 7), .val (.int 7), .val (.int c6)]) (w := 1) X17 hx rfl rfl rfl (hb hby d6_38) rfl ?_
 refine og_goto (pc' := 3) X17 hx (hb hby d6_41) (by decide) (by decide) ?_
 refine og_iload X17 hx rfl (hb hby d6_3) rfl ?_
 refine og_iload X17 hx rfl (hb hby d6_5) rfl ?_
 refine og_icmp_ge (pc1 := 44) (pc2 := 10) X17 hx (hb hby d6_7) (by decide) (by decide) rfl (fun _ => ?_) (fun q => absurd q (by decide))
 refine og_iload X17 hx rfl (hb hby d6_44) rfl ?_
 refine og_retI X17 hx hlk hret (hb hby d6_46) (by decide) (by decide) ?_
 rw [e17]; exact ⟨rfl, N, K, V_ba⟩
theorem rm_c1_7 (l : Launch) (Z : State) (a0 : Array Value) (hw : HW a0 Z) (ca : Addr) (kc : ClassId) (c0 c1 c2 c3 c4 c5 c6 : Int32) (hb0 : ¬ 255 < c0) (hb1 : ¬ 255 < c1) (hb2 : ¬ 255 < c2) (hb3 : ¬ 255 < c3) (hb4 : ¬ 255 < c4) (hb5 : ¬ 255 < c5) (hb6 : ¬ 255 < c6) (h0 : Heap) (n0 : Nat) (O : Old Z n0 h0) (V_ca : Arv Z h0 ca kc .char (7 : Int32) [(.int c0), (.int c1), (.int c2), (.int c3), (.int c4), (.int c5), (.int c6)] (.int 0)) :
  Con l Z (⟨"java/lang/StringUTF16", "compress", "([CII)[B"⟩ : MethodName) jdk_52_method_16_code 6 (some (.array .byte)) ({ frames := 1, cells := 1, slots := 7, locals := 18 } : Room) #[(.ref ca), (.int 0), (.int 7)] h0 (fun v h L => ∃ b k, v = some (.ref b) ∧ Fr n0 L ∧ Keep h0 h [] ∧ h0.size ≤ b ∧ Arv Z h b k .byte (7 : Int32) [(.int c0.toInt8.toInt32), (.int c1.toInt8.toInt32), (.int c2.toInt8.toInt32), (.int c3.toInt8.toInt32), (.int c4.toInt8.toInt32), (.int c5.toInt8.toInt32), (.int c6.toInt8.toInt32)] (.int 0)) := by
 refine own_startC opn_5 ?_
 intro p e s m below meth c T0 X0 hx hby hml hZ hown hnm hret hlk e0
 have N := Fr.nil n0; have K := Keep.refl h0 []
 refine OG.cast (oef3 m ca (0 : Int32) (7 : Int32)) ?_
 refine og_iloadN X0 hx rfl (hb hby d5_0) rfl ?_
 refine og_newarray (pc' := 3) (cells' := 1) (slots' := 7) (cap := 7) (ty := .byte) X0 hx hZ rfl (ow23 hw) e0 (by decide) (by decide) (by decide) (hb hby d5_1) rfl rfl rfl (by decide) (by decide) (fun T11 h11 nb11 kA11 X11 e11 E11 q11 V_nb11 => ?_)
 have s_nb11 : h0.size ≤ nb11 := Nat.le_of_eq q11.symm; have g_nb11 : n0 ≤ nb11 := Nat.le_trans (own_n0 O) s_nb11; have sz_nb11 : h0.size ≤ nb11 := Nat.le_trans K.1 s_nb11; have ne_ca_nb11 : ca ≠ nb11 := Nat.ne_of_lt (Nat.lt_of_lt_of_le V_ca.lt s_nb11)
 have V_ca := V_ca.ext E11; have O := O.ext E11; have K := K.ext E11
 have V_nb11 : Arv Z h11 nb11 kA11 .byte (7 : Int32) [(.int 0), (.int 0), (.int 0), (.int 0), (.int 0), (.int 0), (.int 0)] (.int 0) := V_nb11.pad (pad_rep [] (.int 0) 7)
 refine og_astoreN (L' := #[.val (.ref ca), .val (.int 0), .val (.int 7), .val (.ref nb11), .unset, .unset]) X11 hx rfl rfl (hb hby d5_3) rfl ?_
 refine og_aloadN X11 hx rfl rfl (hb hby d5_4) rfl ?_
 refine og_iloadN X11 hx rfl (hb hby d5_5) rfl ?_
 refine og_aloadN X11 hx rfl rfl (hb hby d5_6) rfl ?_
 refine og_iconst (v := 0) X11 hx rfl (hb hby d5_7) rfl ?_
 refine og_iloadN X11 hx rfl (hb hby d5_8) rfl ?_
 refine og_static (pc' := 12) (cells' := 1) (slots' := 7) (W := 0) X11 hx hZ (rm_c2_7 l Z a0 hw ca nb11 kc kA11 c0 c1 c2 c3 c4 c5 c6 hb0 hb1 hb2 hb3 hb4 hb5 hb6 h11 n0 O V_ca V_nb11 g_nb11 ne_ca_nb11) hown (ow24 hw) (ow25 hw) (ow21 hw) (ow26 hw) (by decide) (by rw [hml]; rfl) e11 opd_1 [(.ref ca), (.int 0), (.ref nb11), (.int 0), (.int 7)] [] rfl rfl rfl rfl (by decide) (by decide) rfl rfl (by decide) (by decide) (hb hby d5_9) rfl (fun v12 T12 h12 L12 X12 e12 z12 => ?_)
 obtain ⟨rfl, Nq12, K12, V_nb11'⟩ := z12; have N := Fr.app N Nq12
 have K := K.trans K12 (allS (Or.inr sz_nb11) all0)
 have V_nb11 := V_nb11'
 refine og_istore (L' := #[.val (.ref ca), .val (.int 0), .val (.int 7), .val (.ref nb11), .val (.int 7), .unset]) X12 hx rfl (hb hby d5_12) rfl ?_
 refine og_iload X12 hx rfl (hb hby d5_14) rfl ?_
 refine og_iloadN X12 hx rfl (hb hby d5_16) rfl ?_
 refine og_icmp_eq (pc1 := 57) (pc2 := 20) X12 hx (hb hby d5_17) (by decide) (by decide) rfl (fun _ => ?_) (fun q => absurd q (by decide))
 refine og_aloadN X12 hx rfl rfl (hb hby d5_57) rfl ?_
 refine og_retR X12 hx hlk hret rfl rfl rfl (hb hby d5_58) (by decide) (by decide) ?_
 rw [e12]; exact ⟨_, _, rfl, N, K, sz_nb11, V_nb11⟩
theorem rm_cfa_7 (l : Launch) (Z : State) (a0 : Array Value) (hw : HW a0 Z) (ba : Addr) (kb : ClassId) (vs : List Value) (h0 : Heap) (n0 : Nat) (O : Old Z n0 h0) (V_ba : Arv Z h0 ba kb .byte (7 : Int32) vs (.int 0)) :
  Con l Z (⟨"java/lang/StringUTF16", "coderFromArrayLen", "([BI)B"⟩ : MethodName) jdk_52_method_15_code 2 (some .byte) ({ frames := 0, cells := 0, slots := 0, locals := 0 } : Room) #[(.ref ba), (.int 7)] h0 (fun v h L => v = some (.int 0) ∧ Fr n0 L ∧ h = h0) := by
 refine own_startC opn_7 ?_
 intro p e s m below meth c T0 X0 hx hby hml hZ hown hnm hret hlk e0
 have N := Fr.nil n0
 refine OG.cast (oef1 m ba (7 : Int32)) ?_
 refine og_iloadN X0 hx rfl (hb hby d7_0) rfl ?_
 refine og_aloadN X0 hx rfl rfl (hb hby d7_1) rfl ?_
 refine og_arraylength X0 hx hZ e0 V_ba (hb hby d7_2) rfl ?_
 refine og_isub X0 hx (hb hby d7_3) rfl ?_
 show OG p e below _ (T0.setTop (mkF m 4 #[.val (.ref ba), .val (.int 7)] [(.int 0)]))
 refine og_bipush (v := 31) X0 hx rfl (hb hby d7_4) rfl ?_
 refine og_iushr X0 hx (hb hby d7_6) rfl ?_
 show OG p e below _ (T0.setTop (mkF m 7 #[.val (.ref ba), .val (.int 7)] [(.int 0)]))
 refine og_i2b X0 hx (hb hby d7_7) rfl ?_
 show OG p e below _ (T0.setTop (mkF m 8 #[.val (.ref ba), .val (.int 7)] [(.int 0)]))
 refine og_retN X0 hx hlk hret (by simp) (hb hby d7_8) (by decide) (by decide) ?_
 rw [e0]; exact ⟨rfl, N, rfl⟩
theorem rm_sv_7 (l : Launch) (Z : State) (a0 : Array Value) (hw : HW a0 Z) (a1 ca : Addr) (kc : ClassId) (c0 c1 c2 c3 c4 c5 c6 : Int32) (hb0 : ¬ 255 < c0) (hb1 : ¬ 255 < c1) (hb2 : ¬ 255 < c2) (hb3 : ¬ 255 < c3) (hb4 : ¬ 255 < c4) (hb5 : ¬ 255 < c5) (hb6 : ¬ 255 < c6) (cs : Int32) (hcs : ¬ cs = 0) (h0 : Heap) (n0 : Nat) (O : Old Z n0 h0) (E_a1 : Exa Z h0 a1 "java/lang/String") (F_value_a1 : Fld Z h0 a1 "java/lang/String" "value" "[B" .null) (F_coder_a1 : Fld Z h0 a1 "java/lang/String" "coder" "B" (.int 0)) (V_ca : Arv Z h0 ca kc .char (7 : Int32) [(.int c0), (.int c1), (.int c2), (.int c3), (.int c4), (.int c5), (.int c6)] (.int 0)) (S_CS : Sta Z Z.heap "java/lang/String" "COMPACT_STRINGS" "Z" (.int cs)) (g_a1 : n0 ≤ a1) (ne_ca_a1 : ca ≠ a1) :
  Con l Z (⟨"java/lang/String", "<init>", "([CIILjava/lang/Void;)V"⟩ : MethodName) jdk_42_method_149_code 6 none ({ frames := 2, cells := 1, slots := 7, locals := 35 } : Room) #[(.ref a1), (.ref ca), (.int 0), (.int 7), .null] h0 (fun v h L => ∃ b k, v = none ∧ Fr n0 L ∧ Keep h0 h [a1] ∧ h0.size ≤ b ∧ Exa Z h a1 "java/lang/String" ∧ Fld Z h a1 "java/lang/String" "value" "[B" (.ref b) ∧ Fld Z h a1 "java/lang/String" "coder" "B" (.int 0) ∧ Arv Z h b k .byte (7 : Int32) [(.int c0.toInt8.toInt32), (.int c1.toInt8.toInt32), (.int c2.toInt8.toInt32), (.int c3.toInt8.toInt32), (.int c4.toInt8.toInt32), (.int c5.toInt8.toInt32), (.int c6.toInt8.toInt32)] (.int 0)) := by
 refine own_startC opn_3 ?_
 intro p e s m below meth c T0 X0 hx hby hml hZ hown hnm hret hlk e0
 have N := Fr.nil n0; have K := Keep.refl h0 [a1]
 refine OG.cast (oef4 m a1 ca (0 : Int32) (7 : Int32)) ?_
 refine og_aloadN X0 hx rfl rfl (hb hby d3_0) rfl ?_
 refine og_initO (pc' := 4) X0 hx hZ (W := 0) (by rw [hml]; rfl) hown (ow15 hw) (ow16 hw) (ow17 hw) e0 rfl (by decide) (by decide) (hb hby d3_1) rfl (fun T11 X11 e11 => ?_)
 refine og_iloadN X11 hx rfl (hb hby d3_4) rfl ?_
 refine og_if_ne (pc1 := 27) (pc2 := 8) X11 hx (hb hby d3_5) (by decide) (by decide) rfl (fun _ => ?_) (fun q => absurd q (by decide))
 refine og_getstatic X11 hx hZ (host := "") hown (Or.inl (ow18 hw)) Via.refl e11 (S_CS.ext O.2) (hb hby d3_27) rfl (fun T12 X12 e12 => ?_)
 refine og_if_eq (pc1 := 58) (pc2 := 33) X12 hx (hb hby d3_30) (by decide) (by decide) rfl (fun q => absurd q hcs) (fun _ => ?_)
 refine og_aloadN X12 hx rfl rfl (hb hby d3_33) rfl ?_
 refine og_iloadN X12 hx rfl (hb hby d3_34) rfl ?_
 refine og_iloadN X12 hx rfl (hb hby d3_35) rfl ?_
 refine og_static (pc' := 39) (cells' := 1) (slots' := 7) (W := 0) X12 hx hZ (rm_c1_7 l Z a0 hw ca kc c0 c1 c2 c3 c4 c5 c6 hb0 hb1 hb2 hb3 hb4 hb5 hb6 h0 n0 O V_ca) hown (ow19 hw) (ow20 hw) (ow21 hw) (ow22 hw) (by decide) (by rw [hml]; rfl) e12 opd_2 [(.ref ca), (.int 0), (.int 7)] [] rfl rfl rfl rfl (by decide) (by decide) rfl rfl (by decide) (by decide) (hb hby d3_36) rfl (fun v13 T13 h13 L13 X13 e13 z13 => ?_)
 obtain ⟨nb13, k13, rfl, Nq13, K13, sb13, V_nb13⟩ := z13; have N := Fr.app N Nq13
 have s_nb13 : h0.size ≤ nb13 := sb13; have sz_nb13 : h0.size ≤ nb13 := Nat.le_trans K.1 s_nb13; have ne_a1_nb13 : a1 ≠ nb13 := Nat.ne_of_lt (Nat.lt_of_lt_of_le E_a1.lt s_nb13)
 have E_a1 := E_a1.keep K13; have F_value_a1 := F_value_a1.keep K13 nin0; have F_coder_a1 := F_coder_a1.keep K13 nin0; have O := O.keep K13 all0; have K := K.trans K13 all0
 refine og_astore (L' := #[.val (.ref a1), .val (.ref ca), .val (.int 0), .val (.int 7), .val .null, .val (.ref nb13)]) X13 hx rfl rfl (hb hby d3_39) rfl ?_
 refine og_aloadN X13 hx rfl rfl (hb hby d3_41) rfl ?_
 refine og_aload X13 hx rfl rfl (hb hby d3_42) rfl ?_
 refine og_iloadN X13 hx rfl (hb hby d3_44) rfl ?_
 refine og_static (pc' := 48) (cells' := 1) (slots' := 7) (W := 1) X13 hx hZ (rm_cfa_7 l Z a0 hw nb13 k13 _ h13 n0 O V_nb13) hown (ow27 hw) (ow28 hw) (ow21 hw) (ow29 hw) (by decide) (by rw [hml]; rfl) e13 opd_3 [(.ref nb13), (.int 7)] [(.ref a1)] rfl rfl rfl rfl (by decide) (by decide) rfl rfl (by decide) (by decide) (hb hby d3_45) rfl (fun v14 T14 h14 L14 X14 e14 z14 => ?_)
 obtain ⟨rfl, Nq14, hq14⟩ := z14; replace e14 := e14.trans hq14; have N := Fr.app N Nq14
 refine og_putfield X14 hx hZ (ty := .byte) (host := "") hown (Or.inl (ow30 hw)) Via.refl e14 F_coder_a1 E_a1 (Or.inr ⟨(ow31 hw), rfl, hnm⟩) (ow6 hw) (by decide) rfl rfl (hb hby d3_48) rfl (fun T15 h15 X15 e15 W15 => ?_)
 have F_coder_a1_ := F_coder_a1.same W15
 have E_a1 := E_a1.wr W15; have F_value_a1 := F_value_a1.other W15 (Or.inr (slot_ne (Or.inr (ow33 hw)) (Or.inr (ow31 hw)) (by decide) (t := (.array .byte)) (t' := .byte) (by decide) (by decide))); have V_nb13 := V_nb13.other W15 (Ne.symm ne_a1_nb13); have K := K.wr W15 (Or.inl (List.mem_of_getElem? (i := 0) rfl))
 have N := Fr.snoc X15 N g_a1; have F_coder_a1 := F_coder_a1_
 refine og_aloadN X15 hx rfl rfl (hb hby d3_51) rfl ?_
 refine og_aload X15 hx rfl rfl (hb hby d3_52) rfl ?_
 refine og_putfield X15 hx hZ (ty := (.array .byte)) (host := "") hown (Or.inl (ow32 hw)) Via.refl e15 F_value_a1 E_a1 (Or.inr ⟨(ow33 hw), rfl, hnm⟩) (ow6 hw) (by decide) rfl rfl (hb hby d3_54) rfl (fun T16 h16 X16 e16 W16 => ?_)
 have F_value_a1_ := F_value_a1.same W16
 have E_a1 := E_a1.wr W16; have V_nb13 := V_nb13.other W16 (Ne.symm ne_a1_nb13); have F_coder_a1 := F_coder_a1.other W16 (Or.inr (slot_ne (Or.inr (ow31 hw)) (Or.inr (ow33 hw)) (by decide) (t := .byte) (t' := (.array .byte)) (by decide) (by decide))); have K := K.wr W16 (Or.inl (List.mem_of_getElem? (i := 0) rfl))
 have N := Fr.snoc X16 N g_a1; have F_value_a1 := F_value_a1_
 refine og_retV X16 hx hlk hret (hb hby d3_57) (by decide) (by decide) ?_
 rw [e16]; exact ⟨_, _, rfl, N, K, sz_nb13, E_a1, F_value_a1, F_coder_a1, V_nb13⟩
theorem rm_sn_7 (l : Launch) (Z : State) (a0 : Array Value) (hw : HW a0 Z) (a1 ca : Addr) (kc : ClassId) (c0 c1 c2 c3 c4 c5 c6 : Int32) (hb0 : ¬ 255 < c0) (hb1 : ¬ 255 < c1) (hb2 : ¬ 255 < c2) (hb3 : ¬ 255 < c3) (hb4 : ¬ 255 < c4) (hb5 : ¬ 255 < c5) (hb6 : ¬ 255 < c6) (cs : Int32) (hcs : ¬ cs = 0) (h0 : Heap) (n0 : Nat) (O : Old Z n0 h0) (E_a1 : Exa Z h0 a1 "java/lang/String") (F_value_a1 : Fld Z h0 a1 "java/lang/String" "value" "[B" .null) (F_coder_a1 : Fld Z h0 a1 "java/lang/String" "coder" "B" (.int 0)) (V_ca : Arv Z h0 ca kc .char (7 : Int32) [(.int c0), (.int c1), (.int c2), (.int c3), (.int c4), (.int c5), (.int c6)] (.int 0)) (S_CS : Sta Z Z.heap "java/lang/String" "COMPACT_STRINGS" "Z" (.int cs)) (g_a1 : n0 ≤ a1) (ne_ca_a1 : ca ≠ a1) :
  Con l Z (⟨"java/lang/String", "<init>", "([C)V"⟩ : MethodName) jdk_42_method_3_code 2 none ({ frames := 3, cells := 1, slots := 7, locals := 52 } : Room) #[(.ref a1), (.ref ca)] h0 (fun v h L => ∃ b k, v = none ∧ Fr n0 L ∧ Keep h0 h [a1] ∧ h0.size ≤ b ∧ Exa Z h a1 "java/lang/String" ∧ Fld Z h a1 "java/lang/String" "value" "[B" (.ref b) ∧ Fld Z h a1 "java/lang/String" "coder" "B" (.int 0) ∧ Arv Z h b k .byte (7 : Int32) [(.int c0.toInt8.toInt32), (.int c1.toInt8.toInt32), (.int c2.toInt8.toInt32), (.int c3.toInt8.toInt32), (.int c4.toInt8.toInt32), (.int c5.toInt8.toInt32), (.int c6.toInt8.toInt32)] (.int 0)) := by
 refine own_startC opn_2 ?_
 intro p e s m below meth c T0 X0 hx hby hml hZ hown hnm hret hlk e0
 have N := Fr.nil n0; have K := Keep.refl h0 [a1]
 refine OG.cast (oef5 m a1 ca) ?_
 refine og_aloadN X0 hx rfl rfl (hb hby d2_0) rfl ?_
 refine og_aloadN X0 hx rfl rfl (hb hby d2_1) rfl ?_
 refine og_iconst (v := 0) X0 hx rfl (hb hby d2_2) rfl ?_
 refine og_aloadN X0 hx rfl rfl (hb hby d2_3) rfl ?_
 refine og_arraylength X0 hx hZ e0 V_ca (hb hby d2_4) rfl ?_
 refine og_aconst_null X0 hx (hb hby d2_5) rfl ?_
 refine og_special (pc' := 9) (cells' := 1) (slots' := 7) (W := 0) X0 hx hZ (rm_sv_7 l Z a0 hw a1 ca kc c0 c1 c2 c3 c4 c5 c6 hb0 hb1 hb2 hb3 hb4 hb5 hb6 cs hcs h0 n0 O E_a1 F_value_a1 F_coder_a1 V_ca S_CS g_a1 ne_ca_a1) rfl hown (ow11 hw) (ow12 hw) (ow7 hw) (ow14 hw) (by decide) (by rw [hml]; rfl) e0 opd_4 [(.ref ca), (.int 0), (.int 7), .null] [] rfl rfl rfl rfl (by decide) (by decide) rfl rfl (by decide) (by decide) (hb hby d2_6) rfl (fun v11 T11 h11 L11 X11 e11 z11 => ?_)
 obtain ⟨nb11, k11, rfl, Nq11, K11, sb11, E_a1', F_value_a1', F_coder_a1', V_nb11⟩ := z11; have N := Fr.app N Nq11
 have s_nb11 : h0.size ≤ nb11 := sb11; have sz_nb11 : h0.size ≤ nb11 := Nat.le_trans K.1 s_nb11
 have K := K.trans K11 (allS (Or.inl (List.mem_of_getElem? (i := 0) rfl)) all0)
 have E_a1 := E_a1'; have F_value_a1 := F_value_a1'; have F_coder_a1 := F_coder_a1'
 refine og_retV X11 hx hlk hret (hb hby d2_9) (by decide) (by decide) ?_
 rw [e11]; exact ⟨_, _, rfl, N, K, sz_nb11, E_a1, F_value_a1, F_coder_a1, V_nb11⟩
theorem rm_pc (l : Launch) (Z : State) (a0 : Array Value) (hw : HW a0 Z) (nn ii : Int32) (hi : ¬ ii < 0 ∧ ii < nn) (fm : Value) (hfm : fm.isRef = true) (h0 : Heap) (n0 : Nat) (O : Old Z n0 h0) :
  Con l Z (⟨"jdk/internal/util/Preconditions", "checkIndex", "(IILjava/util/function/BiFunction;)I"⟩ : MethodName) jdk_41_method_11_code 3 (some .int) ({ frames := 0, cells := 0, slots := 0, locals := 0 } : Room) #[(.int ii), (.int nn), fm] h0 (fun v h L => v = some (.int ii) ∧ Fr n0 L ∧ h = h0) := by
 refine own_startC opn_17 ?_
 intro p e s m below meth c T0 X0 hx hby hml hZ hown hnm hret hlk e0
 have N := Fr.nil n0
 refine OG.cast (oef6 m ii nn fm hfm) ?_
 refine og_iloadN X0 hx rfl (hb hby d17_0) rfl ?_
 refine og_if_lt (pc1 := 9) (pc2 := 4) X0 hx (hb hby d17_1) (by decide) (by decide) rfl (fun q => absurd q hi.1) (fun _ => ?_)
 refine og_iloadN X0 hx rfl (hb hby d17_4) rfl ?_
 refine og_iloadN X0 hx rfl (hb hby d17_5) rfl ?_
 refine og_icmp_lt (pc1 := 16) (pc2 := 9) X0 hx (hb hby d17_6) (by decide) (by decide) rfl (fun _ => ?_) (fun q => absurd hi.2 q)
 refine og_iloadN X0 hx rfl (hb hby d17_16) rfl ?_
 refine og_retI X0 hx hlk hret (hb hby d17_17) (by decide) (by decide) ?_
 rw [e0]; exact ⟨rfl, N, rfl⟩
theorem rm_ci (l : Launch) (Z : State) (a0 : Array Value) (hw : HW a0 Z) (nn ii : Int32) (hi : ¬ ii < 0 ∧ ii < nn) (fm : Value) (hfm : fm.isRef = true) (h0 : Heap) (n0 : Nat) (O : Old Z n0 h0) (S_FM : Sta Z Z.heap "jdk/internal/util/Preconditions" "SIOOBE_FORMATTER" "Ljava/util/function/BiFunction;" fm) :
  Con l Z (⟨"java/lang/String", "checkIndex", "(II)V"⟩ : MethodName) jdk_42_method_155_code 2 none ({ frames := 1, cells := 0, slots := 0, locals := 14 } : Room) #[(.int ii), (.int nn)] h0 (fun v h L => v = none ∧ Fr n0 L ∧ h = h0) := by
 refine own_startC opn_16 ?_
 intro p e s m below meth c T0 X0 hx hby hml hZ hown hnm hret hlk e0
 have N := Fr.nil n0
 refine OG.cast (oef7 m ii nn) ?_
 refine og_iloadN X0 hx rfl (hb hby d16_0) rfl ?_
 refine og_iloadN X0 hx rfl (hb hby d16_1) rfl ?_
 refine og_getstatic X0 hx hZ (host := "") hown (Or.inl (ow76 hw)) Via.refl e0 (S_FM.ext O.2) (hb hby d16_2) rfl (fun T11 X11 e11 => ?_)
 refine og_static (pc' := 8) (cells' := 0) (slots' := 0) (W := 0) X11 hx hZ (rm_pc l Z a0 hw nn ii hi fm hfm h0 n0 O) hown (ow78 hw) (ow79 hw) (ow77 hw) (ow80 hw) (by decide) (by rw [hml]; rfl) e11 opd_5 [(.int ii), (.int nn), fm] [] rfl rfl rfl rfl (by decide) (by decide) rfl rfl (by decide) (by decide) (hb hby d16_5) rfl (fun v12 T12 h12 L12 X12 e12 z12 => ?_)
 obtain ⟨rfl, Nq12, hq12⟩ := z12; replace e12 := e12.trans hq12; have N := Fr.app N Nq12
 refine og_pop X12 hx rfl (hb hby d16_8) rfl ?_
 refine og_retV X12 hx hlk hret (hb hby d16_9) (by decide) (by decide) ?_
 rw [e12]; exact ⟨rfl, N, rfl⟩
theorem rm_lc (l : Launch) (Z : State) (a0 : Array Value) (hw : HW a0 Z) (ba : Addr) (kb : ClassId) (nn ii : Int32) (hi : ¬ ii < 0 ∧ ii < nn) (vs : List Value) (cc : Int32) (hv : vs.getD ii.toNatClampNeg (.int 0) = .int cc.toInt8.toInt32) (hcc : 0 ≤ cc.toInt ∧ cc.toInt ≤ 255) (fm : Value) (hfm : fm.isRef = true) (h0 : Heap) (n0 : Nat) (O : Old Z n0 h0) (V_ba : Arv Z h0 ba kb .byte nn vs (.int 0)) (S_FM : Sta Z Z.heap "jdk/internal/util/Preconditions" "SIOOBE_FORMATTER" "Ljava/util/function/BiFunction;" fm) :
  Con l Z (⟨"java/lang/StringLatin1", "charAt", "([BI)C"⟩ : MethodName) jdk_43_method_2_code 2 (some .char) ({ frames := 2, cells := 0, slots := 0, locals := 27 } : Room) #[(.ref ba), (.int ii)] h0 (fun v h L => v = some (.int cc) ∧ Fr n0 L ∧ h = h0) := by
 refine own_startC opn_15 ?_
 intro p e s m below meth c T0 X0 hx hby hml hZ hown hnm hret hlk e0
 have N := Fr.nil n0
 refine OG.cast (oef1 m ba ii) ?_
 refine og_iloadN X0 hx rfl (hb hby d15_0) rfl ?_
 refine og_aloadN X0 hx rfl rfl (hb hby d15_1) rfl ?_
 refine og_arraylength X0 hx hZ e0 V_ba (hb hby d15_2) rfl ?_
 refine og_static (pc' := 6) (cells' := 0) (slots' := 0) (W := 0) X0 hx hZ (rm_ci l Z a0 hw nn ii hi fm hfm h0 n0 O S_FM) hown (ow73 hw) (ow74 hw) (ow7 hw) (ow75 hw) (by decide) (by rw [hml]; rfl) e0 opd_6 [(.int ii), (.int nn)] [] rfl rfl rfl rfl (by decide) (by decide) rfl rfl (by decide) (by decide) (hb hby d15_3) rfl (fun v11 T11 h11 L11 X11 e11 z11 => ?_)
 obtain ⟨rfl, Nq11, hq11⟩ := z11; replace e11 := e11.trans hq11; have N := Fr.app N Nq11
 refine og_aloadN X11 hx rfl rfl (hb hby d15_6) rfl ?_
 refine og_iloadN X11 hx rfl (hb hby d15_7) rfl ?_
 refine og_baload (v := (.int cc.toInt8.toInt32)) X11 hx hZ e11 V_ba hi hv (hb hby d15_8) rfl ?_
 refine og_sipush (v := 255) X11 hx rfl (hb hby d15_9) rfl ?_
 refine og_iand X11 hx (hb hby d15_12) rfl ?_
 refine og_i2c X11 hx (hb hby d15_13) rfl ?_
 refine og_retN X11 hx hlk hret (by simp) (hb hby d15_14) (by decide) (by decide) ?_
 rw [e11, own_ch hcc]; exact ⟨rfl, N, rfl⟩
theorem rm_il (l : Launch) (Z : State) (a0 : Array Value) (hw : HW a0 Z) (a1 : Addr) (cs : Int32) (hcs : ¬ cs = 0) (h0 : Heap) (n0 : Nat) (O : Old Z n0 h0) (F_coder_a1 : Fld Z h0 a1 "java/lang/String" "coder" "B" (.int 0)) (S_CS : Sta Z Z.heap "java/lang/String" "COMPACT_STRINGS" "Z" (.int cs)) :
  Con l Z (⟨"java/lang/String", "isLatin1", "()Z"⟩ : MethodName) jdk_42_method_154_code 1 (some .boolean) ({ frames := 0, cells := 0, slots := 0, locals := 0 } : Room) #[(.ref a1)] h0 (fun v h L => v = some (.int 1) ∧ Fr n0 L ∧ h = h0) := by
 refine own_startC opn_14 ?_
 intro p e s m below meth c T0 X0 hx hby hml hZ hown hnm hret hlk e0
 have N := Fr.nil n0
 refine OG.cast (oef0 m a1) ?_
 refine og_getstatic X0 hx hZ (host := "") hown (Or.inl (ow18 hw)) Via.refl e0 (S_CS.ext O.2) (hb hby d14_0) rfl (fun T11 X11 e11 => ?_)
 refine og_if_eq (pc1 := 17) (pc2 := 6) X11 hx (hb hby d14_3) (by decide) (by decide) rfl (fun q => absurd q hcs) (fun _ => ?_)
 refine og_aloadN X11 hx rfl rfl (hb hby d14_6) rfl ?_
 refine og_getfield X11 hx hZ (host := "") hown (Or.inl (ow30 hw)) Via.refl e11 F_coder_a1 (hb hby d14_7) rfl (fun T12 X12 e12 => ?_)
 refine og_if_ne (pc1 := 17) (pc2 := 13) X12 hx (hb hby d14_10) (by decide) (by decide) rfl (fun q => absurd q (by decide)) (fun _ => ?_)
 refine og_iconst (v := 1) X12 hx rfl (hb hby d14_13) rfl ?_
 refine og_goto (pc' := 18) X12 hx (hb hby d14_14) (by decide) (by decide) ?_
 refine og_retN X12 hx hlk hret (by simp) (hb hby d14_18) (by decide) (by decide) ?_
 rw [e12]; exact ⟨rfl, N, rfl⟩
theorem rm_ch (l : Launch) (Z : State) (a0 : Array Value) (hw : HW a0 Z) (a1 ba : Addr) (kb : ClassId) (nn ii : Int32) (hi : ¬ ii < 0 ∧ ii < nn) (vs : List Value) (cc : Int32) (hv : vs.getD ii.toNatClampNeg (.int 0) = .int cc.toInt8.toInt32) (hcc : 0 ≤ cc.toInt ∧ cc.toInt ≤ 255) (cs : Int32) (hcs : ¬ cs = 0) (fm : Value) (hfm : fm.isRef = true) (h0 : Heap) (n0 : Nat) (O : Old Z n0 h0) (E_a1 : Exa Z h0 a1 "java/lang/String") (F_value_a1 : Fld Z h0 a1 "java/lang/String" "value" "[B" (.ref ba)) (F_coder_a1 : Fld Z h0 a1 "java/lang/String" "coder" "B" (.int 0)) (V_ba : Arv Z h0 ba kb .byte nn vs (.int 0)) (S_CS : Sta Z Z.heap "java/lang/String" "COMPACT_STRINGS" "Z" (.int cs)) (S_FM : Sta Z Z.heap "jdk/internal/util/Preconditions" "SIOOBE_FORMATTER" "Ljava/util/function/BiFunction;" fm) :
  Con l Z (⟨"java/lang/String", "charAt", "(I)C"⟩ : MethodName) jdk_42_method_56_code 2 (some .char) ({ frames := 3, cells := 0, slots := 0, locals := 40 } : Room) #[(.ref a1), (.int ii)] h0 (fun v h L => v = some (.int cc) ∧ Fr n0 L ∧ h = h0) := by
 refine own_startC opn_13 ?_
 intro p e s m below meth c T0 X0 hx hby hml hZ hown hnm hret hlk e0
 have N := Fr.nil n0
 refine OG.cast (oef1 m a1 ii) ?_
 refine og_aloadN X0 hx rfl rfl (hb hby d13_0) rfl ?_
 refine og_virtual (pc' := 4) (cells' := 0) (slots' := 0) (W := 0) X0 hx hZ (rm_il l Z a0 hw a1 cs hcs h0 n0 O F_coder_a1 S_CS) hown (ow64 hw) (ow65 hw) (own_nf hZ (ow67 hw)) (ow67 hw) (ow66 hw) (ow7 hw) (ow68 hw) (by decide) (by rw [hml]; rfl) e0 opd_7 [] [] rfl rfl rfl rfl (by decide) (by decide) rfl rfl (by decide) (by decide) E_a1 (hb hby d13_1) rfl (fun v11 T11 h11 L11 X11 e11 z11 => ?_)
 obtain ⟨rfl, Nq11, hq11⟩ := z11; replace e11 := e11.trans hq11; have N := Fr.app N Nq11
 refine og_if_eq (pc1 := 16) (pc2 := 7) X11 hx (hb hby d13_4) (by decide) (by decide) rfl (fun q => absurd q (by decide)) (fun _ => ?_)
 refine og_aloadN X11 hx rfl rfl (hb hby d13_7) rfl ?_
 refine og_getfield X11 hx hZ (host := "") hown (Or.inl (ow32 hw)) Via.refl e11 F_value_a1 (hb hby d13_8) rfl (fun T12 X12 e12 => ?_)
 refine og_iloadN X12 hx rfl (hb hby d13_11) rfl ?_
 refine og_static (pc' := 15) (cells' := 0) (slots' := 0) (W := 0) X12 hx hZ (rm_lc l Z a0 hw ba kb nn ii hi vs cc hv hcc fm hfm h0 n0 O V_ba S_FM) hown (ow69 hw) (ow70 hw) (ow71 hw) (ow72 hw) (by decide) (by rw [hml]; rfl) e12 opd_8 [(.ref ba), (.int ii)] [] rfl rfl rfl rfl (by decide) (by decide) rfl rfl (by decide) (by decide) (hb hby d13_12) rfl (fun v13 T13 h13 L13 X13 e13 z13 => ?_)
 obtain ⟨rfl, Nq13, hq13⟩ := z13; replace e13 := e13.trans hq13; have N := Fr.app N Nq13
 refine og_retN X13 hx hlk hret (by simp) (hb hby d13_15) (by decide) (by decide) ?_
 rw [e13, own_nc hcc]; exact ⟨rfl, N, rfl⟩
theorem rm_cod (l : Launch) (Z : State) (a0 : Array Value) (hw : HW a0 Z) (a1 : Addr) (cs : Int32) (hcs : ¬ cs = 0) (h0 : Heap) (n0 : Nat) (O : Old Z n0 h0) (F_coder_a1 : Fld Z h0 a1 "java/lang/String" "coder" "B" (.int 0)) (S_CS : Sta Z Z.heap "java/lang/String" "COMPACT_STRINGS" "Z" (.int cs)) :
  Con l Z (⟨"java/lang/String", "coder", "()B"⟩ : MethodName) jdk_42_method_152_code 1 (some .byte) ({ frames := 0, cells := 0, slots := 0, locals := 0 } : Room) #[(.ref a1)] h0 (fun v h L => v = some (.int 0) ∧ Fr n0 L ∧ h = h0) := by
 refine own_startC opn_12 ?_
 intro p e s m below meth c T0 X0 hx hby hml hZ hown hnm hret hlk e0
 have N := Fr.nil n0
 refine OG.cast (oef0 m a1) ?_
 refine og_getstatic X0 hx hZ (host := "") hown (Or.inl (ow18 hw)) Via.refl e0 (S_CS.ext O.2) (hb hby d12_0) rfl (fun T11 X11 e11 => ?_)
 refine og_if_eq (pc1 := 13) (pc2 := 6) X11 hx (hb hby d12_3) (by decide) (by decide) rfl (fun q => absurd q hcs) (fun _ => ?_)
 refine og_aloadN X11 hx rfl rfl (hb hby d12_6) rfl ?_
 refine og_getfield X11 hx hZ (host := "") hown (Or.inl (ow30 hw)) Via.refl e11 F_coder_a1 (hb hby d12_7) rfl (fun T12 X12 e12 => ?_)
 refine og_goto (pc' := 14) X12 hx (hb hby d12_10) (by decide) (by decide) ?_
 refine og_retN X12 hx hlk hret (by simp) (hb hby d12_14) (by decide) (by decide) ?_
 rw [e12]; exact ⟨rfl, N, rfl⟩
theorem rm_len (l : Launch) (Z : State) (a0 : Array Value) (hw : HW a0 Z) (a1 ba : Addr) (kb : ClassId) (nn : Int32) (vs : List Value) (cs : Int32) (hcs : ¬ cs = 0) (h0 : Heap) (n0 : Nat) (O : Old Z n0 h0) (E_a1 : Exa Z h0 a1 "java/lang/String") (F_value_a1 : Fld Z h0 a1 "java/lang/String" "value" "[B" (.ref ba)) (F_coder_a1 : Fld Z h0 a1 "java/lang/String" "coder" "B" (.int 0)) (V_ba : Arv Z h0 ba kb .byte nn vs (.int 0)) (S_CS : Sta Z Z.heap "java/lang/String" "COMPACT_STRINGS" "Z" (.int cs)) :
  Con l Z (⟨"java/lang/String", "length", "()I"⟩ : MethodName) jdk_42_method_54_code 1 (some .int) ({ frames := 1, cells := 0, slots := 0, locals := 13 } : Room) #[(.ref a1)] h0 (fun v h L => v = some (.int nn) ∧ Fr n0 L ∧ h = h0) := by
 refine own_startC opn_11 ?_
 intro p e s m below meth c T0 X0 hx hby hml hZ hown hnm hret hlk e0
 have N := Fr.nil n0
 refine OG.cast (oef0 m a1) ?_
 refine og_aloadN X0 hx rfl rfl (hb hby d11_0) rfl ?_
 refine og_getfield X0 hx hZ (host := "") hown (Or.inl (ow32 hw)) Via.refl e0 F_value_a1 (hb hby d11_1) rfl (fun T11 X11 e11 => ?_)
 refine og_arraylength X11 hx hZ e11 V_ba (hb hby d11_4) rfl ?_
 refine og_aloadN X11 hx rfl rfl (hb hby d11_5) rfl ?_
 refine og_virtual (pc' := 9) (cells' := 0) (slots' := 0) (W := 1) X11 hx hZ (rm_cod l Z a0 hw a1 cs hcs h0 n0 O F_coder_a1 S_CS) hown (ow49 hw) (ow50 hw) (own_nf hZ (ow52 hw)) (ow52 hw) (ow51 hw) (ow7 hw) (ow53 hw) (by decide) (by rw [hml]; rfl) e11 opd_9 [] [(.int nn)] rfl rfl rfl rfl (by decide) (by decide) rfl rfl (by decide) (by decide) E_a1 (hb hby d11_6) rfl (fun v12 T12 h12 L12 X12 e12 z12 => ?_)
 obtain ⟨rfl, Nq12, hq12⟩ := z12; replace e12 := e12.trans hq12; have N := Fr.app N Nq12
 refine og_ishr X12 hx (hb hby d11_9) rfl ?_
 refine og_retI X12 hx hlk hret (hb hby d11_10) (by decide) (by decide) ?_
 rw [e12, own_shr0]; exact ⟨rfl, N, rfl⟩
theorem rm_pk (l : Launch) (Z : State) (a0 : Array Value) (hw : HW a0 Z) (kk : Int32) (h0 : Heap) (n0 : Nat) (O : Old Z n0 h0) :
  Con l Z (⟨"com/example/nitpick/nitpick/internal/interpolation/ExpressionEndsOfPinLaw", "pick", "(I)C"⟩ : MethodName) method_2_code 2 (some .char) ({ frames := 0, cells := 0, slots := 0, locals := 0 } : Room) #[(.int kk)] h0 (fun v h L => ∃ z : Int32, v = some (.int z) ∧ Fr n0 L ∧ h = h0 ∧ 0 ≤ z.toInt ∧ z.toInt ≤ 255) := by
 refine own_startC opn_1 ?_
 intro p e s m below meth c T0 X0 hx hby hml hZ hown hnm hret hlk e0
 have N := Fr.nil n0
 refine OG.cast (oef8 m kk) ?_
 refine og_iloadN X0 hx rfl (hb hby d1_0) rfl ?_
 refine og_bipush (v := 7) X0 hx rfl (hb hby d1_1) rfl ?_
 refine og_iand X0 hx (hb hby d1_3) rfl ?_
 refine og_istoreN (L' := #[.val (.int kk), .val (.int (kk &&& (7 : Int32)))]) X0 hx rfl (hb hby d1_4) rfl ?_
 refine og_iloadN X0 hx rfl (hb hby d1_5) rfl ?_
 refine og_if_ne (pc1 := 12) (pc2 := 9) X0 hx (hb hby d1_6) (by decide) (by decide) rfl (fun hc6 => ?_) (fun hc6 => ?_)
 ·
  refine og_iloadN X0 hx rfl (hb hby d1_12) rfl ?_
  refine og_iconst (v := 1) X0 hx rfl (hb hby d1_13) rfl ?_
  refine og_icmp_ne (pc1 := 20) (pc2 := 17) X0 hx (hb hby d1_14) (by decide) (by decide) rfl (fun hc14 => ?_) (fun hc14 => ?_)
  ·
   refine og_iloadN X0 hx rfl (hb hby d1_20) rfl ?_
   refine og_iconst (v := 2) X0 hx rfl (hb hby d1_21) rfl ?_
   refine og_icmp_ne (pc1 := 28) (pc2 := 25) X0 hx (hb hby d1_22) (by decide) (by decide) rfl (fun hc22 => ?_) (fun hc22 => ?_)
   ·
    refine og_iloadN X0 hx rfl (hb hby d1_28) rfl ?_
    refine og_iconst (v := 3) X0 hx rfl (hb hby d1_29) rfl ?_
    refine og_icmp_ne (pc1 := 36) (pc2 := 33) X0 hx (hb hby d1_30) (by decide) (by decide) rfl (fun hc30 => ?_) (fun hc30 => ?_)
    ·
     refine og_iloadN X0 hx rfl (hb hby d1_36) rfl ?_
     refine og_iconst (v := 4) X0 hx rfl (hb hby d1_37) rfl ?_
     refine og_icmp_ne (pc1 := 44) (pc2 := 41) X0 hx (hb hby d1_38) (by decide) (by decide) rfl (fun hc38 => ?_) (fun hc38 => ?_)
     ·
      refine og_iloadN X0 hx rfl (hb hby d1_44) rfl ?_
      refine og_iconst (v := 5) X0 hx rfl (hb hby d1_45) rfl ?_
      refine og_icmp_ne (pc1 := 52) (pc2 := 49) X0 hx (hb hby d1_46) (by decide) (by decide) rfl (fun hc46 => ?_) (fun hc46 => ?_)
      ·
       refine og_iloadN X0 hx rfl (hb hby d1_52) rfl ?_
       refine og_bipush (v := 6) X0 hx rfl (hb hby d1_53) rfl ?_
       refine og_icmp_ne (pc1 := 61) (pc2 := 58) X0 hx (hb hby d1_55) (by decide) (by decide) rfl (fun hc55 => ?_) (fun hc55 => ?_)
       ·
        refine og_iloadN X0 hx rfl (hb hby d1_61) rfl ?_
        refine og_iconst (v := 3) X0 hx rfl (hb hby d1_62) rfl ?_
        refine og_iushr X0 hx (hb hby d1_63) rfl ?_
        refine og_sipush (v := 255) X0 hx rfl (hb hby d1_64) rfl ?_
        refine og_iand X0 hx (hb hby d1_67) rfl ?_
        refine og_i2c X0 hx (hb hby d1_68) rfl ?_
        refine og_retN X0 hx hlk hret (by simp) (hb hby d1_69) (by decide) (by decide) ?_
        rw [e0]; exact ⟨_, rfl, N, rfl, own_pk _⟩
       ·
        refine og_bipush (v := 97) X0 hx rfl (hb hby d1_58) rfl ?_
        refine og_retN X0 hx hlk hret (by simp) (hb hby d1_60) (by decide) (by decide) ?_
        rw [e0]; exact ⟨(97 : Int32), rfl, N, rfl, by decide, by decide⟩
      ·
       refine og_bipush (v := 36) X0 hx rfl (hb hby d1_49) rfl ?_
       refine og_retN X0 hx hlk hret (by simp) (hb hby d1_51) (by decide) (by decide) ?_
       rw [e0]; exact ⟨(36 : Int32), rfl, N, rfl, by decide, by decide⟩
     ·
      refine og_bipush (v := 92) X0 hx rfl (hb hby d1_41) rfl ?_
      refine og_retN X0 hx hlk hret (by simp) (hb hby d1_43) (by decide) (by decide) ?_
      rw [e0]; exact ⟨(92 : Int32), rfl, N, rfl, by decide, by decide⟩
    ·
     refine og_bipush (v := 34) X0 hx rfl (hb hby d1_33) rfl ?_
     refine og_retN X0 hx hlk hret (by simp) (hb hby d1_35) (by decide) (by decide) ?_
     rw [e0]; exact ⟨(34 : Int32), rfl, N, rfl, by decide, by decide⟩
   ·
    refine og_bipush (v := 39) X0 hx rfl (hb hby d1_25) rfl ?_
    refine og_retN X0 hx hlk hret (by simp) (hb hby d1_27) (by decide) (by decide) ?_
    rw [e0]; exact ⟨(39 : Int32), rfl, N, rfl, by decide, by decide⟩
  ·
   refine og_bipush (v := 125) X0 hx rfl (hb hby d1_17) rfl ?_
   refine og_retN X0 hx hlk hret (by simp) (hb hby d1_19) (by decide) (by decide) ?_
   rw [e0]; exact ⟨(125 : Int32), rfl, N, rfl, by decide, by decide⟩
 ·
  refine og_bipush (v := 123) X0 hx rfl (hb hby d1_9) rfl ?_
  refine og_retN X0 hx hlk hret (by simp) (hb hby d1_11) (by decide) (by decide) ?_
  rw [e0]; exact ⟨(123 : Int32), rfl, N, rfl, by decide, by decide⟩
theorem rm_cl (l : Launch) (Z : State) (a0 : Array Value) (hw : HW a0 Z) (xx cc r : Int32) (hr : r = own_cl xx cc) (h0 : Heap) (n0 : Nat) (O : Old Z n0 h0) :
  Con l Z (⟨"com/example/nitpick/nitpick/internal/interpolation/ExpressionEndsOfPinLaw", "closes", "(IC)Z"⟩ : MethodName) method_3_code 2 (some .boolean) ({ frames := 0, cells := 0, slots := 0, locals := 0 } : Room) #[(.int xx), (.int cc)] h0 (fun v h L => v = some (.int r) ∧ Fr n0 L ∧ h = h0) := by
 refine own_startC opn_8 ?_
 intro p e s m below meth c T0 X0 hx hby hml hZ hown hnm hret hlk e0
 have N := Fr.nil n0
 refine OG.cast (oef7 m xx cc) ?_
 refine og_iloadN X0 hx rfl (hb hby d8_0) rfl ?_
 refine og_bipush (v := 7) X0 hx rfl (hb hby d8_1) rfl ?_
 refine og_iand X0 hx (hb hby d8_3) rfl ?_
 refine og_if_ne (pc1 := 23) (pc2 := 7) X0 hx (hb hby d8_4) (by decide) (by decide) rfl (fun hc4 => ?_) (fun hc4 => ?_)
 ·
  refine og_iconst (v := 0) X0 hx rfl (hb hby d8_23) rfl ?_
  refine og_retN X0 hx hlk hret (by simp) (hb hby d8_24) (by decide) (by decide) ?_
  rw [e0]; refine ⟨?_, N, rfl⟩
  show some (Value.int 0) = _
  rw [hr]; unfold own_cl; rw [if_neg hc4]
 ·
  refine og_iloadN X0 hx rfl (hb hby d8_7) rfl ?_
  refine og_iconst (v := 3) X0 hx rfl (hb hby d8_8) rfl ?_
  refine og_iushr X0 hx (hb hby d8_9) rfl ?_
  refine og_if_ne (pc1 := 23) (pc2 := 13) X0 hx (hb hby d8_10) (by decide) (by decide) rfl (fun hc10 => ?_) (fun hc10 => ?_)
  ·
   refine og_iconst (v := 0) X0 hx rfl (hb hby d8_23) rfl ?_
   refine og_retN X0 hx hlk hret (by simp) (hb hby d8_24) (by decide) (by decide) ?_
   rw [e0]; refine ⟨?_, N, rfl⟩
   show some (Value.int 0) = _
   rw [hr]; unfold own_cl; rw [if_pos hc4, if_neg hc10]
  ·
   refine og_iloadN X0 hx rfl (hb hby d8_13) rfl ?_
   refine og_bipush (v := 125) X0 hx rfl (hb hby d8_14) rfl ?_
   refine og_icmp_ne (pc1 := 23) (pc2 := 19) X0 hx (hb hby d8_16) (by decide) (by decide) rfl (fun hc16 => ?_) (fun hc16 => ?_)
   ·
    refine og_iconst (v := 0) X0 hx rfl (hb hby d8_23) rfl ?_
    refine og_retN X0 hx hlk hret (by simp) (hb hby d8_24) (by decide) (by decide) ?_
    rw [e0]; refine ⟨?_, N, rfl⟩
    show some (Value.int 0) = _
    rw [hr]; unfold own_cl; rw [if_pos hc4, if_pos hc10, if_neg hc16]
   ·
    refine og_iconst (v := 1) X0 hx rfl (hb hby d8_19) rfl ?_
    refine og_goto (pc' := 24) X0 hx (hb hby d8_20) (by decide) (by decide) ?_
    refine og_retN X0 hx hlk hret (by simp) (hb hby d8_24) (by decide) (by decide) ?_
    rw [e0]; refine ⟨?_, N, rfl⟩
    show some (Value.int 1) = _
    rw [hr]; unfold own_cl; rw [if_pos hc4, if_pos hc10, if_pos hc16]
theorem rm_st (l : Launch) (Z : State) (a0 : Array Value) (hw : HW a0 Z) (xx cc r : Int32) (hr : r = own_stp xx cc) (h0 : Heap) (n0 : Nat) (O : Old Z n0 h0) :
  Con l Z (⟨"com/example/nitpick/nitpick/internal/interpolation/ExpressionEndsOfPinLaw", "step", "(IC)I"⟩ : MethodName) method_4_code 4 (some .int) ({ frames := 0, cells := 0, slots := 0, locals := 0 } : Room) #[(.int xx), (.int cc)] h0 (fun v h L => v = some (.int r) ∧ Fr n0 L ∧ h = h0) := by
 refine own_startC opn_9 ?_
 intro p e s m below meth c T0 X0 hx hby hml hZ hown hnm hret hlk e0
 have N := Fr.nil n0
 refine OG.cast (oef9 m xx cc) ?_
 refine og_iloadN X0 hx rfl (hb hby d9_0) rfl ?_
 refine og_bipush (v := 7) X0 hx rfl (hb hby d9_1) rfl ?_
 refine og_iand X0 hx (hb hby d9_3) rfl ?_
 refine og_istoreN (L' := #[.val (.int xx), .val (.int cc), .val (.int (xx &&& (7 : Int32))), .unset]) X0 hx rfl (hb hby d9_4) rfl ?_
 refine og_iloadN X0 hx rfl (hb hby d9_5) rfl ?_
 refine og_iconst (v := 3) X0 hx rfl (hb hby d9_6) rfl ?_
 refine og_iushr X0 hx (hb hby d9_7) rfl ?_
 refine og_istoreN (L' := #[.val (.int xx), .val (.int cc), .val (.int (xx &&& (7 : Int32))), .val (.int ((xx.toUInt32 >>> ((3 : Int32) &&& 31).toUInt32).toInt32))]) X0 hx rfl (hb hby d9_8) rfl ?_
 refine og_iloadN X0 hx rfl (hb hby d9_9) rfl ?_
 refine og_if_ne (pc1 := 61) (pc2 := 13) X0 hx (hb hby d9_10) (by decide) (by decide) rfl (fun hc10 => ?_) (fun hc10 => ?_)
 ·
  refine og_iloadN X0 hx rfl (hb hby d9_61) rfl ?_
  refine og_iconst (v := 1) X0 hx rfl (hb hby d9_62) rfl ?_
  refine og_icmp_ne (pc1 := 88) (pc2 := 66) X0 hx (hb hby d9_63) (by decide) (by decide) rfl (fun hc63 => ?_) (fun hc63 => ?_)
  ·
   refine og_iloadN X0 hx rfl (hb hby d9_88) rfl ?_
   refine og_iconst (v := 2) X0 hx rfl (hb hby d9_89) rfl ?_
   refine og_icmp_ne (pc1 := 98) (pc2 := 93) X0 hx (hb hby d9_90) (by decide) (by decide) rfl (fun hc90 => ?_) (fun hc90 => ?_)
   ·
    refine og_iloadN X0 hx rfl (hb hby d9_98) rfl ?_
    refine og_iconst (v := 3) X0 hx rfl (hb hby d9_99) rfl ?_
    refine og_icmp_ne (pc1 := 125) (pc2 := 103) X0 hx (hb hby d9_100) (by decide) (by decide) rfl (fun hc100 => ?_) (fun hc100 => ?_)
    ·
     refine og_iconst (v := 3) X0 hx rfl (hb hby d9_125) rfl ?_
     refine og_istoreN (L' := #[.val (.int xx), .val (.int cc), .val (.int 3), .val (.int ((xx.toUInt32 >>> ((3 : Int32) &&& 31).toUInt32).toInt32))]) X0 hx rfl (hb hby d9_126) rfl ?_
     refine og_iloadN X0 hx rfl (hb hby d9_127) rfl ?_
     refine og_iloadN X0 hx rfl (hb hby d9_128) rfl ?_
     refine og_iconst (v := 3) X0 hx rfl (hb hby d9_129) rfl ?_
     refine og_ishl X0 hx (hb hby d9_130) rfl ?_
     refine og_iadd X0 hx (hb hby d9_131) rfl ?_
     refine og_retI X0 hx hlk hret (hb hby d9_132) (by decide) (by decide) ?_
     rw [e0]; refine ⟨?_, N, rfl⟩
     rw [hr]; unfold own_stp; rw [if_neg hc10, if_neg hc63, if_neg hc90, if_neg hc100]
     all_goals rfl
    ·
     refine og_iloadN X0 hx rfl (hb hby d9_103) rfl ?_
     refine og_bipush (v := 92) X0 hx rfl (hb hby d9_104) rfl ?_
     refine og_icmp_ne (pc1 := 114) (pc2 := 109) X0 hx (hb hby d9_106) (by decide) (by decide) rfl (fun hc106 => ?_) (fun hc106 => ?_)
     ·
      refine og_iloadN X0 hx rfl (hb hby d9_114) rfl ?_
      refine og_bipush (v := 34) X0 hx rfl (hb hby d9_115) rfl ?_
      refine og_icmp_ne (pc1 := 127) (pc2 := 120) X0 hx (hb hby d9_117) (by decide) (by decide) rfl (fun hc117 => ?_) (fun hc117 => ?_)
      ·
       refine og_iloadN X0 hx rfl (hb hby d9_127) rfl ?_
       refine og_iloadN X0 hx rfl (hb hby d9_128) rfl ?_
       refine og_iconst (v := 3) X0 hx rfl (hb hby d9_129) rfl ?_
       refine og_ishl X0 hx (hb hby d9_130) rfl ?_
       refine og_iadd X0 hx (hb hby d9_131) rfl ?_
       refine og_retI X0 hx hlk hret (hb hby d9_132) (by decide) (by decide) ?_
       rw [e0]; refine ⟨?_, N, rfl⟩
       rw [hr]; unfold own_stp; rw [if_neg hc10, if_neg hc63, if_neg hc90, if_pos hc100, if_neg hc106, if_neg hc117]
       all_goals rfl
      ·
       refine og_iconst (v := 0) X0 hx rfl (hb hby d9_120) rfl ?_
       refine og_istoreN (L' := #[.val (.int xx), .val (.int cc), .val (.int 0), .val (.int ((xx.toUInt32 >>> ((3 : Int32) &&& 31).toUInt32).toInt32))]) X0 hx rfl (hb hby d9_121) rfl ?_
       refine og_goto (pc' := 127) X0 hx (hb hby d9_122) (by decide) (by decide) ?_
       refine og_iloadN X0 hx rfl (hb hby d9_127) rfl ?_
       refine og_iloadN X0 hx rfl (hb hby d9_128) rfl ?_
       refine og_iconst (v := 3) X0 hx rfl (hb hby d9_129) rfl ?_
       refine og_ishl X0 hx (hb hby d9_130) rfl ?_
       refine og_iadd X0 hx (hb hby d9_131) rfl ?_
       refine og_retI X0 hx hlk hret (hb hby d9_132) (by decide) (by decide) ?_
       rw [e0]; refine ⟨?_, N, rfl⟩
       rw [hr]; unfold own_stp; rw [if_neg hc10, if_neg hc63, if_neg hc90, if_pos hc100, if_neg hc106, if_pos hc117]
       all_goals rfl
     ·
      refine og_iconst (v := 4) X0 hx rfl (hb hby d9_109) rfl ?_
      refine og_istoreN (L' := #[.val (.int xx), .val (.int cc), .val (.int 4), .val (.int ((xx.toUInt32 >>> ((3 : Int32) &&& 31).toUInt32).toInt32))]) X0 hx rfl (hb hby d9_110) rfl ?_
      refine og_goto (pc' := 127) X0 hx (hb hby d9_111) (by decide) (by decide) ?_
      refine og_iloadN X0 hx rfl (hb hby d9_127) rfl ?_
      refine og_iloadN X0 hx rfl (hb hby d9_128) rfl ?_
      refine og_iconst (v := 3) X0 hx rfl (hb hby d9_129) rfl ?_
      refine og_ishl X0 hx (hb hby d9_130) rfl ?_
      refine og_iadd X0 hx (hb hby d9_131) rfl ?_
      refine og_retI X0 hx hlk hret (hb hby d9_132) (by decide) (by decide) ?_
      rw [e0]; refine ⟨?_, N, rfl⟩
      rw [hr]; unfold own_stp; rw [if_neg hc10, if_neg hc63, if_neg hc90, if_pos hc100, if_pos hc106]
      all_goals rfl
   ·
    refine og_iconst (v := 1) X0 hx rfl (hb hby d9_93) rfl ?_
    refine og_istoreN (L' := #[.val (.int xx), .val (.int cc), .val (.int 1), .val (.int ((xx.toUInt32 >>> ((3 : Int32) &&& 31).toUInt32).toInt32))]) X0 hx rfl (hb hby d9_94) rfl ?_
    refine og_goto (pc' := 127) X0 hx (hb hby d9_95) (by decide) (by decide) ?_
    refine og_iloadN X0 hx rfl (hb hby d9_127) rfl ?_
    refine og_iloadN X0 hx rfl (hb hby d9_128) rfl ?_
    refine og_iconst (v := 3) X0 hx rfl (hb hby d9_129) rfl ?_
    refine og_ishl X0 hx (hb hby d9_130) rfl ?_
    refine og_iadd X0 hx (hb hby d9_131) rfl ?_
    refine og_retI X0 hx hlk hret (hb hby d9_132) (by decide) (by decide) ?_
    rw [e0]; refine ⟨?_, N, rfl⟩
    rw [hr]; unfold own_stp; rw [if_neg hc10, if_neg hc63, if_pos hc90]
    all_goals rfl
  ·
   refine og_iloadN X0 hx rfl (hb hby d9_66) rfl ?_
   refine og_bipush (v := 92) X0 hx rfl (hb hby d9_67) rfl ?_
   refine og_icmp_ne (pc1 := 77) (pc2 := 72) X0 hx (hb hby d9_69) (by decide) (by decide) rfl (fun hc69 => ?_) (fun hc69 => ?_)
   ·
    refine og_iloadN X0 hx rfl (hb hby d9_77) rfl ?_
    refine og_bipush (v := 39) X0 hx rfl (hb hby d9_78) rfl ?_
    refine og_icmp_ne (pc1 := 127) (pc2 := 83) X0 hx (hb hby d9_80) (by decide) (by decide) rfl (fun hc80 => ?_) (fun hc80 => ?_)
    ·
     refine og_iloadN X0 hx rfl (hb hby d9_127) rfl ?_
     refine og_iloadN X0 hx rfl (hb hby d9_128) rfl ?_
     refine og_iconst (v := 3) X0 hx rfl (hb hby d9_129) rfl ?_
     refine og_ishl X0 hx (hb hby d9_130) rfl ?_
     refine og_iadd X0 hx (hb hby d9_131) rfl ?_
     refine og_retI X0 hx hlk hret (hb hby d9_132) (by decide) (by decide) ?_
     rw [e0]; refine ⟨?_, N, rfl⟩
     rw [hr]; unfold own_stp; rw [if_neg hc10, if_pos hc63, if_neg hc69, if_neg hc80]
     all_goals rfl
    ·
     refine og_iconst (v := 0) X0 hx rfl (hb hby d9_83) rfl ?_
     refine og_istoreN (L' := #[.val (.int xx), .val (.int cc), .val (.int 0), .val (.int ((xx.toUInt32 >>> ((3 : Int32) &&& 31).toUInt32).toInt32))]) X0 hx rfl (hb hby d9_84) rfl ?_
     refine og_goto (pc' := 127) X0 hx (hb hby d9_85) (by decide) (by decide) ?_
     refine og_iloadN X0 hx rfl (hb hby d9_127) rfl ?_
     refine og_iloadN X0 hx rfl (hb hby d9_128) rfl ?_
     refine og_iconst (v := 3) X0 hx rfl (hb hby d9_129) rfl ?_
     refine og_ishl X0 hx (hb hby d9_130) rfl ?_
     refine og_iadd X0 hx (hb hby d9_131) rfl ?_
     refine og_retI X0 hx hlk hret (hb hby d9_132) (by decide) (by decide) ?_
     rw [e0]; refine ⟨?_, N, rfl⟩
     rw [hr]; unfold own_stp; rw [if_neg hc10, if_pos hc63, if_neg hc69, if_pos hc80]
     all_goals rfl
   ·
    refine og_iconst (v := 2) X0 hx rfl (hb hby d9_72) rfl ?_
    refine og_istoreN (L' := #[.val (.int xx), .val (.int cc), .val (.int 2), .val (.int ((xx.toUInt32 >>> ((3 : Int32) &&& 31).toUInt32).toInt32))]) X0 hx rfl (hb hby d9_73) rfl ?_
    refine og_goto (pc' := 127) X0 hx (hb hby d9_74) (by decide) (by decide) ?_
    refine og_iloadN X0 hx rfl (hb hby d9_127) rfl ?_
    refine og_iloadN X0 hx rfl (hb hby d9_128) rfl ?_
    refine og_iconst (v := 3) X0 hx rfl (hb hby d9_129) rfl ?_
    refine og_ishl X0 hx (hb hby d9_130) rfl ?_
    refine og_iadd X0 hx (hb hby d9_131) rfl ?_
    refine og_retI X0 hx hlk hret (hb hby d9_132) (by decide) (by decide) ?_
    rw [e0]; refine ⟨?_, N, rfl⟩
    rw [hr]; unfold own_stp; rw [if_neg hc10, if_pos hc63, if_pos hc69]
    all_goals rfl
 ·
  refine og_iloadN X0 hx rfl (hb hby d9_13) rfl ?_
  refine og_bipush (v := 125) X0 hx rfl (hb hby d9_14) rfl ?_
  refine og_icmp_ne (pc1 := 26) (pc2 := 19) X0 hx (hb hby d9_16) (by decide) (by decide) rfl (fun hc16 => ?_) (fun hc16 => ?_)
  ·
   refine og_iloadN X0 hx rfl (hb hby d9_26) rfl ?_
   refine og_bipush (v := 123) X0 hx rfl (hb hby d9_27) rfl ?_
   refine og_icmp_ne (pc1 := 39) (pc2 := 32) X0 hx (hb hby d9_29) (by decide) (by decide) rfl (fun hc29 => ?_) (fun hc29 => ?_)
   ·
    refine og_iloadN X0 hx rfl (hb hby d9_39) rfl ?_
    refine og_bipush (v := 39) X0 hx rfl (hb hby d9_40) rfl ?_
    refine og_icmp_ne (pc1 := 50) (pc2 := 45) X0 hx (hb hby d9_42) (by decide) (by decide) rfl (fun hc42 => ?_) (fun hc42 => ?_)
    ·
     refine og_iloadN X0 hx rfl (hb hby d9_50) rfl ?_
     refine og_bipush (v := 34) X0 hx rfl (hb hby d9_51) rfl ?_
     refine og_icmp_ne (pc1 := 127) (pc2 := 56) X0 hx (hb hby d9_53) (by decide) (by decide) rfl (fun hc53 => ?_) (fun hc53 => ?_)
     ·
      refine og_iloadN X0 hx rfl (hb hby d9_127) rfl ?_
      refine og_iloadN X0 hx rfl (hb hby d9_128) rfl ?_
      refine og_iconst (v := 3) X0 hx rfl (hb hby d9_129) rfl ?_
      refine og_ishl X0 hx (hb hby d9_130) rfl ?_
      refine og_iadd X0 hx (hb hby d9_131) rfl ?_
      refine og_retI X0 hx hlk hret (hb hby d9_132) (by decide) (by decide) ?_
      rw [e0]; refine ⟨?_, N, rfl⟩
      rw [hr]; unfold own_stp; rw [if_pos hc10, if_neg hc16, if_neg hc29, if_neg hc42, if_neg hc53]
      all_goals rfl
     ·
      refine og_iconst (v := 3) X0 hx rfl (hb hby d9_56) rfl ?_
      refine og_istoreN (L' := #[.val (.int xx), .val (.int cc), .val (.int 3), .val (.int ((xx.toUInt32 >>> ((3 : Int32) &&& 31).toUInt32).toInt32))]) X0 hx rfl (hb hby d9_57) rfl ?_
      refine og_goto (pc' := 127) X0 hx (hb hby d9_58) (by decide) (by decide) ?_
      refine og_iloadN X0 hx rfl (hb hby d9_127) rfl ?_
      refine og_iloadN X0 hx rfl (hb hby d9_128) rfl ?_
      refine og_iconst (v := 3) X0 hx rfl (hb hby d9_129) rfl ?_
      refine og_ishl X0 hx (hb hby d9_130) rfl ?_
      refine og_iadd X0 hx (hb hby d9_131) rfl ?_
      refine og_retI X0 hx hlk hret (hb hby d9_132) (by decide) (by decide) ?_
      rw [e0]; refine ⟨?_, N, rfl⟩
      rw [hr]; unfold own_stp; rw [if_pos hc10, if_neg hc16, if_neg hc29, if_neg hc42, if_pos hc53]
      all_goals rfl
    ·
     refine og_iconst (v := 1) X0 hx rfl (hb hby d9_45) rfl ?_
     refine og_istoreN (L' := #[.val (.int xx), .val (.int cc), .val (.int 1), .val (.int ((xx.toUInt32 >>> ((3 : Int32) &&& 31).toUInt32).toInt32))]) X0 hx rfl (hb hby d9_46) rfl ?_
     refine og_goto (pc' := 127) X0 hx (hb hby d9_47) (by decide) (by decide) ?_
     refine og_iloadN X0 hx rfl (hb hby d9_127) rfl ?_
     refine og_iloadN X0 hx rfl (hb hby d9_128) rfl ?_
     refine og_iconst (v := 3) X0 hx rfl (hb hby d9_129) rfl ?_
     refine og_ishl X0 hx (hb hby d9_130) rfl ?_
     refine og_iadd X0 hx (hb hby d9_131) rfl ?_
     refine og_retI X0 hx hlk hret (hb hby d9_132) (by decide) (by decide) ?_
     rw [e0]; refine ⟨?_, N, rfl⟩
     rw [hr]; unfold own_stp; rw [if_pos hc10, if_neg hc16, if_neg hc29, if_pos hc42]
     all_goals rfl
   ·
    refine og_iloadN X0 hx rfl (hb hby d9_32) rfl ?_
    refine og_iconst (v := 1) X0 hx rfl (hb hby d9_33) rfl ?_
    refine og_iadd X0 hx (hb hby d9_34) rfl ?_
    refine og_istoreN (L' := #[.val (.int xx), .val (.int cc), .val (.int (xx &&& (7 : Int32))), .val (.int (((xx.toUInt32 >>> ((3 : Int32) &&& 31).toUInt32).toInt32) + (1 : Int32)))]) X0 hx rfl (hb hby d9_35) rfl ?_
    refine og_goto (pc' := 127) X0 hx (hb hby d9_36) (by decide) (by decide) ?_
    refine og_iloadN X0 hx rfl (hb hby d9_127) rfl ?_
    refine og_iloadN X0 hx rfl (hb hby d9_128) rfl ?_
    refine og_iconst (v := 3) X0 hx rfl (hb hby d9_129) rfl ?_
    refine og_ishl X0 hx (hb hby d9_130) rfl ?_
    refine og_iadd X0 hx (hb hby d9_131) rfl ?_
    refine og_retI X0 hx hlk hret (hb hby d9_132) (by decide) (by decide) ?_
    rw [e0]; refine ⟨?_, N, rfl⟩
    rw [hr]; unfold own_stp; rw [if_pos hc10, if_neg hc16, if_pos hc29]
    all_goals rfl
  ·
   refine og_iloadN X0 hx rfl (hb hby d9_19) rfl ?_
   refine og_iconst (v := 1) X0 hx rfl (hb hby d9_20) rfl ?_
   refine og_isub X0 hx (hb hby d9_21) rfl ?_
   refine og_istoreN (L' := #[.val (.int xx), .val (.int cc), .val (.int (xx &&& (7 : Int32))), .val (.int (((xx.toUInt32 >>> ((3 : Int32) &&& 31).toUInt32).toInt32) - (1 : Int32)))]) X0 hx rfl (hb hby d9_22) rfl ?_
   refine og_goto (pc' := 127) X0 hx (hb hby d9_23) (by decide) (by decide) ?_
   refine og_iloadN X0 hx rfl (hb hby d9_127) rfl ?_
   refine og_iloadN X0 hx rfl (hb hby d9_128) rfl ?_
   refine og_iconst (v := 3) X0 hx rfl (hb hby d9_129) rfl ?_
   refine og_ishl X0 hx (hb hby d9_130) rfl ?_
   refine og_iadd X0 hx (hb hby d9_131) rfl ?_
   refine og_retI X0 hx hlk hret (hb hby d9_132) (by decide) (by decide) ?_
   rw [e0]; refine ⟨?_, N, rfl⟩
   rw [hr]; unfold own_stp; rw [if_pos hc10, if_pos hc16]
   all_goals rfl
theorem rm_ei (l : Launch) (Z : State) (a0 : Array Value) (hw : HW a0 Z) (e1 xa : Addr) (h0 : Heap) (n0 : Nat) (O : Old Z n0 h0) (E_e1 : Exa Z h0 e1 "com/example/nitpick/nitpick/internal/interpolation/ExpressionEnds") (F_exits_e1 : Fld Z h0 e1 "com/example/nitpick/nitpick/internal/interpolation/ExpressionEnds" "exits" "[[I" .null) (g_e1 : n0 ≤ e1) :
  Con l Z (⟨"com/example/nitpick/nitpick/internal/interpolation/ExpressionEnds", "<init>", "([[I)V"⟩ : MethodName) prog_57_method_1_code 2 none ({ frames := 1, cells := 0, slots := 0, locals := 12 } : Room) #[(.ref e1), (.ref xa)] h0 (fun v h L => v = none ∧ Fr n0 L ∧ Keep h0 h [e1] ∧ Exa Z h e1 "com/example/nitpick/nitpick/internal/interpolation/ExpressionEnds" ∧ Fld Z h e1 "com/example/nitpick/nitpick/internal/interpolation/ExpressionEnds" "exits" "[[I" (.ref xa)) := by
 refine own_startC opn_20 ?_
 intro p e s m below meth c T0 X0 hx hby hml hZ hown hnm hret hlk e0
 have N := Fr.nil n0; have K := Keep.refl h0 [e1]
 refine OG.cast (oef5 m e1 xa) ?_
 refine og_aloadN X0 hx rfl rfl (hb hby d20_0) rfl ?_
 refine og_initO (pc' := 4) X0 hx hZ (W := 0) (by rw [hml]; rfl) hown (ow111 hw) (ow16 hw) (ow17 hw) e0 rfl (by decide) (by decide) (hb hby d20_1) rfl (fun T11 X11 e11 => ?_)
 refine og_aloadN X11 hx rfl rfl (hb hby d20_4) rfl ?_
 refine og_aloadN X11 hx rfl rfl (hb hby d20_5) rfl ?_
 refine og_putfield X11 hx hZ (ty := (.array (.array .int))) (host := "") hown (Or.inl (ow112 hw)) Via.refl e11 F_exits_e1 E_e1 (Or.inr ⟨(ow113 hw), rfl, hnm⟩) (ow107 hw) (by decide) rfl rfl (hb hby d20_6) rfl (fun T12 h12 X12 e12 W12 => ?_)
 have F_exits_e1_ := F_exits_e1.same W12
 have E_e1 := E_e1.wr W12; have K := K.wr W12 (Or.inl (List.mem_of_getElem? (i := 0) rfl))
 have N := Fr.snoc X12 N g_e1; have F_exits_e1 := F_exits_e1_
 refine og_retV X12 hx hlk hret (hb hby d20_9) (by decide) (by decide) ?_
 rw [e12]; exact ⟨rfl, N, K, E_e1, F_exits_e1⟩
theorem rm_of (l : Launch) (Z : State) (a0 : Array Value) (hw : HW a0 Z) (a1 ba va : Addr) (kb kv : ClassId) (d0 d1 d2 d3 d4 d5 d6 : Int32) (hd0 : 0 ≤ d0.toInt ∧ d0.toInt ≤ 255) (hd1 : 0 ≤ d1.toInt ∧ d1.toInt ≤ 255) (hd2 : 0 ≤ d2.toInt ∧ d2.toInt ≤ 255) (hd3 : 0 ≤ d3.toInt ∧ d3.toInt ≤ 255) (hd4 : 0 ≤ d4.toInt ∧ d4.toInt ≤ 255) (hd5 : 0 ≤ d5.toInt ∧ d5.toInt ≤ 255) (hd6 : 0 ≤ d6.toInt ∧ d6.toInt ≤ 255) (cs : Int32) (hcs : ¬ cs = 0) (fm : Value) (hfm : fm.isRef = true) (w0 w1 w2 w3 w4 : Addr) (h0 : Heap) (n0 : Nat) (O : Old Z n0 h0) (E_a1 : Exa Z h0 a1 "java/lang/String") (F_value_a1 : Fld Z h0 a1 "java/lang/String" "value" "[B" (.ref ba)) (F_coder_a1 : Fld Z h0 a1 "java/lang/String" "coder" "B" (.int 0)) (V_ba : Arv Z h0 ba kb .byte (7 : Int32) [(.int d0.toInt8.toInt32), (.int d1.toInt8.toInt32), (.int d2.toInt8.toInt32), (.int d3.toInt8.toInt32), (.int d4.toInt8.toInt32), (.int d5.toInt8.toInt32), (.int d6.toInt8.toInt32)] (.int 0)) (S_QU : Sta Z Z.heap "com/example/nitpick/nitpick/internal/interpolation/ExpressionEnds" "QUOTINGS" "[Lcom/example/nitpick/nitpick/internal/interpolation/ExpressionLiterals$Quoting;" (.ref va)) (V_va : Arv Z Z.heap va kv (.object "com/example/nitpick/nitpick/internal/interpolation/ExpressionLiterals$Quoting") (5 : Int32) [(.ref w0), (.ref w1), (.ref w2), (.ref w3), (.ref w4)] .null) (S_IC : Sta Z Z.heap "com/example/nitpick/nitpick/internal/interpolation/ExpressionEnds" "CODE" "I" (.int 0)) (S_CS : Sta Z Z.heap "java/lang/String" "COMPACT_STRINGS" "Z" (.int cs)) (S_FM : Sta Z Z.heap "jdk/internal/util/Preconditions" "SIOOBE_FORMATTER" "Ljava/util/function/BiFunction;" fm) (S_CODE : Sta Z Z.heap "com/example/nitpick/nitpick/internal/interpolation/ExpressionLiterals$Quoting" "CODE" "Lcom/example/nitpick/nitpick/internal/interpolation/ExpressionLiterals$Quoting;" (.ref w0)) (S_SINGLE : Sta Z Z.heap "com/example/nitpick/nitpick/internal/interpolation/ExpressionLiterals$Quoting" "SINGLE" "Lcom/example/nitpick/nitpick/internal/interpolation/ExpressionLiterals$Quoting;" (.ref w1)) (S_SINGLE_ESCAPED : Sta Z Z.heap "com/example/nitpick/nitpick/internal/interpolation/ExpressionLiterals$Quoting" "SINGLE_ESCAPED" "Lcom/example/nitpick/nitpick/internal/interpolation/ExpressionLiterals$Quoting;" (.ref w2)) (S_DOUBLE : Sta Z Z.heap "com/example/nitpick/nitpick/internal/interpolation/ExpressionLiterals$Quoting" "DOUBLE" "Lcom/example/nitpick/nitpick/internal/interpolation/ExpressionLiterals$Quoting;" (.ref w3)) (S_DOUBLE_ESCAPED : Sta Z Z.heap "com/example/nitpick/nitpick/internal/interpolation/ExpressionLiterals$Quoting" "DOUBLE_ESCAPED" "Lcom/example/nitpick/nitpick/internal/interpolation/ExpressionLiterals$Quoting;" (.ref w4)) (E_w0 : Exa Z Z.heap w0 "com/example/nitpick/nitpick/internal/interpolation/ExpressionLiterals$Quoting") (E_w1 : Exa Z Z.heap w1 "com/example/nitpick/nitpick/internal/interpolation/ExpressionLiterals$Quoting") (E_w2 : Exa Z Z.heap w2 "com/example/nitpick/nitpick/internal/interpolation/ExpressionLiterals$Quoting") (E_w3 : Exa Z Z.heap w3 "com/example/nitpick/nitpick/internal/interpolation/ExpressionLiterals$Quoting") (E_w4 : Exa Z Z.heap w4 "com/example/nitpick/nitpick/internal/interpolation/ExpressionLiterals$Quoting") (F_w0 : Fld Z Z.heap w0 "java/lang/Enum" "ordinal" "I" (.int 0)) (F_w1 : Fld Z Z.heap w1 "java/lang/Enum" "ordinal" "I" (.int 1)) (F_w2 : Fld Z Z.heap w2 "java/lang/Enum" "ordinal" "I" (.int 2)) (F_w3 : Fld Z Z.heap w3 "java/lang/Enum" "ordinal" "I" (.int 3)) (F_w4 : Fld Z Z.heap w4 "java/lang/Enum" "ordinal" "I" (.int 4)) (ne_w1_w0 : w1 ≠ w0) (ne_w2_w0 : w2 ≠ w0) (ne_w3_w0 : w3 ≠ w0) (ne_w4_w0 : w4 ≠ w0) :
    Con l Z (⟨"com/example/nitpick/nitpick/internal/interpolation/ExpressionEnds", "of", "(Ljava/lang/String;)Lcom/example/nitpick/nitpick/internal/interpolation/ExpressionEnds;"⟩ : MethodName) prog_57_method_2_code 10 (some (.object "com/example/nitpick/nitpick/internal/interpolation/ExpressionEnds")) ({ frames := 4, cells := 7, slots := 46, locals := 53 } : Room) #[(.ref a1)] h0 (fun v h L => ∃ r x x0 x1 x2 x3 x4 kA kR, v = some (.ref r) ∧ Fr n0 L ∧ Keep h0 h [] ∧ Exa Z h r "com/example/nitpick/nitpick/internal/interpolation/ExpressionEnds" ∧ Fld Z h r "com/example/nitpick/nitpick/internal/interpolation/ExpressionEnds" "exits" "[[I" (.ref x) ∧ Arv Z h x kA (.array .int) (5 : Int32) [(.ref x0), (.ref x1), (.ref x2), (.ref x3), (.ref x4)] .null ∧ Arv Z h x0 kR .int 8 (own_row (own_f [d0, d1, d2, d3, d4, d5, d6]) 7 0) (.int 0)) := by
  refine own_startC opn_10 ?_
  intro p e s m below meth c T0 X0 hx hby hml hZ hown hnm hret hlk e0
  have N := Fr.nil n0; have K := Keep.refl h0 []
  refine OG.cast (oef10 m a1) ?_
  refine og_aloadN X0 hx rfl rfl (hb hby d10_0) rfl ?_
  refine og_virtual (pc' := 4) (cells' := 0) (slots' := 0) (W := 0) X0 hx hZ (rm_len l Z a0 hw a1 ba kb (7 : Int32) _ cs hcs h0 n0 O E_a1 F_value_a1 F_coder_a1 V_ba S_CS) hown (ow44 hw) (ow45 hw) (own_nf hZ (ow47 hw)) (ow47 hw) (ow46 hw) (ow7 hw) (ow48 hw) (by decide) (by rw [hml]; rfl) e0 opd_0 [] [] rfl rfl rfl rfl (by decide) (by decide) rfl rfl (by decide) (by decide) E_a1 (hb hby d10_1) rfl (fun v11 T11 h11 L11 X11 e11 z11 => ?_)
  obtain ⟨rfl, Nq11, hq11⟩ := z11; replace e11 := e11.trans hq11; have N := Fr.app N Nq11
  refine og_istoreN (L' := #[.val (.ref a1), .val (.int 7), .unset, .unset, .unset, .unset, .unset, .unset, .unset, .unset]) X11 hx rfl (hb hby d10_4) rfl ?_
  refine og_getstatic X11 hx hZ (host := "") hown (Or.inl (ow54 hw)) Via.refl e11 (S_QU.ext O.2) (hb hby d10_5) rfl (fun T12 X12 e12 => ?_)
  refine og_arraylength X12 hx hZ e12 (V_va.ext O.2) (hb hby d10_8) rfl ?_
  refine og_iloadN X12 hx rfl (hb hby d10_9) rfl ?_
  refine og_iconst (v := 1) X12 hx rfl (hb hby d10_10) rfl ?_
  refine og_iadd X12 hx (hb hby d10_11) rfl ?_
  show OG p e below _ (T12.setTop (mkF m 12 #[.val (.ref a1), .val (.int 7), .unset, .unset, .unset, .unset, .unset, .unset, .unset, .unset] [(.int 8), (.int 5)]))
  refine og_grid5 (pc' := 16) (cells' := 6) (slots' := 45) (cap := 8) (ty := .int) X12 hx hZ hown rfl rfl (ow56 hw) (ow57 hw) (ow58 hw) e12 (by decide) (by decide) (by decide) rfl rfl (hb hby d10_12) rfl rfl rfl (by decide) (by decide) (fun T13 h13 nb13 nb13r0 nb13r1 nb13r2 nb13r3 nb13r4 kA13 kR13 X13 e13 E13 q13 q13_0 q13_1 q13_2 q13_3 q13_4 V_nb13 V_nb13r0 V_nb13r1 V_nb13r2 V_nb13r3 V_nb13r4 => ?_)
  have s_nb13r0 : h0.size ≤ nb13r0 := (by omega); have g_nb13r0 : n0 ≤ nb13r0 := Nat.le_trans (own_n0 O) s_nb13r0; have sz_nb13r0 : h0.size ≤ nb13r0 := Nat.le_trans K.1 s_nb13r0; have ne_a1_nb13r0 : a1 ≠ nb13r0 := Nat.ne_of_lt (Nat.lt_of_lt_of_le E_a1.lt s_nb13r0); have ne_ba_nb13r0 : ba ≠ nb13r0 := Nat.ne_of_lt (Nat.lt_of_lt_of_le V_ba.lt s_nb13r0)
  have s_nb13r1 : h0.size ≤ nb13r1 := (by omega); have g_nb13r1 : n0 ≤ nb13r1 := Nat.le_trans (own_n0 O) s_nb13r1; have sz_nb13r1 : h0.size ≤ nb13r1 := Nat.le_trans K.1 s_nb13r1; have ne_a1_nb13r1 : a1 ≠ nb13r1 := Nat.ne_of_lt (Nat.lt_of_lt_of_le E_a1.lt s_nb13r1); have ne_ba_nb13r1 : ba ≠ nb13r1 := Nat.ne_of_lt (Nat.lt_of_lt_of_le V_ba.lt s_nb13r1)
  have s_nb13r2 : h0.size ≤ nb13r2 := (by omega); have g_nb13r2 : n0 ≤ nb13r2 := Nat.le_trans (own_n0 O) s_nb13r2; have sz_nb13r2 : h0.size ≤ nb13r2 := Nat.le_trans K.1 s_nb13r2; have ne_a1_nb13r2 : a1 ≠ nb13r2 := Nat.ne_of_lt (Nat.lt_of_lt_of_le E_a1.lt s_nb13r2); have ne_ba_nb13r2 : ba ≠ nb13r2 := Nat.ne_of_lt (Nat.lt_of_lt_of_le V_ba.lt s_nb13r2)
  have s_nb13r3 : h0.size ≤ nb13r3 := (by omega); have g_nb13r3 : n0 ≤ nb13r3 := Nat.le_trans (own_n0 O) s_nb13r3; have sz_nb13r3 : h0.size ≤ nb13r3 := Nat.le_trans K.1 s_nb13r3; have ne_a1_nb13r3 : a1 ≠ nb13r3 := Nat.ne_of_lt (Nat.lt_of_lt_of_le E_a1.lt s_nb13r3); have ne_ba_nb13r3 : ba ≠ nb13r3 := Nat.ne_of_lt (Nat.lt_of_lt_of_le V_ba.lt s_nb13r3)
  have s_nb13r4 : h0.size ≤ nb13r4 := (by omega); have g_nb13r4 : n0 ≤ nb13r4 := Nat.le_trans (own_n0 O) s_nb13r4; have sz_nb13r4 : h0.size ≤ nb13r4 := Nat.le_trans K.1 s_nb13r4; have ne_a1_nb13r4 : a1 ≠ nb13r4 := Nat.ne_of_lt (Nat.lt_of_lt_of_le E_a1.lt s_nb13r4); have ne_ba_nb13r4 : ba ≠ nb13r4 := Nat.ne_of_lt (Nat.lt_of_lt_of_le V_ba.lt s_nb13r4)
  have ne_nb13_nb13r0 : nb13 ≠ nb13r0 := by omega
  have ne_nb13_nb13r1 : nb13 ≠ nb13r1 := by omega
  have ne_nb13r0_nb13r1 : nb13r0 ≠ nb13r1 := by omega
  have ne_nb13_nb13r2 : nb13 ≠ nb13r2 := by omega
  have ne_nb13r0_nb13r2 : nb13r0 ≠ nb13r2 := by omega
  have ne_nb13r1_nb13r2 : nb13r1 ≠ nb13r2 := by omega
  have ne_nb13_nb13r3 : nb13 ≠ nb13r3 := by omega
  have ne_nb13r0_nb13r3 : nb13r0 ≠ nb13r3 := by omega
  have ne_nb13r1_nb13r3 : nb13r1 ≠ nb13r3 := by omega
  have ne_nb13r2_nb13r3 : nb13r2 ≠ nb13r3 := by omega
  have ne_nb13_nb13r4 : nb13 ≠ nb13r4 := by omega
  have ne_nb13r0_nb13r4 : nb13r0 ≠ nb13r4 := by omega
  have ne_nb13r1_nb13r4 : nb13r1 ≠ nb13r4 := by omega
  have ne_nb13r2_nb13r4 : nb13r2 ≠ nb13r4 := by omega
  have ne_nb13r3_nb13r4 : nb13r3 ≠ nb13r4 := by omega
  have E_a1 := E_a1.ext E13; have F_value_a1 := F_value_a1.ext E13; have F_coder_a1 := F_coder_a1.ext E13; have V_ba := V_ba.ext E13; have O := O.ext E13; have K := K.ext E13
  have V_nb13r0 : Arv Z h13 nb13r0 kR13 .int 8 [(.int 0), (.int 0), (.int 0), (.int 0), (.int 0), (.int 0), (.int 0), (.int 0)] (.int 0) := V_nb13r0.pad (pad_rep [] (.int 0) 8)
  have V_nb13r1 : Arv Z h13 nb13r1 kR13 .int 8 [(.int 0), (.int 0), (.int 0), (.int 0), (.int 0), (.int 0), (.int 0), (.int 0)] (.int 0) := V_nb13r1.pad (pad_rep [] (.int 0) 8)
  have V_nb13r2 : Arv Z h13 nb13r2 kR13 .int 8 [(.int 0), (.int 0), (.int 0), (.int 0), (.int 0), (.int 0), (.int 0), (.int 0)] (.int 0) := V_nb13r2.pad (pad_rep [] (.int 0) 8)
  have V_nb13r3 : Arv Z h13 nb13r3 kR13 .int 8 [(.int 0), (.int 0), (.int 0), (.int 0), (.int 0), (.int 0), (.int 0), (.int 0)] (.int 0) := V_nb13r3.pad (pad_rep [] (.int 0) 8)
  have V_nb13r4 : Arv Z h13 nb13r4 kR13 .int 8 [(.int 0), (.int 0), (.int 0), (.int 0), (.int 0), (.int 0), (.int 0), (.int 0)] (.int 0) := V_nb13r4.pad (pad_rep [] (.int 0) 8)
  refine og_astoreN (L' := #[.val (.ref a1), .val (.int 7), .val (.ref nb13), .unset, .unset, .unset, .unset, .unset, .unset, .unset]) X13 hx rfl rfl (hb hby d10_16) rfl ?_
  refine og_aloadN X13 hx rfl rfl (hb hby d10_17) rfl ?_
  refine og_astoreN (L' := #[.val (.ref a1), .val (.int 7), .val (.ref nb13), .val (.ref nb13), .unset, .unset, .unset, .unset, .unset, .unset]) X13 hx rfl rfl (hb hby d10_18) rfl ?_
  refine og_aloadN X13 hx rfl rfl (hb hby d10_19) rfl ?_
  refine og_arraylength X13 hx hZ e13 V_nb13 (hb hby d10_20) rfl ?_
  refine og_istore (L' := #[.val (.ref a1), .val (.int 7), .val (.ref nb13), .val (.ref nb13), .val (.int 5), .unset, .unset, .unset, .unset, .unset]) X13 hx rfl (hb hby d10_21) rfl ?_
  refine og_iconst (v := 0) X13 hx rfl (hb hby d10_23) rfl ?_
  refine og_istore (L' := #[.val (.ref a1), .val (.int 7), .val (.ref nb13), .val (.ref nb13), .val (.int 5), .val (.int 0), .unset, .unset, .unset, .unset]) X13 hx rfl (hb hby d10_24) rfl ?_
  refine og_iload X13 hx rfl (hb hby d10_26) rfl ?_
  refine og_iload X13 hx rfl (hb hby d10_28) rfl ?_
  refine og_icmp_ge (pc1 := 50) (pc2 := 33) X13 hx (hb hby d10_30) (by decide) (by decide) rfl (fun q => absurd q (by decide)) (fun _ => ?_)
  refine og_aloadN X13 hx rfl rfl (hb hby d10_33) rfl ?_
  refine og_iload X13 hx rfl (hb hby d10_34) rfl ?_
  refine og_aaload (v := (.ref nb13r0)) X13 hx hZ e13 rfl V_nb13 ⟨by decide, by decide⟩ rfl (hb hby d10_36) rfl ?_
  refine og_astore (L' := #[.val (.ref a1), .val (.int 7), .val (.ref nb13), .val (.ref nb13), .val (.int 5), .val (.int 0), .val (.ref nb13r0), .unset, .unset, .unset]) X13 hx rfl rfl (hb hby d10_37) rfl ?_
  refine og_aload X13 hx rfl rfl (hb hby d10_39) rfl ?_
  refine og_iloadN X13 hx rfl (hb hby d10_41) rfl ?_
  refine og_iconst (v := -1) X13 hx rfl (hb hby d10_42) rfl ?_
  refine og_iastore X13 hx hZ e13 V_nb13r0 ⟨by decide, by decide⟩ 7 (by decide) (Nat.le_of_ble_eq_true rfl) (hb hby d10_43) rfl (fun T14 h14 X14 e14 W14 V14 => ?_)
  have E_a1 := E_a1.wr W14; have F_value_a1 := F_value_a1.other W14 (Or.inl ne_a1_nb13r0); have F_coder_a1 := F_coder_a1.other W14 (Or.inl ne_a1_nb13r0); have V_ba := V_ba.other W14 ne_ba_nb13r0; have V_nb13r1 := V_nb13r1.other W14 (Ne.symm ne_nb13r0_nb13r1); have V_nb13r2 := V_nb13r2.other W14 (Ne.symm ne_nb13r0_nb13r2)
  have V_nb13r3 := V_nb13r3.other W14 (Ne.symm ne_nb13r0_nb13r3); have V_nb13r4 := V_nb13r4.other W14 (Ne.symm ne_nb13r0_nb13r4); have V_nb13 := V_nb13.other W14 ne_nb13_nb13r0; have O := O.wr W14 g_nb13r0; have K := K.wr W14 (Or.inr sz_nb13r0)
  have N := Fr.snoc X14 N g_nb13r0
  have V_nb13r0 : Arv Z h14 nb13r0 kR13 .int 8 [(.int 0), (.int 0), (.int 0), (.int 0), (.int 0), (.int 0), (.int 0), (.int (-1))] (.int 0) := V14
  refine og_iinc (L' := #[.val (.ref a1), .val (.int 7), .val (.ref nb13), .val (.ref nb13), .val (.int 5), .val (.int 1), .val (.ref nb13r0), .unset, .unset, .unset]) (w := 1) X14 hx rfl rfl rfl (hb hby d10_44) rfl ?_
  refine og_goto (pc' := 26) X14 hx (hb hby d10_47) (by decide) (by decide) ?_
  refine og_iload X14 hx rfl (hb hby d10_26) rfl ?_
  refine og_iload X14 hx rfl (hb hby d10_28) rfl ?_
  refine og_icmp_ge (pc1 := 50) (pc2 := 33) X14 hx (hb hby d10_30) (by decide) (by decide) rfl (fun q => absurd q (by decide)) (fun _ => ?_)
  refine og_aloadN X14 hx rfl rfl (hb hby d10_33) rfl ?_
  refine og_iload X14 hx rfl (hb hby d10_34) rfl ?_
  refine og_aaload (v := (.ref nb13r1)) X14 hx hZ e14 rfl V_nb13 ⟨by decide, by decide⟩ rfl (hb hby d10_36) rfl ?_
  refine og_astore (L' := #[.val (.ref a1), .val (.int 7), .val (.ref nb13), .val (.ref nb13), .val (.int 5), .val (.int 1), .val (.ref nb13r1), .unset, .unset, .unset]) X14 hx rfl rfl (hb hby d10_37) rfl ?_
  refine og_aload X14 hx rfl rfl (hb hby d10_39) rfl ?_
  refine og_iloadN X14 hx rfl (hb hby d10_41) rfl ?_
  refine og_iconst (v := -1) X14 hx rfl (hb hby d10_42) rfl ?_
  refine og_iastore X14 hx hZ e14 V_nb13r1 ⟨by decide, by decide⟩ 7 (by decide) (Nat.le_of_ble_eq_true rfl) (hb hby d10_43) rfl (fun T15 h15 X15 e15 W15 V15 => ?_)
  have E_a1 := E_a1.wr W15; have F_value_a1 := F_value_a1.other W15 (Or.inl ne_a1_nb13r1); have F_coder_a1 := F_coder_a1.other W15 (Or.inl ne_a1_nb13r1); have V_ba := V_ba.other W15 ne_ba_nb13r1; have V_nb13r2 := V_nb13r2.other W15 (Ne.symm ne_nb13r1_nb13r2); have V_nb13r3 := V_nb13r3.other W15 (Ne.symm ne_nb13r1_nb13r3)
  have V_nb13r4 := V_nb13r4.other W15 (Ne.symm ne_nb13r1_nb13r4); have V_nb13 := V_nb13.other W15 ne_nb13_nb13r1; have V_nb13r0 := V_nb13r0.other W15 ne_nb13r0_nb13r1; have O := O.wr W15 g_nb13r1; have K := K.wr W15 (Or.inr sz_nb13r1)
  have N := Fr.snoc X15 N g_nb13r1
  have V_nb13r1 : Arv Z h15 nb13r1 kR13 .int 8 [(.int 0), (.int 0), (.int 0), (.int 0), (.int 0), (.int 0), (.int 0), (.int (-1))] (.int 0) := V15
  refine og_iinc (L' := #[.val (.ref a1), .val (.int 7), .val (.ref nb13), .val (.ref nb13), .val (.int 5), .val (.int 2), .val (.ref nb13r1), .unset, .unset, .unset]) (w := 1) X15 hx rfl rfl rfl (hb hby d10_44) rfl ?_
  refine og_goto (pc' := 26) X15 hx (hb hby d10_47) (by decide) (by decide) ?_
  refine og_iload X15 hx rfl (hb hby d10_26) rfl ?_
  refine og_iload X15 hx rfl (hb hby d10_28) rfl ?_
  refine og_icmp_ge (pc1 := 50) (pc2 := 33) X15 hx (hb hby d10_30) (by decide) (by decide) rfl (fun q => absurd q (by decide)) (fun _ => ?_)
  refine og_aloadN X15 hx rfl rfl (hb hby d10_33) rfl ?_
  refine og_iload X15 hx rfl (hb hby d10_34) rfl ?_
  refine og_aaload (v := (.ref nb13r2)) X15 hx hZ e15 rfl V_nb13 ⟨by decide, by decide⟩ rfl (hb hby d10_36) rfl ?_
  refine og_astore (L' := #[.val (.ref a1), .val (.int 7), .val (.ref nb13), .val (.ref nb13), .val (.int 5), .val (.int 2), .val (.ref nb13r2), .unset, .unset, .unset]) X15 hx rfl rfl (hb hby d10_37) rfl ?_
  refine og_aload X15 hx rfl rfl (hb hby d10_39) rfl ?_
  refine og_iloadN X15 hx rfl (hb hby d10_41) rfl ?_
  refine og_iconst (v := -1) X15 hx rfl (hb hby d10_42) rfl ?_
  refine og_iastore X15 hx hZ e15 V_nb13r2 ⟨by decide, by decide⟩ 7 (by decide) (Nat.le_of_ble_eq_true rfl) (hb hby d10_43) rfl (fun T16 h16 X16 e16 W16 V16 => ?_)
  have E_a1 := E_a1.wr W16; have F_value_a1 := F_value_a1.other W16 (Or.inl ne_a1_nb13r2); have F_coder_a1 := F_coder_a1.other W16 (Or.inl ne_a1_nb13r2); have V_ba := V_ba.other W16 ne_ba_nb13r2; have V_nb13r3 := V_nb13r3.other W16 (Ne.symm ne_nb13r2_nb13r3); have V_nb13r4 := V_nb13r4.other W16 (Ne.symm ne_nb13r2_nb13r4)
  have V_nb13 := V_nb13.other W16 ne_nb13_nb13r2; have V_nb13r0 := V_nb13r0.other W16 ne_nb13r0_nb13r2; have V_nb13r1 := V_nb13r1.other W16 ne_nb13r1_nb13r2; have O := O.wr W16 g_nb13r2; have K := K.wr W16 (Or.inr sz_nb13r2)
  have N := Fr.snoc X16 N g_nb13r2
  have V_nb13r2 : Arv Z h16 nb13r2 kR13 .int 8 [(.int 0), (.int 0), (.int 0), (.int 0), (.int 0), (.int 0), (.int 0), (.int (-1))] (.int 0) := V16
  refine og_iinc (L' := #[.val (.ref a1), .val (.int 7), .val (.ref nb13), .val (.ref nb13), .val (.int 5), .val (.int 3), .val (.ref nb13r2), .unset, .unset, .unset]) (w := 1) X16 hx rfl rfl rfl (hb hby d10_44) rfl ?_
  refine og_goto (pc' := 26) X16 hx (hb hby d10_47) (by decide) (by decide) ?_
  refine og_iload X16 hx rfl (hb hby d10_26) rfl ?_
  refine og_iload X16 hx rfl (hb hby d10_28) rfl ?_
  refine og_icmp_ge (pc1 := 50) (pc2 := 33) X16 hx (hb hby d10_30) (by decide) (by decide) rfl (fun q => absurd q (by decide)) (fun _ => ?_)
  refine og_aloadN X16 hx rfl rfl (hb hby d10_33) rfl ?_
  refine og_iload X16 hx rfl (hb hby d10_34) rfl ?_
  refine og_aaload (v := (.ref nb13r3)) X16 hx hZ e16 rfl V_nb13 ⟨by decide, by decide⟩ rfl (hb hby d10_36) rfl ?_
  refine og_astore (L' := #[.val (.ref a1), .val (.int 7), .val (.ref nb13), .val (.ref nb13), .val (.int 5), .val (.int 3), .val (.ref nb13r3), .unset, .unset, .unset]) X16 hx rfl rfl (hb hby d10_37) rfl ?_
  refine og_aload X16 hx rfl rfl (hb hby d10_39) rfl ?_
  refine og_iloadN X16 hx rfl (hb hby d10_41) rfl ?_
  refine og_iconst (v := -1) X16 hx rfl (hb hby d10_42) rfl ?_
  refine og_iastore X16 hx hZ e16 V_nb13r3 ⟨by decide, by decide⟩ 7 (by decide) (Nat.le_of_ble_eq_true rfl) (hb hby d10_43) rfl (fun T17 h17 X17 e17 W17 V17 => ?_)
  have E_a1 := E_a1.wr W17; have F_value_a1 := F_value_a1.other W17 (Or.inl ne_a1_nb13r3); have F_coder_a1 := F_coder_a1.other W17 (Or.inl ne_a1_nb13r3); have V_ba := V_ba.other W17 ne_ba_nb13r3; have V_nb13r4 := V_nb13r4.other W17 (Ne.symm ne_nb13r3_nb13r4); have V_nb13 := V_nb13.other W17 ne_nb13_nb13r3
  have V_nb13r0 := V_nb13r0.other W17 ne_nb13r0_nb13r3; have V_nb13r1 := V_nb13r1.other W17 ne_nb13r1_nb13r3; have V_nb13r2 := V_nb13r2.other W17 ne_nb13r2_nb13r3; have O := O.wr W17 g_nb13r3; have K := K.wr W17 (Or.inr sz_nb13r3)
  have N := Fr.snoc X17 N g_nb13r3
  have V_nb13r3 : Arv Z h17 nb13r3 kR13 .int 8 [(.int 0), (.int 0), (.int 0), (.int 0), (.int 0), (.int 0), (.int 0), (.int (-1))] (.int 0) := V17
  refine og_iinc (L' := #[.val (.ref a1), .val (.int 7), .val (.ref nb13), .val (.ref nb13), .val (.int 5), .val (.int 4), .val (.ref nb13r3), .unset, .unset, .unset]) (w := 1) X17 hx rfl rfl rfl (hb hby d10_44) rfl ?_
  refine og_goto (pc' := 26) X17 hx (hb hby d10_47) (by decide) (by decide) ?_
  refine og_iload X17 hx rfl (hb hby d10_26) rfl ?_
  refine og_iload X17 hx rfl (hb hby d10_28) rfl ?_
  refine og_icmp_ge (pc1 := 50) (pc2 := 33) X17 hx (hb hby d10_30) (by decide) (by decide) rfl (fun q => absurd q (by decide)) (fun _ => ?_)
  refine og_aloadN X17 hx rfl rfl (hb hby d10_33) rfl ?_
  refine og_iload X17 hx rfl (hb hby d10_34) rfl ?_
  refine og_aaload (v := (.ref nb13r4)) X17 hx hZ e17 rfl V_nb13 ⟨by decide, by decide⟩ rfl (hb hby d10_36) rfl ?_
  refine og_astore (L' := #[.val (.ref a1), .val (.int 7), .val (.ref nb13), .val (.ref nb13), .val (.int 5), .val (.int 4), .val (.ref nb13r4), .unset, .unset, .unset]) X17 hx rfl rfl (hb hby d10_37) rfl ?_
  refine og_aload X17 hx rfl rfl (hb hby d10_39) rfl ?_
  refine og_iloadN X17 hx rfl (hb hby d10_41) rfl ?_
  refine og_iconst (v := -1) X17 hx rfl (hb hby d10_42) rfl ?_
  refine og_iastore X17 hx hZ e17 V_nb13r4 ⟨by decide, by decide⟩ 7 (by decide) (Nat.le_of_ble_eq_true rfl) (hb hby d10_43) rfl (fun T18 h18 X18 e18 W18 V18 => ?_)
  have E_a1 := E_a1.wr W18; have F_value_a1 := F_value_a1.other W18 (Or.inl ne_a1_nb13r4); have F_coder_a1 := F_coder_a1.other W18 (Or.inl ne_a1_nb13r4); have V_ba := V_ba.other W18 ne_ba_nb13r4; have V_nb13 := V_nb13.other W18 ne_nb13_nb13r4; have V_nb13r0 := V_nb13r0.other W18 ne_nb13r0_nb13r4
  have V_nb13r1 := V_nb13r1.other W18 ne_nb13r1_nb13r4; have V_nb13r2 := V_nb13r2.other W18 ne_nb13r2_nb13r4; have V_nb13r3 := V_nb13r3.other W18 ne_nb13r3_nb13r4; have O := O.wr W18 g_nb13r4; have K := K.wr W18 (Or.inr sz_nb13r4)
  have N := Fr.snoc X18 N g_nb13r4
  have V_nb13r4 : Arv Z h18 nb13r4 kR13 .int 8 [(.int 0), (.int 0), (.int 0), (.int 0), (.int 0), (.int 0), (.int 0), (.int (-1))] (.int 0) := V18
  refine og_iinc (L' := #[.val (.ref a1), .val (.int 7), .val (.ref nb13), .val (.ref nb13), .val (.int 5), .val (.int 5), .val (.ref nb13r4), .unset, .unset, .unset]) (w := 1) X18 hx rfl rfl rfl (hb hby d10_44) rfl ?_
  refine og_goto (pc' := 26) X18 hx (hb hby d10_47) (by decide) (by decide) ?_
  refine og_iload X18 hx rfl (hb hby d10_26) rfl ?_
  refine og_iload X18 hx rfl (hb hby d10_28) rfl ?_
  refine og_icmp_ge (pc1 := 50) (pc2 := 33) X18 hx (hb hby d10_30) (by decide) (by decide) rfl (fun _ => ?_) (fun q => absurd q (by decide))
  refine og_iloadN X18 hx rfl (hb hby d10_50) rfl ?_
  refine og_iconst (v := 1) X18 hx rfl (hb hby d10_51) rfl ?_
  refine og_isub X18 hx (hb hby d10_52) rfl ?_
  show OG p e below _ (T18.setTop (mkF m 53 #[.val (.ref a1), .val (.int 7), .val (.ref nb13), .val (.ref nb13), .val (.int 5), .val (.int 5), .val (.ref nb13r4), .unset, .unset, .unset] [(.int 6)]))
  refine og_istoreN (L' := #[.val (.ref a1), .val (.int 7), .val (.ref nb13), .val (.int 6), .val (.int 5), .val (.int 5), .val (.ref nb13r4), .unset, .unset, .unset]) X18 hx rfl (hb hby d10_53) rfl ?_
  rw [← own_row0 (own_f [d0, d1, d2, d3, d4, d5, d6]) 0] at V_nb13r0
  rw [← own_row0 (own_f [d0, d1, d2, d3, d4, d5, d6]) 1] at V_nb13r1
  rw [← own_row0 (own_f [d0, d1, d2, d3, d4, d5, d6]) 2] at V_nb13r2
  rw [← own_row0 (own_f [d0, d1, d2, d3, d4, d5, d6]) 3] at V_nb13r3
  rw [← own_row0 (own_f [d0, d1, d2, d3, d4, d5, d6]) 4] at V_nb13r4
  have J54 : ∀ (n k : Nat) (hnk : n + k = 7) (T19 : State) (h19 : Heap) (l19 : List Loc)  (X19 : Stand p l e ({ frames := 4, cells := 7, slots := 46, locals := 53 } : Room) s m #[(.ref a1)] below meth c T19 l19 6 45) (e19 : T19.heap = h19) (N : Fr n0 l19) (O : Old Z n0 h19) (K : Keep h0 h19 []) (ii : Int32) (hi : ii.toInt = 6 - (k : Int)) (sl4 : Slot) (hs_sl4 : HSL sl4) (sl5 : Slot) (hs_sl5 : HSL sl5) (sl6 : Slot) (hs_sl6 : HSL sl6) (sl7 : Slot) (hs_sl7 : HSL sl7) (sl8 : Slot) (hs_sl8 : HSL sl8) (sl9 : Slot) (hs_sl9 : HSL sl9) (E_a1 : Exa Z h19 a1 "java/lang/String") (F_value_a1 : Fld Z h19 a1 "java/lang/String" "value" "[B" (.ref ba)) (F_coder_a1 : Fld Z h19 a1 "java/lang/String" "coder" "B" (.int 0)) (V_ba : Arv Z h19 ba kb .byte (7 : Int32) [(.int d0.toInt8.toInt32), (.int d1.toInt8.toInt32), (.int d2.toInt8.toInt32), (.int d3.toInt8.toInt32), (.int d4.toInt8.toInt32), (.int d5.toInt8.toInt32), (.int d6.toInt8.toInt32)] (.int 0)) (V_nb13 : Arv Z h19 nb13 kA13 (.array .int) (5 : Int32) [(.ref nb13r0), (.ref nb13r1), (.ref nb13r2), (.ref nb13r3), (.ref nb13r4)] .null) (V_nb13r0 : Arv Z h19 nb13r0 kR13 .int 8 (own_row (own_f [d0, d1, d2, d3, d4, d5, d6]) k 0) (.int 0)) (V_nb13r1 : Arv Z h19 nb13r1 kR13 .int 8 (own_row (own_f [d0, d1, d2, d3, d4, d5, d6]) k 1) (.int 0)) (V_nb13r2 : Arv Z h19 nb13r2 kR13 .int 8 (own_row (own_f [d0, d1, d2, d3, d4, d5, d6]) k 2) (.int 0)) (V_nb13r3 : Arv Z h19 nb13r3 kR13 .int 8 (own_row (own_f [d0, d1, d2, d3, d4, d5, d6]) k 3) (.int 0)) (V_nb13r4 : Arv Z h19 nb13r4 kR13 .int 8 (own_row (own_f [d0, d1, d2, d3, d4, d5, d6]) k 4) (.int 0)), OG p e below (OFin s (fun v h L => ∃ r x x0 x1 x2 x3 x4 kA kR, v = some (.ref r) ∧ Fr n0 L ∧ Keep h0 h [] ∧ Exa Z h r "com/example/nitpick/nitpick/internal/interpolation/ExpressionEnds" ∧ Fld Z h r "com/example/nitpick/nitpick/internal/interpolation/ExpressionEnds" "exits" "[[I" (.ref x) ∧ Arv Z h x kA (.array .int) (5 : Int32) [(.ref x0), (.ref x1), (.ref x2), (.ref x3), (.ref x4)] .null ∧ Arv Z h x0 kR .int 8 (own_row (own_f [d0, d1, d2, d3, d4, d5, d6]) 7 0) (.int 0)) 7 46) (T19.setTop (mkF m 54 #[.val (.ref a1), .val (.int 7), .val (.ref nb13), .val (.int ii), sl4, sl5, sl6, sl7, sl8, sl9] [])) := by
    intro n; induction n with
    | zero =>
      intro k hnk T19 h19 l19  X19 e19 N O K ii hi sl4 hs_sl4 sl5 hs_sl5 sl6 hs_sl6 sl7 hs_sl7 sl8 hs_sl8 sl9 hs_sl9 E_a1 F_value_a1 F_coder_a1 V_ba V_nb13 V_nb13r0 V_nb13r1 V_nb13r2 V_nb13r3 V_nb13r4
      have hlt := own_ixz hi hnk
      obtain rfl : k = 7 := by omega
      refine og_iloadN X19 hx rfl (hb hby d10_54) rfl ?_
      refine og_if_lt (pc1 := 186) (pc2 := 58) X19 hx (hb hby d10_55) (by decide) (by decide) rfl (fun _ => ?_) (fun q => absurd hlt q)
      refine og_new (pc' := 189) (cells' := 7) (slots' := 46) X19 hx hZ hown (ow106 hw) (ow107 hw) (ow42 hw) e19 (hb hby d10_186) rfl rfl rfl (by decide) (by decide) (fun T20 h20 nb20 X20 e20 E20 q20 E_nb20 D20 B20 => ?_)
      have s_nb20 : h19.size ≤ nb20 := Nat.le_of_eq q20.symm; have g_nb20 : n0 ≤ nb20 := Nat.le_trans (own_n0 O) s_nb20; have sz_nb20 : h0.size ≤ nb20 := Nat.le_trans K.1 s_nb20
      have ne_nb13_nb20 : nb13 ≠ nb20 := Nat.ne_of_lt (Nat.lt_of_lt_of_le V_nb13.lt s_nb20)
      have ne_nb13r0_nb20 : nb13r0 ≠ nb20 := Nat.ne_of_lt (Nat.lt_of_lt_of_le V_nb13r0.lt s_nb20)
      have V_nb13 := V_nb13.ext E20; have V_nb13r0 := V_nb13r0.ext E20
      have O := O.ext E20; have K := K.ext E20
      have F_exits_nb20 : Fld Z h20 nb20 "com/example/nitpick/nitpick/internal/interpolation/ExpressionEnds" "exits" "[[I" .null := D20 (Or.inr (ow113 hw)) (ty := (.array (.array .int))) (by decide)
      refine og_dup X20 hx rfl (hb hby d10_189) rfl ?_
      refine og_aloadN X20 hx rfl rfl (hb hby d10_190) rfl ?_
      refine og_special (pc' := 194) (cells' := 7) (slots' := 46) (W := 1) X20 hx hZ (rm_ei l Z a0 hw nb20 nb13 h20 n0 O E_nb20 F_exits_nb20 g_nb20) rfl hown (ow108 hw) (ow109 hw) (ow42 hw) (ow110 hw) (by decide) (by rw [hml]; rfl) e20 opd_10 [(.ref nb13)] [(.ref nb20)] rfl rfl rfl rfl (by decide) (by decide) rfl rfl (by decide) (by decide) (hb hby d10_191) rfl (fun v21 T21 h21 L21 X21 e21 z21 => ?_)
      obtain ⟨rfl, Nq21, K21, E_nb20', F_exits_nb20'⟩ := z21; have N := Fr.app N Nq21
      have V_nb13 := V_nb13.keep K21 (ninS ne_nb13_nb20 nin0); have V_nb13r0 := V_nb13r0.keep K21 (ninS ne_nb13r0_nb20 nin0)
      have K := K.trans K21 (allS (Or.inr sz_nb20) all0)
      have E_nb20 := E_nb20'; have F_exits_nb20 := F_exits_nb20'
      refine og_retR X21 hx hlk hret rfl rfl rfl (hb hby d10_194) (by decide) (by decide) ?_
      rw [e21]; exact ⟨_, _, _, _, _, _, _, _, _, rfl, N, K, E_nb20, F_exits_nb20, V_nb13, V_nb13r0⟩
    | succ n ih =>
      intro k hnk T19 h19 l19  X19 e19 N O K ii hi sl4 hs_sl4 sl5 hs_sl5 sl6 hs_sl6 sl7 hs_sl7 sl8 hs_sl8 sl9 hs_sl9 E_a1 F_value_a1 F_coder_a1 V_ba V_nb13 V_nb13r0 V_nb13r1 V_nb13r2 V_nb13r3 V_nb13r4
      have hk : k < 7 := by omega
      obtain ⟨hx8, hx7, hxn⟩ := own_ix hi hk
      obtain ⟨hy8, hyn, -⟩ := own_ix1 hi hk
      obtain ⟨cc, hcf⟩ : ∃ z, (own_f [d0, d1, d2, d3, d4, d5, d6]) (6 - k) = z := ⟨_, rfl⟩
      have hcv := own_fv [d0, d1, d2, d3, d4, d5, d6] hxn (show 6 - k < 7 by omega)
      have hcb := own_fb [d0, d1, d2, d3, d4, d5, d6] (by simp only [List.mem_cons, List.not_mem_nil, or_false]; rintro d (rfl | rfl | rfl | rfl | rfl | rfl | rfl) <;> assumption) (show 6 - k < 7 by omega)
      rw [hcf] at hcv hcb
      refine og_iloadN X19 hx rfl (hb hby d10_54) rfl ?_
      refine og_if_lt (pc1 := 186) (pc2 := 58) X19 hx (hb hby d10_55) (by decide) (by decide) rfl (fun q => absurd q hx7.1) (fun _ => ?_)
      refine og_aloadN X19 hx rfl rfl (hb hby d10_58) rfl ?_
      refine og_iloadN X19 hx rfl (hb hby d10_59) rfl ?_
      refine og_virtual (pc' := 63) (cells' := 6) (slots' := 45) (W := 0) X19 hx hZ (rm_ch l Z a0 hw a1 ba kb (7 : Int32) ii hx7 _ cc hcv hcb cs hcs fm hfm h19 n0 O E_a1 F_value_a1 F_coder_a1 V_ba S_CS S_FM) hown (ow59 hw) (ow60 hw) (own_nf hZ (ow62 hw)) (ow62 hw) (ow61 hw) (ow7 hw) (ow63 hw) (by decide) (by rw [hml]; rfl) e19 opd_11 [(.int ii)] [] rfl rfl rfl rfl (by decide) (by decide) rfl rfl (by decide) (by decide) E_a1 (hb hby d10_60) rfl (fun v22 T22 h22 L22 X22 e22 z22 => ?_)
      obtain ⟨rfl, Nq22, hq22⟩ := z22; replace e22 := e22.trans hq22; have N := Fr.app N Nq22
      refine og_istore (L' := #[.val (.ref a1), .val (.int 7), .val (.ref nb13), .val (.int ii), .val (.int cc), sl5, sl6, sl7, sl8, sl9]) X22 hx (by rcases hs_sl4 with rfl | ⟨_, rfl⟩ | ⟨_, rfl⟩ <;> rfl) (hb hby d10_63) rfl ?_
      refine og_getstatic X22 hx hZ (host := "") hown (Or.inl (ow54 hw)) Via.refl e22 (S_QU.ext O.2) (hb hby d10_65) rfl (fun T23 X23 e23 => ?_)
      refine og_astore (L' := #[.val (.ref a1), .val (.int 7), .val (.ref nb13), .val (.int ii), .val (.int cc), .val (.ref va), sl6, sl7, sl8, sl9]) X23 hx rfl (by rcases hs_sl5 with rfl | ⟨_, rfl⟩ | ⟨_, rfl⟩ <;> rfl) (hb hby d10_68) rfl ?_
      refine og_aload X23 hx rfl rfl (hb hby d10_70) rfl ?_
      refine og_arraylength X23 hx hZ e23 (V_va.ext O.2) (hb hby d10_72) rfl ?_
      refine og_istore (L' := #[.val (.ref a1), .val (.int 7), .val (.ref nb13), .val (.int ii), .val (.int cc), .val (.ref va), .val (.int 5), sl7, sl8, sl9]) X23 hx (by rcases hs_sl6 with rfl | ⟨_, rfl⟩ | ⟨_, rfl⟩ <;> rfl) (hb hby d10_73) rfl ?_
      refine og_iconst (v := 0) X23 hx rfl (hb hby d10_75) rfl ?_
      refine og_istore (L' := #[.val (.ref a1), .val (.int 7), .val (.ref nb13), .val (.int ii), .val (.int cc), .val (.ref va), .val (.int 5), .val (.int 0), sl8, sl9]) X23 hx (by rcases hs_sl7 with rfl | ⟨_, rfl⟩ | ⟨_, rfl⟩ <;> rfl) (hb hby d10_76) rfl ?_
      have J78_5 : ∀ (T24 : State) (h24 : Heap) (l24 : List Loc)  (X24 : Stand p l e ({ frames := 4, cells := 7, slots := 46, locals := 53 } : Room) s m #[(.ref a1)] below meth c T24 l24 6 45) (e24 : T24.heap = h24) (N : Fr n0 l24) (O : Old Z n0 h24) (K : Keep h0 h24 []) (sa8 : Slot) (hs_sa8 : HSL sa8) (sa9 : Slot) (hs_sa9 : HSL sa9) (E_a1 : Exa Z h24 a1 "java/lang/String") (F_value_a1 : Fld Z h24 a1 "java/lang/String" "value" "[B" (.ref ba)) (F_coder_a1 : Fld Z h24 a1 "java/lang/String" "coder" "B" (.int 0)) (V_ba : Arv Z h24 ba kb .byte (7 : Int32) [(.int d0.toInt8.toInt32), (.int d1.toInt8.toInt32), (.int d2.toInt8.toInt32), (.int d3.toInt8.toInt32), (.int d4.toInt8.toInt32), (.int d5.toInt8.toInt32), (.int d6.toInt8.toInt32)] (.int 0)) (V_nb13 : Arv Z h24 nb13 kA13 (.array .int) (5 : Int32) [(.ref nb13r0), (.ref nb13r1), (.ref nb13r2), (.ref nb13r3), (.ref nb13r4)] .null) (V_nb13r0 : Arv Z h24 nb13r0 kR13 .int 8 (own_row (own_f [d0, d1, d2, d3, d4, d5, d6]) (k + 1) 0) (.int 0)) (V_nb13r1 : Arv Z h24 nb13r1 kR13 .int 8 (own_row (own_f [d0, d1, d2, d3, d4, d5, d6]) (k + 1) 1) (.int 0)) (V_nb13r2 : Arv Z h24 nb13r2 kR13 .int 8 (own_row (own_f [d0, d1, d2, d3, d4, d5, d6]) (k + 1) 2) (.int 0)) (V_nb13r3 : Arv Z h24 nb13r3 kR13 .int 8 (own_row (own_f [d0, d1, d2, d3, d4, d5, d6]) (k + 1) 3) (.int 0)) (V_nb13r4 : Arv Z h24 nb13r4 kR13 .int 8 (own_row (own_f [d0, d1, d2, d3, d4, d5, d6]) (k + 1) 4) (.int 0)), OG p e below (OFin s (fun v h L => ∃ r x x0 x1 x2 x3 x4 kA kR, v = some (.ref r) ∧ Fr n0 L ∧ Keep h0 h [] ∧ Exa Z h r "com/example/nitpick/nitpick/internal/interpolation/ExpressionEnds" ∧ Fld Z h r "com/example/nitpick/nitpick/internal/interpolation/ExpressionEnds" "exits" "[[I" (.ref x) ∧ Arv Z h x kA (.array .int) (5 : Int32) [(.ref x0), (.ref x1), (.ref x2), (.ref x3), (.ref x4)] .null ∧ Arv Z h x0 kR .int 8 (own_row (own_f [d0, d1, d2, d3, d4, d5, d6]) 7 0) (.int 0)) 7 46) (T24.setTop (mkF m 78 #[.val (.ref a1), .val (.int 7), .val (.ref nb13), .val (.int ii), .val (.int cc), .val (.ref va), .val (.int 5), .val (.int 5), sa8, sa9] [])) := by
        intro T24 h24 l24  X24 e24 N O K sa8 hs_sa8 sa9 hs_sa9 E_a1 F_value_a1 F_coder_a1 V_ba V_nb13 V_nb13r0 V_nb13r1 V_nb13r2 V_nb13r3 V_nb13r4
        refine og_iload X24 hx rfl (hb hby d10_78) rfl ?_
        refine og_iload X24 hx rfl (hb hby d10_80) rfl ?_
        refine og_icmp_ge (pc1 := 180) (pc2 := 85) X24 hx (hb hby d10_82) (by decide) (by decide) rfl (fun _ => ?_) (fun q => absurd q (by decide))
        refine og_iinc (L' := #[.val (.ref a1), .val (.int 7), .val (.ref nb13), .val (.int (ii + (-1 : Int32))), .val (.int cc), .val (.ref va), .val (.int 5), .val (.int 5), sa8, sa9]) (w := -1) X24 hx rfl rfl rfl (hb hby d10_180) rfl ?_
        refine og_goto (pc' := 54) X24 hx (hb hby d10_183) (by decide) (by decide) ?_
        exact ih (k + 1) (by omega) T24 _ _ (own_mono X24 (by decide) (by decide)) e24 N O K _ (own_ixm hi hk) _ (Or.inr (Or.inl ⟨_, rfl⟩)) _ (Or.inr (Or.inr ⟨_, rfl⟩)) _ (Or.inr (Or.inl ⟨_, rfl⟩)) _ (Or.inr (Or.inl ⟨_, rfl⟩)) _ hs_sa8 _ hs_sa9 E_a1 F_value_a1 F_coder_a1 V_ba V_nb13 V_nb13r0 V_nb13r1 V_nb13r2 V_nb13r3 V_nb13r4
      have J78_4 : ∀ (T25 : State) (h25 : Heap) (l25 : List Loc)  (X25 : Stand p l e ({ frames := 4, cells := 7, slots := 46, locals := 53 } : Room) s m #[(.ref a1)] below meth c T25 l25 6 45) (e25 : T25.heap = h25) (N : Fr n0 l25) (O : Old Z n0 h25) (K : Keep h0 h25 []) (sa8 : Slot) (hs_sa8 : HSL sa8) (sa9 : Slot) (hs_sa9 : HSL sa9) (E_a1 : Exa Z h25 a1 "java/lang/String") (F_value_a1 : Fld Z h25 a1 "java/lang/String" "value" "[B" (.ref ba)) (F_coder_a1 : Fld Z h25 a1 "java/lang/String" "coder" "B" (.int 0)) (V_ba : Arv Z h25 ba kb .byte (7 : Int32) [(.int d0.toInt8.toInt32), (.int d1.toInt8.toInt32), (.int d2.toInt8.toInt32), (.int d3.toInt8.toInt32), (.int d4.toInt8.toInt32), (.int d5.toInt8.toInt32), (.int d6.toInt8.toInt32)] (.int 0)) (V_nb13 : Arv Z h25 nb13 kA13 (.array .int) (5 : Int32) [(.ref nb13r0), (.ref nb13r1), (.ref nb13r2), (.ref nb13r3), (.ref nb13r4)] .null) (V_nb13r0 : Arv Z h25 nb13r0 kR13 .int 8 (own_row (own_f [d0, d1, d2, d3, d4, d5, d6]) (k + 1) 0) (.int 0)) (V_nb13r1 : Arv Z h25 nb13r1 kR13 .int 8 (own_row (own_f [d0, d1, d2, d3, d4, d5, d6]) (k + 1) 1) (.int 0)) (V_nb13r2 : Arv Z h25 nb13r2 kR13 .int 8 (own_row (own_f [d0, d1, d2, d3, d4, d5, d6]) (k + 1) 2) (.int 0)) (V_nb13r3 : Arv Z h25 nb13r3 kR13 .int 8 (own_row (own_f [d0, d1, d2, d3, d4, d5, d6]) (k + 1) 3) (.int 0)) (V_nb13r4 : Arv Z h25 nb13r4 kR13 .int 8 (own_row (own_f [d0, d1, d2, d3, d4, d5, d6]) k 4) (.int 0)), OG p e below (OFin s (fun v h L => ∃ r x x0 x1 x2 x3 x4 kA kR, v = some (.ref r) ∧ Fr n0 L ∧ Keep h0 h [] ∧ Exa Z h r "com/example/nitpick/nitpick/internal/interpolation/ExpressionEnds" ∧ Fld Z h r "com/example/nitpick/nitpick/internal/interpolation/ExpressionEnds" "exits" "[[I" (.ref x) ∧ Arv Z h x kA (.array .int) (5 : Int32) [(.ref x0), (.ref x1), (.ref x2), (.ref x3), (.ref x4)] .null ∧ Arv Z h x0 kR .int 8 (own_row (own_f [d0, d1, d2, d3, d4, d5, d6]) 7 0) (.int 0)) 7 46) (T25.setTop (mkF m 78 #[.val (.ref a1), .val (.int 7), .val (.ref nb13), .val (.int ii), .val (.int cc), .val (.ref va), .val (.int 5), .val (.int 4), sa8, sa9] [])) := by
        intro T25 h25 l25  X25 e25 N O K sa8 hs_sa8 sa9 hs_sa9 E_a1 F_value_a1 F_coder_a1 V_ba V_nb13 V_nb13r0 V_nb13r1 V_nb13r2 V_nb13r3 V_nb13r4
        refine og_iload X25 hx rfl (hb hby d10_78) rfl ?_
        refine og_iload X25 hx rfl (hb hby d10_80) rfl ?_
        refine og_icmp_ge (pc1 := 180) (pc2 := 85) X25 hx (hb hby d10_82) (by decide) (by decide) rfl (fun q => absurd q (by decide)) (fun _ => ?_)
        refine og_aload X25 hx rfl rfl (hb hby d10_85) rfl ?_
        refine og_iload X25 hx rfl (hb hby d10_87) rfl ?_
        refine og_aaload (v := (.ref w4)) X25 hx hZ e25 rfl (V_va.ext O.2) ⟨by decide, by decide⟩ rfl (hb hby d10_89) rfl ?_
        refine og_astore (L' := #[.val (.ref a1), .val (.int 7), .val (.ref nb13), .val (.int ii), .val (.int cc), .val (.ref va), .val (.int 5), .val (.int 4), .val (.ref w4), sa9]) X25 hx rfl (by rcases hs_sa8 with rfl | ⟨_, rfl⟩ | ⟨_, rfl⟩ <;> rfl) (hb hby d10_90) rfl ?_
        refine og_aloadN X25 hx rfl rfl (hb hby d10_92) rfl ?_
        refine og_aload X25 hx rfl rfl (hb hby d10_93) rfl ?_
        refine og_iload X25 hx rfl (hb hby d10_95) rfl ?_
        refine og_virtual (pc' := 100) (cells' := 6) (slots' := 45) (W := 1) X25 hx hZ (rm_nx4 l Z a0 hw w0 w1 w2 w3 w4 cc w3 rfl h25 n0 O S_CODE S_SINGLE S_SINGLE_ESCAPED S_DOUBLE S_DOUBLE_ESCAPED E_w0 E_w1 E_w2 E_w3 E_w4 F_w0 F_w1 F_w2 F_w3 F_w4) hown (ow83 hw) (ow84 hw) (own_nf hZ (ow86 hw)) (ow86 hw) (ow85 hw) (ow81 hw) (ow87 hw) (by decide) (by rw [hml]; rfl) e25 opd_12 [(.int cc)] [(.ref nb13)] rfl rfl rfl rfl (by decide) (by decide) rfl rfl (by decide) (by decide) (E_w4.ext O.2) (hb hby d10_97) rfl (fun v26 T26 h26 L26 X26 e26 z26 => ?_)
        obtain ⟨rfl, Nq26, hq26⟩ := z26; replace e26 := e26.trans hq26; have N := Fr.app N Nq26
        refine og_virtualUp (pc' := 103) (cells' := 6) (slots' := 45) (W := 1) X26 hx hZ (y := (⟨"com/example/nitpick/nitpick/internal/interpolation/ExpressionLiterals$Quoting", "ordinal", "()I"⟩ : MethodName)) (rm_ord l Z a0 hw w3 3 h25 n0 O F_w3) hown (ow98 hw) (ow89 hw) (ow90 hw) (by decide) (ow92 hw) (ow91 hw) (ow93 hw) (ow94 hw) (by decide) (by rw [hml]; rfl) e26 opd_0 [] [(.ref nb13)] rfl rfl rfl rfl (by decide) (by decide) rfl rfl (by decide) (by decide) (E_w3.ext O.2) (hb hby d10_100) rfl (fun v27 T27 h27 L27 X27 e27 z27 => ?_)
        obtain ⟨rfl, Nq27, hq27⟩ := z27; replace e27 := e27.trans hq27; have N := Fr.app N Nq27
        refine og_aaload (v := (.ref nb13r3)) X27 hx hZ e27 rfl V_nb13 ⟨by decide, by decide⟩ rfl (hb hby d10_103) rfl ?_
        refine og_iloadN X27 hx rfl (hb hby d10_104) rfl ?_
        refine og_iconst (v := 1) X27 hx rfl (hb hby d10_105) rfl ?_
        refine og_iadd X27 hx (hb hby d10_106) rfl ?_
        refine og_iaload (v := (.int (own_e (own_f [d0, d1, d2, d3, d4, d5, d6]) (k + 1) 3 (7 - k)))) X27 hx hZ e27 V_nb13r3 hy8 (own_get (own_f [d0, d1, d2, d3, d4, d5, d6]) hyn (by omega) (by omega)) (hb hby d10_107) rfl ?_
        refine og_istore (L' := #[.val (.ref a1), .val (.int 7), .val (.ref nb13), .val (.int ii), .val (.int cc), .val (.ref va), .val (.int 5), .val (.int 4), .val (.ref w4), .val (.int (own_e (own_f [d0, d1, d2, d3, d4, d5, d6]) (k + 1) 3 (7 - k)))]) X27 hx (by rcases hs_sa9 with rfl | ⟨_, rfl⟩ | ⟨_, rfl⟩ <;> rfl) (hb hby d10_108) rfl ?_
        refine og_aload X27 hx rfl rfl (hb hby d10_110) rfl ?_
        refine og_getstatic X27 hx hZ (host := "") hown (Or.inl (ow99 hw)) Via.refl e27 (S_CODE.ext O.2) (hb hby d10_112) rfl (fun T28 X28 e28 => ?_)
        refine og_acmp_ne (pc1 := 133) (pc2 := 118) X28 hx rfl rfl (hb hby d10_115) (by decide) (by decide) rfl (fun _ => ?_) (fun q => absurd q (fun q => ne_w4_w0 (Value.ref.inj q)))
        refine og_aload X28 hx rfl rfl (hb hby d10_133) rfl ?_
        refine og_getstatic X28 hx hZ (host := "") hown (Or.inl (ow99 hw)) Via.refl e28 (S_CODE.ext O.2) (hb hby d10_135) rfl (fun T29 X29 e29 => ?_)
        refine og_acmp_ne (pc1 := 163) (pc2 := 141) X29 hx rfl rfl (hb hby d10_138) (by decide) (by decide) rfl (fun _ => ?_) (fun q => absurd q (fun q => ne_w4_w0 (Value.ref.inj q)))
        refine og_aloadN X29 hx rfl rfl (hb hby d10_163) rfl ?_
        refine og_aload X29 hx rfl rfl (hb hby d10_164) rfl ?_
        refine og_virtualUp (pc' := 169) (cells' := 6) (slots' := 45) (W := 1) X29 hx hZ (y := (⟨"com/example/nitpick/nitpick/internal/interpolation/ExpressionLiterals$Quoting", "ordinal", "()I"⟩ : MethodName)) (rm_ord l Z a0 hw w4 4 h25 n0 O F_w4) hown (ow98 hw) (ow89 hw) (ow90 hw) (by decide) (ow92 hw) (ow91 hw) (ow93 hw) (ow94 hw) (by decide) (by rw [hml]; rfl) e29 opd_0 [] [(.ref nb13)] rfl rfl rfl rfl (by decide) (by decide) rfl rfl (by decide) (by decide) (E_w4.ext O.2) (hb hby d10_166) rfl (fun v30 T30 h30 L30 X30 e30 z30 => ?_)
        obtain ⟨rfl, Nq30, hq30⟩ := z30; replace e30 := e30.trans hq30; have N := Fr.app N Nq30
        refine og_aaload (v := (.ref nb13r4)) X30 hx hZ e30 rfl V_nb13 ⟨by decide, by decide⟩ rfl (hb hby d10_169) rfl ?_
        refine og_iloadN X30 hx rfl (hb hby d10_170) rfl ?_
        refine og_iload X30 hx rfl (hb hby d10_171) rfl ?_
        refine og_iastore X30 hx hZ e30 V_nb13r4 hx8 (6 - k) hxn (by rw [own_rlen]; omega) (hb hby d10_173) rfl (fun T31 h31 X31 e31 W31 V31 => ?_)
        have E_a1 := E_a1.wr W31; have F_value_a1 := F_value_a1.other W31 (Or.inl ne_a1_nb13r4); have F_coder_a1 := F_coder_a1.other W31 (Or.inl ne_a1_nb13r4); have V_ba := V_ba.other W31 ne_ba_nb13r4; have V_nb13 := V_nb13.other W31 ne_nb13_nb13r4; have V_nb13r0 := V_nb13r0.other W31 ne_nb13r0_nb13r4
        have V_nb13r1 := V_nb13r1.other W31 ne_nb13r1_nb13r4; have V_nb13r2 := V_nb13r2.other W31 ne_nb13r2_nb13r4; have V_nb13r3 := V_nb13r3.other W31 ne_nb13r3_nb13r4; have O := O.wr W31 g_nb13r4; have K := K.wr W31 (Or.inr sz_nb13r4)
        have N := Fr.snoc X31 N g_nb13r4
        have V_nb13r4 : Arv Z h31 nb13r4 kR13 .int 8 (own_row (own_f [d0, d1, d2, d3, d4, d5, d6]) (k + 1) 4) (.int 0) := (own_setr (own_f [d0, d1, d2, d3, d4, d5, d6]) hk ((own_eB (own_f [d0, d1, d2, d3, d4, d5, d6]) (r := 3) hk).trans (own_eA (own_f [d0, d1, d2, d3, d4, d5, d6]) (q := 4) (r := 3) hk hcf (fun z => absurd z.1 (by decide)) (fun z => absurd z.1 (by decide)) rfl))) ▸ V31
        refine og_iinc (L' := #[.val (.ref a1), .val (.int 7), .val (.ref nb13), .val (.int ii), .val (.int cc), .val (.ref va), .val (.int 5), .val (.int 5), .val (.ref w4), .val (.int (own_e (own_f [d0, d1, d2, d3, d4, d5, d6]) (k + 1) 3 (7 - k)))]) (w := 1) X31 hx rfl rfl rfl (hb hby d10_174) rfl ?_
        refine og_goto (pc' := 78) X31 hx (hb hby d10_177) (by decide) (by decide) ?_
        exact J78_5 T31 _ _ (own_mono X31 (by decide) (by decide)) e31 N O K _ (Or.inr (Or.inr ⟨_, rfl⟩)) _ (Or.inr (Or.inl ⟨_, rfl⟩)) E_a1 F_value_a1 F_coder_a1 V_ba V_nb13 V_nb13r0 V_nb13r1 V_nb13r2 V_nb13r3 V_nb13r4
      have J78_3 : ∀ (T32 : State) (h32 : Heap) (l32 : List Loc)  (X32 : Stand p l e ({ frames := 4, cells := 7, slots := 46, locals := 53 } : Room) s m #[(.ref a1)] below meth c T32 l32 6 45) (e32 : T32.heap = h32) (N : Fr n0 l32) (O : Old Z n0 h32) (K : Keep h0 h32 []) (sa8 : Slot) (hs_sa8 : HSL sa8) (sa9 : Slot) (hs_sa9 : HSL sa9) (E_a1 : Exa Z h32 a1 "java/lang/String") (F_value_a1 : Fld Z h32 a1 "java/lang/String" "value" "[B" (.ref ba)) (F_coder_a1 : Fld Z h32 a1 "java/lang/String" "coder" "B" (.int 0)) (V_ba : Arv Z h32 ba kb .byte (7 : Int32) [(.int d0.toInt8.toInt32), (.int d1.toInt8.toInt32), (.int d2.toInt8.toInt32), (.int d3.toInt8.toInt32), (.int d4.toInt8.toInt32), (.int d5.toInt8.toInt32), (.int d6.toInt8.toInt32)] (.int 0)) (V_nb13 : Arv Z h32 nb13 kA13 (.array .int) (5 : Int32) [(.ref nb13r0), (.ref nb13r1), (.ref nb13r2), (.ref nb13r3), (.ref nb13r4)] .null) (V_nb13r0 : Arv Z h32 nb13r0 kR13 .int 8 (own_row (own_f [d0, d1, d2, d3, d4, d5, d6]) (k + 1) 0) (.int 0)) (V_nb13r1 : Arv Z h32 nb13r1 kR13 .int 8 (own_row (own_f [d0, d1, d2, d3, d4, d5, d6]) (k + 1) 1) (.int 0)) (V_nb13r2 : Arv Z h32 nb13r2 kR13 .int 8 (own_row (own_f [d0, d1, d2, d3, d4, d5, d6]) (k + 1) 2) (.int 0)) (V_nb13r3 : Arv Z h32 nb13r3 kR13 .int 8 (own_row (own_f [d0, d1, d2, d3, d4, d5, d6]) k 3) (.int 0)) (V_nb13r4 : Arv Z h32 nb13r4 kR13 .int 8 (own_row (own_f [d0, d1, d2, d3, d4, d5, d6]) k 4) (.int 0)), OG p e below (OFin s (fun v h L => ∃ r x x0 x1 x2 x3 x4 kA kR, v = some (.ref r) ∧ Fr n0 L ∧ Keep h0 h [] ∧ Exa Z h r "com/example/nitpick/nitpick/internal/interpolation/ExpressionEnds" ∧ Fld Z h r "com/example/nitpick/nitpick/internal/interpolation/ExpressionEnds" "exits" "[[I" (.ref x) ∧ Arv Z h x kA (.array .int) (5 : Int32) [(.ref x0), (.ref x1), (.ref x2), (.ref x3), (.ref x4)] .null ∧ Arv Z h x0 kR .int 8 (own_row (own_f [d0, d1, d2, d3, d4, d5, d6]) 7 0) (.int 0)) 7 46) (T32.setTop (mkF m 78 #[.val (.ref a1), .val (.int 7), .val (.ref nb13), .val (.int ii), .val (.int cc), .val (.ref va), .val (.int 5), .val (.int 3), sa8, sa9] [])) := by
        intro T32 h32 l32  X32 e32 N O K sa8 hs_sa8 sa9 hs_sa9 E_a1 F_value_a1 F_coder_a1 V_ba V_nb13 V_nb13r0 V_nb13r1 V_nb13r2 V_nb13r3 V_nb13r4
        refine og_iload X32 hx rfl (hb hby d10_78) rfl ?_
        refine og_iload X32 hx rfl (hb hby d10_80) rfl ?_
        refine og_icmp_ge (pc1 := 180) (pc2 := 85) X32 hx (hb hby d10_82) (by decide) (by decide) rfl (fun q => absurd q (by decide)) (fun _ => ?_)
        refine og_aload X32 hx rfl rfl (hb hby d10_85) rfl ?_
        refine og_iload X32 hx rfl (hb hby d10_87) rfl ?_
        refine og_aaload (v := (.ref w3)) X32 hx hZ e32 rfl (V_va.ext O.2) ⟨by decide, by decide⟩ rfl (hb hby d10_89) rfl ?_
        refine og_astore (L' := #[.val (.ref a1), .val (.int 7), .val (.ref nb13), .val (.int ii), .val (.int cc), .val (.ref va), .val (.int 5), .val (.int 3), .val (.ref w3), sa9]) X32 hx rfl (by rcases hs_sa8 with rfl | ⟨_, rfl⟩ | ⟨_, rfl⟩ <;> rfl) (hb hby d10_90) rfl ?_
        rcases own_c1 92 34 cc with rfl | rfl | ⟨hn92, hn34⟩
        ·
          refine og_aloadN X32 hx rfl rfl (hb hby d10_92) rfl ?_
          refine og_aload X32 hx rfl rfl (hb hby d10_93) rfl ?_
          refine og_iload X32 hx rfl (hb hby d10_95) rfl ?_
          refine og_virtual (pc' := 100) (cells' := 6) (slots' := 45) (W := 1) X32 hx hZ (rm_nx3 l Z a0 hw w0 w1 w2 w3 w4 (92 : Int32) w4 (by simp) h32 n0 O S_CODE S_SINGLE S_SINGLE_ESCAPED S_DOUBLE S_DOUBLE_ESCAPED E_w0 E_w1 E_w2 E_w3 E_w4 F_w0 F_w1 F_w2 F_w3 F_w4) hown (ow83 hw) (ow84 hw) (own_nf hZ (ow86 hw)) (ow86 hw) (ow85 hw) (ow81 hw) (ow87 hw) (by decide) (by rw [hml]; rfl) e32 opd_12 [(.int 92)] [(.ref nb13)] rfl rfl rfl rfl (by decide) (by decide) rfl rfl (by decide) (by decide) (E_w3.ext O.2) (hb hby d10_97) rfl (fun v33 T33 h33 L33 X33 e33 z33 => ?_)
          obtain ⟨rfl, Nq33, hq33⟩ := z33; replace e33 := e33.trans hq33; have N := Fr.app N Nq33
          refine og_virtualUp (pc' := 103) (cells' := 6) (slots' := 45) (W := 1) X33 hx hZ (y := (⟨"com/example/nitpick/nitpick/internal/interpolation/ExpressionLiterals$Quoting", "ordinal", "()I"⟩ : MethodName)) (rm_ord l Z a0 hw w4 4 h32 n0 O F_w4) hown (ow98 hw) (ow89 hw) (ow90 hw) (by decide) (ow92 hw) (ow91 hw) (ow93 hw) (ow94 hw) (by decide) (by rw [hml]; rfl) e33 opd_0 [] [(.ref nb13)] rfl rfl rfl rfl (by decide) (by decide) rfl rfl (by decide) (by decide) (E_w4.ext O.2) (hb hby d10_100) rfl (fun v34 T34 h34 L34 X34 e34 z34 => ?_)
          obtain ⟨rfl, Nq34, hq34⟩ := z34; replace e34 := e34.trans hq34; have N := Fr.app N Nq34
          refine og_aaload (v := (.ref nb13r4)) X34 hx hZ e34 rfl V_nb13 ⟨by decide, by decide⟩ rfl (hb hby d10_103) rfl ?_
          refine og_iloadN X34 hx rfl (hb hby d10_104) rfl ?_
          refine og_iconst (v := 1) X34 hx rfl (hb hby d10_105) rfl ?_
          refine og_iadd X34 hx (hb hby d10_106) rfl ?_
          refine og_iaload (v := (.int (own_e (own_f [d0, d1, d2, d3, d4, d5, d6]) k 4 (7 - k)))) X34 hx hZ e34 V_nb13r4 hy8 (own_get (own_f [d0, d1, d2, d3, d4, d5, d6]) hyn (by omega) (by omega)) (hb hby d10_107) rfl ?_
          refine og_istore (L' := #[.val (.ref a1), .val (.int 7), .val (.ref nb13), .val (.int ii), .val (.int 92), .val (.ref va), .val (.int 5), .val (.int 3), .val (.ref w3), .val (.int (own_e (own_f [d0, d1, d2, d3, d4, d5, d6]) k 4 (7 - k)))]) X34 hx (by rcases hs_sa9 with rfl | ⟨_, rfl⟩ | ⟨_, rfl⟩ <;> rfl) (hb hby d10_108) rfl ?_
          refine og_aload X34 hx rfl rfl (hb hby d10_110) rfl ?_
          refine og_getstatic X34 hx hZ (host := "") hown (Or.inl (ow99 hw)) Via.refl e34 (S_CODE.ext O.2) (hb hby d10_112) rfl (fun T35 X35 e35 => ?_)
          refine og_acmp_ne (pc1 := 133) (pc2 := 118) X35 hx rfl rfl (hb hby d10_115) (by decide) (by decide) rfl (fun _ => ?_) (fun q => absurd q (fun q => ne_w3_w0 (Value.ref.inj q)))
          refine og_aload X35 hx rfl rfl (hb hby d10_133) rfl ?_
          refine og_getstatic X35 hx hZ (host := "") hown (Or.inl (ow99 hw)) Via.refl e35 (S_CODE.ext O.2) (hb hby d10_135) rfl (fun T36 X36 e36 => ?_)
          refine og_acmp_ne (pc1 := 163) (pc2 := 141) X36 hx rfl rfl (hb hby d10_138) (by decide) (by decide) rfl (fun _ => ?_) (fun q => absurd q (fun q => ne_w3_w0 (Value.ref.inj q)))
          refine og_aloadN X36 hx rfl rfl (hb hby d10_163) rfl ?_
          refine og_aload X36 hx rfl rfl (hb hby d10_164) rfl ?_
          refine og_virtualUp (pc' := 169) (cells' := 6) (slots' := 45) (W := 1) X36 hx hZ (y := (⟨"com/example/nitpick/nitpick/internal/interpolation/ExpressionLiterals$Quoting", "ordinal", "()I"⟩ : MethodName)) (rm_ord l Z a0 hw w3 3 h32 n0 O F_w3) hown (ow98 hw) (ow89 hw) (ow90 hw) (by decide) (ow92 hw) (ow91 hw) (ow93 hw) (ow94 hw) (by decide) (by rw [hml]; rfl) e36 opd_0 [] [(.ref nb13)] rfl rfl rfl rfl (by decide) (by decide) rfl rfl (by decide) (by decide) (E_w3.ext O.2) (hb hby d10_166) rfl (fun v37 T37 h37 L37 X37 e37 z37 => ?_)
          obtain ⟨rfl, Nq37, hq37⟩ := z37; replace e37 := e37.trans hq37; have N := Fr.app N Nq37
          refine og_aaload (v := (.ref nb13r3)) X37 hx hZ e37 rfl V_nb13 ⟨by decide, by decide⟩ rfl (hb hby d10_169) rfl ?_
          refine og_iloadN X37 hx rfl (hb hby d10_170) rfl ?_
          refine og_iload X37 hx rfl (hb hby d10_171) rfl ?_
          refine og_iastore X37 hx hZ e37 V_nb13r3 hx8 (6 - k) hxn (by rw [own_rlen]; omega) (hb hby d10_173) rfl (fun T38 h38 X38 e38 W38 V38 => ?_)
          have E_a1 := E_a1.wr W38; have F_value_a1 := F_value_a1.other W38 (Or.inl ne_a1_nb13r3); have F_coder_a1 := F_coder_a1.other W38 (Or.inl ne_a1_nb13r3); have V_ba := V_ba.other W38 ne_ba_nb13r3; have V_nb13 := V_nb13.other W38 ne_nb13_nb13r3; have V_nb13r0 := V_nb13r0.other W38 ne_nb13r0_nb13r3
          have V_nb13r1 := V_nb13r1.other W38 ne_nb13r1_nb13r3; have V_nb13r2 := V_nb13r2.other W38 ne_nb13r2_nb13r3; have V_nb13r4 := V_nb13r4.other W38 (Ne.symm ne_nb13r3_nb13r4); have O := O.wr W38 g_nb13r3; have K := K.wr W38 (Or.inr sz_nb13r3)
          have N := Fr.snoc X38 N g_nb13r3
          have V_nb13r3 : Arv Z h38 nb13r3 kR13 .int 8 (own_row (own_f [d0, d1, d2, d3, d4, d5, d6]) (k + 1) 3) (.int 0) := (own_setr (own_f [d0, d1, d2, d3, d4, d5, d6]) hk (own_eA (own_f [d0, d1, d2, d3, d4, d5, d6]) (q := 3) (r := 4) hk hcf (fun z => absurd z.1 (by decide)) (fun z => absurd z.1 (by decide)) (by decide))) ▸ V38
          refine og_iinc (L' := #[.val (.ref a1), .val (.int 7), .val (.ref nb13), .val (.int ii), .val (.int 92), .val (.ref va), .val (.int 5), .val (.int 4), .val (.ref w3), .val (.int (own_e (own_f [d0, d1, d2, d3, d4, d5, d6]) k 4 (7 - k)))]) (w := 1) X38 hx rfl rfl rfl (hb hby d10_174) rfl ?_
          refine og_goto (pc' := 78) X38 hx (hb hby d10_177) (by decide) (by decide) ?_
          exact J78_4 T38 _ _ (own_mono X38 (by decide) (by decide)) e38 N O K _ (Or.inr (Or.inr ⟨_, rfl⟩)) _ (Or.inr (Or.inl ⟨_, rfl⟩)) E_a1 F_value_a1 F_coder_a1 V_ba V_nb13 V_nb13r0 V_nb13r1 V_nb13r2 V_nb13r3 V_nb13r4
        ·
          refine og_aloadN X32 hx rfl rfl (hb hby d10_92) rfl ?_
          refine og_aload X32 hx rfl rfl (hb hby d10_93) rfl ?_
          refine og_iload X32 hx rfl (hb hby d10_95) rfl ?_
          refine og_virtual (pc' := 100) (cells' := 6) (slots' := 45) (W := 1) X32 hx hZ (rm_nx3 l Z a0 hw w0 w1 w2 w3 w4 (34 : Int32) w0 (by simp) h32 n0 O S_CODE S_SINGLE S_SINGLE_ESCAPED S_DOUBLE S_DOUBLE_ESCAPED E_w0 E_w1 E_w2 E_w3 E_w4 F_w0 F_w1 F_w2 F_w3 F_w4) hown (ow83 hw) (ow84 hw) (own_nf hZ (ow86 hw)) (ow86 hw) (ow85 hw) (ow81 hw) (ow87 hw) (by decide) (by rw [hml]; rfl) e32 opd_12 [(.int 34)] [(.ref nb13)] rfl rfl rfl rfl (by decide) (by decide) rfl rfl (by decide) (by decide) (E_w3.ext O.2) (hb hby d10_97) rfl (fun v39 T39 h39 L39 X39 e39 z39 => ?_)
          obtain ⟨rfl, Nq39, hq39⟩ := z39; replace e39 := e39.trans hq39; have N := Fr.app N Nq39
          refine og_virtualUp (pc' := 103) (cells' := 6) (slots' := 45) (W := 1) X39 hx hZ (y := (⟨"com/example/nitpick/nitpick/internal/interpolation/ExpressionLiterals$Quoting", "ordinal", "()I"⟩ : MethodName)) (rm_ord l Z a0 hw w0 0 h32 n0 O F_w0) hown (ow98 hw) (ow89 hw) (ow90 hw) (by decide) (ow92 hw) (ow91 hw) (ow93 hw) (ow94 hw) (by decide) (by rw [hml]; rfl) e39 opd_0 [] [(.ref nb13)] rfl rfl rfl rfl (by decide) (by decide) rfl rfl (by decide) (by decide) (E_w0.ext O.2) (hb hby d10_100) rfl (fun v40 T40 h40 L40 X40 e40 z40 => ?_)
          obtain ⟨rfl, Nq40, hq40⟩ := z40; replace e40 := e40.trans hq40; have N := Fr.app N Nq40
          refine og_aaload (v := (.ref nb13r0)) X40 hx hZ e40 rfl V_nb13 ⟨by decide, by decide⟩ rfl (hb hby d10_103) rfl ?_
          refine og_iloadN X40 hx rfl (hb hby d10_104) rfl ?_
          refine og_iconst (v := 1) X40 hx rfl (hb hby d10_105) rfl ?_
          refine og_iadd X40 hx (hb hby d10_106) rfl ?_
          refine og_iaload (v := (.int (own_e (own_f [d0, d1, d2, d3, d4, d5, d6]) (k + 1) 0 (7 - k)))) X40 hx hZ e40 V_nb13r0 hy8 (own_get (own_f [d0, d1, d2, d3, d4, d5, d6]) hyn (by omega) (by omega)) (hb hby d10_107) rfl ?_
          refine og_istore (L' := #[.val (.ref a1), .val (.int 7), .val (.ref nb13), .val (.int ii), .val (.int 34), .val (.ref va), .val (.int 5), .val (.int 3), .val (.ref w3), .val (.int (own_e (own_f [d0, d1, d2, d3, d4, d5, d6]) (k + 1) 0 (7 - k)))]) X40 hx (by rcases hs_sa9 with rfl | ⟨_, rfl⟩ | ⟨_, rfl⟩ <;> rfl) (hb hby d10_108) rfl ?_
          refine og_aload X40 hx rfl rfl (hb hby d10_110) rfl ?_
          refine og_getstatic X40 hx hZ (host := "") hown (Or.inl (ow99 hw)) Via.refl e40 (S_CODE.ext O.2) (hb hby d10_112) rfl (fun T41 X41 e41 => ?_)
          refine og_acmp_ne (pc1 := 133) (pc2 := 118) X41 hx rfl rfl (hb hby d10_115) (by decide) (by decide) rfl (fun _ => ?_) (fun q => absurd q (fun q => ne_w3_w0 (Value.ref.inj q)))
          refine og_aload X41 hx rfl rfl (hb hby d10_133) rfl ?_
          refine og_getstatic X41 hx hZ (host := "") hown (Or.inl (ow99 hw)) Via.refl e41 (S_CODE.ext O.2) (hb hby d10_135) rfl (fun T42 X42 e42 => ?_)
          refine og_acmp_ne (pc1 := 163) (pc2 := 141) X42 hx rfl rfl (hb hby d10_138) (by decide) (by decide) rfl (fun _ => ?_) (fun q => absurd q (fun q => ne_w3_w0 (Value.ref.inj q)))
          refine og_aloadN X42 hx rfl rfl (hb hby d10_163) rfl ?_
          refine og_aload X42 hx rfl rfl (hb hby d10_164) rfl ?_
          refine og_virtualUp (pc' := 169) (cells' := 6) (slots' := 45) (W := 1) X42 hx hZ (y := (⟨"com/example/nitpick/nitpick/internal/interpolation/ExpressionLiterals$Quoting", "ordinal", "()I"⟩ : MethodName)) (rm_ord l Z a0 hw w3 3 h32 n0 O F_w3) hown (ow98 hw) (ow89 hw) (ow90 hw) (by decide) (ow92 hw) (ow91 hw) (ow93 hw) (ow94 hw) (by decide) (by rw [hml]; rfl) e42 opd_0 [] [(.ref nb13)] rfl rfl rfl rfl (by decide) (by decide) rfl rfl (by decide) (by decide) (E_w3.ext O.2) (hb hby d10_166) rfl (fun v43 T43 h43 L43 X43 e43 z43 => ?_)
          obtain ⟨rfl, Nq43, hq43⟩ := z43; replace e43 := e43.trans hq43; have N := Fr.app N Nq43
          refine og_aaload (v := (.ref nb13r3)) X43 hx hZ e43 rfl V_nb13 ⟨by decide, by decide⟩ rfl (hb hby d10_169) rfl ?_
          refine og_iloadN X43 hx rfl (hb hby d10_170) rfl ?_
          refine og_iload X43 hx rfl (hb hby d10_171) rfl ?_
          refine og_iastore X43 hx hZ e43 V_nb13r3 hx8 (6 - k) hxn (by rw [own_rlen]; omega) (hb hby d10_173) rfl (fun T44 h44 X44 e44 W44 V44 => ?_)
          have E_a1 := E_a1.wr W44; have F_value_a1 := F_value_a1.other W44 (Or.inl ne_a1_nb13r3); have F_coder_a1 := F_coder_a1.other W44 (Or.inl ne_a1_nb13r3); have V_ba := V_ba.other W44 ne_ba_nb13r3; have V_nb13 := V_nb13.other W44 ne_nb13_nb13r3; have V_nb13r0 := V_nb13r0.other W44 ne_nb13r0_nb13r3
          have V_nb13r1 := V_nb13r1.other W44 ne_nb13r1_nb13r3; have V_nb13r2 := V_nb13r2.other W44 ne_nb13r2_nb13r3; have V_nb13r4 := V_nb13r4.other W44 (Ne.symm ne_nb13r3_nb13r4); have O := O.wr W44 g_nb13r3; have K := K.wr W44 (Or.inr sz_nb13r3)
          have N := Fr.snoc X44 N g_nb13r3
          have V_nb13r3 : Arv Z h44 nb13r3 kR13 .int 8 (own_row (own_f [d0, d1, d2, d3, d4, d5, d6]) (k + 1) 3) (.int 0) := (own_setr (own_f [d0, d1, d2, d3, d4, d5, d6]) hk ((own_eB (own_f [d0, d1, d2, d3, d4, d5, d6]) (r := 0) hk).trans (own_eA (own_f [d0, d1, d2, d3, d4, d5, d6]) (q := 3) (r := 0) hk hcf (fun z => absurd z.1 (by decide)) (fun z => absurd z.1 (by decide)) (by decide)))) ▸ V44
          refine og_iinc (L' := #[.val (.ref a1), .val (.int 7), .val (.ref nb13), .val (.int ii), .val (.int 34), .val (.ref va), .val (.int 5), .val (.int 4), .val (.ref w3), .val (.int (own_e (own_f [d0, d1, d2, d3, d4, d5, d6]) (k + 1) 0 (7 - k)))]) (w := 1) X44 hx rfl rfl rfl (hb hby d10_174) rfl ?_
          refine og_goto (pc' := 78) X44 hx (hb hby d10_177) (by decide) (by decide) ?_
          exact J78_4 T44 _ _ (own_mono X44 (by decide) (by decide)) e44 N O K _ (Or.inr (Or.inr ⟨_, rfl⟩)) _ (Or.inr (Or.inl ⟨_, rfl⟩)) E_a1 F_value_a1 F_coder_a1 V_ba V_nb13 V_nb13r0 V_nb13r1 V_nb13r2 V_nb13r3 V_nb13r4
        ·
          refine og_aloadN X32 hx rfl rfl (hb hby d10_92) rfl ?_
          refine og_aload X32 hx rfl rfl (hb hby d10_93) rfl ?_
          refine og_iload X32 hx rfl (hb hby d10_95) rfl ?_
          refine og_virtual (pc' := 100) (cells' := 6) (slots' := 45) (W := 1) X32 hx hZ (rm_nx3 l Z a0 hw w0 w1 w2 w3 w4 cc w3 (by simp [hn92, hn34]) h32 n0 O S_CODE S_SINGLE S_SINGLE_ESCAPED S_DOUBLE S_DOUBLE_ESCAPED E_w0 E_w1 E_w2 E_w3 E_w4 F_w0 F_w1 F_w2 F_w3 F_w4) hown (ow83 hw) (ow84 hw) (own_nf hZ (ow86 hw)) (ow86 hw) (ow85 hw) (ow81 hw) (ow87 hw) (by decide) (by rw [hml]; rfl) e32 opd_12 [(.int cc)] [(.ref nb13)] rfl rfl rfl rfl (by decide) (by decide) rfl rfl (by decide) (by decide) (E_w3.ext O.2) (hb hby d10_97) rfl (fun v45 T45 h45 L45 X45 e45 z45 => ?_)
          obtain ⟨rfl, Nq45, hq45⟩ := z45; replace e45 := e45.trans hq45; have N := Fr.app N Nq45
          refine og_virtualUp (pc' := 103) (cells' := 6) (slots' := 45) (W := 1) X45 hx hZ (y := (⟨"com/example/nitpick/nitpick/internal/interpolation/ExpressionLiterals$Quoting", "ordinal", "()I"⟩ : MethodName)) (rm_ord l Z a0 hw w3 3 h32 n0 O F_w3) hown (ow98 hw) (ow89 hw) (ow90 hw) (by decide) (ow92 hw) (ow91 hw) (ow93 hw) (ow94 hw) (by decide) (by rw [hml]; rfl) e45 opd_0 [] [(.ref nb13)] rfl rfl rfl rfl (by decide) (by decide) rfl rfl (by decide) (by decide) (E_w3.ext O.2) (hb hby d10_100) rfl (fun v46 T46 h46 L46 X46 e46 z46 => ?_)
          obtain ⟨rfl, Nq46, hq46⟩ := z46; replace e46 := e46.trans hq46; have N := Fr.app N Nq46
          refine og_aaload (v := (.ref nb13r3)) X46 hx hZ e46 rfl V_nb13 ⟨by decide, by decide⟩ rfl (hb hby d10_103) rfl ?_
          refine og_iloadN X46 hx rfl (hb hby d10_104) rfl ?_
          refine og_iconst (v := 1) X46 hx rfl (hb hby d10_105) rfl ?_
          refine og_iadd X46 hx (hb hby d10_106) rfl ?_
          refine og_iaload (v := (.int (own_e (own_f [d0, d1, d2, d3, d4, d5, d6]) k 3 (7 - k)))) X46 hx hZ e46 V_nb13r3 hy8 (own_get (own_f [d0, d1, d2, d3, d4, d5, d6]) hyn (by omega) (by omega)) (hb hby d10_107) rfl ?_
          refine og_istore (L' := #[.val (.ref a1), .val (.int 7), .val (.ref nb13), .val (.int ii), .val (.int cc), .val (.ref va), .val (.int 5), .val (.int 3), .val (.ref w3), .val (.int (own_e (own_f [d0, d1, d2, d3, d4, d5, d6]) k 3 (7 - k)))]) X46 hx (by rcases hs_sa9 with rfl | ⟨_, rfl⟩ | ⟨_, rfl⟩ <;> rfl) (hb hby d10_108) rfl ?_
          refine og_aload X46 hx rfl rfl (hb hby d10_110) rfl ?_
          refine og_getstatic X46 hx hZ (host := "") hown (Or.inl (ow99 hw)) Via.refl e46 (S_CODE.ext O.2) (hb hby d10_112) rfl (fun T47 X47 e47 => ?_)
          refine og_acmp_ne (pc1 := 133) (pc2 := 118) X47 hx rfl rfl (hb hby d10_115) (by decide) (by decide) rfl (fun _ => ?_) (fun q => absurd q (fun q => ne_w3_w0 (Value.ref.inj q)))
          refine og_aload X47 hx rfl rfl (hb hby d10_133) rfl ?_
          refine og_getstatic X47 hx hZ (host := "") hown (Or.inl (ow99 hw)) Via.refl e47 (S_CODE.ext O.2) (hb hby d10_135) rfl (fun T48 X48 e48 => ?_)
          refine og_acmp_ne (pc1 := 163) (pc2 := 141) X48 hx rfl rfl (hb hby d10_138) (by decide) (by decide) rfl (fun _ => ?_) (fun q => absurd q (fun q => ne_w3_w0 (Value.ref.inj q)))
          refine og_aloadN X48 hx rfl rfl (hb hby d10_163) rfl ?_
          refine og_aload X48 hx rfl rfl (hb hby d10_164) rfl ?_
          refine og_virtualUp (pc' := 169) (cells' := 6) (slots' := 45) (W := 1) X48 hx hZ (y := (⟨"com/example/nitpick/nitpick/internal/interpolation/ExpressionLiterals$Quoting", "ordinal", "()I"⟩ : MethodName)) (rm_ord l Z a0 hw w3 3 h32 n0 O F_w3) hown (ow98 hw) (ow89 hw) (ow90 hw) (by decide) (ow92 hw) (ow91 hw) (ow93 hw) (ow94 hw) (by decide) (by rw [hml]; rfl) e48 opd_0 [] [(.ref nb13)] rfl rfl rfl rfl (by decide) (by decide) rfl rfl (by decide) (by decide) (E_w3.ext O.2) (hb hby d10_166) rfl (fun v49 T49 h49 L49 X49 e49 z49 => ?_)
          obtain ⟨rfl, Nq49, hq49⟩ := z49; replace e49 := e49.trans hq49; have N := Fr.app N Nq49
          refine og_aaload (v := (.ref nb13r3)) X49 hx hZ e49 rfl V_nb13 ⟨by decide, by decide⟩ rfl (hb hby d10_169) rfl ?_
          refine og_iloadN X49 hx rfl (hb hby d10_170) rfl ?_
          refine og_iload X49 hx rfl (hb hby d10_171) rfl ?_
          refine og_iastore X49 hx hZ e49 V_nb13r3 hx8 (6 - k) hxn (by rw [own_rlen]; omega) (hb hby d10_173) rfl (fun T50 h50 X50 e50 W50 V50 => ?_)
          have E_a1 := E_a1.wr W50; have F_value_a1 := F_value_a1.other W50 (Or.inl ne_a1_nb13r3); have F_coder_a1 := F_coder_a1.other W50 (Or.inl ne_a1_nb13r3); have V_ba := V_ba.other W50 ne_ba_nb13r3; have V_nb13 := V_nb13.other W50 ne_nb13_nb13r3; have V_nb13r0 := V_nb13r0.other W50 ne_nb13r0_nb13r3
          have V_nb13r1 := V_nb13r1.other W50 ne_nb13r1_nb13r3; have V_nb13r2 := V_nb13r2.other W50 ne_nb13r2_nb13r3; have V_nb13r4 := V_nb13r4.other W50 (Ne.symm ne_nb13r3_nb13r4); have O := O.wr W50 g_nb13r3; have K := K.wr W50 (Or.inr sz_nb13r3)
          have N := Fr.snoc X50 N g_nb13r3
          have V_nb13r3 : Arv Z h50 nb13r3 kR13 .int 8 (own_row (own_f [d0, d1, d2, d3, d4, d5, d6]) (k + 1) 3) (.int 0) := (own_setr (own_f [d0, d1, d2, d3, d4, d5, d6]) hk (own_eA (own_f [d0, d1, d2, d3, d4, d5, d6]) (q := 3) (r := 3) hk hcf (fun z => absurd z.1 (by decide)) (fun z => absurd z.1 (by decide)) (by simp [own_nx, hn92, hn34]))) ▸ V50
          refine og_iinc (L' := #[.val (.ref a1), .val (.int 7), .val (.ref nb13), .val (.int ii), .val (.int cc), .val (.ref va), .val (.int 5), .val (.int 4), .val (.ref w3), .val (.int (own_e (own_f [d0, d1, d2, d3, d4, d5, d6]) k 3 (7 - k)))]) (w := 1) X50 hx rfl rfl rfl (hb hby d10_174) rfl ?_
          refine og_goto (pc' := 78) X50 hx (hb hby d10_177) (by decide) (by decide) ?_
          exact J78_4 T50 _ _ (own_mono X50 (by decide) (by decide)) e50 N O K _ (Or.inr (Or.inr ⟨_, rfl⟩)) _ (Or.inr (Or.inl ⟨_, rfl⟩)) E_a1 F_value_a1 F_coder_a1 V_ba V_nb13 V_nb13r0 V_nb13r1 V_nb13r2 V_nb13r3 V_nb13r4
      have J78_2 : ∀ (T51 : State) (h51 : Heap) (l51 : List Loc)  (X51 : Stand p l e ({ frames := 4, cells := 7, slots := 46, locals := 53 } : Room) s m #[(.ref a1)] below meth c T51 l51 6 45) (e51 : T51.heap = h51) (N : Fr n0 l51) (O : Old Z n0 h51) (K : Keep h0 h51 []) (sa8 : Slot) (hs_sa8 : HSL sa8) (sa9 : Slot) (hs_sa9 : HSL sa9) (E_a1 : Exa Z h51 a1 "java/lang/String") (F_value_a1 : Fld Z h51 a1 "java/lang/String" "value" "[B" (.ref ba)) (F_coder_a1 : Fld Z h51 a1 "java/lang/String" "coder" "B" (.int 0)) (V_ba : Arv Z h51 ba kb .byte (7 : Int32) [(.int d0.toInt8.toInt32), (.int d1.toInt8.toInt32), (.int d2.toInt8.toInt32), (.int d3.toInt8.toInt32), (.int d4.toInt8.toInt32), (.int d5.toInt8.toInt32), (.int d6.toInt8.toInt32)] (.int 0)) (V_nb13 : Arv Z h51 nb13 kA13 (.array .int) (5 : Int32) [(.ref nb13r0), (.ref nb13r1), (.ref nb13r2), (.ref nb13r3), (.ref nb13r4)] .null) (V_nb13r0 : Arv Z h51 nb13r0 kR13 .int 8 (own_row (own_f [d0, d1, d2, d3, d4, d5, d6]) (k + 1) 0) (.int 0)) (V_nb13r1 : Arv Z h51 nb13r1 kR13 .int 8 (own_row (own_f [d0, d1, d2, d3, d4, d5, d6]) (k + 1) 1) (.int 0)) (V_nb13r2 : Arv Z h51 nb13r2 kR13 .int 8 (own_row (own_f [d0, d1, d2, d3, d4, d5, d6]) k 2) (.int 0)) (V_nb13r3 : Arv Z h51 nb13r3 kR13 .int 8 (own_row (own_f [d0, d1, d2, d3, d4, d5, d6]) k 3) (.int 0)) (V_nb13r4 : Arv Z h51 nb13r4 kR13 .int 8 (own_row (own_f [d0, d1, d2, d3, d4, d5, d6]) k 4) (.int 0)), OG p e below (OFin s (fun v h L => ∃ r x x0 x1 x2 x3 x4 kA kR, v = some (.ref r) ∧ Fr n0 L ∧ Keep h0 h [] ∧ Exa Z h r "com/example/nitpick/nitpick/internal/interpolation/ExpressionEnds" ∧ Fld Z h r "com/example/nitpick/nitpick/internal/interpolation/ExpressionEnds" "exits" "[[I" (.ref x) ∧ Arv Z h x kA (.array .int) (5 : Int32) [(.ref x0), (.ref x1), (.ref x2), (.ref x3), (.ref x4)] .null ∧ Arv Z h x0 kR .int 8 (own_row (own_f [d0, d1, d2, d3, d4, d5, d6]) 7 0) (.int 0)) 7 46) (T51.setTop (mkF m 78 #[.val (.ref a1), .val (.int 7), .val (.ref nb13), .val (.int ii), .val (.int cc), .val (.ref va), .val (.int 5), .val (.int 2), sa8, sa9] [])) := by
        intro T51 h51 l51  X51 e51 N O K sa8 hs_sa8 sa9 hs_sa9 E_a1 F_value_a1 F_coder_a1 V_ba V_nb13 V_nb13r0 V_nb13r1 V_nb13r2 V_nb13r3 V_nb13r4
        refine og_iload X51 hx rfl (hb hby d10_78) rfl ?_
        refine og_iload X51 hx rfl (hb hby d10_80) rfl ?_
        refine og_icmp_ge (pc1 := 180) (pc2 := 85) X51 hx (hb hby d10_82) (by decide) (by decide) rfl (fun q => absurd q (by decide)) (fun _ => ?_)
        refine og_aload X51 hx rfl rfl (hb hby d10_85) rfl ?_
        refine og_iload X51 hx rfl (hb hby d10_87) rfl ?_
        refine og_aaload (v := (.ref w2)) X51 hx hZ e51 rfl (V_va.ext O.2) ⟨by decide, by decide⟩ rfl (hb hby d10_89) rfl ?_
        refine og_astore (L' := #[.val (.ref a1), .val (.int 7), .val (.ref nb13), .val (.int ii), .val (.int cc), .val (.ref va), .val (.int 5), .val (.int 2), .val (.ref w2), sa9]) X51 hx rfl (by rcases hs_sa8 with rfl | ⟨_, rfl⟩ | ⟨_, rfl⟩ <;> rfl) (hb hby d10_90) rfl ?_
        refine og_aloadN X51 hx rfl rfl (hb hby d10_92) rfl ?_
        refine og_aload X51 hx rfl rfl (hb hby d10_93) rfl ?_
        refine og_iload X51 hx rfl (hb hby d10_95) rfl ?_
        refine og_virtual (pc' := 100) (cells' := 6) (slots' := 45) (W := 1) X51 hx hZ (rm_nx2 l Z a0 hw w0 w1 w2 w3 w4 cc w1 rfl h51 n0 O S_CODE S_SINGLE S_SINGLE_ESCAPED S_DOUBLE S_DOUBLE_ESCAPED E_w0 E_w1 E_w2 E_w3 E_w4 F_w0 F_w1 F_w2 F_w3 F_w4) hown (ow83 hw) (ow84 hw) (own_nf hZ (ow86 hw)) (ow86 hw) (ow85 hw) (ow81 hw) (ow87 hw) (by decide) (by rw [hml]; rfl) e51 opd_12 [(.int cc)] [(.ref nb13)] rfl rfl rfl rfl (by decide) (by decide) rfl rfl (by decide) (by decide) (E_w2.ext O.2) (hb hby d10_97) rfl (fun v52 T52 h52 L52 X52 e52 z52 => ?_)
        obtain ⟨rfl, Nq52, hq52⟩ := z52; replace e52 := e52.trans hq52; have N := Fr.app N Nq52
        refine og_virtualUp (pc' := 103) (cells' := 6) (slots' := 45) (W := 1) X52 hx hZ (y := (⟨"com/example/nitpick/nitpick/internal/interpolation/ExpressionLiterals$Quoting", "ordinal", "()I"⟩ : MethodName)) (rm_ord l Z a0 hw w1 1 h51 n0 O F_w1) hown (ow98 hw) (ow89 hw) (ow90 hw) (by decide) (ow92 hw) (ow91 hw) (ow93 hw) (ow94 hw) (by decide) (by rw [hml]; rfl) e52 opd_0 [] [(.ref nb13)] rfl rfl rfl rfl (by decide) (by decide) rfl rfl (by decide) (by decide) (E_w1.ext O.2) (hb hby d10_100) rfl (fun v53 T53 h53 L53 X53 e53 z53 => ?_)
        obtain ⟨rfl, Nq53, hq53⟩ := z53; replace e53 := e53.trans hq53; have N := Fr.app N Nq53
        refine og_aaload (v := (.ref nb13r1)) X53 hx hZ e53 rfl V_nb13 ⟨by decide, by decide⟩ rfl (hb hby d10_103) rfl ?_
        refine og_iloadN X53 hx rfl (hb hby d10_104) rfl ?_
        refine og_iconst (v := 1) X53 hx rfl (hb hby d10_105) rfl ?_
        refine og_iadd X53 hx (hb hby d10_106) rfl ?_
        refine og_iaload (v := (.int (own_e (own_f [d0, d1, d2, d3, d4, d5, d6]) (k + 1) 1 (7 - k)))) X53 hx hZ e53 V_nb13r1 hy8 (own_get (own_f [d0, d1, d2, d3, d4, d5, d6]) hyn (by omega) (by omega)) (hb hby d10_107) rfl ?_
        refine og_istore (L' := #[.val (.ref a1), .val (.int 7), .val (.ref nb13), .val (.int ii), .val (.int cc), .val (.ref va), .val (.int 5), .val (.int 2), .val (.ref w2), .val (.int (own_e (own_f [d0, d1, d2, d3, d4, d5, d6]) (k + 1) 1 (7 - k)))]) X53 hx (by rcases hs_sa9 with rfl | ⟨_, rfl⟩ | ⟨_, rfl⟩ <;> rfl) (hb hby d10_108) rfl ?_
        refine og_aload X53 hx rfl rfl (hb hby d10_110) rfl ?_
        refine og_getstatic X53 hx hZ (host := "") hown (Or.inl (ow99 hw)) Via.refl e53 (S_CODE.ext O.2) (hb hby d10_112) rfl (fun T54 X54 e54 => ?_)
        refine og_acmp_ne (pc1 := 133) (pc2 := 118) X54 hx rfl rfl (hb hby d10_115) (by decide) (by decide) rfl (fun _ => ?_) (fun q => absurd q (fun q => ne_w2_w0 (Value.ref.inj q)))
        refine og_aload X54 hx rfl rfl (hb hby d10_133) rfl ?_
        refine og_getstatic X54 hx hZ (host := "") hown (Or.inl (ow99 hw)) Via.refl e54 (S_CODE.ext O.2) (hb hby d10_135) rfl (fun T55 X55 e55 => ?_)
        refine og_acmp_ne (pc1 := 163) (pc2 := 141) X55 hx rfl rfl (hb hby d10_138) (by decide) (by decide) rfl (fun _ => ?_) (fun q => absurd q (fun q => ne_w2_w0 (Value.ref.inj q)))
        refine og_aloadN X55 hx rfl rfl (hb hby d10_163) rfl ?_
        refine og_aload X55 hx rfl rfl (hb hby d10_164) rfl ?_
        refine og_virtualUp (pc' := 169) (cells' := 6) (slots' := 45) (W := 1) X55 hx hZ (y := (⟨"com/example/nitpick/nitpick/internal/interpolation/ExpressionLiterals$Quoting", "ordinal", "()I"⟩ : MethodName)) (rm_ord l Z a0 hw w2 2 h51 n0 O F_w2) hown (ow98 hw) (ow89 hw) (ow90 hw) (by decide) (ow92 hw) (ow91 hw) (ow93 hw) (ow94 hw) (by decide) (by rw [hml]; rfl) e55 opd_0 [] [(.ref nb13)] rfl rfl rfl rfl (by decide) (by decide) rfl rfl (by decide) (by decide) (E_w2.ext O.2) (hb hby d10_166) rfl (fun v56 T56 h56 L56 X56 e56 z56 => ?_)
        obtain ⟨rfl, Nq56, hq56⟩ := z56; replace e56 := e56.trans hq56; have N := Fr.app N Nq56
        refine og_aaload (v := (.ref nb13r2)) X56 hx hZ e56 rfl V_nb13 ⟨by decide, by decide⟩ rfl (hb hby d10_169) rfl ?_
        refine og_iloadN X56 hx rfl (hb hby d10_170) rfl ?_
        refine og_iload X56 hx rfl (hb hby d10_171) rfl ?_
        refine og_iastore X56 hx hZ e56 V_nb13r2 hx8 (6 - k) hxn (by rw [own_rlen]; omega) (hb hby d10_173) rfl (fun T57 h57 X57 e57 W57 V57 => ?_)
        have E_a1 := E_a1.wr W57; have F_value_a1 := F_value_a1.other W57 (Or.inl ne_a1_nb13r2); have F_coder_a1 := F_coder_a1.other W57 (Or.inl ne_a1_nb13r2); have V_ba := V_ba.other W57 ne_ba_nb13r2; have V_nb13 := V_nb13.other W57 ne_nb13_nb13r2; have V_nb13r0 := V_nb13r0.other W57 ne_nb13r0_nb13r2
        have V_nb13r1 := V_nb13r1.other W57 ne_nb13r1_nb13r2; have V_nb13r3 := V_nb13r3.other W57 (Ne.symm ne_nb13r2_nb13r3); have V_nb13r4 := V_nb13r4.other W57 (Ne.symm ne_nb13r2_nb13r4); have O := O.wr W57 g_nb13r2; have K := K.wr W57 (Or.inr sz_nb13r2)
        have N := Fr.snoc X57 N g_nb13r2
        have V_nb13r2 : Arv Z h57 nb13r2 kR13 .int 8 (own_row (own_f [d0, d1, d2, d3, d4, d5, d6]) (k + 1) 2) (.int 0) := (own_setr (own_f [d0, d1, d2, d3, d4, d5, d6]) hk ((own_eB (own_f [d0, d1, d2, d3, d4, d5, d6]) (r := 1) hk).trans (own_eA (own_f [d0, d1, d2, d3, d4, d5, d6]) (q := 2) (r := 1) hk hcf (fun z => absurd z.1 (by decide)) (fun z => absurd z.1 (by decide)) rfl))) ▸ V57
        refine og_iinc (L' := #[.val (.ref a1), .val (.int 7), .val (.ref nb13), .val (.int ii), .val (.int cc), .val (.ref va), .val (.int 5), .val (.int 3), .val (.ref w2), .val (.int (own_e (own_f [d0, d1, d2, d3, d4, d5, d6]) (k + 1) 1 (7 - k)))]) (w := 1) X57 hx rfl rfl rfl (hb hby d10_174) rfl ?_
        refine og_goto (pc' := 78) X57 hx (hb hby d10_177) (by decide) (by decide) ?_
        exact J78_3 T57 _ _ (own_mono X57 (by decide) (by decide)) e57 N O K _ (Or.inr (Or.inr ⟨_, rfl⟩)) _ (Or.inr (Or.inl ⟨_, rfl⟩)) E_a1 F_value_a1 F_coder_a1 V_ba V_nb13 V_nb13r0 V_nb13r1 V_nb13r2 V_nb13r3 V_nb13r4
      have J78_1 : ∀ (T58 : State) (h58 : Heap) (l58 : List Loc)  (X58 : Stand p l e ({ frames := 4, cells := 7, slots := 46, locals := 53 } : Room) s m #[(.ref a1)] below meth c T58 l58 6 45) (e58 : T58.heap = h58) (N : Fr n0 l58) (O : Old Z n0 h58) (K : Keep h0 h58 []) (sa8 : Slot) (hs_sa8 : HSL sa8) (sa9 : Slot) (hs_sa9 : HSL sa9) (E_a1 : Exa Z h58 a1 "java/lang/String") (F_value_a1 : Fld Z h58 a1 "java/lang/String" "value" "[B" (.ref ba)) (F_coder_a1 : Fld Z h58 a1 "java/lang/String" "coder" "B" (.int 0)) (V_ba : Arv Z h58 ba kb .byte (7 : Int32) [(.int d0.toInt8.toInt32), (.int d1.toInt8.toInt32), (.int d2.toInt8.toInt32), (.int d3.toInt8.toInt32), (.int d4.toInt8.toInt32), (.int d5.toInt8.toInt32), (.int d6.toInt8.toInt32)] (.int 0)) (V_nb13 : Arv Z h58 nb13 kA13 (.array .int) (5 : Int32) [(.ref nb13r0), (.ref nb13r1), (.ref nb13r2), (.ref nb13r3), (.ref nb13r4)] .null) (V_nb13r0 : Arv Z h58 nb13r0 kR13 .int 8 (own_row (own_f [d0, d1, d2, d3, d4, d5, d6]) (k + 1) 0) (.int 0)) (V_nb13r1 : Arv Z h58 nb13r1 kR13 .int 8 (own_row (own_f [d0, d1, d2, d3, d4, d5, d6]) k 1) (.int 0)) (V_nb13r2 : Arv Z h58 nb13r2 kR13 .int 8 (own_row (own_f [d0, d1, d2, d3, d4, d5, d6]) k 2) (.int 0)) (V_nb13r3 : Arv Z h58 nb13r3 kR13 .int 8 (own_row (own_f [d0, d1, d2, d3, d4, d5, d6]) k 3) (.int 0)) (V_nb13r4 : Arv Z h58 nb13r4 kR13 .int 8 (own_row (own_f [d0, d1, d2, d3, d4, d5, d6]) k 4) (.int 0)), OG p e below (OFin s (fun v h L => ∃ r x x0 x1 x2 x3 x4 kA kR, v = some (.ref r) ∧ Fr n0 L ∧ Keep h0 h [] ∧ Exa Z h r "com/example/nitpick/nitpick/internal/interpolation/ExpressionEnds" ∧ Fld Z h r "com/example/nitpick/nitpick/internal/interpolation/ExpressionEnds" "exits" "[[I" (.ref x) ∧ Arv Z h x kA (.array .int) (5 : Int32) [(.ref x0), (.ref x1), (.ref x2), (.ref x3), (.ref x4)] .null ∧ Arv Z h x0 kR .int 8 (own_row (own_f [d0, d1, d2, d3, d4, d5, d6]) 7 0) (.int 0)) 7 46) (T58.setTop (mkF m 78 #[.val (.ref a1), .val (.int 7), .val (.ref nb13), .val (.int ii), .val (.int cc), .val (.ref va), .val (.int 5), .val (.int 1), sa8, sa9] [])) := by
        intro T58 h58 l58  X58 e58 N O K sa8 hs_sa8 sa9 hs_sa9 E_a1 F_value_a1 F_coder_a1 V_ba V_nb13 V_nb13r0 V_nb13r1 V_nb13r2 V_nb13r3 V_nb13r4
        refine og_iload X58 hx rfl (hb hby d10_78) rfl ?_
        refine og_iload X58 hx rfl (hb hby d10_80) rfl ?_
        refine og_icmp_ge (pc1 := 180) (pc2 := 85) X58 hx (hb hby d10_82) (by decide) (by decide) rfl (fun q => absurd q (by decide)) (fun _ => ?_)
        refine og_aload X58 hx rfl rfl (hb hby d10_85) rfl ?_
        refine og_iload X58 hx rfl (hb hby d10_87) rfl ?_
        refine og_aaload (v := (.ref w1)) X58 hx hZ e58 rfl (V_va.ext O.2) ⟨by decide, by decide⟩ rfl (hb hby d10_89) rfl ?_
        refine og_astore (L' := #[.val (.ref a1), .val (.int 7), .val (.ref nb13), .val (.int ii), .val (.int cc), .val (.ref va), .val (.int 5), .val (.int 1), .val (.ref w1), sa9]) X58 hx rfl (by rcases hs_sa8 with rfl | ⟨_, rfl⟩ | ⟨_, rfl⟩ <;> rfl) (hb hby d10_90) rfl ?_
        rcases own_c1 92 39 cc with rfl | rfl | ⟨hn92, hn39⟩
        ·
          refine og_aloadN X58 hx rfl rfl (hb hby d10_92) rfl ?_
          refine og_aload X58 hx rfl rfl (hb hby d10_93) rfl ?_
          refine og_iload X58 hx rfl (hb hby d10_95) rfl ?_
          refine og_virtual (pc' := 100) (cells' := 6) (slots' := 45) (W := 1) X58 hx hZ (rm_nx1 l Z a0 hw w0 w1 w2 w3 w4 (92 : Int32) w2 (by simp) h58 n0 O S_CODE S_SINGLE S_SINGLE_ESCAPED S_DOUBLE S_DOUBLE_ESCAPED E_w0 E_w1 E_w2 E_w3 E_w4 F_w0 F_w1 F_w2 F_w3 F_w4) hown (ow83 hw) (ow84 hw) (own_nf hZ (ow86 hw)) (ow86 hw) (ow85 hw) (ow81 hw) (ow87 hw) (by decide) (by rw [hml]; rfl) e58 opd_12 [(.int 92)] [(.ref nb13)] rfl rfl rfl rfl (by decide) (by decide) rfl rfl (by decide) (by decide) (E_w1.ext O.2) (hb hby d10_97) rfl (fun v59 T59 h59 L59 X59 e59 z59 => ?_)
          obtain ⟨rfl, Nq59, hq59⟩ := z59; replace e59 := e59.trans hq59; have N := Fr.app N Nq59
          refine og_virtualUp (pc' := 103) (cells' := 6) (slots' := 45) (W := 1) X59 hx hZ (y := (⟨"com/example/nitpick/nitpick/internal/interpolation/ExpressionLiterals$Quoting", "ordinal", "()I"⟩ : MethodName)) (rm_ord l Z a0 hw w2 2 h58 n0 O F_w2) hown (ow98 hw) (ow89 hw) (ow90 hw) (by decide) (ow92 hw) (ow91 hw) (ow93 hw) (ow94 hw) (by decide) (by rw [hml]; rfl) e59 opd_0 [] [(.ref nb13)] rfl rfl rfl rfl (by decide) (by decide) rfl rfl (by decide) (by decide) (E_w2.ext O.2) (hb hby d10_100) rfl (fun v60 T60 h60 L60 X60 e60 z60 => ?_)
          obtain ⟨rfl, Nq60, hq60⟩ := z60; replace e60 := e60.trans hq60; have N := Fr.app N Nq60
          refine og_aaload (v := (.ref nb13r2)) X60 hx hZ e60 rfl V_nb13 ⟨by decide, by decide⟩ rfl (hb hby d10_103) rfl ?_
          refine og_iloadN X60 hx rfl (hb hby d10_104) rfl ?_
          refine og_iconst (v := 1) X60 hx rfl (hb hby d10_105) rfl ?_
          refine og_iadd X60 hx (hb hby d10_106) rfl ?_
          refine og_iaload (v := (.int (own_e (own_f [d0, d1, d2, d3, d4, d5, d6]) k 2 (7 - k)))) X60 hx hZ e60 V_nb13r2 hy8 (own_get (own_f [d0, d1, d2, d3, d4, d5, d6]) hyn (by omega) (by omega)) (hb hby d10_107) rfl ?_
          refine og_istore (L' := #[.val (.ref a1), .val (.int 7), .val (.ref nb13), .val (.int ii), .val (.int 92), .val (.ref va), .val (.int 5), .val (.int 1), .val (.ref w1), .val (.int (own_e (own_f [d0, d1, d2, d3, d4, d5, d6]) k 2 (7 - k)))]) X60 hx (by rcases hs_sa9 with rfl | ⟨_, rfl⟩ | ⟨_, rfl⟩ <;> rfl) (hb hby d10_108) rfl ?_
          refine og_aload X60 hx rfl rfl (hb hby d10_110) rfl ?_
          refine og_getstatic X60 hx hZ (host := "") hown (Or.inl (ow99 hw)) Via.refl e60 (S_CODE.ext O.2) (hb hby d10_112) rfl (fun T61 X61 e61 => ?_)
          refine og_acmp_ne (pc1 := 133) (pc2 := 118) X61 hx rfl rfl (hb hby d10_115) (by decide) (by decide) rfl (fun _ => ?_) (fun q => absurd q (fun q => ne_w1_w0 (Value.ref.inj q)))
          refine og_aload X61 hx rfl rfl (hb hby d10_133) rfl ?_
          refine og_getstatic X61 hx hZ (host := "") hown (Or.inl (ow99 hw)) Via.refl e61 (S_CODE.ext O.2) (hb hby d10_135) rfl (fun T62 X62 e62 => ?_)
          refine og_acmp_ne (pc1 := 163) (pc2 := 141) X62 hx rfl rfl (hb hby d10_138) (by decide) (by decide) rfl (fun _ => ?_) (fun q => absurd q (fun q => ne_w1_w0 (Value.ref.inj q)))
          refine og_aloadN X62 hx rfl rfl (hb hby d10_163) rfl ?_
          refine og_aload X62 hx rfl rfl (hb hby d10_164) rfl ?_
          refine og_virtualUp (pc' := 169) (cells' := 6) (slots' := 45) (W := 1) X62 hx hZ (y := (⟨"com/example/nitpick/nitpick/internal/interpolation/ExpressionLiterals$Quoting", "ordinal", "()I"⟩ : MethodName)) (rm_ord l Z a0 hw w1 1 h58 n0 O F_w1) hown (ow98 hw) (ow89 hw) (ow90 hw) (by decide) (ow92 hw) (ow91 hw) (ow93 hw) (ow94 hw) (by decide) (by rw [hml]; rfl) e62 opd_0 [] [(.ref nb13)] rfl rfl rfl rfl (by decide) (by decide) rfl rfl (by decide) (by decide) (E_w1.ext O.2) (hb hby d10_166) rfl (fun v63 T63 h63 L63 X63 e63 z63 => ?_)
          obtain ⟨rfl, Nq63, hq63⟩ := z63; replace e63 := e63.trans hq63; have N := Fr.app N Nq63
          refine og_aaload (v := (.ref nb13r1)) X63 hx hZ e63 rfl V_nb13 ⟨by decide, by decide⟩ rfl (hb hby d10_169) rfl ?_
          refine og_iloadN X63 hx rfl (hb hby d10_170) rfl ?_
          refine og_iload X63 hx rfl (hb hby d10_171) rfl ?_
          refine og_iastore X63 hx hZ e63 V_nb13r1 hx8 (6 - k) hxn (by rw [own_rlen]; omega) (hb hby d10_173) rfl (fun T64 h64 X64 e64 W64 V64 => ?_)
          have E_a1 := E_a1.wr W64; have F_value_a1 := F_value_a1.other W64 (Or.inl ne_a1_nb13r1); have F_coder_a1 := F_coder_a1.other W64 (Or.inl ne_a1_nb13r1); have V_ba := V_ba.other W64 ne_ba_nb13r1; have V_nb13 := V_nb13.other W64 ne_nb13_nb13r1; have V_nb13r0 := V_nb13r0.other W64 ne_nb13r0_nb13r1
          have V_nb13r2 := V_nb13r2.other W64 (Ne.symm ne_nb13r1_nb13r2); have V_nb13r3 := V_nb13r3.other W64 (Ne.symm ne_nb13r1_nb13r3); have V_nb13r4 := V_nb13r4.other W64 (Ne.symm ne_nb13r1_nb13r4); have O := O.wr W64 g_nb13r1; have K := K.wr W64 (Or.inr sz_nb13r1)
          have N := Fr.snoc X64 N g_nb13r1
          have V_nb13r1 : Arv Z h64 nb13r1 kR13 .int 8 (own_row (own_f [d0, d1, d2, d3, d4, d5, d6]) (k + 1) 1) (.int 0) := (own_setr (own_f [d0, d1, d2, d3, d4, d5, d6]) hk (own_eA (own_f [d0, d1, d2, d3, d4, d5, d6]) (q := 1) (r := 2) hk hcf (fun z => absurd z.1 (by decide)) (fun z => absurd z.1 (by decide)) (by decide))) ▸ V64
          refine og_iinc (L' := #[.val (.ref a1), .val (.int 7), .val (.ref nb13), .val (.int ii), .val (.int 92), .val (.ref va), .val (.int 5), .val (.int 2), .val (.ref w1), .val (.int (own_e (own_f [d0, d1, d2, d3, d4, d5, d6]) k 2 (7 - k)))]) (w := 1) X64 hx rfl rfl rfl (hb hby d10_174) rfl ?_
          refine og_goto (pc' := 78) X64 hx (hb hby d10_177) (by decide) (by decide) ?_
          exact J78_2 T64 _ _ (own_mono X64 (by decide) (by decide)) e64 N O K _ (Or.inr (Or.inr ⟨_, rfl⟩)) _ (Or.inr (Or.inl ⟨_, rfl⟩)) E_a1 F_value_a1 F_coder_a1 V_ba V_nb13 V_nb13r0 V_nb13r1 V_nb13r2 V_nb13r3 V_nb13r4
        ·
          refine og_aloadN X58 hx rfl rfl (hb hby d10_92) rfl ?_
          refine og_aload X58 hx rfl rfl (hb hby d10_93) rfl ?_
          refine og_iload X58 hx rfl (hb hby d10_95) rfl ?_
          refine og_virtual (pc' := 100) (cells' := 6) (slots' := 45) (W := 1) X58 hx hZ (rm_nx1 l Z a0 hw w0 w1 w2 w3 w4 (39 : Int32) w0 (by simp) h58 n0 O S_CODE S_SINGLE S_SINGLE_ESCAPED S_DOUBLE S_DOUBLE_ESCAPED E_w0 E_w1 E_w2 E_w3 E_w4 F_w0 F_w1 F_w2 F_w3 F_w4) hown (ow83 hw) (ow84 hw) (own_nf hZ (ow86 hw)) (ow86 hw) (ow85 hw) (ow81 hw) (ow87 hw) (by decide) (by rw [hml]; rfl) e58 opd_12 [(.int 39)] [(.ref nb13)] rfl rfl rfl rfl (by decide) (by decide) rfl rfl (by decide) (by decide) (E_w1.ext O.2) (hb hby d10_97) rfl (fun v65 T65 h65 L65 X65 e65 z65 => ?_)
          obtain ⟨rfl, Nq65, hq65⟩ := z65; replace e65 := e65.trans hq65; have N := Fr.app N Nq65
          refine og_virtualUp (pc' := 103) (cells' := 6) (slots' := 45) (W := 1) X65 hx hZ (y := (⟨"com/example/nitpick/nitpick/internal/interpolation/ExpressionLiterals$Quoting", "ordinal", "()I"⟩ : MethodName)) (rm_ord l Z a0 hw w0 0 h58 n0 O F_w0) hown (ow98 hw) (ow89 hw) (ow90 hw) (by decide) (ow92 hw) (ow91 hw) (ow93 hw) (ow94 hw) (by decide) (by rw [hml]; rfl) e65 opd_0 [] [(.ref nb13)] rfl rfl rfl rfl (by decide) (by decide) rfl rfl (by decide) (by decide) (E_w0.ext O.2) (hb hby d10_100) rfl (fun v66 T66 h66 L66 X66 e66 z66 => ?_)
          obtain ⟨rfl, Nq66, hq66⟩ := z66; replace e66 := e66.trans hq66; have N := Fr.app N Nq66
          refine og_aaload (v := (.ref nb13r0)) X66 hx hZ e66 rfl V_nb13 ⟨by decide, by decide⟩ rfl (hb hby d10_103) rfl ?_
          refine og_iloadN X66 hx rfl (hb hby d10_104) rfl ?_
          refine og_iconst (v := 1) X66 hx rfl (hb hby d10_105) rfl ?_
          refine og_iadd X66 hx (hb hby d10_106) rfl ?_
          refine og_iaload (v := (.int (own_e (own_f [d0, d1, d2, d3, d4, d5, d6]) (k + 1) 0 (7 - k)))) X66 hx hZ e66 V_nb13r0 hy8 (own_get (own_f [d0, d1, d2, d3, d4, d5, d6]) hyn (by omega) (by omega)) (hb hby d10_107) rfl ?_
          refine og_istore (L' := #[.val (.ref a1), .val (.int 7), .val (.ref nb13), .val (.int ii), .val (.int 39), .val (.ref va), .val (.int 5), .val (.int 1), .val (.ref w1), .val (.int (own_e (own_f [d0, d1, d2, d3, d4, d5, d6]) (k + 1) 0 (7 - k)))]) X66 hx (by rcases hs_sa9 with rfl | ⟨_, rfl⟩ | ⟨_, rfl⟩ <;> rfl) (hb hby d10_108) rfl ?_
          refine og_aload X66 hx rfl rfl (hb hby d10_110) rfl ?_
          refine og_getstatic X66 hx hZ (host := "") hown (Or.inl (ow99 hw)) Via.refl e66 (S_CODE.ext O.2) (hb hby d10_112) rfl (fun T67 X67 e67 => ?_)
          refine og_acmp_ne (pc1 := 133) (pc2 := 118) X67 hx rfl rfl (hb hby d10_115) (by decide) (by decide) rfl (fun _ => ?_) (fun q => absurd q (fun q => ne_w1_w0 (Value.ref.inj q)))
          refine og_aload X67 hx rfl rfl (hb hby d10_133) rfl ?_
          refine og_getstatic X67 hx hZ (host := "") hown (Or.inl (ow99 hw)) Via.refl e67 (S_CODE.ext O.2) (hb hby d10_135) rfl (fun T68 X68 e68 => ?_)
          refine og_acmp_ne (pc1 := 163) (pc2 := 141) X68 hx rfl rfl (hb hby d10_138) (by decide) (by decide) rfl (fun _ => ?_) (fun q => absurd q (fun q => ne_w1_w0 (Value.ref.inj q)))
          refine og_aloadN X68 hx rfl rfl (hb hby d10_163) rfl ?_
          refine og_aload X68 hx rfl rfl (hb hby d10_164) rfl ?_
          refine og_virtualUp (pc' := 169) (cells' := 6) (slots' := 45) (W := 1) X68 hx hZ (y := (⟨"com/example/nitpick/nitpick/internal/interpolation/ExpressionLiterals$Quoting", "ordinal", "()I"⟩ : MethodName)) (rm_ord l Z a0 hw w1 1 h58 n0 O F_w1) hown (ow98 hw) (ow89 hw) (ow90 hw) (by decide) (ow92 hw) (ow91 hw) (ow93 hw) (ow94 hw) (by decide) (by rw [hml]; rfl) e68 opd_0 [] [(.ref nb13)] rfl rfl rfl rfl (by decide) (by decide) rfl rfl (by decide) (by decide) (E_w1.ext O.2) (hb hby d10_166) rfl (fun v69 T69 h69 L69 X69 e69 z69 => ?_)
          obtain ⟨rfl, Nq69, hq69⟩ := z69; replace e69 := e69.trans hq69; have N := Fr.app N Nq69
          refine og_aaload (v := (.ref nb13r1)) X69 hx hZ e69 rfl V_nb13 ⟨by decide, by decide⟩ rfl (hb hby d10_169) rfl ?_
          refine og_iloadN X69 hx rfl (hb hby d10_170) rfl ?_
          refine og_iload X69 hx rfl (hb hby d10_171) rfl ?_
          refine og_iastore X69 hx hZ e69 V_nb13r1 hx8 (6 - k) hxn (by rw [own_rlen]; omega) (hb hby d10_173) rfl (fun T70 h70 X70 e70 W70 V70 => ?_)
          have E_a1 := E_a1.wr W70; have F_value_a1 := F_value_a1.other W70 (Or.inl ne_a1_nb13r1); have F_coder_a1 := F_coder_a1.other W70 (Or.inl ne_a1_nb13r1); have V_ba := V_ba.other W70 ne_ba_nb13r1; have V_nb13 := V_nb13.other W70 ne_nb13_nb13r1; have V_nb13r0 := V_nb13r0.other W70 ne_nb13r0_nb13r1
          have V_nb13r2 := V_nb13r2.other W70 (Ne.symm ne_nb13r1_nb13r2); have V_nb13r3 := V_nb13r3.other W70 (Ne.symm ne_nb13r1_nb13r3); have V_nb13r4 := V_nb13r4.other W70 (Ne.symm ne_nb13r1_nb13r4); have O := O.wr W70 g_nb13r1; have K := K.wr W70 (Or.inr sz_nb13r1)
          have N := Fr.snoc X70 N g_nb13r1
          have V_nb13r1 : Arv Z h70 nb13r1 kR13 .int 8 (own_row (own_f [d0, d1, d2, d3, d4, d5, d6]) (k + 1) 1) (.int 0) := (own_setr (own_f [d0, d1, d2, d3, d4, d5, d6]) hk ((own_eB (own_f [d0, d1, d2, d3, d4, d5, d6]) (r := 0) hk).trans (own_eA (own_f [d0, d1, d2, d3, d4, d5, d6]) (q := 1) (r := 0) hk hcf (fun z => absurd z.1 (by decide)) (fun z => absurd z.1 (by decide)) (by decide)))) ▸ V70
          refine og_iinc (L' := #[.val (.ref a1), .val (.int 7), .val (.ref nb13), .val (.int ii), .val (.int 39), .val (.ref va), .val (.int 5), .val (.int 2), .val (.ref w1), .val (.int (own_e (own_f [d0, d1, d2, d3, d4, d5, d6]) (k + 1) 0 (7 - k)))]) (w := 1) X70 hx rfl rfl rfl (hb hby d10_174) rfl ?_
          refine og_goto (pc' := 78) X70 hx (hb hby d10_177) (by decide) (by decide) ?_
          exact J78_2 T70 _ _ (own_mono X70 (by decide) (by decide)) e70 N O K _ (Or.inr (Or.inr ⟨_, rfl⟩)) _ (Or.inr (Or.inl ⟨_, rfl⟩)) E_a1 F_value_a1 F_coder_a1 V_ba V_nb13 V_nb13r0 V_nb13r1 V_nb13r2 V_nb13r3 V_nb13r4
        ·
          refine og_aloadN X58 hx rfl rfl (hb hby d10_92) rfl ?_
          refine og_aload X58 hx rfl rfl (hb hby d10_93) rfl ?_
          refine og_iload X58 hx rfl (hb hby d10_95) rfl ?_
          refine og_virtual (pc' := 100) (cells' := 6) (slots' := 45) (W := 1) X58 hx hZ (rm_nx1 l Z a0 hw w0 w1 w2 w3 w4 cc w1 (by simp [hn92, hn39]) h58 n0 O S_CODE S_SINGLE S_SINGLE_ESCAPED S_DOUBLE S_DOUBLE_ESCAPED E_w0 E_w1 E_w2 E_w3 E_w4 F_w0 F_w1 F_w2 F_w3 F_w4) hown (ow83 hw) (ow84 hw) (own_nf hZ (ow86 hw)) (ow86 hw) (ow85 hw) (ow81 hw) (ow87 hw) (by decide) (by rw [hml]; rfl) e58 opd_12 [(.int cc)] [(.ref nb13)] rfl rfl rfl rfl (by decide) (by decide) rfl rfl (by decide) (by decide) (E_w1.ext O.2) (hb hby d10_97) rfl (fun v71 T71 h71 L71 X71 e71 z71 => ?_)
          obtain ⟨rfl, Nq71, hq71⟩ := z71; replace e71 := e71.trans hq71; have N := Fr.app N Nq71
          refine og_virtualUp (pc' := 103) (cells' := 6) (slots' := 45) (W := 1) X71 hx hZ (y := (⟨"com/example/nitpick/nitpick/internal/interpolation/ExpressionLiterals$Quoting", "ordinal", "()I"⟩ : MethodName)) (rm_ord l Z a0 hw w1 1 h58 n0 O F_w1) hown (ow98 hw) (ow89 hw) (ow90 hw) (by decide) (ow92 hw) (ow91 hw) (ow93 hw) (ow94 hw) (by decide) (by rw [hml]; rfl) e71 opd_0 [] [(.ref nb13)] rfl rfl rfl rfl (by decide) (by decide) rfl rfl (by decide) (by decide) (E_w1.ext O.2) (hb hby d10_100) rfl (fun v72 T72 h72 L72 X72 e72 z72 => ?_)
          obtain ⟨rfl, Nq72, hq72⟩ := z72; replace e72 := e72.trans hq72; have N := Fr.app N Nq72
          refine og_aaload (v := (.ref nb13r1)) X72 hx hZ e72 rfl V_nb13 ⟨by decide, by decide⟩ rfl (hb hby d10_103) rfl ?_
          refine og_iloadN X72 hx rfl (hb hby d10_104) rfl ?_
          refine og_iconst (v := 1) X72 hx rfl (hb hby d10_105) rfl ?_
          refine og_iadd X72 hx (hb hby d10_106) rfl ?_
          refine og_iaload (v := (.int (own_e (own_f [d0, d1, d2, d3, d4, d5, d6]) k 1 (7 - k)))) X72 hx hZ e72 V_nb13r1 hy8 (own_get (own_f [d0, d1, d2, d3, d4, d5, d6]) hyn (by omega) (by omega)) (hb hby d10_107) rfl ?_
          refine og_istore (L' := #[.val (.ref a1), .val (.int 7), .val (.ref nb13), .val (.int ii), .val (.int cc), .val (.ref va), .val (.int 5), .val (.int 1), .val (.ref w1), .val (.int (own_e (own_f [d0, d1, d2, d3, d4, d5, d6]) k 1 (7 - k)))]) X72 hx (by rcases hs_sa9 with rfl | ⟨_, rfl⟩ | ⟨_, rfl⟩ <;> rfl) (hb hby d10_108) rfl ?_
          refine og_aload X72 hx rfl rfl (hb hby d10_110) rfl ?_
          refine og_getstatic X72 hx hZ (host := "") hown (Or.inl (ow99 hw)) Via.refl e72 (S_CODE.ext O.2) (hb hby d10_112) rfl (fun T73 X73 e73 => ?_)
          refine og_acmp_ne (pc1 := 133) (pc2 := 118) X73 hx rfl rfl (hb hby d10_115) (by decide) (by decide) rfl (fun _ => ?_) (fun q => absurd q (fun q => ne_w1_w0 (Value.ref.inj q)))
          refine og_aload X73 hx rfl rfl (hb hby d10_133) rfl ?_
          refine og_getstatic X73 hx hZ (host := "") hown (Or.inl (ow99 hw)) Via.refl e73 (S_CODE.ext O.2) (hb hby d10_135) rfl (fun T74 X74 e74 => ?_)
          refine og_acmp_ne (pc1 := 163) (pc2 := 141) X74 hx rfl rfl (hb hby d10_138) (by decide) (by decide) rfl (fun _ => ?_) (fun q => absurd q (fun q => ne_w1_w0 (Value.ref.inj q)))
          refine og_aloadN X74 hx rfl rfl (hb hby d10_163) rfl ?_
          refine og_aload X74 hx rfl rfl (hb hby d10_164) rfl ?_
          refine og_virtualUp (pc' := 169) (cells' := 6) (slots' := 45) (W := 1) X74 hx hZ (y := (⟨"com/example/nitpick/nitpick/internal/interpolation/ExpressionLiterals$Quoting", "ordinal", "()I"⟩ : MethodName)) (rm_ord l Z a0 hw w1 1 h58 n0 O F_w1) hown (ow98 hw) (ow89 hw) (ow90 hw) (by decide) (ow92 hw) (ow91 hw) (ow93 hw) (ow94 hw) (by decide) (by rw [hml]; rfl) e74 opd_0 [] [(.ref nb13)] rfl rfl rfl rfl (by decide) (by decide) rfl rfl (by decide) (by decide) (E_w1.ext O.2) (hb hby d10_166) rfl (fun v75 T75 h75 L75 X75 e75 z75 => ?_)
          obtain ⟨rfl, Nq75, hq75⟩ := z75; replace e75 := e75.trans hq75; have N := Fr.app N Nq75
          refine og_aaload (v := (.ref nb13r1)) X75 hx hZ e75 rfl V_nb13 ⟨by decide, by decide⟩ rfl (hb hby d10_169) rfl ?_
          refine og_iloadN X75 hx rfl (hb hby d10_170) rfl ?_
          refine og_iload X75 hx rfl (hb hby d10_171) rfl ?_
          refine og_iastore X75 hx hZ e75 V_nb13r1 hx8 (6 - k) hxn (by rw [own_rlen]; omega) (hb hby d10_173) rfl (fun T76 h76 X76 e76 W76 V76 => ?_)
          have E_a1 := E_a1.wr W76; have F_value_a1 := F_value_a1.other W76 (Or.inl ne_a1_nb13r1); have F_coder_a1 := F_coder_a1.other W76 (Or.inl ne_a1_nb13r1); have V_ba := V_ba.other W76 ne_ba_nb13r1; have V_nb13 := V_nb13.other W76 ne_nb13_nb13r1; have V_nb13r0 := V_nb13r0.other W76 ne_nb13r0_nb13r1
          have V_nb13r2 := V_nb13r2.other W76 (Ne.symm ne_nb13r1_nb13r2); have V_nb13r3 := V_nb13r3.other W76 (Ne.symm ne_nb13r1_nb13r3); have V_nb13r4 := V_nb13r4.other W76 (Ne.symm ne_nb13r1_nb13r4); have O := O.wr W76 g_nb13r1; have K := K.wr W76 (Or.inr sz_nb13r1)
          have N := Fr.snoc X76 N g_nb13r1
          have V_nb13r1 : Arv Z h76 nb13r1 kR13 .int 8 (own_row (own_f [d0, d1, d2, d3, d4, d5, d6]) (k + 1) 1) (.int 0) := (own_setr (own_f [d0, d1, d2, d3, d4, d5, d6]) hk (own_eA (own_f [d0, d1, d2, d3, d4, d5, d6]) (q := 1) (r := 1) hk hcf (fun z => absurd z.1 (by decide)) (fun z => absurd z.1 (by decide)) (by simp [own_nx, hn92, hn39]))) ▸ V76
          refine og_iinc (L' := #[.val (.ref a1), .val (.int 7), .val (.ref nb13), .val (.int ii), .val (.int cc), .val (.ref va), .val (.int 5), .val (.int 2), .val (.ref w1), .val (.int (own_e (own_f [d0, d1, d2, d3, d4, d5, d6]) k 1 (7 - k)))]) (w := 1) X76 hx rfl rfl rfl (hb hby d10_174) rfl ?_
          refine og_goto (pc' := 78) X76 hx (hb hby d10_177) (by decide) (by decide) ?_
          exact J78_2 T76 _ _ (own_mono X76 (by decide) (by decide)) e76 N O K _ (Or.inr (Or.inr ⟨_, rfl⟩)) _ (Or.inr (Or.inl ⟨_, rfl⟩)) E_a1 F_value_a1 F_coder_a1 V_ba V_nb13 V_nb13r0 V_nb13r1 V_nb13r2 V_nb13r3 V_nb13r4
      refine og_iload X23 hx rfl (hb hby d10_78) rfl ?_
      refine og_iload X23 hx rfl (hb hby d10_80) rfl ?_
      refine og_icmp_ge (pc1 := 180) (pc2 := 85) X23 hx (hb hby d10_82) (by decide) (by decide) rfl (fun q => absurd q (by decide)) (fun _ => ?_)
      refine og_aload X23 hx rfl rfl (hb hby d10_85) rfl ?_
      refine og_iload X23 hx rfl (hb hby d10_87) rfl ?_
      refine og_aaload (v := (.ref w0)) X23 hx hZ e23 rfl (V_va.ext O.2) ⟨by decide, by decide⟩ rfl (hb hby d10_89) rfl ?_
      refine og_astore (L' := #[.val (.ref a1), .val (.int 7), .val (.ref nb13), .val (.int ii), .val (.int cc), .val (.ref va), .val (.int 5), .val (.int 0), .val (.ref w0), sl9]) X23 hx rfl (by rcases hs_sl8 with rfl | ⟨_, rfl⟩ | ⟨_, rfl⟩ <;> rfl) (hb hby d10_90) rfl ?_
      rcases own_c0 cc with rfl | rfl | rfl | rfl | ⟨hn39, hn34, hn125, hn123⟩
      ·
        refine og_aloadN X23 hx rfl rfl (hb hby d10_92) rfl ?_
        refine og_aload X23 hx rfl rfl (hb hby d10_93) rfl ?_
        refine og_iload X23 hx rfl (hb hby d10_95) rfl ?_
        refine og_virtual (pc' := 100) (cells' := 6) (slots' := 45) (W := 1) X23 hx hZ (rm_nx0 l Z a0 hw w0 w1 w2 w3 w4 (39 : Int32) w1 (by simp) h19 n0 O S_CODE S_SINGLE S_SINGLE_ESCAPED S_DOUBLE S_DOUBLE_ESCAPED E_w0 E_w1 E_w2 E_w3 E_w4 F_w0 F_w1 F_w2 F_w3 F_w4) hown (ow83 hw) (ow84 hw) (own_nf hZ (ow86 hw)) (ow86 hw) (ow85 hw) (ow81 hw) (ow87 hw) (by decide) (by rw [hml]; rfl) e23 opd_12 [(.int 39)] [(.ref nb13)] rfl rfl rfl rfl (by decide) (by decide) rfl rfl (by decide) (by decide) (E_w0.ext O.2) (hb hby d10_97) rfl (fun v77 T77 h77 L77 X77 e77 z77 => ?_)
        obtain ⟨rfl, Nq77, hq77⟩ := z77; replace e77 := e77.trans hq77; have N := Fr.app N Nq77
        refine og_virtualUp (pc' := 103) (cells' := 6) (slots' := 45) (W := 1) X77 hx hZ (y := (⟨"com/example/nitpick/nitpick/internal/interpolation/ExpressionLiterals$Quoting", "ordinal", "()I"⟩ : MethodName)) (rm_ord l Z a0 hw w1 1 h19 n0 O F_w1) hown (ow98 hw) (ow89 hw) (ow90 hw) (by decide) (ow92 hw) (ow91 hw) (ow93 hw) (ow94 hw) (by decide) (by rw [hml]; rfl) e77 opd_0 [] [(.ref nb13)] rfl rfl rfl rfl (by decide) (by decide) rfl rfl (by decide) (by decide) (E_w1.ext O.2) (hb hby d10_100) rfl (fun v78 T78 h78 L78 X78 e78 z78 => ?_)
        obtain ⟨rfl, Nq78, hq78⟩ := z78; replace e78 := e78.trans hq78; have N := Fr.app N Nq78
        refine og_aaload (v := (.ref nb13r1)) X78 hx hZ e78 rfl V_nb13 ⟨by decide, by decide⟩ rfl (hb hby d10_103) rfl ?_
        refine og_iloadN X78 hx rfl (hb hby d10_104) rfl ?_
        refine og_iconst (v := 1) X78 hx rfl (hb hby d10_105) rfl ?_
        refine og_iadd X78 hx (hb hby d10_106) rfl ?_
        refine og_iaload (v := (.int (own_e (own_f [d0, d1, d2, d3, d4, d5, d6]) k 1 (7 - k)))) X78 hx hZ e78 V_nb13r1 hy8 (own_get (own_f [d0, d1, d2, d3, d4, d5, d6]) hyn (by omega) (by omega)) (hb hby d10_107) rfl ?_
        refine og_istore (L' := #[.val (.ref a1), .val (.int 7), .val (.ref nb13), .val (.int ii), .val (.int 39), .val (.ref va), .val (.int 5), .val (.int 0), .val (.ref w0), .val (.int (own_e (own_f [d0, d1, d2, d3, d4, d5, d6]) k 1 (7 - k)))]) X78 hx (by rcases hs_sl9 with rfl | ⟨_, rfl⟩ | ⟨_, rfl⟩ <;> rfl) (hb hby d10_108) rfl ?_
        refine og_aload X78 hx rfl rfl (hb hby d10_110) rfl ?_
        refine og_getstatic X78 hx hZ (host := "") hown (Or.inl (ow99 hw)) Via.refl e78 (S_CODE.ext O.2) (hb hby d10_112) rfl (fun T79 X79 e79 => ?_)
        refine og_acmp_ne (pc1 := 133) (pc2 := 118) X79 hx rfl rfl (hb hby d10_115) (by decide) (by decide) rfl (fun q => absurd rfl q) (fun _ => ?_)
        refine og_iload X79 hx rfl (hb hby d10_118) rfl ?_
        refine og_bipush (v := 125) X79 hx rfl (hb hby d10_120) rfl ?_
        refine og_icmp_ne (pc1 := 133) (pc2 := 125) X79 hx (hb hby d10_122) (by decide) (by decide) rfl (fun _ => ?_) (fun q => absurd q (by decide))
        refine og_aload X79 hx rfl rfl (hb hby d10_133) rfl ?_
        refine og_getstatic X79 hx hZ (host := "") hown (Or.inl (ow99 hw)) Via.refl e79 (S_CODE.ext O.2) (hb hby d10_135) rfl (fun T80 X80 e80 => ?_)
        refine og_acmp_ne (pc1 := 163) (pc2 := 141) X80 hx rfl rfl (hb hby d10_138) (by decide) (by decide) rfl (fun q => absurd rfl q) (fun _ => ?_)
        refine og_iload X80 hx rfl (hb hby d10_141) rfl ?_
        refine og_bipush (v := 123) X80 hx rfl (hb hby d10_143) rfl ?_
        refine og_icmp_ne (pc1 := 163) (pc2 := 148) X80 hx (hb hby d10_145) (by decide) (by decide) rfl (fun _ => ?_) (fun q => absurd q (by decide))
        refine og_aloadN X80 hx rfl rfl (hb hby d10_163) rfl ?_
        refine og_aload X80 hx rfl rfl (hb hby d10_164) rfl ?_
        refine og_virtualUp (pc' := 169) (cells' := 6) (slots' := 45) (W := 1) X80 hx hZ (y := (⟨"com/example/nitpick/nitpick/internal/interpolation/ExpressionLiterals$Quoting", "ordinal", "()I"⟩ : MethodName)) (rm_ord l Z a0 hw w0 0 h19 n0 O F_w0) hown (ow98 hw) (ow89 hw) (ow90 hw) (by decide) (ow92 hw) (ow91 hw) (ow93 hw) (ow94 hw) (by decide) (by rw [hml]; rfl) e80 opd_0 [] [(.ref nb13)] rfl rfl rfl rfl (by decide) (by decide) rfl rfl (by decide) (by decide) (E_w0.ext O.2) (hb hby d10_166) rfl (fun v81 T81 h81 L81 X81 e81 z81 => ?_)
        obtain ⟨rfl, Nq81, hq81⟩ := z81; replace e81 := e81.trans hq81; have N := Fr.app N Nq81
        refine og_aaload (v := (.ref nb13r0)) X81 hx hZ e81 rfl V_nb13 ⟨by decide, by decide⟩ rfl (hb hby d10_169) rfl ?_
        refine og_iloadN X81 hx rfl (hb hby d10_170) rfl ?_
        refine og_iload X81 hx rfl (hb hby d10_171) rfl ?_
        refine og_iastore X81 hx hZ e81 V_nb13r0 hx8 (6 - k) hxn (by rw [own_rlen]; omega) (hb hby d10_173) rfl (fun T82 h82 X82 e82 W82 V82 => ?_)
        have E_a1 := E_a1.wr W82; have F_value_a1 := F_value_a1.other W82 (Or.inl ne_a1_nb13r0); have F_coder_a1 := F_coder_a1.other W82 (Or.inl ne_a1_nb13r0); have V_ba := V_ba.other W82 ne_ba_nb13r0; have V_nb13 := V_nb13.other W82 ne_nb13_nb13r0; have V_nb13r1 := V_nb13r1.other W82 (Ne.symm ne_nb13r0_nb13r1)
        have V_nb13r2 := V_nb13r2.other W82 (Ne.symm ne_nb13r0_nb13r2); have V_nb13r3 := V_nb13r3.other W82 (Ne.symm ne_nb13r0_nb13r3); have V_nb13r4 := V_nb13r4.other W82 (Ne.symm ne_nb13r0_nb13r4); have O := O.wr W82 g_nb13r0; have K := K.wr W82 (Or.inr sz_nb13r0)
        have N := Fr.snoc X82 N g_nb13r0
        have V_nb13r0 : Arv Z h82 nb13r0 kR13 .int 8 (own_row (own_f [d0, d1, d2, d3, d4, d5, d6]) (k + 1) 0) (.int 0) := (own_setr (own_f [d0, d1, d2, d3, d4, d5, d6]) hk (own_eA (own_f [d0, d1, d2, d3, d4, d5, d6]) (q := 0) (r := 1) hk hcf (fun z => absurd z.2 (by decide)) (fun z => absurd z.2 (by decide)) (by decide))) ▸ V82
        refine og_iinc (L' := #[.val (.ref a1), .val (.int 7), .val (.ref nb13), .val (.int ii), .val (.int 39), .val (.ref va), .val (.int 5), .val (.int 1), .val (.ref w0), .val (.int (own_e (own_f [d0, d1, d2, d3, d4, d5, d6]) k 1 (7 - k)))]) (w := 1) X82 hx rfl rfl rfl (hb hby d10_174) rfl ?_
        refine og_goto (pc' := 78) X82 hx (hb hby d10_177) (by decide) (by decide) ?_
        exact J78_1 T82 _ _ (own_mono X82 (by decide) (by decide)) e82 N O K _ (Or.inr (Or.inr ⟨_, rfl⟩)) _ (Or.inr (Or.inl ⟨_, rfl⟩)) E_a1 F_value_a1 F_coder_a1 V_ba V_nb13 V_nb13r0 V_nb13r1 V_nb13r2 V_nb13r3 V_nb13r4
      ·
        refine og_aloadN X23 hx rfl rfl (hb hby d10_92) rfl ?_
        refine og_aload X23 hx rfl rfl (hb hby d10_93) rfl ?_
        refine og_iload X23 hx rfl (hb hby d10_95) rfl ?_
        refine og_virtual (pc' := 100) (cells' := 6) (slots' := 45) (W := 1) X23 hx hZ (rm_nx0 l Z a0 hw w0 w1 w2 w3 w4 (34 : Int32) w3 (by simp) h19 n0 O S_CODE S_SINGLE S_SINGLE_ESCAPED S_DOUBLE S_DOUBLE_ESCAPED E_w0 E_w1 E_w2 E_w3 E_w4 F_w0 F_w1 F_w2 F_w3 F_w4) hown (ow83 hw) (ow84 hw) (own_nf hZ (ow86 hw)) (ow86 hw) (ow85 hw) (ow81 hw) (ow87 hw) (by decide) (by rw [hml]; rfl) e23 opd_12 [(.int 34)] [(.ref nb13)] rfl rfl rfl rfl (by decide) (by decide) rfl rfl (by decide) (by decide) (E_w0.ext O.2) (hb hby d10_97) rfl (fun v83 T83 h83 L83 X83 e83 z83 => ?_)
        obtain ⟨rfl, Nq83, hq83⟩ := z83; replace e83 := e83.trans hq83; have N := Fr.app N Nq83
        refine og_virtualUp (pc' := 103) (cells' := 6) (slots' := 45) (W := 1) X83 hx hZ (y := (⟨"com/example/nitpick/nitpick/internal/interpolation/ExpressionLiterals$Quoting", "ordinal", "()I"⟩ : MethodName)) (rm_ord l Z a0 hw w3 3 h19 n0 O F_w3) hown (ow98 hw) (ow89 hw) (ow90 hw) (by decide) (ow92 hw) (ow91 hw) (ow93 hw) (ow94 hw) (by decide) (by rw [hml]; rfl) e83 opd_0 [] [(.ref nb13)] rfl rfl rfl rfl (by decide) (by decide) rfl rfl (by decide) (by decide) (E_w3.ext O.2) (hb hby d10_100) rfl (fun v84 T84 h84 L84 X84 e84 z84 => ?_)
        obtain ⟨rfl, Nq84, hq84⟩ := z84; replace e84 := e84.trans hq84; have N := Fr.app N Nq84
        refine og_aaload (v := (.ref nb13r3)) X84 hx hZ e84 rfl V_nb13 ⟨by decide, by decide⟩ rfl (hb hby d10_103) rfl ?_
        refine og_iloadN X84 hx rfl (hb hby d10_104) rfl ?_
        refine og_iconst (v := 1) X84 hx rfl (hb hby d10_105) rfl ?_
        refine og_iadd X84 hx (hb hby d10_106) rfl ?_
        refine og_iaload (v := (.int (own_e (own_f [d0, d1, d2, d3, d4, d5, d6]) k 3 (7 - k)))) X84 hx hZ e84 V_nb13r3 hy8 (own_get (own_f [d0, d1, d2, d3, d4, d5, d6]) hyn (by omega) (by omega)) (hb hby d10_107) rfl ?_
        refine og_istore (L' := #[.val (.ref a1), .val (.int 7), .val (.ref nb13), .val (.int ii), .val (.int 34), .val (.ref va), .val (.int 5), .val (.int 0), .val (.ref w0), .val (.int (own_e (own_f [d0, d1, d2, d3, d4, d5, d6]) k 3 (7 - k)))]) X84 hx (by rcases hs_sl9 with rfl | ⟨_, rfl⟩ | ⟨_, rfl⟩ <;> rfl) (hb hby d10_108) rfl ?_
        refine og_aload X84 hx rfl rfl (hb hby d10_110) rfl ?_
        refine og_getstatic X84 hx hZ (host := "") hown (Or.inl (ow99 hw)) Via.refl e84 (S_CODE.ext O.2) (hb hby d10_112) rfl (fun T85 X85 e85 => ?_)
        refine og_acmp_ne (pc1 := 133) (pc2 := 118) X85 hx rfl rfl (hb hby d10_115) (by decide) (by decide) rfl (fun q => absurd rfl q) (fun _ => ?_)
        refine og_iload X85 hx rfl (hb hby d10_118) rfl ?_
        refine og_bipush (v := 125) X85 hx rfl (hb hby d10_120) rfl ?_
        refine og_icmp_ne (pc1 := 133) (pc2 := 125) X85 hx (hb hby d10_122) (by decide) (by decide) rfl (fun _ => ?_) (fun q => absurd q (by decide))
        refine og_aload X85 hx rfl rfl (hb hby d10_133) rfl ?_
        refine og_getstatic X85 hx hZ (host := "") hown (Or.inl (ow99 hw)) Via.refl e85 (S_CODE.ext O.2) (hb hby d10_135) rfl (fun T86 X86 e86 => ?_)
        refine og_acmp_ne (pc1 := 163) (pc2 := 141) X86 hx rfl rfl (hb hby d10_138) (by decide) (by decide) rfl (fun q => absurd rfl q) (fun _ => ?_)
        refine og_iload X86 hx rfl (hb hby d10_141) rfl ?_
        refine og_bipush (v := 123) X86 hx rfl (hb hby d10_143) rfl ?_
        refine og_icmp_ne (pc1 := 163) (pc2 := 148) X86 hx (hb hby d10_145) (by decide) (by decide) rfl (fun _ => ?_) (fun q => absurd q (by decide))
        refine og_aloadN X86 hx rfl rfl (hb hby d10_163) rfl ?_
        refine og_aload X86 hx rfl rfl (hb hby d10_164) rfl ?_
        refine og_virtualUp (pc' := 169) (cells' := 6) (slots' := 45) (W := 1) X86 hx hZ (y := (⟨"com/example/nitpick/nitpick/internal/interpolation/ExpressionLiterals$Quoting", "ordinal", "()I"⟩ : MethodName)) (rm_ord l Z a0 hw w0 0 h19 n0 O F_w0) hown (ow98 hw) (ow89 hw) (ow90 hw) (by decide) (ow92 hw) (ow91 hw) (ow93 hw) (ow94 hw) (by decide) (by rw [hml]; rfl) e86 opd_0 [] [(.ref nb13)] rfl rfl rfl rfl (by decide) (by decide) rfl rfl (by decide) (by decide) (E_w0.ext O.2) (hb hby d10_166) rfl (fun v87 T87 h87 L87 X87 e87 z87 => ?_)
        obtain ⟨rfl, Nq87, hq87⟩ := z87; replace e87 := e87.trans hq87; have N := Fr.app N Nq87
        refine og_aaload (v := (.ref nb13r0)) X87 hx hZ e87 rfl V_nb13 ⟨by decide, by decide⟩ rfl (hb hby d10_169) rfl ?_
        refine og_iloadN X87 hx rfl (hb hby d10_170) rfl ?_
        refine og_iload X87 hx rfl (hb hby d10_171) rfl ?_
        refine og_iastore X87 hx hZ e87 V_nb13r0 hx8 (6 - k) hxn (by rw [own_rlen]; omega) (hb hby d10_173) rfl (fun T88 h88 X88 e88 W88 V88 => ?_)
        have E_a1 := E_a1.wr W88; have F_value_a1 := F_value_a1.other W88 (Or.inl ne_a1_nb13r0); have F_coder_a1 := F_coder_a1.other W88 (Or.inl ne_a1_nb13r0); have V_ba := V_ba.other W88 ne_ba_nb13r0; have V_nb13 := V_nb13.other W88 ne_nb13_nb13r0; have V_nb13r1 := V_nb13r1.other W88 (Ne.symm ne_nb13r0_nb13r1)
        have V_nb13r2 := V_nb13r2.other W88 (Ne.symm ne_nb13r0_nb13r2); have V_nb13r3 := V_nb13r3.other W88 (Ne.symm ne_nb13r0_nb13r3); have V_nb13r4 := V_nb13r4.other W88 (Ne.symm ne_nb13r0_nb13r4); have O := O.wr W88 g_nb13r0; have K := K.wr W88 (Or.inr sz_nb13r0)
        have N := Fr.snoc X88 N g_nb13r0
        have V_nb13r0 : Arv Z h88 nb13r0 kR13 .int 8 (own_row (own_f [d0, d1, d2, d3, d4, d5, d6]) (k + 1) 0) (.int 0) := (own_setr (own_f [d0, d1, d2, d3, d4, d5, d6]) hk (own_eA (own_f [d0, d1, d2, d3, d4, d5, d6]) (q := 0) (r := 3) hk hcf (fun z => absurd z.2 (by decide)) (fun z => absurd z.2 (by decide)) (by decide))) ▸ V88
        refine og_iinc (L' := #[.val (.ref a1), .val (.int 7), .val (.ref nb13), .val (.int ii), .val (.int 34), .val (.ref va), .val (.int 5), .val (.int 1), .val (.ref w0), .val (.int (own_e (own_f [d0, d1, d2, d3, d4, d5, d6]) k 3 (7 - k)))]) (w := 1) X88 hx rfl rfl rfl (hb hby d10_174) rfl ?_
        refine og_goto (pc' := 78) X88 hx (hb hby d10_177) (by decide) (by decide) ?_
        exact J78_1 T88 _ _ (own_mono X88 (by decide) (by decide)) e88 N O K _ (Or.inr (Or.inr ⟨_, rfl⟩)) _ (Or.inr (Or.inl ⟨_, rfl⟩)) E_a1 F_value_a1 F_coder_a1 V_ba V_nb13 V_nb13r0 V_nb13r1 V_nb13r2 V_nb13r3 V_nb13r4
      ·
        refine og_aloadN X23 hx rfl rfl (hb hby d10_92) rfl ?_
        refine og_aload X23 hx rfl rfl (hb hby d10_93) rfl ?_
        refine og_iload X23 hx rfl (hb hby d10_95) rfl ?_
        refine og_virtual (pc' := 100) (cells' := 6) (slots' := 45) (W := 1) X23 hx hZ (rm_nx0 l Z a0 hw w0 w1 w2 w3 w4 (125 : Int32) w0 (by simp) h19 n0 O S_CODE S_SINGLE S_SINGLE_ESCAPED S_DOUBLE S_DOUBLE_ESCAPED E_w0 E_w1 E_w2 E_w3 E_w4 F_w0 F_w1 F_w2 F_w3 F_w4) hown (ow83 hw) (ow84 hw) (own_nf hZ (ow86 hw)) (ow86 hw) (ow85 hw) (ow81 hw) (ow87 hw) (by decide) (by rw [hml]; rfl) e23 opd_12 [(.int 125)] [(.ref nb13)] rfl rfl rfl rfl (by decide) (by decide) rfl rfl (by decide) (by decide) (E_w0.ext O.2) (hb hby d10_97) rfl (fun v89 T89 h89 L89 X89 e89 z89 => ?_)
        obtain ⟨rfl, Nq89, hq89⟩ := z89; replace e89 := e89.trans hq89; have N := Fr.app N Nq89
        refine og_virtualUp (pc' := 103) (cells' := 6) (slots' := 45) (W := 1) X89 hx hZ (y := (⟨"com/example/nitpick/nitpick/internal/interpolation/ExpressionLiterals$Quoting", "ordinal", "()I"⟩ : MethodName)) (rm_ord l Z a0 hw w0 0 h19 n0 O F_w0) hown (ow98 hw) (ow89 hw) (ow90 hw) (by decide) (ow92 hw) (ow91 hw) (ow93 hw) (ow94 hw) (by decide) (by rw [hml]; rfl) e89 opd_0 [] [(.ref nb13)] rfl rfl rfl rfl (by decide) (by decide) rfl rfl (by decide) (by decide) (E_w0.ext O.2) (hb hby d10_100) rfl (fun v90 T90 h90 L90 X90 e90 z90 => ?_)
        obtain ⟨rfl, Nq90, hq90⟩ := z90; replace e90 := e90.trans hq90; have N := Fr.app N Nq90
        refine og_aaload (v := (.ref nb13r0)) X90 hx hZ e90 rfl V_nb13 ⟨by decide, by decide⟩ rfl (hb hby d10_103) rfl ?_
        refine og_iloadN X90 hx rfl (hb hby d10_104) rfl ?_
        refine og_iconst (v := 1) X90 hx rfl (hb hby d10_105) rfl ?_
        refine og_iadd X90 hx (hb hby d10_106) rfl ?_
        refine og_iaload (v := (.int (own_e (own_f [d0, d1, d2, d3, d4, d5, d6]) k 0 (7 - k)))) X90 hx hZ e90 V_nb13r0 hy8 (own_get (own_f [d0, d1, d2, d3, d4, d5, d6]) hyn (by omega) (by omega)) (hb hby d10_107) rfl ?_
        refine og_istore (L' := #[.val (.ref a1), .val (.int 7), .val (.ref nb13), .val (.int ii), .val (.int 125), .val (.ref va), .val (.int 5), .val (.int 0), .val (.ref w0), .val (.int (own_e (own_f [d0, d1, d2, d3, d4, d5, d6]) k 0 (7 - k)))]) X90 hx (by rcases hs_sl9 with rfl | ⟨_, rfl⟩ | ⟨_, rfl⟩ <;> rfl) (hb hby d10_108) rfl ?_
        refine og_aload X90 hx rfl rfl (hb hby d10_110) rfl ?_
        refine og_getstatic X90 hx hZ (host := "") hown (Or.inl (ow99 hw)) Via.refl e90 (S_CODE.ext O.2) (hb hby d10_112) rfl (fun T91 X91 e91 => ?_)
        refine og_acmp_ne (pc1 := 133) (pc2 := 118) X91 hx rfl rfl (hb hby d10_115) (by decide) (by decide) rfl (fun q => absurd rfl q) (fun _ => ?_)
        refine og_iload X91 hx rfl (hb hby d10_118) rfl ?_
        refine og_bipush (v := 125) X91 hx rfl (hb hby d10_120) rfl ?_
        refine og_icmp_ne (pc1 := 133) (pc2 := 125) X91 hx (hb hby d10_122) (by decide) (by decide) rfl (fun q => absurd q (by decide)) (fun _ => ?_)
        refine og_iloadN X91 hx rfl (hb hby d10_125) rfl ?_
        refine og_iconst (v := 1) X91 hx rfl (hb hby d10_126) rfl ?_
        refine og_iadd X91 hx (hb hby d10_127) rfl ?_
        refine og_istore (L' := #[.val (.ref a1), .val (.int 7), .val (.ref nb13), .val (.int ii), .val (.int 125), .val (.ref va), .val (.int 5), .val (.int 0), .val (.ref w0), .val (.int (ii + (1 : Int32)))]) X91 hx rfl (hb hby d10_128) rfl ?_
        refine og_goto (pc' := 163) X91 hx (hb hby d10_130) (by decide) (by decide) ?_
        refine og_aloadN X91 hx rfl rfl (hb hby d10_163) rfl ?_
        refine og_aload X91 hx rfl rfl (hb hby d10_164) rfl ?_
        refine og_virtualUp (pc' := 169) (cells' := 6) (slots' := 45) (W := 1) X91 hx hZ (y := (⟨"com/example/nitpick/nitpick/internal/interpolation/ExpressionLiterals$Quoting", "ordinal", "()I"⟩ : MethodName)) (rm_ord l Z a0 hw w0 0 h19 n0 O F_w0) hown (ow98 hw) (ow89 hw) (ow90 hw) (by decide) (ow92 hw) (ow91 hw) (ow93 hw) (ow94 hw) (by decide) (by rw [hml]; rfl) e91 opd_0 [] [(.ref nb13)] rfl rfl rfl rfl (by decide) (by decide) rfl rfl (by decide) (by decide) (E_w0.ext O.2) (hb hby d10_166) rfl (fun v92 T92 h92 L92 X92 e92 z92 => ?_)
        obtain ⟨rfl, Nq92, hq92⟩ := z92; replace e92 := e92.trans hq92; have N := Fr.app N Nq92
        refine og_aaload (v := (.ref nb13r0)) X92 hx hZ e92 rfl V_nb13 ⟨by decide, by decide⟩ rfl (hb hby d10_169) rfl ?_
        refine og_iloadN X92 hx rfl (hb hby d10_170) rfl ?_
        refine og_iload X92 hx rfl (hb hby d10_171) rfl ?_
        refine og_iastore X92 hx hZ e92 V_nb13r0 hx8 (6 - k) hxn (by rw [own_rlen]; omega) (hb hby d10_173) rfl (fun T93 h93 X93 e93 W93 V93 => ?_)
        have E_a1 := E_a1.wr W93; have F_value_a1 := F_value_a1.other W93 (Or.inl ne_a1_nb13r0); have F_coder_a1 := F_coder_a1.other W93 (Or.inl ne_a1_nb13r0); have V_ba := V_ba.other W93 ne_ba_nb13r0; have V_nb13 := V_nb13.other W93 ne_nb13_nb13r0; have V_nb13r1 := V_nb13r1.other W93 (Ne.symm ne_nb13r0_nb13r1)
        have V_nb13r2 := V_nb13r2.other W93 (Ne.symm ne_nb13r0_nb13r2); have V_nb13r3 := V_nb13r3.other W93 (Ne.symm ne_nb13r0_nb13r3); have V_nb13r4 := V_nb13r4.other W93 (Ne.symm ne_nb13r0_nb13r4); have O := O.wr W93 g_nb13r0; have K := K.wr W93 (Or.inr sz_nb13r0)
        have N := Fr.snoc X93 N g_nb13r0
        have V_nb13r0 : Arv Z h93 nb13r0 kR13 .int 8 (own_row (own_f [d0, d1, d2, d3, d4, d5, d6]) (k + 1) 0) (.int 0) := (own_setr (own_f [d0, d1, d2, d3, d4, d5, d6]) hk (own_eC (own_f [d0, d1, d2, d3, d4, d5, d6]) hk hcf hi)) ▸ V93
        refine og_iinc (L' := #[.val (.ref a1), .val (.int 7), .val (.ref nb13), .val (.int ii), .val (.int 125), .val (.ref va), .val (.int 5), .val (.int 1), .val (.ref w0), .val (.int (ii + (1 : Int32)))]) (w := 1) X93 hx rfl rfl rfl (hb hby d10_174) rfl ?_
        refine og_goto (pc' := 78) X93 hx (hb hby d10_177) (by decide) (by decide) ?_
        exact J78_1 T93 _ _ (own_mono X93 (by decide) (by decide)) e93 N O K _ (Or.inr (Or.inr ⟨_, rfl⟩)) _ (Or.inr (Or.inl ⟨_, rfl⟩)) E_a1 F_value_a1 F_coder_a1 V_ba V_nb13 V_nb13r0 V_nb13r1 V_nb13r2 V_nb13r3 V_nb13r4
      ·
        refine og_aloadN X23 hx rfl rfl (hb hby d10_92) rfl ?_
        refine og_aload X23 hx rfl rfl (hb hby d10_93) rfl ?_
        refine og_iload X23 hx rfl (hb hby d10_95) rfl ?_
        refine og_virtual (pc' := 100) (cells' := 6) (slots' := 45) (W := 1) X23 hx hZ (rm_nx0 l Z a0 hw w0 w1 w2 w3 w4 (123 : Int32) w0 (by simp) h19 n0 O S_CODE S_SINGLE S_SINGLE_ESCAPED S_DOUBLE S_DOUBLE_ESCAPED E_w0 E_w1 E_w2 E_w3 E_w4 F_w0 F_w1 F_w2 F_w3 F_w4) hown (ow83 hw) (ow84 hw) (own_nf hZ (ow86 hw)) (ow86 hw) (ow85 hw) (ow81 hw) (ow87 hw) (by decide) (by rw [hml]; rfl) e23 opd_12 [(.int 123)] [(.ref nb13)] rfl rfl rfl rfl (by decide) (by decide) rfl rfl (by decide) (by decide) (E_w0.ext O.2) (hb hby d10_97) rfl (fun v94 T94 h94 L94 X94 e94 z94 => ?_)
        obtain ⟨rfl, Nq94, hq94⟩ := z94; replace e94 := e94.trans hq94; have N := Fr.app N Nq94
        refine og_virtualUp (pc' := 103) (cells' := 6) (slots' := 45) (W := 1) X94 hx hZ (y := (⟨"com/example/nitpick/nitpick/internal/interpolation/ExpressionLiterals$Quoting", "ordinal", "()I"⟩ : MethodName)) (rm_ord l Z a0 hw w0 0 h19 n0 O F_w0) hown (ow98 hw) (ow89 hw) (ow90 hw) (by decide) (ow92 hw) (ow91 hw) (ow93 hw) (ow94 hw) (by decide) (by rw [hml]; rfl) e94 opd_0 [] [(.ref nb13)] rfl rfl rfl rfl (by decide) (by decide) rfl rfl (by decide) (by decide) (E_w0.ext O.2) (hb hby d10_100) rfl (fun v95 T95 h95 L95 X95 e95 z95 => ?_)
        obtain ⟨rfl, Nq95, hq95⟩ := z95; replace e95 := e95.trans hq95; have N := Fr.app N Nq95
        refine og_aaload (v := (.ref nb13r0)) X95 hx hZ e95 rfl V_nb13 ⟨by decide, by decide⟩ rfl (hb hby d10_103) rfl ?_
        refine og_iloadN X95 hx rfl (hb hby d10_104) rfl ?_
        refine og_iconst (v := 1) X95 hx rfl (hb hby d10_105) rfl ?_
        refine og_iadd X95 hx (hb hby d10_106) rfl ?_
        refine og_iaload (v := (.int (own_e (own_f [d0, d1, d2, d3, d4, d5, d6]) k 0 (7 - k)))) X95 hx hZ e95 V_nb13r0 hy8 (own_get (own_f [d0, d1, d2, d3, d4, d5, d6]) hyn (by omega) (by omega)) (hb hby d10_107) rfl ?_
        refine og_istore (L' := #[.val (.ref a1), .val (.int 7), .val (.ref nb13), .val (.int ii), .val (.int 123), .val (.ref va), .val (.int 5), .val (.int 0), .val (.ref w0), .val (.int (own_e (own_f [d0, d1, d2, d3, d4, d5, d6]) k 0 (7 - k)))]) X95 hx (by rcases hs_sl9 with rfl | ⟨_, rfl⟩ | ⟨_, rfl⟩ <;> rfl) (hb hby d10_108) rfl ?_
        refine og_aload X95 hx rfl rfl (hb hby d10_110) rfl ?_
        refine og_getstatic X95 hx hZ (host := "") hown (Or.inl (ow99 hw)) Via.refl e95 (S_CODE.ext O.2) (hb hby d10_112) rfl (fun T96 X96 e96 => ?_)
        refine og_acmp_ne (pc1 := 133) (pc2 := 118) X96 hx rfl rfl (hb hby d10_115) (by decide) (by decide) rfl (fun q => absurd rfl q) (fun _ => ?_)
        refine og_iload X96 hx rfl (hb hby d10_118) rfl ?_
        refine og_bipush (v := 125) X96 hx rfl (hb hby d10_120) rfl ?_
        refine og_icmp_ne (pc1 := 133) (pc2 := 125) X96 hx (hb hby d10_122) (by decide) (by decide) rfl (fun _ => ?_) (fun q => absurd q (by decide))
        refine og_aload X96 hx rfl rfl (hb hby d10_133) rfl ?_
        refine og_getstatic X96 hx hZ (host := "") hown (Or.inl (ow99 hw)) Via.refl e96 (S_CODE.ext O.2) (hb hby d10_135) rfl (fun T97 X97 e97 => ?_)
        refine og_acmp_ne (pc1 := 163) (pc2 := 141) X97 hx rfl rfl (hb hby d10_138) (by decide) (by decide) rfl (fun q => absurd rfl q) (fun _ => ?_)
        refine og_iload X97 hx rfl (hb hby d10_141) rfl ?_
        refine og_bipush (v := 123) X97 hx rfl (hb hby d10_143) rfl ?_
        refine og_icmp_ne (pc1 := 163) (pc2 := 148) X97 hx (hb hby d10_145) (by decide) (by decide) rfl (fun q => absurd q (by decide)) (fun _ => ?_)
        refine og_iload X97 hx rfl (hb hby d10_148) rfl ?_
        refine og_if_lt (pc1 := 163) (pc2 := 153) X97 hx (hb hby d10_150) (by decide) (by decide) rfl (fun hc150 => ?_) (fun hc150 => ?_)
        ·
          refine og_aloadN X97 hx rfl rfl (hb hby d10_163) rfl ?_
          refine og_aload X97 hx rfl rfl (hb hby d10_164) rfl ?_
          refine og_virtualUp (pc' := 169) (cells' := 6) (slots' := 45) (W := 1) X97 hx hZ (y := (⟨"com/example/nitpick/nitpick/internal/interpolation/ExpressionLiterals$Quoting", "ordinal", "()I"⟩ : MethodName)) (rm_ord l Z a0 hw w0 0 h19 n0 O F_w0) hown (ow98 hw) (ow89 hw) (ow90 hw) (by decide) (ow92 hw) (ow91 hw) (ow93 hw) (ow94 hw) (by decide) (by rw [hml]; rfl) e97 opd_0 [] [(.ref nb13)] rfl rfl rfl rfl (by decide) (by decide) rfl rfl (by decide) (by decide) (E_w0.ext O.2) (hb hby d10_166) rfl (fun v98 T98 h98 L98 X98 e98 z98 => ?_)
          obtain ⟨rfl, Nq98, hq98⟩ := z98; replace e98 := e98.trans hq98; have N := Fr.app N Nq98
          refine og_aaload (v := (.ref nb13r0)) X98 hx hZ e98 rfl V_nb13 ⟨by decide, by decide⟩ rfl (hb hby d10_169) rfl ?_
          refine og_iloadN X98 hx rfl (hb hby d10_170) rfl ?_
          refine og_iload X98 hx rfl (hb hby d10_171) rfl ?_
          refine og_iastore X98 hx hZ e98 V_nb13r0 hx8 (6 - k) hxn (by rw [own_rlen]; omega) (hb hby d10_173) rfl (fun T99 h99 X99 e99 W99 V99 => ?_)
          have E_a1 := E_a1.wr W99; have F_value_a1 := F_value_a1.other W99 (Or.inl ne_a1_nb13r0); have F_coder_a1 := F_coder_a1.other W99 (Or.inl ne_a1_nb13r0); have V_ba := V_ba.other W99 ne_ba_nb13r0; have V_nb13 := V_nb13.other W99 ne_nb13_nb13r0; have V_nb13r1 := V_nb13r1.other W99 (Ne.symm ne_nb13r0_nb13r1)
          have V_nb13r2 := V_nb13r2.other W99 (Ne.symm ne_nb13r0_nb13r2); have V_nb13r3 := V_nb13r3.other W99 (Ne.symm ne_nb13r0_nb13r3); have V_nb13r4 := V_nb13r4.other W99 (Ne.symm ne_nb13r0_nb13r4); have O := O.wr W99 g_nb13r0; have K := K.wr W99 (Or.inr sz_nb13r0)
          have N := Fr.snoc X99 N g_nb13r0
          have V_nb13r0 : Arv Z h99 nb13r0 kR13 .int 8 (own_row (own_f [d0, d1, d2, d3, d4, d5, d6]) (k + 1) 0) (.int 0) := (own_setr (own_f [d0, d1, d2, d3, d4, d5, d6]) hk (own_eD (own_f [d0, d1, d2, d3, d4, d5, d6]) hk hcf hc150)) ▸ V99
          refine og_iinc (L' := #[.val (.ref a1), .val (.int 7), .val (.ref nb13), .val (.int ii), .val (.int 123), .val (.ref va), .val (.int 5), .val (.int 1), .val (.ref w0), .val (.int (own_e (own_f [d0, d1, d2, d3, d4, d5, d6]) k 0 (7 - k)))]) (w := 1) X99 hx rfl rfl rfl (hb hby d10_174) rfl ?_
          refine og_goto (pc' := 78) X99 hx (hb hby d10_177) (by decide) (by decide) ?_
          exact J78_1 T99 _ _ (own_mono X99 (by decide) (by decide)) e99 N O K _ (Or.inr (Or.inr ⟨_, rfl⟩)) _ (Or.inr (Or.inl ⟨_, rfl⟩)) E_a1 F_value_a1 F_coder_a1 V_ba V_nb13 V_nb13r0 V_nb13r1 V_nb13r2 V_nb13r3 V_nb13r4
        ·
          refine og_aloadN X97 hx rfl rfl (hb hby d10_153) rfl ?_
          refine og_getstatic X97 hx hZ (host := "") hown (Or.inl (ow119 hw)) Via.refl e97 (S_IC.ext O.2) (hb hby d10_154) rfl (fun T100 X100 e100 => ?_)
          refine og_aaload (v := (.ref nb13r0)) X100 hx hZ e100 rfl V_nb13 ⟨by decide, by decide⟩ rfl (hb hby d10_157) rfl ?_
          refine og_iload X100 hx rfl (hb hby d10_158) rfl ?_
          refine og_iaload (v := (.int (own_e (own_f [d0, d1, d2, d3, d4, d5, d6]) k 0 (own_tab (own_f [d0, d1, d2, d3, d4, d5, d6]) 7 k 0 (7 - k)).toNat))) X100 hx hZ e100 V_nb13r0 (own_eE (own_f [d0, d1, d2, d3, d4, d5, d6]) hk hc150).1 (own_get (own_f [d0, d1, d2, d3, d4, d5, d6]) (own_eE (own_f [d0, d1, d2, d3, d4, d5, d6]) hk hc150).2.1 (own_eE (own_f [d0, d1, d2, d3, d4, d5, d6]) hk hc150).2.2.1 (own_eE (own_f [d0, d1, d2, d3, d4, d5, d6]) hk hc150).2.2.2.1) (hb hby d10_160) rfl ?_
          refine og_istore (L' := #[.val (.ref a1), .val (.int 7), .val (.ref nb13), .val (.int ii), .val (.int 123), .val (.ref va), .val (.int 5), .val (.int 0), .val (.ref w0), .val (.int (own_e (own_f [d0, d1, d2, d3, d4, d5, d6]) k 0 (own_tab (own_f [d0, d1, d2, d3, d4, d5, d6]) 7 k 0 (7 - k)).toNat))]) X100 hx rfl (hb hby d10_161) rfl ?_
          refine og_aloadN X100 hx rfl rfl (hb hby d10_163) rfl ?_
          refine og_aload X100 hx rfl rfl (hb hby d10_164) rfl ?_
          refine og_virtualUp (pc' := 169) (cells' := 6) (slots' := 45) (W := 1) X100 hx hZ (y := (⟨"com/example/nitpick/nitpick/internal/interpolation/ExpressionLiterals$Quoting", "ordinal", "()I"⟩ : MethodName)) (rm_ord l Z a0 hw w0 0 h19 n0 O F_w0) hown (ow98 hw) (ow89 hw) (ow90 hw) (by decide) (ow92 hw) (ow91 hw) (ow93 hw) (ow94 hw) (by decide) (by rw [hml]; rfl) e100 opd_0 [] [(.ref nb13)] rfl rfl rfl rfl (by decide) (by decide) rfl rfl (by decide) (by decide) (E_w0.ext O.2) (hb hby d10_166) rfl (fun v101 T101 h101 L101 X101 e101 z101 => ?_)
          obtain ⟨rfl, Nq101, hq101⟩ := z101; replace e101 := e101.trans hq101; have N := Fr.app N Nq101
          refine og_aaload (v := (.ref nb13r0)) X101 hx hZ e101 rfl V_nb13 ⟨by decide, by decide⟩ rfl (hb hby d10_169) rfl ?_
          refine og_iloadN X101 hx rfl (hb hby d10_170) rfl ?_
          refine og_iload X101 hx rfl (hb hby d10_171) rfl ?_
          refine og_iastore X101 hx hZ e101 V_nb13r0 hx8 (6 - k) hxn (by rw [own_rlen]; omega) (hb hby d10_173) rfl (fun T102 h102 X102 e102 W102 V102 => ?_)
          have E_a1 := E_a1.wr W102; have F_value_a1 := F_value_a1.other W102 (Or.inl ne_a1_nb13r0); have F_coder_a1 := F_coder_a1.other W102 (Or.inl ne_a1_nb13r0); have V_ba := V_ba.other W102 ne_ba_nb13r0; have V_nb13 := V_nb13.other W102 ne_nb13_nb13r0; have V_nb13r1 := V_nb13r1.other W102 (Ne.symm ne_nb13r0_nb13r1)
          have V_nb13r2 := V_nb13r2.other W102 (Ne.symm ne_nb13r0_nb13r2); have V_nb13r3 := V_nb13r3.other W102 (Ne.symm ne_nb13r0_nb13r3); have V_nb13r4 := V_nb13r4.other W102 (Ne.symm ne_nb13r0_nb13r4); have O := O.wr W102 g_nb13r0; have K := K.wr W102 (Or.inr sz_nb13r0)
          have N := Fr.snoc X102 N g_nb13r0
          have V_nb13r0 : Arv Z h102 nb13r0 kR13 .int 8 (own_row (own_f [d0, d1, d2, d3, d4, d5, d6]) (k + 1) 0) (.int 0) := (own_setr (own_f [d0, d1, d2, d3, d4, d5, d6]) hk (own_eF (own_f [d0, d1, d2, d3, d4, d5, d6]) hk hcf (own_eE (own_f [d0, d1, d2, d3, d4, d5, d6]) hk hc150).2.2.2.2)) ▸ V102
          refine og_iinc (L' := #[.val (.ref a1), .val (.int 7), .val (.ref nb13), .val (.int ii), .val (.int 123), .val (.ref va), .val (.int 5), .val (.int 1), .val (.ref w0), .val (.int (own_e (own_f [d0, d1, d2, d3, d4, d5, d6]) k 0 (own_tab (own_f [d0, d1, d2, d3, d4, d5, d6]) 7 k 0 (7 - k)).toNat))]) (w := 1) X102 hx rfl rfl rfl (hb hby d10_174) rfl ?_
          refine og_goto (pc' := 78) X102 hx (hb hby d10_177) (by decide) (by decide) ?_
          exact J78_1 T102 _ _ (own_mono X102 (by decide) (by decide)) e102 N O K _ (Or.inr (Or.inr ⟨_, rfl⟩)) _ (Or.inr (Or.inl ⟨_, rfl⟩)) E_a1 F_value_a1 F_coder_a1 V_ba V_nb13 V_nb13r0 V_nb13r1 V_nb13r2 V_nb13r3 V_nb13r4
      ·
        refine og_aloadN X23 hx rfl rfl (hb hby d10_92) rfl ?_
        refine og_aload X23 hx rfl rfl (hb hby d10_93) rfl ?_
        refine og_iload X23 hx rfl (hb hby d10_95) rfl ?_
        refine og_virtual (pc' := 100) (cells' := 6) (slots' := 45) (W := 1) X23 hx hZ (rm_nx0 l Z a0 hw w0 w1 w2 w3 w4 cc w0 (by simp [hn39, hn34]) h19 n0 O S_CODE S_SINGLE S_SINGLE_ESCAPED S_DOUBLE S_DOUBLE_ESCAPED E_w0 E_w1 E_w2 E_w3 E_w4 F_w0 F_w1 F_w2 F_w3 F_w4) hown (ow83 hw) (ow84 hw) (own_nf hZ (ow86 hw)) (ow86 hw) (ow85 hw) (ow81 hw) (ow87 hw) (by decide) (by rw [hml]; rfl) e23 opd_12 [(.int cc)] [(.ref nb13)] rfl rfl rfl rfl (by decide) (by decide) rfl rfl (by decide) (by decide) (E_w0.ext O.2) (hb hby d10_97) rfl (fun v103 T103 h103 L103 X103 e103 z103 => ?_)
        obtain ⟨rfl, Nq103, hq103⟩ := z103; replace e103 := e103.trans hq103; have N := Fr.app N Nq103
        refine og_virtualUp (pc' := 103) (cells' := 6) (slots' := 45) (W := 1) X103 hx hZ (y := (⟨"com/example/nitpick/nitpick/internal/interpolation/ExpressionLiterals$Quoting", "ordinal", "()I"⟩ : MethodName)) (rm_ord l Z a0 hw w0 0 h19 n0 O F_w0) hown (ow98 hw) (ow89 hw) (ow90 hw) (by decide) (ow92 hw) (ow91 hw) (ow93 hw) (ow94 hw) (by decide) (by rw [hml]; rfl) e103 opd_0 [] [(.ref nb13)] rfl rfl rfl rfl (by decide) (by decide) rfl rfl (by decide) (by decide) (E_w0.ext O.2) (hb hby d10_100) rfl (fun v104 T104 h104 L104 X104 e104 z104 => ?_)
        obtain ⟨rfl, Nq104, hq104⟩ := z104; replace e104 := e104.trans hq104; have N := Fr.app N Nq104
        refine og_aaload (v := (.ref nb13r0)) X104 hx hZ e104 rfl V_nb13 ⟨by decide, by decide⟩ rfl (hb hby d10_103) rfl ?_
        refine og_iloadN X104 hx rfl (hb hby d10_104) rfl ?_
        refine og_iconst (v := 1) X104 hx rfl (hb hby d10_105) rfl ?_
        refine og_iadd X104 hx (hb hby d10_106) rfl ?_
        refine og_iaload (v := (.int (own_e (own_f [d0, d1, d2, d3, d4, d5, d6]) k 0 (7 - k)))) X104 hx hZ e104 V_nb13r0 hy8 (own_get (own_f [d0, d1, d2, d3, d4, d5, d6]) hyn (by omega) (by omega)) (hb hby d10_107) rfl ?_
        refine og_istore (L' := #[.val (.ref a1), .val (.int 7), .val (.ref nb13), .val (.int ii), .val (.int cc), .val (.ref va), .val (.int 5), .val (.int 0), .val (.ref w0), .val (.int (own_e (own_f [d0, d1, d2, d3, d4, d5, d6]) k 0 (7 - k)))]) X104 hx (by rcases hs_sl9 with rfl | ⟨_, rfl⟩ | ⟨_, rfl⟩ <;> rfl) (hb hby d10_108) rfl ?_
        refine og_aload X104 hx rfl rfl (hb hby d10_110) rfl ?_
        refine og_getstatic X104 hx hZ (host := "") hown (Or.inl (ow99 hw)) Via.refl e104 (S_CODE.ext O.2) (hb hby d10_112) rfl (fun T105 X105 e105 => ?_)
        refine og_acmp_ne (pc1 := 133) (pc2 := 118) X105 hx rfl rfl (hb hby d10_115) (by decide) (by decide) rfl (fun q => absurd rfl q) (fun _ => ?_)
        refine og_iload X105 hx rfl (hb hby d10_118) rfl ?_
        refine og_bipush (v := 125) X105 hx rfl (hb hby d10_120) rfl ?_
        refine og_icmp_ne (pc1 := 133) (pc2 := 125) X105 hx (hb hby d10_122) (by decide) (by decide) rfl (fun _ => ?_) (fun q => absurd q hn125)
        refine og_aload X105 hx rfl rfl (hb hby d10_133) rfl ?_
        refine og_getstatic X105 hx hZ (host := "") hown (Or.inl (ow99 hw)) Via.refl e105 (S_CODE.ext O.2) (hb hby d10_135) rfl (fun T106 X106 e106 => ?_)
        refine og_acmp_ne (pc1 := 163) (pc2 := 141) X106 hx rfl rfl (hb hby d10_138) (by decide) (by decide) rfl (fun q => absurd rfl q) (fun _ => ?_)
        refine og_iload X106 hx rfl (hb hby d10_141) rfl ?_
        refine og_bipush (v := 123) X106 hx rfl (hb hby d10_143) rfl ?_
        refine og_icmp_ne (pc1 := 163) (pc2 := 148) X106 hx (hb hby d10_145) (by decide) (by decide) rfl (fun _ => ?_) (fun q => absurd q hn123)
        refine og_aloadN X106 hx rfl rfl (hb hby d10_163) rfl ?_
        refine og_aload X106 hx rfl rfl (hb hby d10_164) rfl ?_
        refine og_virtualUp (pc' := 169) (cells' := 6) (slots' := 45) (W := 1) X106 hx hZ (y := (⟨"com/example/nitpick/nitpick/internal/interpolation/ExpressionLiterals$Quoting", "ordinal", "()I"⟩ : MethodName)) (rm_ord l Z a0 hw w0 0 h19 n0 O F_w0) hown (ow98 hw) (ow89 hw) (ow90 hw) (by decide) (ow92 hw) (ow91 hw) (ow93 hw) (ow94 hw) (by decide) (by rw [hml]; rfl) e106 opd_0 [] [(.ref nb13)] rfl rfl rfl rfl (by decide) (by decide) rfl rfl (by decide) (by decide) (E_w0.ext O.2) (hb hby d10_166) rfl (fun v107 T107 h107 L107 X107 e107 z107 => ?_)
        obtain ⟨rfl, Nq107, hq107⟩ := z107; replace e107 := e107.trans hq107; have N := Fr.app N Nq107
        refine og_aaload (v := (.ref nb13r0)) X107 hx hZ e107 rfl V_nb13 ⟨by decide, by decide⟩ rfl (hb hby d10_169) rfl ?_
        refine og_iloadN X107 hx rfl (hb hby d10_170) rfl ?_
        refine og_iload X107 hx rfl (hb hby d10_171) rfl ?_
        refine og_iastore X107 hx hZ e107 V_nb13r0 hx8 (6 - k) hxn (by rw [own_rlen]; omega) (hb hby d10_173) rfl (fun T108 h108 X108 e108 W108 V108 => ?_)
        have E_a1 := E_a1.wr W108; have F_value_a1 := F_value_a1.other W108 (Or.inl ne_a1_nb13r0); have F_coder_a1 := F_coder_a1.other W108 (Or.inl ne_a1_nb13r0); have V_ba := V_ba.other W108 ne_ba_nb13r0; have V_nb13 := V_nb13.other W108 ne_nb13_nb13r0; have V_nb13r1 := V_nb13r1.other W108 (Ne.symm ne_nb13r0_nb13r1)
        have V_nb13r2 := V_nb13r2.other W108 (Ne.symm ne_nb13r0_nb13r2); have V_nb13r3 := V_nb13r3.other W108 (Ne.symm ne_nb13r0_nb13r3); have V_nb13r4 := V_nb13r4.other W108 (Ne.symm ne_nb13r0_nb13r4); have O := O.wr W108 g_nb13r0; have K := K.wr W108 (Or.inr sz_nb13r0)
        have N := Fr.snoc X108 N g_nb13r0
        have V_nb13r0 : Arv Z h108 nb13r0 kR13 .int 8 (own_row (own_f [d0, d1, d2, d3, d4, d5, d6]) (k + 1) 0) (.int 0) := (own_setr (own_f [d0, d1, d2, d3, d4, d5, d6]) hk (own_eA (own_f [d0, d1, d2, d3, d4, d5, d6]) (q := 0) (r := 0) hk hcf (fun z => hn125 z.2) (fun z => hn123 z.2) (by simp [own_nx, hn39, hn34, hn125, hn123]))) ▸ V108
        refine og_iinc (L' := #[.val (.ref a1), .val (.int 7), .val (.ref nb13), .val (.int ii), .val (.int cc), .val (.ref va), .val (.int 5), .val (.int 1), .val (.ref w0), .val (.int (own_e (own_f [d0, d1, d2, d3, d4, d5, d6]) k 0 (7 - k)))]) (w := 1) X108 hx rfl rfl rfl (hb hby d10_174) rfl ?_
        refine og_goto (pc' := 78) X108 hx (hb hby d10_177) (by decide) (by decide) ?_
        exact J78_1 T108 _ _ (own_mono X108 (by decide) (by decide)) e108 N O K _ (Or.inr (Or.inr ⟨_, rfl⟩)) _ (Or.inr (Or.inl ⟨_, rfl⟩)) E_a1 F_value_a1 F_coder_a1 V_ba V_nb13 V_nb13r0 V_nb13r1 V_nb13r2 V_nb13r3 V_nb13r4
  exact J54 7 0 rfl T18 _ _ (own_mono X18 (by decide) (by decide)) e18 N O K _ (by decide) _ (Or.inr (Or.inl ⟨_, rfl⟩)) _ (Or.inr (Or.inl ⟨_, rfl⟩)) _ (Or.inr (Or.inr ⟨_, rfl⟩)) _ (Or.inl rfl) _ (Or.inl rfl) _ (Or.inl rfl) E_a1 F_value_a1 F_coder_a1 V_ba V_nb13 V_nb13r0 V_nb13r1 V_nb13r2 V_nb13r3 V_nb13r4
theorem rm_eo (l : Launch) (Z : State) (a0 : Array Value) (hw : HW a0 Z) (e1 xa x0 x1 x2 x3 x4 : Addr) (kA kR : ClassId) (d0 d1 d2 d3 d4 d5 d6 : Int32) (dd : Int32) (sn : Nat) (hdd : ¬ (dd + 2) < 0 ∧ (dd + 2) < 8) (hsn : (dd + 2).toNatClampNeg = sn) (hs7 : sn ≤ 7) (r : Int32) (hr : (if own_e (own_f [d0, d1, d2, d3, d4, d5, d6]) 7 0 sn < 0 then (-1 : Int32) else own_e (own_f [d0, d1, d2, d3, d4, d5, d6]) 7 0 sn - 1) = r) (h0 : Heap) (n0 : Nat) (O : Old Z n0 h0) (E_e1 : Exa Z h0 e1 "com/example/nitpick/nitpick/internal/interpolation/ExpressionEnds") (F_exits_e1 : Fld Z h0 e1 "com/example/nitpick/nitpick/internal/interpolation/ExpressionEnds" "exits" "[[I" (.ref xa)) (V_xa : Arv Z h0 xa kA (.array .int) (5 : Int32) [(.ref x0), (.ref x1), (.ref x2), (.ref x3), (.ref x4)] .null) (V_x0 : Arv Z h0 x0 kR .int 8 (own_row (own_f [d0, d1, d2, d3, d4, d5, d6]) 7 0) (.int 0)) (S_IC : Sta Z Z.heap "com/example/nitpick/nitpick/internal/interpolation/ExpressionEnds" "CODE" "I" (.int 0)) :
  Con l Z (⟨"com/example/nitpick/nitpick/internal/interpolation/ExpressionEnds", "endOf", "(I)I"⟩ : MethodName) prog_57_method_3_code 3 (some .int) ({ frames := 0, cells := 0, slots := 0, locals := 0 } : Room) #[(.ref e1), (.int dd)] h0 (fun v h L => v = some (.int r) ∧ Fr n0 L ∧ h = h0) := by
 refine own_startC opn_21 ?_
 intro p e s m below meth c T0 X0 hx hby hml hZ hown hnm hret hlk e0
 have N := Fr.nil n0
 refine OG.cast (oef11 m e1 dd) ?_
 refine og_aloadN X0 hx rfl rfl (hb hby d21_0) rfl ?_
 refine og_getfield X0 hx hZ (host := "") hown (Or.inl (ow112 hw)) Via.refl e0 F_exits_e1 (hb hby d21_1) rfl (fun T11 X11 e11 => ?_)
 refine og_getstatic X11 hx hZ (host := "") hown (Or.inl (ow119 hw)) Via.refl e11 (S_IC.ext O.2) (hb hby d21_4) rfl (fun T12 X12 e12 => ?_)
 refine og_aaload (v := (.ref x0)) X12 hx hZ e12 rfl V_xa ⟨by decide, by decide⟩ rfl (hb hby d21_7) rfl ?_
 refine og_iloadN X12 hx rfl (hb hby d21_8) rfl ?_
 refine og_iconst (v := 2) X12 hx rfl (hb hby d21_9) rfl ?_
 refine og_iadd X12 hx (hb hby d21_10) rfl ?_
 refine og_iaload (v := (.int (own_e (own_f [d0, d1, d2, d3, d4, d5, d6]) 7 0 sn))) X12 hx hZ e12 V_x0 hdd (own_get (own_f [d0, d1, d2, d3, d4, d5, d6]) hsn (by omega) hs7) (hb hby d21_11) rfl ?_
 refine og_istoreN (L' := #[.val (.ref e1), .val (.int dd), .val (.int (own_e (own_f [d0, d1, d2, d3, d4, d5, d6]) 7 0 sn))]) X12 hx rfl (hb hby d21_12) rfl ?_
 refine og_iloadN X12 hx rfl (hb hby d21_13) rfl ?_
 refine og_if_ge (pc1 := 21) (pc2 := 17) X12 hx (hb hby d21_14) (by decide) (by decide) rfl (fun hc14 => ?_) (fun hc14 => ?_)
 ·
  refine og_iloadN X12 hx rfl (hb hby d21_21) rfl ?_
  refine og_iconst (v := 1) X12 hx rfl (hb hby d21_22) rfl ?_
  refine og_isub X12 hx (hb hby d21_23) rfl ?_
  refine og_retI X12 hx hlk hret (hb hby d21_24) (by decide) (by decide) ?_
  rw [e12]; refine ⟨?_, N, rfl⟩
  rw [← hr, if_neg hc14]
 ·
  refine og_iconst (v := -1) X12 hx rfl (hb hby d21_17) rfl ?_
  refine og_goto (pc' := 24) X12 hx (hb hby d21_18) (by decide) (by decide) ?_
  refine og_retI X12 hx hlk hret (hb hby d21_24) (by decide) (by decide) ?_
  rw [e12]; refine ⟨?_, N, rfl⟩
  rw [← hr, if_pos hc14]
theorem rm0 (l : Launch) (Z : State) (a0 : Array Value) (hw : HW a0 Z) (ws : List Jvm.Cond) (p1 p2 p3 p4 p5 p6 : Int32) (va w0 w1 w2 w3 w4 : Addr) (kv : ClassId) (cs : Int32) (hcs : ¬ cs = 0) (fm : Value) (hfm : fm.isRef = true) (h0 : Heap) (n0 : Nat) (O : Old Z n0 h0) (S_QU : Sta Z Z.heap "com/example/nitpick/nitpick/internal/interpolation/ExpressionEnds" "QUOTINGS" "[Lcom/example/nitpick/nitpick/internal/interpolation/ExpressionLiterals$Quoting;" (.ref va)) (V_va : Arv Z Z.heap va kv (.object "com/example/nitpick/nitpick/internal/interpolation/ExpressionLiterals$Quoting") (5 : Int32) [(.ref w0), (.ref w1), (.ref w2), (.ref w3), (.ref w4)] .null) (S_IC : Sta Z Z.heap "com/example/nitpick/nitpick/internal/interpolation/ExpressionEnds" "CODE" "I" (.int 0)) (S_CS : Sta Z Z.heap "java/lang/String" "COMPACT_STRINGS" "Z" (.int cs)) (S_FM : Sta Z Z.heap "jdk/internal/util/Preconditions" "SIOOBE_FORMATTER" "Ljava/util/function/BiFunction;" fm) (S_CODE : Sta Z Z.heap "com/example/nitpick/nitpick/internal/interpolation/ExpressionLiterals$Quoting" "CODE" "Lcom/example/nitpick/nitpick/internal/interpolation/ExpressionLiterals$Quoting;" (.ref w0)) (S_SINGLE : Sta Z Z.heap "com/example/nitpick/nitpick/internal/interpolation/ExpressionLiterals$Quoting" "SINGLE" "Lcom/example/nitpick/nitpick/internal/interpolation/ExpressionLiterals$Quoting;" (.ref w1)) (S_SINGLE_ESCAPED : Sta Z Z.heap "com/example/nitpick/nitpick/internal/interpolation/ExpressionLiterals$Quoting" "SINGLE_ESCAPED" "Lcom/example/nitpick/nitpick/internal/interpolation/ExpressionLiterals$Quoting;" (.ref w2)) (S_DOUBLE : Sta Z Z.heap "com/example/nitpick/nitpick/internal/interpolation/ExpressionLiterals$Quoting" "DOUBLE" "Lcom/example/nitpick/nitpick/internal/interpolation/ExpressionLiterals$Quoting;" (.ref w3)) (S_DOUBLE_ESCAPED : Sta Z Z.heap "com/example/nitpick/nitpick/internal/interpolation/ExpressionLiterals$Quoting" "DOUBLE_ESCAPED" "Lcom/example/nitpick/nitpick/internal/interpolation/ExpressionLiterals$Quoting;" (.ref w4)) (E_w0 : Exa Z Z.heap w0 "com/example/nitpick/nitpick/internal/interpolation/ExpressionLiterals$Quoting") (E_w1 : Exa Z Z.heap w1 "com/example/nitpick/nitpick/internal/interpolation/ExpressionLiterals$Quoting") (E_w2 : Exa Z Z.heap w2 "com/example/nitpick/nitpick/internal/interpolation/ExpressionLiterals$Quoting") (E_w3 : Exa Z Z.heap w3 "com/example/nitpick/nitpick/internal/interpolation/ExpressionLiterals$Quoting") (E_w4 : Exa Z Z.heap w4 "com/example/nitpick/nitpick/internal/interpolation/ExpressionLiterals$Quoting") (F_w0 : Fld Z Z.heap w0 "java/lang/Enum" "ordinal" "I" (.int 0)) (F_w1 : Fld Z Z.heap w1 "java/lang/Enum" "ordinal" "I" (.int 1)) (F_w2 : Fld Z Z.heap w2 "java/lang/Enum" "ordinal" "I" (.int 2)) (F_w3 : Fld Z Z.heap w3 "java/lang/Enum" "ordinal" "I" (.int 3)) (F_w4 : Fld Z Z.heap w4 "java/lang/Enum" "ordinal" "I" (.int 4)) (ne_w1_w0 : w1 ≠ w0) (ne_w2_w0 : w2 ≠ w0) (ne_w3_w0 : w3 ≠ w0) (ne_w4_w0 : w4 ≠ w0) :
  MetFree l x (head1 (Jvm.Cond.code x code maxLocals ret :: ws) room_1) (fun a U => a = #[(.int p1), (.int p2), (.int p3), (.int p4), (.int p5), (.int p6)] ∧ Z.Warmed39 U.vm ∧ U.heap = h0) (fun _ _ _ _ _ => True) (fun _ U o U' => ∃ v L, o = .returned v ∧ (fun v h L => v = some (.int 1) ∧ Fr n0 L) v U'.heap L ∧ FrameEnd U o U' L 32 192) := by
 refine own_start (Q := fun v h L => v = some (.int 1) ∧ Fr n0 L) opn_0 ?_
 intro p e s m below meth c T0 X0 hx hby hml hZ hown hnm hret hlk e0
 have N := Fr.nil n0
 refine OG.cast (oef12 m p1 p2 p3 p4 p5 p6) ?_
 refine og_bipush (v := 7) X0 hx rfl (hb hby at_0) rfl ?_
 refine og_newarray (pc' := 4) (cells' := 1) (slots' := 7) (cap := 7) (ty := .char) X0 hx hZ rfl (ow0 hw) e0 (by decide) (by decide) (by decide) (hb hby at_2) rfl rfl rfl (by decide) (by decide) (fun T11 h11 nb11 kA11 X11 e11 E11 q11 V_nb11 => ?_)
 have s_nb11 : h0.size ≤ nb11 := Nat.le_of_eq q11.symm; have g_nb11 : n0 ≤ nb11 := Nat.le_trans (own_n0 O) s_nb11
 have O := O.ext E11
 have V_nb11 : Arv Z h11 nb11 kA11 .char (7 : Int32) [(.int 0), (.int 0), (.int 0), (.int 0), (.int 0), (.int 0), (.int 0)] (.int 0) := V_nb11.pad (pad_rep [] (.int 0) 7)
 refine og_astore (L' := #[.val (.int p1), .val (.int p2), .val (.int p3), .val (.int p4), .val (.int p5), .val (.int p6), .val (.ref nb11), .unset, .unset, .unset, .unset, .unset]) X11 hx rfl rfl (hb hby at_4) rfl ?_
 refine og_aload X11 hx rfl rfl (hb hby at_6) rfl ?_
 refine og_iconst (v := 0) X11 hx rfl (hb hby at_8) rfl ?_
 refine og_iloadN X11 hx rfl (hb hby at_9) rfl ?_
 refine og_static (pc' := 13) (cells' := 1) (slots' := 7) (W := 2) X11 hx hZ (rm_pk l Z a0 hw p1 h11 n0 O) hown (ow1 hw) (ow2 hw) (ow3 hw) (ow4 hw) (by decide) (by rw [hml]; rfl) e11 opd_11 [(.int p1)] [(.int 0), (.ref nb11)] rfl rfl rfl rfl (by decide) (by decide) rfl rfl (by decide) (by decide) (hb hby at_10) rfl (fun v12 T12 h12 L12 X12 e12 z12 => ?_)
 obtain ⟨c0, rfl, Nq12, hq12, hc0⟩ := z12; replace e12 := e12.trans hq12; have N := Fr.app N Nq12
 refine og_castore X12 hx hZ e12 V_nb11 ⟨by decide, by decide⟩ 0 (by decide) (Nat.le_of_ble_eq_true rfl) (hb hby at_13) rfl (fun T13 h13 X13 e13 W13 V13 => ?_)
 have O := O.wr W13 g_nb11
 have N := Fr.snoc X13 N g_nb11
 have V_nb11 : Arv Z h13 nb11 kA11 .char (7 : Int32) [(.int (nar .char c0)), (.int 0), (.int 0), (.int 0), (.int 0), (.int 0), (.int 0)] (.int 0) := V13
 rw [own_nc hc0] at V_nb11
 refine og_aload X13 hx rfl rfl (hb hby at_14) rfl ?_
 refine og_iconst (v := 1) X13 hx rfl (hb hby at_16) rfl ?_
 refine og_iloadN X13 hx rfl (hb hby at_17) rfl ?_
 refine og_static (pc' := 21) (cells' := 1) (slots' := 7) (W := 2) X13 hx hZ (rm_pk l Z a0 hw p2 h13 n0 O) hown (ow1 hw) (ow2 hw) (ow3 hw) (ow4 hw) (by decide) (by rw [hml]; rfl) e13 opd_11 [(.int p2)] [(.int 1), (.ref nb11)] rfl rfl rfl rfl (by decide) (by decide) rfl rfl (by decide) (by decide) (hb hby at_18) rfl (fun v14 T14 h14 L14 X14 e14 z14 => ?_)
 obtain ⟨c1, rfl, Nq14, hq14, hc1⟩ := z14; replace e14 := e14.trans hq14; have N := Fr.app N Nq14
 refine og_castore X14 hx hZ e14 V_nb11 ⟨by decide, by decide⟩ 1 (by decide) (Nat.le_of_ble_eq_true rfl) (hb hby at_21) rfl (fun T15 h15 X15 e15 W15 V15 => ?_)
 have O := O.wr W15 g_nb11
 have N := Fr.snoc X15 N g_nb11
 have V_nb11 : Arv Z h15 nb11 kA11 .char (7 : Int32) [(.int c0), (.int (nar .char c1)), (.int 0), (.int 0), (.int 0), (.int 0), (.int 0)] (.int 0) := V15
 rw [own_nc hc1] at V_nb11
 refine og_aload X15 hx rfl rfl (hb hby at_22) rfl ?_
 refine og_iconst (v := 2) X15 hx rfl (hb hby at_24) rfl ?_
 refine og_iloadN X15 hx rfl (hb hby at_25) rfl ?_
 refine og_static (pc' := 29) (cells' := 1) (slots' := 7) (W := 2) X15 hx hZ (rm_pk l Z a0 hw p3 h15 n0 O) hown (ow1 hw) (ow2 hw) (ow3 hw) (ow4 hw) (by decide) (by rw [hml]; rfl) e15 opd_11 [(.int p3)] [(.int 2), (.ref nb11)] rfl rfl rfl rfl (by decide) (by decide) rfl rfl (by decide) (by decide) (hb hby at_26) rfl (fun v16 T16 h16 L16 X16 e16 z16 => ?_)
 obtain ⟨c2, rfl, Nq16, hq16, hc2⟩ := z16; replace e16 := e16.trans hq16; have N := Fr.app N Nq16
 refine og_castore X16 hx hZ e16 V_nb11 ⟨by decide, by decide⟩ 2 (by decide) (Nat.le_of_ble_eq_true rfl) (hb hby at_29) rfl (fun T17 h17 X17 e17 W17 V17 => ?_)
 have O := O.wr W17 g_nb11
 have N := Fr.snoc X17 N g_nb11
 have V_nb11 : Arv Z h17 nb11 kA11 .char (7 : Int32) [(.int c0), (.int c1), (.int (nar .char c2)), (.int 0), (.int 0), (.int 0), (.int 0)] (.int 0) := V17
 rw [own_nc hc2] at V_nb11
 refine og_aload X17 hx rfl rfl (hb hby at_30) rfl ?_
 refine og_iconst (v := 3) X17 hx rfl (hb hby at_32) rfl ?_
 refine og_iloadN X17 hx rfl (hb hby at_33) rfl ?_
 refine og_static (pc' := 37) (cells' := 1) (slots' := 7) (W := 2) X17 hx hZ (rm_pk l Z a0 hw p4 h17 n0 O) hown (ow1 hw) (ow2 hw) (ow3 hw) (ow4 hw) (by decide) (by rw [hml]; rfl) e17 opd_11 [(.int p4)] [(.int 3), (.ref nb11)] rfl rfl rfl rfl (by decide) (by decide) rfl rfl (by decide) (by decide) (hb hby at_34) rfl (fun v18 T18 h18 L18 X18 e18 z18 => ?_)
 obtain ⟨c3, rfl, Nq18, hq18, hc3⟩ := z18; replace e18 := e18.trans hq18; have N := Fr.app N Nq18
 refine og_castore X18 hx hZ e18 V_nb11 ⟨by decide, by decide⟩ 3 (by decide) (Nat.le_of_ble_eq_true rfl) (hb hby at_37) rfl (fun T19 h19 X19 e19 W19 V19 => ?_)
 have O := O.wr W19 g_nb11
 have N := Fr.snoc X19 N g_nb11
 have V_nb11 : Arv Z h19 nb11 kA11 .char (7 : Int32) [(.int c0), (.int c1), (.int c2), (.int (nar .char c3)), (.int 0), (.int 0), (.int 0)] (.int 0) := V19
 rw [own_nc hc3] at V_nb11
 refine og_aload X19 hx rfl rfl (hb hby at_38) rfl ?_
 refine og_iconst (v := 4) X19 hx rfl (hb hby at_40) rfl ?_
 refine og_iload X19 hx rfl (hb hby at_41) rfl ?_
 refine og_static (pc' := 46) (cells' := 1) (slots' := 7) (W := 2) X19 hx hZ (rm_pk l Z a0 hw p5 h19 n0 O) hown (ow1 hw) (ow2 hw) (ow3 hw) (ow4 hw) (by decide) (by rw [hml]; rfl) e19 opd_11 [(.int p5)] [(.int 4), (.ref nb11)] rfl rfl rfl rfl (by decide) (by decide) rfl rfl (by decide) (by decide) (hb hby at_43) rfl (fun v20 T20 h20 L20 X20 e20 z20 => ?_)
 obtain ⟨c4, rfl, Nq20, hq20, hc4⟩ := z20; replace e20 := e20.trans hq20; have N := Fr.app N Nq20
 refine og_castore X20 hx hZ e20 V_nb11 ⟨by decide, by decide⟩ 4 (by decide) (Nat.le_of_ble_eq_true rfl) (hb hby at_46) rfl (fun T21 h21 X21 e21 W21 V21 => ?_)
 have O := O.wr W21 g_nb11
 have N := Fr.snoc X21 N g_nb11
 have V_nb11 : Arv Z h21 nb11 kA11 .char (7 : Int32) [(.int c0), (.int c1), (.int c2), (.int c3), (.int (nar .char c4)), (.int 0), (.int 0)] (.int 0) := V21
 rw [own_nc hc4] at V_nb11
 refine og_aload X21 hx rfl rfl (hb hby at_47) rfl ?_
 refine og_iconst (v := 5) X21 hx rfl (hb hby at_49) rfl ?_
 refine og_iload X21 hx rfl (hb hby at_50) rfl ?_
 refine og_static (pc' := 55) (cells' := 1) (slots' := 7) (W := 2) X21 hx hZ (rm_pk l Z a0 hw p6 h21 n0 O) hown (ow1 hw) (ow2 hw) (ow3 hw) (ow4 hw) (by decide) (by rw [hml]; rfl) e21 opd_11 [(.int p6)] [(.int 5), (.ref nb11)] rfl rfl rfl rfl (by decide) (by decide) rfl rfl (by decide) (by decide) (hb hby at_52) rfl (fun v22 T22 h22 L22 X22 e22 z22 => ?_)
 obtain ⟨c5, rfl, Nq22, hq22, hc5⟩ := z22; replace e22 := e22.trans hq22; have N := Fr.app N Nq22
 refine og_castore X22 hx hZ e22 V_nb11 ⟨by decide, by decide⟩ 5 (by decide) (Nat.le_of_ble_eq_true rfl) (hb hby at_55) rfl (fun T23 h23 X23 e23 W23 V23 => ?_)
 have O := O.wr W23 g_nb11
 have N := Fr.snoc X23 N g_nb11
 have V_nb11 : Arv Z h23 nb11 kA11 .char (7 : Int32) [(.int c0), (.int c1), (.int c2), (.int c3), (.int c4), (.int (nar .char c5)), (.int 0)] (.int 0) := V23
 rw [own_nc hc5] at V_nb11
 refine og_aload X23 hx rfl rfl (hb hby at_56) rfl ?_
 refine og_bipush (v := 6) X23 hx rfl (hb hby at_58) rfl ?_
 refine og_iloadN X23 hx rfl (hb hby at_60) rfl ?_
 refine og_bipush (v := 11) X23 hx rfl (hb hby at_61) rfl ?_
 refine og_iushr X23 hx (hb hby at_63) rfl ?_
 refine og_static (pc' := 67) (cells' := 1) (slots' := 7) (W := 2) X23 hx hZ (rm_pk l Z a0 hw ((p1.toUInt32 >>> ((11 : Int32) &&& 31).toUInt32).toInt32) h23 n0 O) hown (ow1 hw) (ow2 hw) (ow3 hw) (ow4 hw) (by decide) (by rw [hml]; rfl) e23 opd_11 [(.int ((p1.toUInt32 >>> ((11 : Int32) &&& 31).toUInt32).toInt32))] [(.int 6), (.ref nb11)] rfl rfl rfl rfl (by decide) (by decide) rfl rfl (by decide) (by decide) (hb hby at_64) rfl (fun v24 T24 h24 L24 X24 e24 z24 => ?_)
 obtain ⟨c6, rfl, Nq24, hq24, hc6⟩ := z24; replace e24 := e24.trans hq24; have N := Fr.app N Nq24
 refine og_castore X24 hx hZ e24 V_nb11 ⟨by decide, by decide⟩ 6 (by decide) (Nat.le_of_ble_eq_true rfl) (hb hby at_67) rfl (fun T25 h25 X25 e25 W25 V25 => ?_)
 have O := O.wr W25 g_nb11
 have N := Fr.snoc X25 N g_nb11
 have V_nb11 : Arv Z h25 nb11 kA11 .char (7 : Int32) [(.int c0), (.int c1), (.int c2), (.int c3), (.int c4), (.int c5), (.int (nar .char c6))] (.int 0) := V25
 rw [own_nc hc6] at V_nb11
 refine og_iloadN X25 hx rfl (hb hby at_68) rfl ?_
 refine og_bipush (v := 11) X25 hx rfl (hb hby at_69) rfl ?_
 refine og_iushr X25 hx (hb hby at_71) rfl ?_
 refine og_bipush (v := 6) X25 hx rfl (hb hby at_72) rfl ?_
 refine og_irem (pc' := 75) X25 hx (by decide) (hb hby at_74) rfl ?_
 refine og_istore (L' := #[.val (.int p1), .val (.int p2), .val (.int p3), .val (.int p4), .val (.int p5), .val (.int p6), .val (.ref nb11), .val (.int (((p2.toUInt32 >>> ((11 : Int32) &&& 31).toUInt32).toInt32) % (6 : Int32))), .unset, .unset, .unset, .unset]) X25 hx rfl (hb hby at_75) rfl ?_
 obtain ⟨dd, h_dd⟩ : ∃ z, z = (((p2.toUInt32 >>> ((11 : Int32) &&& 31).toUInt32).toInt32) % (6 : Int32)) := ⟨_, rfl⟩
 rw [← h_dd]
 obtain ⟨sn, hdd, hsn, hst, hs2, hs7⟩ := own_dd (h_dd ▸ own_dr p2)
 refine og_iload X25 hx rfl (hb hby at_77) rfl ?_
 refine og_iconst (v := 2) X25 hx rfl (hb hby at_79) rfl ?_
 refine og_iadd X25 hx (hb hby at_80) rfl ?_
 refine og_istore (L' := #[.val (.int p1), .val (.int p2), .val (.int p3), .val (.int p4), .val (.int p5), .val (.int p6), .val (.ref nb11), .val (.int dd), .val (.int (dd + (2 : Int32))), .unset, .unset, .unset]) X25 hx rfl (hb hby at_81) rfl ?_
 refine og_new (pc' := 86) (cells' := 2) (slots' := 11) X25 hx hZ hown (ow5 hw) (ow6 hw) (ow7 hw) e25 (hb hby at_83) rfl rfl rfl (by decide) (by decide) (fun T26 h26 nb26 X26 e26 E26 q26 E_nb26 D26 B26 => ?_)
 have s_nb26 : h25.size ≤ nb26 := Nat.le_of_eq q26.symm; have g_nb26 : n0 ≤ nb26 := Nat.le_trans (own_n0 O) s_nb26
 have ne_nb11_nb26 : nb11 ≠ nb26 := Nat.ne_of_lt (Nat.lt_of_lt_of_le V_nb11.lt s_nb26)
 have V_nb11 := V_nb11.ext E26; have O := O.ext E26
 have F_coder_nb26 : Fld Z h26 nb26 "java/lang/String" "coder" "B" (.int 0) := D26 (Or.inr (ow31 hw)) (ty := .byte) (by decide)
 have F_value_nb26 : Fld Z h26 nb26 "java/lang/String" "value" "[B" .null := D26 (Or.inr (ow33 hw)) (ty := (.array .byte)) (by decide)
 refine og_dup X26 hx rfl (hb hby at_86) rfl ?_
 refine og_aload X26 hx rfl rfl (hb hby at_87) rfl ?_
 refine og_special (pc' := 92) (cells' := 3) (slots' := 18) (W := 1) X26 hx hZ (rm_sn_7 l Z a0 hw nb26 nb11 kA11 c0 c1 c2 c3 c4 c5 c6 (own_le255 hc0) (own_le255 hc1) (own_le255 hc2) (own_le255 hc3) (own_le255 hc4) (own_le255 hc5) (own_le255 hc6) cs hcs h26 n0 O E_nb26 F_value_nb26 F_coder_nb26 V_nb11 S_CS g_nb26 ne_nb11_nb26) rfl hown (ow8 hw) (ow9 hw) (ow7 hw) (ow10 hw) (by decide) (by rw [hml]; rfl) e26 opd_13 [(.ref nb11)] [(.ref nb26)] rfl rfl rfl rfl (by decide) (by decide) rfl rfl (by decide) (by decide) (hb hby at_89) rfl (fun v27 T27 h27 L27 X27 e27 z27 => ?_)
 obtain ⟨nb27, k27, rfl, Nq27, K27, sb27, E_nb26', F_value_nb26', F_coder_nb26', V_nb27⟩ := z27; have N := Fr.app N Nq27
 have V_nb11 := V_nb11.keep K27 (ninS ne_nb11_nb26 nin0); have O := O.keep K27 (allS g_nb26 all0)
 have E_nb26 := E_nb26'; have F_value_nb26 := F_value_nb26'; have F_coder_nb26 := F_coder_nb26'
 refine og_astore (L' := #[.val (.int p1), .val (.int p2), .val (.int p3), .val (.int p4), .val (.int p5), .val (.int p6), .val (.ref nb11), .val (.int dd), .val (.int (dd + (2 : Int32))), .val (.ref nb26), .unset, .unset]) X27 hx rfl rfl (hb hby at_92) rfl ?_
 refine og_iconst (v := 0) X27 hx rfl (hb hby at_94) rfl ?_
 refine og_istore (L' := #[.val (.int p1), .val (.int p2), .val (.int p3), .val (.int p4), .val (.int p5), .val (.int p6), .val (.ref nb11), .val (.int dd), .val (.int (dd + (2 : Int32))), .val (.ref nb26), .val (.int 0), .unset]) X27 hx rfl (hb hby at_95) rfl ?_
 refine og_iconst (v := -1) X27 hx rfl (hb hby at_97) rfl ?_
 refine og_istore (L' := #[.val (.int p1), .val (.int p2), .val (.int p3), .val (.int p4), .val (.int p5), .val (.int p6), .val (.ref nb11), .val (.int dd), .val (.int (dd + (2 : Int32))), .val (.ref nb26), .val (.int 0), .val (.int (-1))]) X27 hx rfl (hb hby at_98) rfl ?_
 have J7 : ∀ (T28 : State) (l28 : List Loc) (X28 : Stand p l e room_1 s m #[(.int p1), (.int p2), (.int p3), (.int p4), (.int p5), (.int p6)] below meth c T28 l28 3 18) (e28 : T28.heap = h27) (N : Fr n0 l28) (xx ans : Int32) (hp : own_P (own_f [c0, c1, c2, c3, c4, c5, c6]) sn 7 xx ans), OG p e below (OFin s (fun v h L => v = some (.int 1) ∧ Fr n0 L) 32 192) (T28.setTop (mkF m 304 #[.val (.int p1), .val (.int p2), .val (.int p3), .val (.int p4), .val (.int p5), .val (.int p6), .val (.ref nb11), .val (.int dd), .val (.int (dd + (2 : Int32))), .val (.ref nb26), .val (.int xx), .val (.int ans)] [])) := by
  intro T28 l28 X28 e28 N xx ans hp
  refine og_aload X28 hx rfl rfl (hb hby at_304) rfl ?_
  refine og_static (pc' := 309) (cells' := 10) (slots' := 64) (W := 0) X28 hx hZ (rm_of l Z a0 hw nb26 nb27 va k27 kv c0 c1 c2 c3 c4 c5 c6 hc0 hc1 hc2 hc3 hc4 hc5 hc6 cs hcs fm hfm w0 w1 w2 w3 w4 h27 n0 O E_nb26 F_value_nb26 F_coder_nb26 V_nb27 S_QU V_va S_IC S_CS S_FM S_CODE S_SINGLE S_SINGLE_ESCAPED S_DOUBLE S_DOUBLE_ESCAPED E_w0 E_w1 E_w2 E_w3 E_w4 F_w0 F_w1 F_w2 F_w3 F_w4 ne_w1_w0 ne_w2_w0 ne_w3_w0 ne_w4_w0) hown (ow40 hw) (ow41 hw) (ow42 hw) (ow43 hw) (by decide) (by rw [hml]; rfl) e28 opd_14 [(.ref nb26)] [] rfl rfl rfl rfl (by decide) (by decide) rfl rfl (by decide) (by decide) (hb hby at_306) rfl (fun v29 T29 h29 L29 X29 e29 z29 => ?_)
  obtain ⟨nr29, nx29, nx29_0, nx29_1, nx29_2, nx29_3, nx29_4, kA29, kR29, rfl, Nq29, K29, E_nr29, F_exits_nr29, V_nx29, V_nx29_0⟩ := z29; have N := Fr.app N Nq29
  have O := O.keep K29 all0
  refine og_iload X29 hx rfl (hb hby at_309) rfl ?_
  refine og_virtual (pc' := 314) (cells' := 10) (slots' := 64) (W := 0) X29 hx hZ (rm_eo l Z a0 hw nr29 nx29 nx29_0 nx29_1 nx29_2 nx29_3 nx29_4 kA29 kR29 c0 c1 c2 c3 c4 c5 c6 dd sn hdd hsn hs7 _ rfl h29 n0 O E_nr29 F_exits_nr29 V_nx29 V_nx29_0 S_IC) hown (ow114 hw) (ow115 hw) (own_nf hZ (ow117 hw)) (ow117 hw) (ow116 hw) (ow42 hw) (ow118 hw) (by decide) (by rw [hml]; rfl) e29 opd_15 [(.int dd)] [] rfl rfl rfl rfl (by decide) (by decide) rfl rfl (by decide) (by decide) E_nr29 (hb hby at_311) rfl (fun v30 T30 h30 L30 X30 e30 z30 => ?_)
  obtain ⟨rfl, Nq30, hq30⟩ := z30; replace e30 := e30.trans hq30; have N := Fr.app N Nq30
  refine og_iload X30 hx rfl (hb hby at_314) rfl ?_
  refine og_icmp_ne (pc1 := 323) (pc2 := 319) X30 hx (hb hby at_316) (by decide) (by decide) rfl (fun q => absurd (own_law hp hs7) q) (fun _ => ?_)
  refine og_iconst (v := 1) X30 hx rfl (hb hby at_319) rfl ?_
  refine og_goto (pc' := 324) X30 hx (hb hby at_320) (by decide) (by decide) ?_
  refine og_retN X30 hx hlk hret (by simp) (hb hby at_324) (by decide) (by decide) ?_
  exact ⟨rfl, N⟩
 have J6 : ∀ (T31 : State) (l31 : List Loc) (X31 : Stand p l e room_1 s m #[(.int p1), (.int p2), (.int p3), (.int p4), (.int p5), (.int p6)] below meth c T31 l31 3 18) (e31 : T31.heap = h27) (N : Fr n0 l31) (xx ans : Int32) (hp : own_P (own_f [c0, c1, c2, c3, c4, c5, c6]) sn 6 xx ans), OG p e below (OFin s (fun v h L => v = some (.int 1) ∧ Fr n0 L) 32 192) (T31.setTop (mkF m 260 #[.val (.int p1), .val (.int p2), .val (.int p3), .val (.int p4), .val (.int p5), .val (.int p6), .val (.ref nb11), .val (.int dd), .val (.int (dd + (2 : Int32))), .val (.ref nb26), .val (.int xx), .val (.int ans)] [])) := by
  intro T31 l31 X31 e31 N xx ans hp
  refine og_iload X31 hx rfl (hb hby at_260) rfl ?_
  refine og_if_ge (pc1 := 304) (pc2 := 265) X31 hx (hb hby at_262) (by decide) (by decide) rfl (fun hc262 => ?_) (fun hc262 => ?_)
  ·
   exact J7 T31 _ X31 e31 N _ _ (own_Pa hp hc262)
  ·
   refine og_bipush (v := 6) X31 hx rfl (hb hby at_265) rfl ?_
   refine og_iload X31 hx rfl (hb hby at_267) rfl ?_
   refine og_icmp_lt (pc1 := 304) (pc2 := 272) X31 hx (hb hby at_269) (by decide) (by decide) rfl (fun hc269 => ?_) (fun hc269 => ?_)
   ·
    exact J7 T31 _ X31 e31 N _ _ (own_Pb hp hc262 ((own_lts (i := 6) hst (z := (6 : Int32)) (by decide)).mp hc269))
   ·
    refine og_iload X31 hx rfl (hb hby at_272) rfl ?_
    refine og_aload X31 hx rfl rfl (hb hby at_274) rfl ?_
    refine og_bipush (v := 6) X31 hx rfl (hb hby at_276) rfl ?_
    refine og_caload (v := (.int c6)) X31 hx hZ e31 V_nb11 ⟨by decide, by decide⟩ rfl (hb hby at_278) rfl ?_
    refine og_static (pc' := 282) (cells' := 3) (slots' := 18) (W := 0) X31 hx hZ (rm_cl l Z a0 hw xx c6 _ rfl h27 n0 O) hown (ow34 hw) (ow35 hw) (ow3 hw) (ow36 hw) (by decide) (by rw [hml]; rfl) e31 opd_16 [(.int xx), (.int c6)] [] rfl rfl rfl rfl (by decide) (by decide) rfl rfl (by decide) (by decide) (hb hby at_279) rfl (fun v32 T32 h32 L32 X32 e32 z32 => ?_)
    obtain ⟨rfl, Nq32, hq32⟩ := z32; replace e32 := e32.trans hq32; have N := Fr.app N Nq32
    refine og_if_eq (pc1 := 292) (pc2 := 285) X32 hx (hb hby at_282) (by decide) (by decide) rfl (fun hc282 => ?_) (fun hc282 => ?_)
    ·
     refine og_iload X32 hx rfl (hb hby at_292) rfl ?_
     refine og_aload X32 hx rfl rfl (hb hby at_294) rfl ?_
     refine og_bipush (v := 6) X32 hx rfl (hb hby at_296) rfl ?_
     refine og_caload (v := (.int c6)) X32 hx hZ e32 V_nb11 ⟨by decide, by decide⟩ rfl (hb hby at_298) rfl ?_
     refine og_static (pc' := 302) (cells' := 3) (slots' := 18) (W := 0) X32 hx hZ (rm_st l Z a0 hw xx c6 _ rfl h27 n0 O) hown (ow37 hw) (ow38 hw) (ow3 hw) (ow39 hw) (by decide) (by rw [hml]; rfl) e32 opd_17 [(.int xx), (.int c6)] [] rfl rfl rfl rfl (by decide) (by decide) rfl rfl (by decide) (by decide) (hb hby at_299) rfl (fun v33 T33 h33 L33 X33 e33 z33 => ?_)
     obtain ⟨rfl, Nq33, hq33⟩ := z33; replace e33 := e33.trans hq33; have N := Fr.app N Nq33
     refine og_istore (L' := #[.val (.int p1), .val (.int p2), .val (.int p3), .val (.int p4), .val (.int p5), .val (.int p6), .val (.ref nb11), .val (.int dd), .val (.int (dd + (2 : Int32))), .val (.ref nb26), .val (.int (own_stp xx c6)), .val (.int ans)]) X33 hx rfl (hb hby at_302) rfl ?_
     exact J7 T33 _ X33 e33 N _ _ (own_Pd hp hc262 (fun z => hc269 ((own_lts (i := 6) hst (z := (6 : Int32)) (by decide)).mpr z)) (by decide) rfl hc282)
    ·
     refine og_bipush (v := 6) X32 hx rfl (hb hby at_285) rfl ?_
     refine og_istore (L' := #[.val (.int p1), .val (.int p2), .val (.int p3), .val (.int p4), .val (.int p5), .val (.int p6), .val (.ref nb11), .val (.int dd), .val (.int (dd + (2 : Int32))), .val (.ref nb26), .val (.int xx), .val (.int 6)]) X32 hx rfl (hb hby at_287) rfl ?_
     refine og_goto (pc' := 304) X32 hx (hb hby at_289) (by decide) (by decide) ?_
     exact J7 T32 _ X32 e32 N _ _ (own_Pc hp hc262 (fun z => hc269 ((own_lts (i := 6) hst (z := (6 : Int32)) (by decide)).mpr z)) (by decide) rfl hc282)
 have J5 : ∀ (T34 : State) (l34 : List Loc) (X34 : Stand p l e room_1 s m #[(.int p1), (.int p2), (.int p3), (.int p4), (.int p5), (.int p6)] below meth c T34 l34 3 18) (e34 : T34.heap = h27) (N : Fr n0 l34) (xx ans : Int32) (hp : own_P (own_f [c0, c1, c2, c3, c4, c5, c6]) sn 5 xx ans), OG p e below (OFin s (fun v h L => v = some (.int 1) ∧ Fr n0 L) 32 192) (T34.setTop (mkF m 220 #[.val (.int p1), .val (.int p2), .val (.int p3), .val (.int p4), .val (.int p5), .val (.int p6), .val (.ref nb11), .val (.int dd), .val (.int (dd + (2 : Int32))), .val (.ref nb26), .val (.int xx), .val (.int ans)] [])) := by
  intro T34 l34 X34 e34 N xx ans hp
  refine og_iload X34 hx rfl (hb hby at_220) rfl ?_
  refine og_if_ge (pc1 := 260) (pc2 := 225) X34 hx (hb hby at_222) (by decide) (by decide) rfl (fun hc222 => ?_) (fun hc222 => ?_)
  ·
   exact J6 T34 _ X34 e34 N _ _ (own_Pa hp hc222)
  ·
   refine og_iconst (v := 5) X34 hx rfl (hb hby at_225) rfl ?_
   refine og_iload X34 hx rfl (hb hby at_226) rfl ?_
   refine og_icmp_lt (pc1 := 260) (pc2 := 231) X34 hx (hb hby at_228) (by decide) (by decide) rfl (fun hc228 => ?_) (fun hc228 => ?_)
   ·
    exact J6 T34 _ X34 e34 N _ _ (own_Pb hp hc222 ((own_lts (i := 5) hst (z := (5 : Int32)) (by decide)).mp hc228))
   ·
    refine og_iload X34 hx rfl (hb hby at_231) rfl ?_
    refine og_aload X34 hx rfl rfl (hb hby at_233) rfl ?_
    refine og_iconst (v := 5) X34 hx rfl (hb hby at_235) rfl ?_
    refine og_caload (v := (.int c5)) X34 hx hZ e34 V_nb11 ⟨by decide, by decide⟩ rfl (hb hby at_236) rfl ?_
    refine og_static (pc' := 240) (cells' := 3) (slots' := 18) (W := 0) X34 hx hZ (rm_cl l Z a0 hw xx c5 _ rfl h27 n0 O) hown (ow34 hw) (ow35 hw) (ow3 hw) (ow36 hw) (by decide) (by rw [hml]; rfl) e34 opd_16 [(.int xx), (.int c5)] [] rfl rfl rfl rfl (by decide) (by decide) rfl rfl (by decide) (by decide) (hb hby at_237) rfl (fun v35 T35 h35 L35 X35 e35 z35 => ?_)
    obtain ⟨rfl, Nq35, hq35⟩ := z35; replace e35 := e35.trans hq35; have N := Fr.app N Nq35
    refine og_if_eq (pc1 := 249) (pc2 := 243) X35 hx (hb hby at_240) (by decide) (by decide) rfl (fun hc240 => ?_) (fun hc240 => ?_)
    ·
     refine og_iload X35 hx rfl (hb hby at_249) rfl ?_
     refine og_aload X35 hx rfl rfl (hb hby at_251) rfl ?_
     refine og_iconst (v := 5) X35 hx rfl (hb hby at_253) rfl ?_
     refine og_caload (v := (.int c5)) X35 hx hZ e35 V_nb11 ⟨by decide, by decide⟩ rfl (hb hby at_254) rfl ?_
     refine og_static (pc' := 258) (cells' := 3) (slots' := 18) (W := 0) X35 hx hZ (rm_st l Z a0 hw xx c5 _ rfl h27 n0 O) hown (ow37 hw) (ow38 hw) (ow3 hw) (ow39 hw) (by decide) (by rw [hml]; rfl) e35 opd_17 [(.int xx), (.int c5)] [] rfl rfl rfl rfl (by decide) (by decide) rfl rfl (by decide) (by decide) (hb hby at_255) rfl (fun v36 T36 h36 L36 X36 e36 z36 => ?_)
     obtain ⟨rfl, Nq36, hq36⟩ := z36; replace e36 := e36.trans hq36; have N := Fr.app N Nq36
     refine og_istore (L' := #[.val (.int p1), .val (.int p2), .val (.int p3), .val (.int p4), .val (.int p5), .val (.int p6), .val (.ref nb11), .val (.int dd), .val (.int (dd + (2 : Int32))), .val (.ref nb26), .val (.int (own_stp xx c5)), .val (.int ans)]) X36 hx rfl (hb hby at_258) rfl ?_
     exact J6 T36 _ X36 e36 N _ _ (own_Pd hp hc222 (fun z => hc228 ((own_lts (i := 5) hst (z := (5 : Int32)) (by decide)).mpr z)) (by decide) rfl hc240)
    ·
     refine og_iconst (v := 5) X35 hx rfl (hb hby at_243) rfl ?_
     refine og_istore (L' := #[.val (.int p1), .val (.int p2), .val (.int p3), .val (.int p4), .val (.int p5), .val (.int p6), .val (.ref nb11), .val (.int dd), .val (.int (dd + (2 : Int32))), .val (.ref nb26), .val (.int xx), .val (.int 5)]) X35 hx rfl (hb hby at_244) rfl ?_
     refine og_goto (pc' := 260) X35 hx (hb hby at_246) (by decide) (by decide) ?_
     exact J6 T35 _ X35 e35 N _ _ (own_Pc hp hc222 (fun z => hc228 ((own_lts (i := 5) hst (z := (5 : Int32)) (by decide)).mpr z)) (by decide) rfl hc240)
 have J4 : ∀ (T37 : State) (l37 : List Loc) (X37 : Stand p l e room_1 s m #[(.int p1), (.int p2), (.int p3), (.int p4), (.int p5), (.int p6)] below meth c T37 l37 3 18) (e37 : T37.heap = h27) (N : Fr n0 l37) (xx ans : Int32) (hp : own_P (own_f [c0, c1, c2, c3, c4, c5, c6]) sn 4 xx ans), OG p e below (OFin s (fun v h L => v = some (.int 1) ∧ Fr n0 L) 32 192) (T37.setTop (mkF m 180 #[.val (.int p1), .val (.int p2), .val (.int p3), .val (.int p4), .val (.int p5), .val (.int p6), .val (.ref nb11), .val (.int dd), .val (.int (dd + (2 : Int32))), .val (.ref nb26), .val (.int xx), .val (.int ans)] [])) := by
  intro T37 l37 X37 e37 N xx ans hp
  refine og_iload X37 hx rfl (hb hby at_180) rfl ?_
  refine og_if_ge (pc1 := 220) (pc2 := 185) X37 hx (hb hby at_182) (by decide) (by decide) rfl (fun hc182 => ?_) (fun hc182 => ?_)
  ·
   exact J5 T37 _ X37 e37 N _ _ (own_Pa hp hc182)
  ·
   refine og_iconst (v := 4) X37 hx rfl (hb hby at_185) rfl ?_
   refine og_iload X37 hx rfl (hb hby at_186) rfl ?_
   refine og_icmp_lt (pc1 := 220) (pc2 := 191) X37 hx (hb hby at_188) (by decide) (by decide) rfl (fun hc188 => ?_) (fun hc188 => ?_)
   ·
    exact J5 T37 _ X37 e37 N _ _ (own_Pb hp hc182 ((own_lts (i := 4) hst (z := (4 : Int32)) (by decide)).mp hc188))
   ·
    refine og_iload X37 hx rfl (hb hby at_191) rfl ?_
    refine og_aload X37 hx rfl rfl (hb hby at_193) rfl ?_
    refine og_iconst (v := 4) X37 hx rfl (hb hby at_195) rfl ?_
    refine og_caload (v := (.int c4)) X37 hx hZ e37 V_nb11 ⟨by decide, by decide⟩ rfl (hb hby at_196) rfl ?_
    refine og_static (pc' := 200) (cells' := 3) (slots' := 18) (W := 0) X37 hx hZ (rm_cl l Z a0 hw xx c4 _ rfl h27 n0 O) hown (ow34 hw) (ow35 hw) (ow3 hw) (ow36 hw) (by decide) (by rw [hml]; rfl) e37 opd_16 [(.int xx), (.int c4)] [] rfl rfl rfl rfl (by decide) (by decide) rfl rfl (by decide) (by decide) (hb hby at_197) rfl (fun v38 T38 h38 L38 X38 e38 z38 => ?_)
    obtain ⟨rfl, Nq38, hq38⟩ := z38; replace e38 := e38.trans hq38; have N := Fr.app N Nq38
    refine og_if_eq (pc1 := 209) (pc2 := 203) X38 hx (hb hby at_200) (by decide) (by decide) rfl (fun hc200 => ?_) (fun hc200 => ?_)
    ·
     refine og_iload X38 hx rfl (hb hby at_209) rfl ?_
     refine og_aload X38 hx rfl rfl (hb hby at_211) rfl ?_
     refine og_iconst (v := 4) X38 hx rfl (hb hby at_213) rfl ?_
     refine og_caload (v := (.int c4)) X38 hx hZ e38 V_nb11 ⟨by decide, by decide⟩ rfl (hb hby at_214) rfl ?_
     refine og_static (pc' := 218) (cells' := 3) (slots' := 18) (W := 0) X38 hx hZ (rm_st l Z a0 hw xx c4 _ rfl h27 n0 O) hown (ow37 hw) (ow38 hw) (ow3 hw) (ow39 hw) (by decide) (by rw [hml]; rfl) e38 opd_17 [(.int xx), (.int c4)] [] rfl rfl rfl rfl (by decide) (by decide) rfl rfl (by decide) (by decide) (hb hby at_215) rfl (fun v39 T39 h39 L39 X39 e39 z39 => ?_)
     obtain ⟨rfl, Nq39, hq39⟩ := z39; replace e39 := e39.trans hq39; have N := Fr.app N Nq39
     refine og_istore (L' := #[.val (.int p1), .val (.int p2), .val (.int p3), .val (.int p4), .val (.int p5), .val (.int p6), .val (.ref nb11), .val (.int dd), .val (.int (dd + (2 : Int32))), .val (.ref nb26), .val (.int (own_stp xx c4)), .val (.int ans)]) X39 hx rfl (hb hby at_218) rfl ?_
     exact J5 T39 _ X39 e39 N _ _ (own_Pd hp hc182 (fun z => hc188 ((own_lts (i := 4) hst (z := (4 : Int32)) (by decide)).mpr z)) (by decide) rfl hc200)
    ·
     refine og_iconst (v := 4) X38 hx rfl (hb hby at_203) rfl ?_
     refine og_istore (L' := #[.val (.int p1), .val (.int p2), .val (.int p3), .val (.int p4), .val (.int p5), .val (.int p6), .val (.ref nb11), .val (.int dd), .val (.int (dd + (2 : Int32))), .val (.ref nb26), .val (.int xx), .val (.int 4)]) X38 hx rfl (hb hby at_204) rfl ?_
     refine og_goto (pc' := 220) X38 hx (hb hby at_206) (by decide) (by decide) ?_
     exact J5 T38 _ X38 e38 N _ _ (own_Pc hp hc182 (fun z => hc188 ((own_lts (i := 4) hst (z := (4 : Int32)) (by decide)).mpr z)) (by decide) rfl hc200)
 have J3 : ∀ (T40 : State) (l40 : List Loc) (X40 : Stand p l e room_1 s m #[(.int p1), (.int p2), (.int p3), (.int p4), (.int p5), (.int p6)] below meth c T40 l40 3 18) (e40 : T40.heap = h27) (N : Fr n0 l40) (xx ans : Int32) (hp : own_P (own_f [c0, c1, c2, c3, c4, c5, c6]) sn 3 xx ans), OG p e below (OFin s (fun v h L => v = some (.int 1) ∧ Fr n0 L) 32 192) (T40.setTop (mkF m 140 #[.val (.int p1), .val (.int p2), .val (.int p3), .val (.int p4), .val (.int p5), .val (.int p6), .val (.ref nb11), .val (.int dd), .val (.int (dd + (2 : Int32))), .val (.ref nb26), .val (.int xx), .val (.int ans)] [])) := by
  intro T40 l40 X40 e40 N xx ans hp
  refine og_iload X40 hx rfl (hb hby at_140) rfl ?_
  refine og_if_ge (pc1 := 180) (pc2 := 145) X40 hx (hb hby at_142) (by decide) (by decide) rfl (fun hc142 => ?_) (fun hc142 => ?_)
  ·
   exact J4 T40 _ X40 e40 N _ _ (own_Pa hp hc142)
  ·
   refine og_iconst (v := 3) X40 hx rfl (hb hby at_145) rfl ?_
   refine og_iload X40 hx rfl (hb hby at_146) rfl ?_
   refine og_icmp_lt (pc1 := 180) (pc2 := 151) X40 hx (hb hby at_148) (by decide) (by decide) rfl (fun hc148 => ?_) (fun hc148 => ?_)
   ·
    exact J4 T40 _ X40 e40 N _ _ (own_Pb hp hc142 ((own_lts (i := 3) hst (z := (3 : Int32)) (by decide)).mp hc148))
   ·
    refine og_iload X40 hx rfl (hb hby at_151) rfl ?_
    refine og_aload X40 hx rfl rfl (hb hby at_153) rfl ?_
    refine og_iconst (v := 3) X40 hx rfl (hb hby at_155) rfl ?_
    refine og_caload (v := (.int c3)) X40 hx hZ e40 V_nb11 ⟨by decide, by decide⟩ rfl (hb hby at_156) rfl ?_
    refine og_static (pc' := 160) (cells' := 3) (slots' := 18) (W := 0) X40 hx hZ (rm_cl l Z a0 hw xx c3 _ rfl h27 n0 O) hown (ow34 hw) (ow35 hw) (ow3 hw) (ow36 hw) (by decide) (by rw [hml]; rfl) e40 opd_16 [(.int xx), (.int c3)] [] rfl rfl rfl rfl (by decide) (by decide) rfl rfl (by decide) (by decide) (hb hby at_157) rfl (fun v41 T41 h41 L41 X41 e41 z41 => ?_)
    obtain ⟨rfl, Nq41, hq41⟩ := z41; replace e41 := e41.trans hq41; have N := Fr.app N Nq41
    refine og_if_eq (pc1 := 169) (pc2 := 163) X41 hx (hb hby at_160) (by decide) (by decide) rfl (fun hc160 => ?_) (fun hc160 => ?_)
    ·
     refine og_iload X41 hx rfl (hb hby at_169) rfl ?_
     refine og_aload X41 hx rfl rfl (hb hby at_171) rfl ?_
     refine og_iconst (v := 3) X41 hx rfl (hb hby at_173) rfl ?_
     refine og_caload (v := (.int c3)) X41 hx hZ e41 V_nb11 ⟨by decide, by decide⟩ rfl (hb hby at_174) rfl ?_
     refine og_static (pc' := 178) (cells' := 3) (slots' := 18) (W := 0) X41 hx hZ (rm_st l Z a0 hw xx c3 _ rfl h27 n0 O) hown (ow37 hw) (ow38 hw) (ow3 hw) (ow39 hw) (by decide) (by rw [hml]; rfl) e41 opd_17 [(.int xx), (.int c3)] [] rfl rfl rfl rfl (by decide) (by decide) rfl rfl (by decide) (by decide) (hb hby at_175) rfl (fun v42 T42 h42 L42 X42 e42 z42 => ?_)
     obtain ⟨rfl, Nq42, hq42⟩ := z42; replace e42 := e42.trans hq42; have N := Fr.app N Nq42
     refine og_istore (L' := #[.val (.int p1), .val (.int p2), .val (.int p3), .val (.int p4), .val (.int p5), .val (.int p6), .val (.ref nb11), .val (.int dd), .val (.int (dd + (2 : Int32))), .val (.ref nb26), .val (.int (own_stp xx c3)), .val (.int ans)]) X42 hx rfl (hb hby at_178) rfl ?_
     exact J4 T42 _ X42 e42 N _ _ (own_Pd hp hc142 (fun z => hc148 ((own_lts (i := 3) hst (z := (3 : Int32)) (by decide)).mpr z)) (by decide) rfl hc160)
    ·
     refine og_iconst (v := 3) X41 hx rfl (hb hby at_163) rfl ?_
     refine og_istore (L' := #[.val (.int p1), .val (.int p2), .val (.int p3), .val (.int p4), .val (.int p5), .val (.int p6), .val (.ref nb11), .val (.int dd), .val (.int (dd + (2 : Int32))), .val (.ref nb26), .val (.int xx), .val (.int 3)]) X41 hx rfl (hb hby at_164) rfl ?_
     refine og_goto (pc' := 180) X41 hx (hb hby at_166) (by decide) (by decide) ?_
     exact J4 T41 _ X41 e41 N _ _ (own_Pc hp hc142 (fun z => hc148 ((own_lts (i := 3) hst (z := (3 : Int32)) (by decide)).mpr z)) (by decide) rfl hc160)
 have J2 : ∀ (T43 : State) (l43 : List Loc) (X43 : Stand p l e room_1 s m #[(.int p1), (.int p2), (.int p3), (.int p4), (.int p5), (.int p6)] below meth c T43 l43 3 18) (e43 : T43.heap = h27) (N : Fr n0 l43) (xx ans : Int32) (hp : own_P (own_f [c0, c1, c2, c3, c4, c5, c6]) sn 2 xx ans), OG p e below (OFin s (fun v h L => v = some (.int 1) ∧ Fr n0 L) 32 192) (T43.setTop (mkF m 100 #[.val (.int p1), .val (.int p2), .val (.int p3), .val (.int p4), .val (.int p5), .val (.int p6), .val (.ref nb11), .val (.int dd), .val (.int (dd + (2 : Int32))), .val (.ref nb26), .val (.int xx), .val (.int ans)] [])) := by
  intro T43 l43 X43 e43 N xx ans hp
  refine og_iload X43 hx rfl (hb hby at_100) rfl ?_
  refine og_if_ge (pc1 := 140) (pc2 := 105) X43 hx (hb hby at_102) (by decide) (by decide) rfl (fun hc102 => ?_) (fun hc102 => ?_)
  ·
   exact J3 T43 _ X43 e43 N _ _ (own_Pa hp hc102)
  ·
   refine og_iconst (v := 2) X43 hx rfl (hb hby at_105) rfl ?_
   refine og_iload X43 hx rfl (hb hby at_106) rfl ?_
   refine og_icmp_lt (pc1 := 140) (pc2 := 111) X43 hx (hb hby at_108) (by decide) (by decide) rfl (fun hc108 => ?_) (fun hc108 => ?_)
   ·
    exact J3 T43 _ X43 e43 N _ _ (own_Pb hp hc102 ((own_lts (i := 2) hst (z := (2 : Int32)) (by decide)).mp hc108))
   ·
    refine og_iload X43 hx rfl (hb hby at_111) rfl ?_
    refine og_aload X43 hx rfl rfl (hb hby at_113) rfl ?_
    refine og_iconst (v := 2) X43 hx rfl (hb hby at_115) rfl ?_
    refine og_caload (v := (.int c2)) X43 hx hZ e43 V_nb11 ⟨by decide, by decide⟩ rfl (hb hby at_116) rfl ?_
    refine og_static (pc' := 120) (cells' := 3) (slots' := 18) (W := 0) X43 hx hZ (rm_cl l Z a0 hw xx c2 _ rfl h27 n0 O) hown (ow34 hw) (ow35 hw) (ow3 hw) (ow36 hw) (by decide) (by rw [hml]; rfl) e43 opd_16 [(.int xx), (.int c2)] [] rfl rfl rfl rfl (by decide) (by decide) rfl rfl (by decide) (by decide) (hb hby at_117) rfl (fun v44 T44 h44 L44 X44 e44 z44 => ?_)
    obtain ⟨rfl, Nq44, hq44⟩ := z44; replace e44 := e44.trans hq44; have N := Fr.app N Nq44
    refine og_if_eq (pc1 := 129) (pc2 := 123) X44 hx (hb hby at_120) (by decide) (by decide) rfl (fun hc120 => ?_) (fun hc120 => ?_)
    ·
     refine og_iload X44 hx rfl (hb hby at_129) rfl ?_
     refine og_aload X44 hx rfl rfl (hb hby at_131) rfl ?_
     refine og_iconst (v := 2) X44 hx rfl (hb hby at_133) rfl ?_
     refine og_caload (v := (.int c2)) X44 hx hZ e44 V_nb11 ⟨by decide, by decide⟩ rfl (hb hby at_134) rfl ?_
     refine og_static (pc' := 138) (cells' := 3) (slots' := 18) (W := 0) X44 hx hZ (rm_st l Z a0 hw xx c2 _ rfl h27 n0 O) hown (ow37 hw) (ow38 hw) (ow3 hw) (ow39 hw) (by decide) (by rw [hml]; rfl) e44 opd_17 [(.int xx), (.int c2)] [] rfl rfl rfl rfl (by decide) (by decide) rfl rfl (by decide) (by decide) (hb hby at_135) rfl (fun v45 T45 h45 L45 X45 e45 z45 => ?_)
     obtain ⟨rfl, Nq45, hq45⟩ := z45; replace e45 := e45.trans hq45; have N := Fr.app N Nq45
     refine og_istore (L' := #[.val (.int p1), .val (.int p2), .val (.int p3), .val (.int p4), .val (.int p5), .val (.int p6), .val (.ref nb11), .val (.int dd), .val (.int (dd + (2 : Int32))), .val (.ref nb26), .val (.int (own_stp xx c2)), .val (.int ans)]) X45 hx rfl (hb hby at_138) rfl ?_
     exact J3 T45 _ X45 e45 N _ _ (own_Pd hp hc102 (fun z => hc108 ((own_lts (i := 2) hst (z := (2 : Int32)) (by decide)).mpr z)) (by decide) rfl hc120)
    ·
     refine og_iconst (v := 2) X44 hx rfl (hb hby at_123) rfl ?_
     refine og_istore (L' := #[.val (.int p1), .val (.int p2), .val (.int p3), .val (.int p4), .val (.int p5), .val (.int p6), .val (.ref nb11), .val (.int dd), .val (.int (dd + (2 : Int32))), .val (.ref nb26), .val (.int xx), .val (.int 2)]) X44 hx rfl (hb hby at_124) rfl ?_
     refine og_goto (pc' := 140) X44 hx (hb hby at_126) (by decide) (by decide) ?_
     exact J3 T44 _ X44 e44 N _ _ (own_Pc hp hc102 (fun z => hc108 ((own_lts (i := 2) hst (z := (2 : Int32)) (by decide)).mpr z)) (by decide) rfl hc120)
 exact J2 T27 _ X27 e27 N _ _ (own_P0 (own_f [c0, c1, c2, c3, c4, c5, c6]) hs2)
theorem comes_1 {Post : Tables → Env → Array Value → State → Outcome → State → Prop} (hpost : ∀ tb e args s v u, (limb_1_1.after args s (.returned v) u = true ∧ limb_1_2.after args s (.returned v) u = true ∧ True) → FrameEnd s (.returned v) u (Jvm.fieldLocs frame_1_writes args s ++ Jvm.arrayLocs frame_1_arrays args s ++ Jvm.staticLocs frame_1_statics s) 32 192 → Post tb e args s (.returned v) u) :
    ArmFor flags0 classFile x code maxLocals ret World_1 tables_1 room_1 Calls_1 rest_1 Pre_1 Post := by
  intro l hfl _ _ p e ha hc hk s m args below hf hA hF happ hP
  obtain ⟨hcalls, hrest, hpre⟩ := hP
  obtain ⟨-, -, -, hnamed, -, -, -, hat⟩ := (Spec.applies_iff hf).mp happ
  obtain ⟨hg, hn⟩ := and_e (Cond.before_iff.mp (show (Jvm.Cond.and given_1 narrow_1).before args s = true from hpre))
  obtain ⟨g2, g3⟩ := and_e hg
  obtain ⟨g4, g5⟩ := and_e g3
  obtain ⟨g6, g7⟩ := and_e g5
  obtain ⟨g8, g9⟩ := and_e g7
  obtain ⟨g10, g11⟩ := and_e g9
  obtain ⟨g12, g13⟩ := and_e g11
  obtain ⟨w0, w1, w2, w3, w4, w5, rfl⟩ : ∃ w0 w1 w2 w3 w4 w5 : Value, args = #[w0, w1, w2, w3, w4, w5] := by
    have hs : args.size = 6 := by simpa [Cond.value, given_1] using g2
    obtain ⟨L⟩ := args
    match L, hs with
    | [w0, w1, w2, w3, w4, w5], _ => exact ⟨w0, w1, w2, w3, w4, w5, rfl⟩
  have hw := fun d (hd : d ∈ tables_1) => atoms_spec (ws := Jvm.Cond.code x code maxLocals ret :: tables_1) hat d (List.mem_cons_of_mem _ hd)
  have hfit : Fit s := fun {y c} hc i hi => by
    obtain ⟨ha, rfl⟩ := Array.getElem?_eq_some_iff.mp hc
    have q := List.all_eq_true.mp ((Array.all_eq_true_iff_forall_mem.mp hF) _ (Array.getElem_mem ha)) i (List.mem_range.mpr hi)
    simpa [Array.getElem?_eq_getElem hi] using q
  obtain ⟨hsets, hown0⟩ := atoms_of _ (rest_1_c_eq ▸ (show rest_1_c.before _ s = true from hrest))
  obtain ⟨i0, ei0⟩ := is_v g4
  obtain rfl : w0 = (.int i0) := Option.some.inj ei0
  obtain ⟨i1, ei1⟩ := is_v g6
  obtain rfl : w1 = (.int i1) := Option.some.inj ei1
  obtain ⟨i2, ei2⟩ := is_v g8
  obtain rfl : w2 = (.int i2) := Option.some.inj ei2
  obtain ⟨i3, ei3⟩ := is_v g10
  obtain rfl : w3 = (.int i3) := Option.some.inj ei3
  obtain ⟨i4, ei4⟩ := is_v g12
  obtain rfl : w4 = (.int i4) := Option.some.inj ei4
  obtain ⟨i5, ei5⟩ := is_v g13
  obtain rfl : w5 = (.int i5) := Option.some.inj ei5
  obtain ⟨hnl, hnr⟩ := and_e hn
  obtain ⟨hnrl, hnrr⟩ := and_e hnr
  obtain ⟨hnrrl, hnrrr⟩ := and_e hnrr
  obtain ⟨hnrrrl, hnrrrr⟩ := and_e hnrrr
  obtain ⟨hnrrrrl, hnrrrrr⟩ := and_e hnrrrr
  obtain ⟨hnrrrrrl, hnrrrrrr⟩ := and_e hnrrrrr
  obtain ⟨hnrrrrrrl, hnrrrrrrr⟩ := and_e hnrrrrrr
  obtain ⟨hnrrrrrrrl, hnrrrrrrrr⟩ := and_e hnrrrrrrr
  obtain ⟨hnrrrrrrrrl, hnrrrrrrrrr⟩ := and_e hnrrrrrrrr
  obtain ⟨hnrrrrrrrrrl, hnrrrrrrrrrr⟩ := and_e hnrrrrrrrrr
  obtain ⟨hnrrrrrrrrrrl, hnrrrrrrrrrrr⟩ := and_e hnrrrrrrrrrr
  obtain ⟨hnrrrrrrrrrrrl, hnrrrrrrrrrrrr⟩ := and_e hnrrrrrrrrrrr
  obtain ⟨hnrrrrrrrrrrrrl, hnrrrrrrrrrrrrr⟩ := and_e hnrrrrrrrrrrrr
  obtain ⟨hnrrrrrrrrrrrrrl, hnrrrrrrrrrrrrrr⟩ := and_e hnrrrrrrrrrrrrr
  obtain ⟨hnrrrrrrrrrrrrrrl, hnrrrrrrrrrrrrrrr⟩ := and_e hnrrrrrrrrrrrrrr
  obtain ⟨hnrrrrrrrrrrrrrrrl, hnrrrrrrrrrrrrrrrr⟩ := and_e hnrrrrrrrrrrrrrrr
  obtain ⟨hnrrrrrrrrrrrrrrrrl, hnrrrrrrrrrrrrrrrrr⟩ := and_e hnrrrrrrrrrrrrrrrr
  obtain ⟨w0, ev_w0⟩ := exa_v hnrrl
  have E_w0 := Exa.start ev_w0 hnrrl
  have S_CODE := Sta.start ev_w0 (Or.inr ⟨(ow81 hw), (ow82 hw)⟩)
  obtain ⟨w1, ev_w1⟩ := exa_v hnrrrrrl
  have E_w1 := Exa.start ev_w1 hnrrrrrl
  have S_SINGLE := Sta.start ev_w1 (Or.inr ⟨(ow81 hw), (ow100 hw)⟩)
  obtain ⟨w2, ev_w2⟩ := exa_v hnrrrrrrrrl
  have E_w2 := Exa.start ev_w2 hnrrrrrrrrl
  have S_SINGLE_ESCAPED := Sta.start ev_w2 (Or.inr ⟨(ow81 hw), (ow102 hw)⟩)
  obtain ⟨w3, ev_w3⟩ := exa_v hnrrrrrrrrrrrl
  have E_w3 := Exa.start ev_w3 hnrrrrrrrrrrrl
  have S_DOUBLE := Sta.start ev_w3 (Or.inr ⟨(ow81 hw), (ow103 hw)⟩)
  obtain ⟨w4, ev_w4⟩ := exa_v hnrrrrrrrrrrrrrrl
  have E_w4 := Exa.start ev_w4 hnrrrrrrrrrrrrrrl
  have S_DOUBLE_ESCAPED := Sta.start ev_w4 (Or.inr ⟨(ow81 hw), (ow105 hw)⟩)
  have F_w0 := own_fldstart ev_w0 (own_eqint hnrrrrl)
  have F_w1 := own_fldstart ev_w1 (own_eqint hnrrrrrrrl)
  have F_w2 := own_fldstart ev_w2 (own_eqint hnrrrrrrrrrrl)
  have F_w3 := own_fldstart ev_w3 (own_eqint hnrrrrrrrrrrrrrl)
  have F_w4 := own_fldstart ev_w4 (own_eqint hnrrrrrrrrrrrrrrrrl)
  obtain ⟨va, ev_va⟩ := arr_v hnl
  have S_QU := Sta.start ev_va (Or.inr ⟨(ow42 hw), (ow55 hw)⟩)
  have S_IC := Sta.start (own_eqint hnrrrrrrrrrrrrrrrrr) (Or.inr ⟨(ow42 hw), (ow120 hw)⟩)
  obtain ⟨cv, Ar_va⟩ := Arr.start ev_va hnl
  have V_va := own_arvstart hfit ev_va Ar_va (own_eqint hnrl) (vs := [(.ref w0), (.ref w1), (.ref w2), (.ref w3), (.ref w4)]) (dv := .null) (by decide) rfl ⟨own_elem ev_va Ar_va ev_w0 hnrrrl rfl, own_elem ev_va Ar_va ev_w1 hnrrrrrrl rfl, own_elem ev_va Ar_va ev_w2 hnrrrrrrrrrl rfl, own_elem ev_va Ar_va ev_w3 hnrrrrrrrrrrrrl rfl, own_elem ev_va Ar_va ev_w4 hnrrrrrrrrrrrrrrrl rfl, trivial⟩
  have ne_w1_w0 := Fld.ne F_w1 F_w0 (by decide)
  have ne_w2_w0 := Fld.ne F_w2 F_w0 (by decide)
  have ne_w3_w0 := Fld.ne F_w3 F_w0 (by decide)
  have ne_w4_w0 := Fld.ne F_w4 F_w0 (by decide)
  obtain ⟨cs, ecs⟩ := is_v (Cond.before_iff.mp (hsets _ (List.mem_of_getElem? (i := 1) rfl)))
  have S_CS := Sta.start ecs (Or.inl (hsets _ (List.mem_of_getElem? (i := 0) rfl)))
  have hcs : ¬ cs = 0 := own_ne0 ecs (Cond.before_iff.mp (hsets _ (List.mem_of_getElem? (i := 2) rfl)))
  obtain ⟨fm, efm, hfm⟩ := isR_v (Cond.before_iff.mp (hsets _ (List.mem_of_getElem? (i := 8) rfl)))
  have S_FM := Sta.start efm (Or.inl (hsets _ (List.mem_of_getElem? (i := 7) rfl)))
  obtain ⟨n, o, h1, h2, h3, _, L, rfl, ⟨rfl, N⟩, hq⟩ := rm0 l s _ hw tables_1 i0 i1 i2 i3 i4 i5 va w0 w1 w2 w3 w4 cv.cls cs hcs fm hfm s.heap s.heap.size (Old.start s) S_QU V_va S_IC S_CS S_FM S_CODE S_SINGLE S_SINGLE_ESCAPED S_DOUBLE S_DOUBLE_ESCAPED E_w0 E_w1 E_w2 E_w3 E_w4 F_w0 F_w1 F_w2 F_w3 F_w4 ne_w1_w0 ne_w2_w0 ne_w3_w0 ne_w4_w0 p e ha hc hk s m _ below hf ((Spec.applies_iff_loose hf).mp happ).1 ⟨rfl, State.Warmed39.refl s, rfl⟩ trivial
  refine ⟨n, _, h1, h2, h3, hpost _ _ _ _ _ _ ⟨Cond.after_iff.mpr rfl, Cond.after_iff.mpr (eq_i res_at (Term.int_eval (1)) rfl), trivial⟩ ⟨hq.1, hq.2.1, (hq.2.2.sift fun y hy => Or.inr (N y hy)).mono (by decide) (by decide)⟩⟩
theorem main_1_1 : Claimed_1_1 := comes_1 fun _ _ _ _ _ _ h hF => ⟨h.1, hF⟩
theorem main_1_2 : Claimed_1_2 := comes_1 fun _ _ _ _ _ _ h hF => ⟨h.2.1, hF⟩
end Jvm.Pilot.@@N@@
namespace Jvm.Pilot.@@N@@
open Jvm Jvm.ClassFile Sem Op Lib Jvm.Free Jvm.Stand Jvm.Pilot.@@N@@.Jvm.D
/-! MADE BY PROGRAM (witnessworld.py) out of the Statement's table words and the real class files: 23 classes; the members and pool entries that the words name. The judged class is class 1, her method 4. -/
namespace start1
open Jvm.ClassFile
def u (s : String) : CpInfo := .utf8 (stringToUtf16 s)
/-- a pool by its gaps: so many unusable entries, then the entry; so many at the end -/
def gap : Nat → List CpInfo → List CpInfo
  | 0, r => r
  | n + 1, r => .unusable :: gap n r
def poolList (es : List (Nat × CpInfo)) (last : Nat) : List CpInfo := es.foldr (fun e r => gap e.1 (e.2 :: r)) (gap last [])
def pool (es : List (Nat × CpInfo)) (last : Nat) : Array CpInfo := ⟨poolList es last⟩
def fileOf (pool : Array CpInfo) (this : Nat) (attrs : Array Attribute := #[]) (ms : Array MethodInfo := #[]) (fl : Nat := 33) (sup : Nat := 0) (ifs : Array Nat := #[]) (fds : Array FieldInfo := #[]) : ClassFile where
  minorVersion := 0
  majorVersion := 65
  constantPool := pool
  accessFlags := fl
  thisClass := this
  superClass := sup
  interfaces := ifs
  fields := fds
  methods := ms
  attributes := attrs
def plain (name : String) (sup : Option ClassId) : Class where
  name := name
  kind := .ordinary
  loader := none
  accessFlags := 33
  super := sup
  interfaces := #[]
  cf := none
  fields := #[]
  methods := #[]
  instanceTypes := #[]
  staticTypes := #[]
  resolved := #[]
  callSites := []
  init := .initialized
  statics := none
  mirror := none

def pool0 : Array CpInfo := pool [(5, u "<init>"), (0, u "()V"), (1, .class_ 10), (1, u "java/lang/Object")] 113

def k0c0 : Code := { maxStack := 0, maxLocals := 1, code := object_method_1_code, exceptionTable := #[], attributes := #[] }
def k0m0 : Method := { name := "<init>", desc := "()V", sig := { parameters := [], returnType := none }, accessFlags := 1, code := some k0c0 }
/-- java/lang/Object -/
def k0 : Class := { plain "java/lang/Object" none with
  accessFlags := 33
  interfaces := #[]
  cf := some (fileOf pool0 8 #[] #[{ accessFlags := 1, nameIndex := 5, descriptorIndex := 6, attributes := #[] }] 33 0 #[] #[])
  fields := #[]
  methods := #[k0m0]
  instanceTypes := #[]
  staticTypes := #[]
  resolved := Array.replicate 124 none
  statics := none }

def pool1 : Array CpInfo := pool [(2, .class_ 4), (1, u "java/lang/Object"), (0, u "<init>"), (0, u "()V"), (0, .methodref 8 9), (0, .class_ 10), (0, .nameAndType 11 12), (0, u "com/example/nitpick/nitpick/internal/interpolation/ExpressionEndsOfPinLaw"), (0, u "pick"), (0, u "(I)C"), (0, .class_ 14), (0, u "java/lang/String"), (0, .methodref 13 16), (0, .nameAndType 5 17), (0, u "([C)V"), (0, .methodref 8 19), (0, .nameAndType 20 21), (0, u "closes"), (0, u "(IC)Z"), (0, .methodref 8 23), (0, .nameAndType 24 25), (0, u "step"), (0, u "(IC)I"), (0, .methodref 27 28), (0, .class_ 29), (0, .nameAndType 30 31), (0, u "com/example/nitpick/nitpick/internal/interpolation/ExpressionEnds"), (0, u "of"), (0, u "(Ljava/lang/String;)Lcom/example/nitpick/nitpick/internal/interpolation/ExpressionEnds;"), (0, .methodref 27 33), (0, .nameAndType 34 35), (0, u "endOf"), (0, u "(I)I"), (3, u "law"), (0, u "(IIIIII)Z")] 4

def k1m0 : Method := { name := "<init>", desc := "()V", sig := { parameters := [], returnType := none }, accessFlags := 1, code := none }
def k1c1 : Code := { maxStack := 2, maxLocals := 2, code := method_2_code, exceptionTable := #[], attributes := #[] }
def k1m1 : Method := { name := "pick", desc := "(I)C", sig := { parameters := [.int], returnType := some .char }, accessFlags := 10, code := some k1c1 }
def k1c2 : Code := { maxStack := 2, maxLocals := 2, code := method_3_code, exceptionTable := #[], attributes := #[] }
def k1m2 : Method := { name := "closes", desc := "(IC)Z", sig := { parameters := [.int, .char], returnType := some .boolean }, accessFlags := 10, code := some k1c2 }
def k1c3 : Code := { maxStack := 3, maxLocals := 4, code := method_4_code, exceptionTable := #[], attributes := #[] }
def k1m3 : Method := { name := "step", desc := "(IC)I", sig := { parameters := [.int, .char], returnType := some .int }, accessFlags := 10, code := some k1c3 }
def k1c4 : Code := { maxStack := 4, maxLocals := 12, code := code, exceptionTable := #[], attributes := #[] }
def k1m4 : Method := { name := "law", desc := "(IIIIII)Z", sig := { parameters := [.int, .int, .int, .int, .int, .int], returnType := some .boolean }, accessFlags := 9, code := some k1c4 }
/-- com/example/nitpick/nitpick/internal/interpolation/ExpressionEndsOfPinLaw -/
def k1 : Class := { plain "com/example/nitpick/nitpick/internal/interpolation/ExpressionEndsOfPinLaw" (some 0) with
  accessFlags := 49
  interfaces := #[]
  cf := some (fileOf pool1 8 #[] #[{ accessFlags := 1, nameIndex := 5, descriptorIndex := 6, attributes := #[] }, { accessFlags := 10, nameIndex := 11, descriptorIndex := 12, attributes := #[] }, { accessFlags := 10, nameIndex := 20, descriptorIndex := 21, attributes := #[] }, { accessFlags := 10, nameIndex := 24, descriptorIndex := 25, attributes := #[] }, { accessFlags := 9, nameIndex := 39, descriptorIndex := 40, attributes := #[] }] 49 2 #[] #[])
  fields := #[]
  methods := #[k1m0, k1m1, k1m2, k1m3, k1m4]
  instanceTypes := #[]
  staticTypes := #[]
  resolved := Array.replicate 45 none
  statics := none }

def pool2 : Array CpInfo := pool [(1, .class_ 2), (0, u "java/io/Serializable"), (0, .class_ 4), (0, u "java/lang/Object")] 2

/-- java/io/Serializable -/
def k2 : Class := { plain "java/io/Serializable" (some 0) with
  accessFlags := 1537
  interfaces := #[]
  cf := some (fileOf pool2 1 #[] #[] 1537 3 #[] #[])
  fields := #[]
  methods := #[]
  instanceTypes := #[]
  staticTypes := #[]
  resolved := Array.replicate 7 none
  statics := none }

def pool3 : Array CpInfo := pool [(1, .class_ 2), (0, u "java/lang/Comparable"), (0, .class_ 4), (0, u "java/lang/Object")] 7

/-- java/lang/Comparable -/
def k3 : Class := { plain "java/lang/Comparable" (some 0) with
  accessFlags := 1537
  interfaces := #[]
  cf := some (fileOf pool3 1 #[] #[] 1537 3 #[] #[])
  fields := #[]
  methods := #[]
  instanceTypes := #[]
  staticTypes := #[]
  resolved := Array.replicate 12 none
  statics := none }

def pool4 : Array CpInfo := pool [(2, .class_ 4), (1, u "java/lang/CharSequence"), (42, .class_ 48), (0, u "java/lang/CharSequence$1CodePointIterator"), (10, .class_ 60), (0, u "java/lang/CharSequence$1CharIterator"), (5, .class_ 67), (0, u "java/lang/Object")] 63

/-- java/lang/CharSequence -/
def k4 : Class := { plain "java/lang/CharSequence" (some 0) with
  accessFlags := 1537
  interfaces := #[]
  cf := some (fileOf pool4 2 #[.nestMembers #[47, 59]] #[] 1537 66 #[] #[])
  fields := #[]
  methods := #[]
  instanceTypes := #[]
  staticTypes := #[]
  resolved := Array.replicate 131 none
  statics := none }

def pool5 : Array CpInfo := pool [(1, .class_ 2), (0, u "java/lang/constant/Constable"), (0, .class_ 4), (0, u "java/lang/Object")] 6

/-- java/lang/constant/Constable -/
def k5 : Class := { plain "java/lang/constant/Constable" (some 0) with
  accessFlags := 1537
  interfaces := #[]
  cf := some (fileOf pool5 1 #[] #[] 1537 3 #[] #[])
  fields := #[]
  methods := #[]
  instanceTypes := #[]
  staticTypes := #[]
  resolved := Array.replicate 11 none
  statics := none }

def pool6 : Array CpInfo := pool [(1, .class_ 2), (0, u "java/lang/constant/ConstantDesc"), (0, .class_ 4), (0, u "java/lang/Object")] 32

/-- java/lang/constant/ConstantDesc -/
def k6 : Class := { plain "java/lang/constant/ConstantDesc" (some 0) with
  accessFlags := 1537
  interfaces := #[]
  cf := some (fileOf pool6 1 #[] #[] 1537 3 #[] #[])
  fields := #[]
  methods := #[]
  instanceTypes := #[]
  staticTypes := #[]
  resolved := Array.replicate 37 none
  statics := none }

def pool7 : Array CpInfo := pool [(1, .methodref 2 3), (0, .class_ 4), (0, .nameAndType 5 6), (0, u "java/lang/Object"), (0, u "<init>"), (0, u "()V"), (2, .fieldref 10 11), (0, .class_ 12), (0, .nameAndType 13 14), (0, u "java/lang/String"), (0, u "value"), (0, u "[B"), (0, .fieldref 10 16), (0, .nameAndType 17 18), (0, u "coder"), (0, u "B"), (2, u "hash"), (0, u "I"), (2, u "hashIsZero"), (0, u "Z"), (0, .methodref 10 28), (0, .nameAndType 5 29), (0, u "([CIILjava/lang/Void;)V"), (8, .fieldref 10 39), (0, .nameAndType 40 26), (0, u "COMPACT_STRINGS"), (1, .class_ 44), (1, u "java/lang/StringUTF16"), (0, u "compress"), (1, .methodref 42 48), (0, .nameAndType 49 50), (0, u "coderFromArrayLen"), (0, u "([BI)B"), (56, .class_ 109), (1, u "java/lang/StringLatin1"), (32, u "()Z"), (34, .methodref 42 178), (0, .nameAndType 45 179), (0, u "([CII)[B"), (154, u "()I"), (0, .methodref 10 336), (0, .nameAndType 17 337), (0, u "()B"), (25, u "([BI)C"), (27, u "(II)V"), (35, u "(I)C"), (64, .methodref 10 493), (0, .nameAndType 494 142), (0, u "isLatin1"), (0, .methodref 107 496), (0, .nameAndType 497 363), (0, u "charAt"), (3, u "checkIndex"), (5, u "length"), (67, .class_ 576), (0, u "java/lang/CharSequence"), (22, u "CASE_INSENSITIVE_ORDER"), (0, u "Ljava/util/Comparator;"), (409, u "([C)V"), (42, .fieldref 1054 1055), (0, .class_ 1056), (0, .nameAndType 1057 1058), (0, u "jdk/internal/util/Preconditions"), (0, u "SIOOBE_FORMATTER"), (0, u "Ljava/util/function/BiFunction;"), (0, .methodref 1054 1060), (0, .nameAndType 501 1061), (0, u "(IILjava/util/function/BiFunction;)I"), (39, u "serialPersistentFields"), (0, u "[Ljava/io/ObjectStreamField;"), (0, .class_ 1104), (0, u "java/lang/String$CaseInsensitiveComparator"), (1, .class_ 1107), (0, u "java/io/Serializable"), (0, .class_ 1109), (0, u "java/lang/Comparable"), (0, .class_ 1111), (0, u "java/lang/constant/Constable"), (0, .class_ 1113), (0, u "java/lang/constant/ConstantDesc"), (2, u "serialVersionUID"), (0, u "J"), (3, u "REPL"), (0, u "C"), (2, u "LATIN1"), (1, u "UTF16")] 323

def k7m0 : Method := { name := "<init>", desc := "()V", sig := { parameters := [], returnType := none }, accessFlags := 1, code := none }
def k7c1 : Code := { maxStack := 5, maxLocals := 2, code := jdk_42_method_3_code, exceptionTable := #[], attributes := #[] }
def k7m1 : Method := { name := "<init>", desc := "([C)V", sig := { parameters := [(.array .char)], returnType := none }, accessFlags := 1, code := some k7c1 }
def k7c2 : Code := { maxStack := 2, maxLocals := 1, code := jdk_42_method_54_code, exceptionTable := #[], attributes := #[] }
def k7m2 : Method := { name := "length", desc := "()I", sig := { parameters := [], returnType := some .int }, accessFlags := 1, code := some k7c2 }
def k7c3 : Code := { maxStack := 2, maxLocals := 2, code := jdk_42_method_56_code, exceptionTable := #[], attributes := #[] }
def k7m3 : Method := { name := "charAt", desc := "(I)C", sig := { parameters := [.int], returnType := some .char }, accessFlags := 1, code := some k7c3 }
def k7c4 : Code := { maxStack := 4, maxLocals := 6, code := jdk_42_method_149_code, exceptionTable := #[], attributes := #[] }
def k7m4 : Method := { name := "<init>", desc := "([CIILjava/lang/Void;)V", sig := { parameters := [(.array .char), .int, .int, (.object "java/lang/Void")], returnType := none }, accessFlags := 2, code := some k7c4 }
def k7c5 : Code := { maxStack := 1, maxLocals := 1, code := jdk_42_method_152_code, exceptionTable := #[], attributes := #[] }
def k7m5 : Method := { name := "coder", desc := "()B", sig := { parameters := [], returnType := some .byte }, accessFlags := 0, code := some k7c5 }
def k7c6 : Code := { maxStack := 1, maxLocals := 1, code := jdk_42_method_154_code, exceptionTable := #[], attributes := #[] }
def k7m6 : Method := { name := "isLatin1", desc := "()Z", sig := { parameters := [], returnType := some .boolean }, accessFlags := 0, code := some k7c6 }
def k7c7 : Code := { maxStack := 3, maxLocals := 2, code := jdk_42_method_155_code, exceptionTable := #[], attributes := #[] }
def k7m7 : Method := { name := "checkIndex", desc := "(II)V", sig := { parameters := [.int, .int], returnType := none }, accessFlags := 8, code := some k7c7 }
/-- java/lang/String -/
def k7 : Class := { plain "java/lang/String" (some 0) with
  accessFlags := 49
  interfaces := #[2, 3, 4, 5, 6]
  cf := some (fileOf pool7 10 #[.nestMembers #[1103]] #[{ accessFlags := 1, nameIndex := 5, descriptorIndex := 6, attributes := #[] }, { accessFlags := 1, nameIndex := 5, descriptorIndex := 1010, attributes := #[] }, { accessFlags := 1, nameIndex := 507, descriptorIndex := 334, attributes := #[] }, { accessFlags := 1, nameIndex := 497, descriptorIndex := 427, attributes := #[] }, { accessFlags := 2, nameIndex := 5, descriptorIndex := 29, attributes := #[] }, { accessFlags := 0, nameIndex := 17, descriptorIndex := 337, attributes := #[] }, { accessFlags := 0, nameIndex := 494, descriptorIndex := 142, attributes := #[] }, { accessFlags := 8, nameIndex := 501, descriptorIndex := 391, attributes := #[] }] 49 2 #[1106, 1108, 575, 1110, 1112] #[{ accessFlags := 18, nameIndex := 13, descriptorIndex := 14, attributes := #[] }, { accessFlags := 18, nameIndex := 17, descriptorIndex := 18, attributes := #[] }, { accessFlags := 2, nameIndex := 21, descriptorIndex := 22, attributes := #[] }, { accessFlags := 2, nameIndex := 25, descriptorIndex := 26, attributes := #[] }, { accessFlags := 26, nameIndex := 1116, descriptorIndex := 1117, attributes := #[] }, { accessFlags := 24, nameIndex := 40, descriptorIndex := 26, attributes := #[] }, { accessFlags := 26, nameIndex := 1101, descriptorIndex := 1102, attributes := #[] }, { accessFlags := 26, nameIndex := 1121, descriptorIndex := 1122, attributes := #[] }, { accessFlags := 25, nameIndex := 599, descriptorIndex := 600, attributes := #[] }, { accessFlags := 24, nameIndex := 1125, descriptorIndex := 18, attributes := #[] }, { accessFlags := 24, nameIndex := 1127, descriptorIndex := 18, attributes := #[] }])
  fields := #[{ name := "value", type := (.array .byte), accessFlags := 18, slot := 0, constantValue := 0 }, { name := "coder", type := .byte, accessFlags := 18, slot := 1, constantValue := 0 }, { name := "hash", type := .int, accessFlags := 2, slot := 2, constantValue := 0 }, { name := "hashIsZero", type := .boolean, accessFlags := 2, slot := 3, constantValue := 0 }, { name := "serialVersionUID", type := .long, accessFlags := 26, slot := 0, constantValue := 0 }, { name := "COMPACT_STRINGS", type := .boolean, accessFlags := 24, slot := 1, constantValue := 0 }, { name := "serialPersistentFields", type := (.array (.object "java/io/ObjectStreamField")), accessFlags := 26, slot := 2, constantValue := 0 }, { name := "REPL", type := .char, accessFlags := 26, slot := 3, constantValue := 0 }, { name := "CASE_INSENSITIVE_ORDER", type := (.object "java/util/Comparator"), accessFlags := 25, slot := 4, constantValue := 0 }, { name := "LATIN1", type := .byte, accessFlags := 24, slot := 5, constantValue := 0 }, { name := "UTF16", type := .byte, accessFlags := 24, slot := 6, constantValue := 0 }]
  methods := #[k7m0, k7m1, k7m2, k7m3, k7m4, k7m5, k7m6, k7m7]
  instanceTypes := #[(.array .byte), .byte, .int, .boolean]
  staticTypes := #[.long, .boolean, (.array (.object "java/io/ObjectStreamField")), .char, (.object "java/util/Comparator"), .byte, .byte]
  resolved := Array.replicate 1451 none
  statics := some 0 }

def pool8 : Array CpInfo := pool [(6, .class_ 8), (1, u "java/lang/Object"), (0, u "<init>"), (0, u "()V"), (1, .class_ 14), (1, u "java/lang/StringUTF16"), (31, u "$assertionsDisabled"), (0, u "Z"), (13, u "HI_BYTE_SHIFT"), (0, u "I"), (2, u "LO_BYTE_SHIFT"), (49, .methodref 12 116), (0, .nameAndType 117 118), (0, u "compress"), (0, u "([CI[BII)I"), (3, u "([CII)[B"), (138, u "coderFromArrayLen"), (0, u "([BI)B"), (106, .class_ 371), (1, u "java/lang/StringUTF16$LinesSpliterator"), (58, u "MAX_LENGTH"), (196, .class_ 628), (0, u "java/lang/StringUTF16$CodePointsSpliterator"), (0, .class_ 630), (0, u "java/lang/StringUTF16$CharsSpliterator")] 4

def k8m0 : Method := { name := "<init>", desc := "()V", sig := { parameters := [], returnType := none }, accessFlags := 0, code := none }
def k8c1 : Code := { maxStack := 2, maxLocals := 2, code := jdk_52_method_15_code, exceptionTable := #[], attributes := #[] }
def k8m1 : Method := { name := "coderFromArrayLen", desc := "([BI)B", sig := { parameters := [(.array .byte), .int], returnType := some .byte }, accessFlags := 8, code := some k8c1 }
def k8c2 : Code := { maxStack := 5, maxLocals := 6, code := jdk_52_method_16_code, exceptionTable := #[], attributes := #[] }
def k8m2 : Method := { name := "compress", desc := "([CII)[B", sig := { parameters := [(.array .char), .int, .int], returnType := some (.array .byte) }, accessFlags := 9, code := some k8c2 }
def k8c3 : Code := { maxStack := 3, maxLocals := 7, code := jdk_52_method_21_code, exceptionTable := #[], attributes := #[] }
def k8m3 : Method := { name := "compress", desc := "([CI[BII)I", sig := { parameters := [(.array .char), .int, (.array .byte), .int, .int], returnType := some .int }, accessFlags := 9, code := some k8c3 }
/-- java/lang/StringUTF16 -/
def k8 : Class := { plain "java/lang/StringUTF16" (some 0) with
  accessFlags := 48
  interfaces := #[]
  cf := some (fileOf pool8 12 #[.nestMembers #[627, 629, 369]] #[{ accessFlags := 0, nameIndex := 9, descriptorIndex := 10, attributes := #[] }, { accessFlags := 8, nameIndex := 261, descriptorIndex := 262, attributes := #[] }, { accessFlags := 9, nameIndex := 117, descriptorIndex := 122, attributes := #[] }, { accessFlags := 9, nameIndex := 117, descriptorIndex := 118, attributes := #[] }] 48 6 #[] #[{ accessFlags := 26, nameIndex := 61, descriptorIndex := 62, attributes := #[] }, { accessFlags := 26, nameIndex := 65, descriptorIndex := 62, attributes := #[] }, { accessFlags := 24, nameIndex := 430, descriptorIndex := 62, attributes := #[] }, { accessFlags := 4120, nameIndex := 46, descriptorIndex := 47, attributes := #[] }])
  fields := #[{ name := "HI_BYTE_SHIFT", type := .int, accessFlags := 26, slot := 0, constantValue := 0 }, { name := "LO_BYTE_SHIFT", type := .int, accessFlags := 26, slot := 1, constantValue := 0 }, { name := "MAX_LENGTH", type := .int, accessFlags := 24, slot := 2, constantValue := 0 }, { name := "$assertionsDisabled", type := .boolean, accessFlags := 4120, slot := 3, constantValue := 0 }]
  methods := #[k8m0, k8m1, k8m2, k8m3]
  instanceTypes := #[]
  staticTypes := #[.int, .int, .int, .boolean]
  resolved := Array.replicate 635 none
  statics := none }

def pool9 : Array CpInfo := pool [(1, .methodref 2 3), (0, .class_ 4), (0, .nameAndType 5 6), (0, u "java/lang/Object"), (0, u "<init>"), (0, u "()V"), (0, .fieldref 8 9), (0, .class_ 10), (0, .nameAndType 11 12), (0, u "com/example/nitpick/nitpick/internal/interpolation/ExpressionEnds"), (0, u "exits"), (0, u "[[I"), (0, .methodref 14 15), (0, .class_ 16), (0, .nameAndType 17 18), (0, u "java/lang/String"), (0, u "length"), (0, u "()I"), (0, .fieldref 8 20), (0, .nameAndType 21 22), (0, u "QUOTINGS"), (0, u "[Lcom/example/nitpick/nitpick/internal/interpolation/ExpressionLiterals$Quoting;"), (0, .class_ 12), (0, .methodref 14 25), (0, .nameAndType 26 27), (0, u "charAt"), (0, u "(I)C"), (0, .methodref 29 30), (0, .class_ 31), (0, .nameAndType 32 33), (0, u "com/example/nitpick/nitpick/internal/interpolation/ExpressionLiterals$Quoting"), (0, u "next"), (0, u "(C)Lcom/example/nitpick/nitpick/internal/interpolation/ExpressionLiterals$Quoting;"), (0, .methodref 29 35), (0, .nameAndType 36 18), (0, u "ordinal"), (0, .fieldref 29 38), (0, .nameAndType 39 40), (0, u "CODE"), (0, u "Lcom/example/nitpick/nitpick/internal/interpolation/ExpressionLiterals$Quoting;"), (0, .fieldref 8 42), (0, .nameAndType 39 43), (0, u "I"), (0, .methodref 8 45), (0, .nameAndType 5 46), (0, u "([[I)V"), (6, u "of"), (0, u "(Ljava/lang/String;)Lcom/example/nitpick/nitpick/internal/interpolation/ExpressionEnds;"), (2, u "endOf"), (0, u "(I)I")] 7

def k9c0 : Code := { maxStack := 2, maxLocals := 2, code := prog_57_method_1_code, exceptionTable := #[], attributes := #[] }
def k9m0 : Method := { name := "<init>", desc := "([[I)V", sig := { parameters := [(.array (.array .int))], returnType := none }, accessFlags := 2, code := some k9c0 }
def k9c1 : Code := { maxStack := 3, maxLocals := 10, code := prog_57_method_2_code, exceptionTable := #[], attributes := #[] }
def k9m1 : Method := { name := "of", desc := "(Ljava/lang/String;)Lcom/example/nitpick/nitpick/internal/interpolation/ExpressionEnds;", sig := { parameters := [(.object "java/lang/String")], returnType := some (.object "com/example/nitpick/nitpick/internal/interpolation/ExpressionEnds") }, accessFlags := 8, code := some k9c1 }
def k9c2 : Code := { maxStack := 3, maxLocals := 3, code := prog_57_method_3_code, exceptionTable := #[], attributes := #[] }
def k9m2 : Method := { name := "endOf", desc := "(I)I", sig := { parameters := [.int], returnType := some .int }, accessFlags := 0, code := some k9c2 }
/-- com/example/nitpick/nitpick/internal/interpolation/ExpressionEnds -/
def k9 : Class := { plain "com/example/nitpick/nitpick/internal/interpolation/ExpressionEnds" (some 0) with
  accessFlags := 48
  interfaces := #[]
  cf := some (fileOf pool9 8 #[] #[{ accessFlags := 2, nameIndex := 5, descriptorIndex := 46, attributes := #[] }, { accessFlags := 8, nameIndex := 53, descriptorIndex := 54, attributes := #[] }, { accessFlags := 0, nameIndex := 57, descriptorIndex := 58, attributes := #[] }] 48 2 #[] #[{ accessFlags := 26, nameIndex := 21, descriptorIndex := 22, attributes := #[] }, { accessFlags := 26, nameIndex := 39, descriptorIndex := 43, attributes := #[] }, { accessFlags := 18, nameIndex := 11, descriptorIndex := 12, attributes := #[] }])
  fields := #[{ name := "QUOTINGS", type := (.array (.object "com/example/nitpick/nitpick/internal/interpolation/ExpressionLiterals$Quoting")), accessFlags := 26, slot := 0, constantValue := 0 }, { name := "CODE", type := .int, accessFlags := 26, slot := 1, constantValue := 0 }, { name := "exits", type := (.array (.array .int)), accessFlags := 18, slot := 0, constantValue := 0 }]
  methods := #[k9m0, k9m1, k9m2]
  instanceTypes := #[(.array (.array .int))]
  staticTypes := #[(.array (.object "com/example/nitpick/nitpick/internal/interpolation/ExpressionLiterals$Quoting")), .int]
  resolved := Array.replicate 66 none
  statics := some 1 }

def pool10 : Array CpInfo := pool [(1, .class_ 2), (0, u "java/lang/String"), (1, .class_ 6), (1, u "java/lang/Object"), (0, u "<init>"), (0, u "()V"), (0, .methodref 1 10), (0, .nameAndType 11 12), (0, u "checkIndex"), (0, u "(II)V"), (1, .class_ 16), (1, u "java/lang/StringLatin1"), (36, u "([BI)C"), (67, u "$assertionsDisabled"), (0, u "Z"), (98, .class_ 223), (1, u "java/lang/StringLatin1$LinesSpliterator"), (28, u "charAt"), (137, .class_ 391), (0, u "java/lang/StringLatin1$CharsSpliterator")] 3

def k10m0 : Method := { name := "<init>", desc := "()V", sig := { parameters := [], returnType := none }, accessFlags := 0, code := none }
def k10c1 : Code := { maxStack := 2, maxLocals := 2, code := jdk_43_method_2_code, exceptionTable := #[], attributes := #[] }
def k10m1 : Method := { name := "charAt", desc := "([BI)C", sig := { parameters := [(.array .byte), .int], returnType := some .char }, accessFlags := 9, code := some k10c1 }
/-- java/lang/StringLatin1 -/
def k10 : Class := { plain "java/lang/StringLatin1" (some 0) with
  accessFlags := 48
  interfaces := #[]
  cf := some (fileOf pool10 14 #[.nestMembers #[390, 221]] #[{ accessFlags := 0, nameIndex := 7, descriptorIndex := 8, attributes := #[] }, { accessFlags := 9, nameIndex := 252, descriptorIndex := 53, attributes := #[] }] 48 4 #[] #[{ accessFlags := 4120, nameIndex := 121, descriptorIndex := 122, attributes := #[] }])
  fields := #[{ name := "$assertionsDisabled", type := .boolean, accessFlags := 4120, slot := 0, constantValue := 0 }]
  methods := #[k10m0, k10m1]
  instanceTypes := #[]
  staticTypes := #[.boolean]
  resolved := Array.replicate 395 none
  statics := none }

def pool11 : Array CpInfo := pool [(2, .class_ 4), (1, u "java/lang/Object"), (0, u "<init>"), (0, u "()V"), (17, .class_ 26), (1, u "jdk/internal/util/Preconditions"), (6, u "checkIndex"), (21, .class_ 56), (0, u "jdk/internal/util/Preconditions$4"), (57, .class_ 115), (0, u "jdk/internal/util/Preconditions$1"), (7, u "SIOOBE_FORMATTER"), (0, u "Ljava/util/function/BiFunction;"), (0, .class_ 126), (0, u "jdk/internal/util/Preconditions$2"), (3, u "AIOOBE_FORMATTER"), (0, .class_ 132), (0, u "jdk/internal/util/Preconditions$3"), (3, u "IOOBE_FORMATTER"), (41, u "(IILjava/util/function/BiFunction;)I")] 15

def k11m0 : Method := { name := "<init>", desc := "()V", sig := { parameters := [], returnType := none }, accessFlags := 1, code := none }
def k11c1 : Code := { maxStack := 3, maxLocals := 3, code := jdk_41_method_11_code, exceptionTable := #[], attributes := #[] }
def k11m1 : Method := { name := "checkIndex", desc := "(IILjava/util/function/BiFunction;)I", sig := { parameters := [.int, .int, (.object "java/util/function/BiFunction")], returnType := some .int }, accessFlags := 9, code := some k11c1 }
/-- jdk/internal/util/Preconditions -/
def k11 : Class := { plain "jdk/internal/util/Preconditions" (some 0) with
  accessFlags := 33
  interfaces := #[]
  cf := some (fileOf pool11 24 #[.nestMembers #[55, 131, 125, 114]] #[{ accessFlags := 1, nameIndex := 5, descriptorIndex := 6, attributes := #[] }, { accessFlags := 9, nameIndex := 33, descriptorIndex := 178, attributes := #[] }] 33 2 #[] #[{ accessFlags := 25, nameIndex := 123, descriptorIndex := 124, attributes := #[] }, { accessFlags := 25, nameIndex := 130, descriptorIndex := 124, attributes := #[] }, { accessFlags := 25, nameIndex := 136, descriptorIndex := 124, attributes := #[] }])
  fields := #[{ name := "SIOOBE_FORMATTER", type := (.object "java/util/function/BiFunction"), accessFlags := 25, slot := 0, constantValue := 0 }, { name := "AIOOBE_FORMATTER", type := (.object "java/util/function/BiFunction"), accessFlags := 25, slot := 1, constantValue := 0 }, { name := "IOOBE_FORMATTER", type := (.object "java/util/function/BiFunction"), accessFlags := 25, slot := 2, constantValue := 0 }]
  methods := #[k11m0, k11m1]
  instanceTypes := #[]
  staticTypes := #[(.object "java/util/function/BiFunction"), (.object "java/util/function/BiFunction"), (.object "java/util/function/BiFunction")]
  resolved := Array.replicate 194 none
  statics := some 2 }

def pool12 : Array CpInfo := pool [(2, .class_ 4), (1, u "java/lang/Enum"), (0, u "name"), (0, u "Ljava/lang/String;"), (0, .fieldref 2 8), (0, .nameAndType 9 10), (0, u "ordinal"), (0, u "I"), (1, .class_ 14), (1, u "java/lang/Object"), (4, u "hash"), (86, .class_ 108), (1, u "java/lang/Enum$EnumDesc"), (2, .class_ 112), (0, u "java/lang/constant/Constable"), (0, .class_ 114), (0, u "java/lang/Comparable"), (0, .class_ 116), (0, u "java/io/Serializable"), (9, u "()I")] 77

def k12c0 : Code := { maxStack := 1, maxLocals := 1, code := jdk_37_method_2_code, exceptionTable := #[], attributes := #[] }
def k12m0 : Method := { name := "ordinal", desc := "()I", sig := { parameters := [], returnType := some .int }, accessFlags := 17, code := some k12c0 }
/-- java/lang/Enum -/
def k12 : Class := { plain "java/lang/Enum" (some 0) with
  accessFlags := 1057
  interfaces := #[5, 3, 2]
  cf := some (fileOf pool12 2 #[.nestMembers #[106]] #[{ accessFlags := 17, nameIndex := 9, descriptorIndex := 126, attributes := #[] }] 1057 12 #[111, 113, 115] #[{ accessFlags := 18, nameIndex := 5, descriptorIndex := 6, attributes := #[] }, { accessFlags := 18, nameIndex := 9, descriptorIndex := 10, attributes := #[] }, { accessFlags := 2, nameIndex := 19, descriptorIndex := 10, attributes := #[] }])
  fields := #[{ name := "name", type := (.object "java/lang/String"), accessFlags := 18, slot := 0, constantValue := 0 }, { name := "ordinal", type := .int, accessFlags := 18, slot := 1, constantValue := 0 }, { name := "hash", type := .int, accessFlags := 2, slot := 2, constantValue := 0 }]
  methods := #[k12m0]
  instanceTypes := #[(.object "java/lang/String"), .int, .int]
  staticTypes := #[]
  resolved := Array.replicate 204 none
  statics := none }

def pool13 : Array CpInfo := pool [(1, .class_ 2), (0, u "com/example/nitpick/nitpick/internal/interpolation/ExpressionLiterals$Quoting"), (0, .fieldref 1 4), (0, .nameAndType 5 6), (0, u "CODE"), (0, u "Lcom/example/nitpick/nitpick/internal/interpolation/ExpressionLiterals$Quoting;"), (0, .fieldref 1 8), (0, .nameAndType 9 6), (0, u "SINGLE"), (0, .fieldref 1 11), (0, .nameAndType 12 6), (0, u "SINGLE_ESCAPED"), (0, .fieldref 1 14), (0, .nameAndType 15 6), (0, u "DOUBLE"), (0, .fieldref 1 17), (0, .nameAndType 18 6), (0, u "DOUBLE_ESCAPED"), (2, u "$VALUES"), (0, u "[Lcom/example/nitpick/nitpick/internal/interpolation/ExpressionLiterals$Quoting;"), (6, .class_ 31), (1, u "java/lang/Enum"), (6, .methodref 1 39), (0, .nameAndType 40 41), (0, u "ordinal"), (0, u "()I"), (22, u "next"), (0, u "(C)Lcom/example/nitpick/nitpick/internal/interpolation/ExpressionLiterals$Quoting;"), (6, .class_ 73), (0, u "com/example/nitpick/nitpick/internal/interpolation/ExpressionLiterals")] 2

def k13c0 : Code := { maxStack := 4, maxLocals := 2, code := prog_61_method_4_code, exceptionTable := #[], attributes := #[] }
def k13m0 : Method := { name := "next", desc := "(C)Lcom/example/nitpick/nitpick/internal/interpolation/ExpressionLiterals$Quoting;", sig := { parameters := [.char], returnType := some (.object "com/example/nitpick/nitpick/internal/interpolation/ExpressionLiterals$Quoting") }, accessFlags := 0, code := some k13c0 }
/-- com/example/nitpick/nitpick/internal/interpolation/ExpressionLiterals$Quoting -/
def k13 : Class := { plain "com/example/nitpick/nitpick/internal/interpolation/ExpressionLiterals$Quoting" (some 12) with
  accessFlags := 16432
  interfaces := #[]
  cf := some (fileOf pool13 1 #[.nestHost 72] #[{ accessFlags := 0, nameIndex := 64, descriptorIndex := 65, attributes := #[] }] 16432 29 #[] #[{ accessFlags := 16409, nameIndex := 5, descriptorIndex := 6, attributes := #[] }, { accessFlags := 16409, nameIndex := 9, descriptorIndex := 6, attributes := #[] }, { accessFlags := 16409, nameIndex := 12, descriptorIndex := 6, attributes := #[] }, { accessFlags := 16409, nameIndex := 15, descriptorIndex := 6, attributes := #[] }, { accessFlags := 16409, nameIndex := 18, descriptorIndex := 6, attributes := #[] }, { accessFlags := 4122, nameIndex := 21, descriptorIndex := 22, attributes := #[] }])
  fields := #[{ name := "CODE", type := (.object "com/example/nitpick/nitpick/internal/interpolation/ExpressionLiterals$Quoting"), accessFlags := 16409, slot := 0, constantValue := 0 }, { name := "SINGLE", type := (.object "com/example/nitpick/nitpick/internal/interpolation/ExpressionLiterals$Quoting"), accessFlags := 16409, slot := 1, constantValue := 0 }, { name := "SINGLE_ESCAPED", type := (.object "com/example/nitpick/nitpick/internal/interpolation/ExpressionLiterals$Quoting"), accessFlags := 16409, slot := 2, constantValue := 0 }, { name := "DOUBLE", type := (.object "com/example/nitpick/nitpick/internal/interpolation/ExpressionLiterals$Quoting"), accessFlags := 16409, slot := 3, constantValue := 0 }, { name := "DOUBLE_ESCAPED", type := (.object "com/example/nitpick/nitpick/internal/interpolation/ExpressionLiterals$Quoting"), accessFlags := 16409, slot := 4, constantValue := 0 }, { name := "$VALUES", type := (.array (.object "com/example/nitpick/nitpick/internal/interpolation/ExpressionLiterals$Quoting")), accessFlags := 4122, slot := 5, constantValue := 0 }]
  methods := #[k13m0]
  instanceTypes := #[(.object "java/lang/String"), .int, .int]
  staticTypes := #[(.object "com/example/nitpick/nitpick/internal/interpolation/ExpressionLiterals$Quoting"), (.object "com/example/nitpick/nitpick/internal/interpolation/ExpressionLiterals$Quoting"), (.object "com/example/nitpick/nitpick/internal/interpolation/ExpressionLiterals$Quoting"), (.object "com/example/nitpick/nitpick/internal/interpolation/ExpressionLiterals$Quoting"), (.object "com/example/nitpick/nitpick/internal/interpolation/ExpressionLiterals$Quoting"), (.array (.object "com/example/nitpick/nitpick/internal/interpolation/ExpressionLiterals$Quoting"))]
  resolved := Array.replicate 76 none
  statics := some 3 }

def pool14 : Array CpInfo := pool [(9, u "<init>"), (6, .class_ 18), (1, u "java/lang/Object"), (0, u "()V"), (1, .class_ 23), (1, u "jdk/internal/util/ArraysSupport"), (0, u "LOG2_ARRAY_LONG_INDEX_SCALE"), (0, u "I"), (2, u "U"), (0, u "Ljdk/internal/misc/Unsafe;"), (8, u "BIG_ENDIAN"), (0, u "Z"), (8, u "LOG2_BYTE_BIT_SIZE"), (4, u "LOG2_ARRAY_INT_INDEX_SCALE"), (54, u "JLA"), (0, u "Ljdk/internal/access/JavaLangAccess;"), (11, u "LOG2_ARRAY_BOOLEAN_INDEX_SCALE"), (9, u "LOG2_ARRAY_BYTE_INDEX_SCALE"), (5, u "LOG2_ARRAY_CHAR_INDEX_SCALE"), (5, u "LOG2_ARRAY_SHORT_INDEX_SCALE"), (18, u "LOG2_ARRAY_FLOAT_INDEX_SCALE"), (24, u "LOG2_ARRAY_DOUBLE_INDEX_SCALE"), (89, u "T_BOOLEAN"), (2, u "T_CHAR"), (1, u "T_FLOAT"), (1, u "T_DOUBLE"), (1, u "T_BYTE"), (1, u "T_SHORT"), (1, u "T_INT"), (1, u "T_LONG"), (1, u "SOFT_MAX_ARRAY_LENGTH")] 83

def k14m0 : Method := { name := "<init>", desc := "()V", sig := { parameters := [], returnType := none }, accessFlags := 2, code := none }
/-- jdk/internal/util/ArraysSupport -/
def k14 : Class := { plain "jdk/internal/util/ArraysSupport" (some 0) with
  accessFlags := 33
  interfaces := #[]
  cf := some (fileOf pool14 21 #[] #[{ accessFlags := 2, nameIndex := 9, descriptorIndex := 19, attributes := #[] }] 33 16 #[] #[{ accessFlags := 24, nameIndex := 28, descriptorIndex := 29, attributes := #[] }, { accessFlags := 26, nameIndex := 38, descriptorIndex := 39, attributes := #[] }, { accessFlags := 25, nameIndex := 121, descriptorIndex := 25, attributes := #[] }, { accessFlags := 25, nameIndex := 131, descriptorIndex := 25, attributes := #[] }, { accessFlags := 25, nameIndex := 137, descriptorIndex := 25, attributes := #[] }, { accessFlags := 25, nameIndex := 143, descriptorIndex := 25, attributes := #[] }, { accessFlags := 25, nameIndex := 53, descriptorIndex := 25, attributes := #[] }, { accessFlags := 25, nameIndex := 24, descriptorIndex := 25, attributes := #[] }, { accessFlags := 25, nameIndex := 162, descriptorIndex := 25, attributes := #[] }, { accessFlags := 25, nameIndex := 187, descriptorIndex := 25, attributes := #[] }, { accessFlags := 26, nameIndex := 48, descriptorIndex := 25, attributes := #[] }, { accessFlags := 25, nameIndex := 277, descriptorIndex := 25, attributes := #[] }, { accessFlags := 25, nameIndex := 280, descriptorIndex := 25, attributes := #[] }, { accessFlags := 25, nameIndex := 282, descriptorIndex := 25, attributes := #[] }, { accessFlags := 25, nameIndex := 284, descriptorIndex := 25, attributes := #[] }, { accessFlags := 25, nameIndex := 286, descriptorIndex := 25, attributes := #[] }, { accessFlags := 25, nameIndex := 288, descriptorIndex := 25, attributes := #[] }, { accessFlags := 25, nameIndex := 290, descriptorIndex := 25, attributes := #[] }, { accessFlags := 25, nameIndex := 292, descriptorIndex := 25, attributes := #[] }, { accessFlags := 26, nameIndex := 108, descriptorIndex := 109, attributes := #[] }, { accessFlags := 25, nameIndex := 294, descriptorIndex := 25, attributes := #[] }])
  fields := #[{ name := "U", type := (.object "jdk/internal/misc/Unsafe"), accessFlags := 24, slot := 0, constantValue := 0 }, { name := "BIG_ENDIAN", type := .boolean, accessFlags := 26, slot := 1, constantValue := 0 }, { name := "LOG2_ARRAY_BOOLEAN_INDEX_SCALE", type := .int, accessFlags := 25, slot := 2, constantValue := 0 }, { name := "LOG2_ARRAY_BYTE_INDEX_SCALE", type := .int, accessFlags := 25, slot := 3, constantValue := 0 }, { name := "LOG2_ARRAY_CHAR_INDEX_SCALE", type := .int, accessFlags := 25, slot := 4, constantValue := 0 }, { name := "LOG2_ARRAY_SHORT_INDEX_SCALE", type := .int, accessFlags := 25, slot := 5, constantValue := 0 }, { name := "LOG2_ARRAY_INT_INDEX_SCALE", type := .int, accessFlags := 25, slot := 6, constantValue := 0 }, { name := "LOG2_ARRAY_LONG_INDEX_SCALE", type := .int, accessFlags := 25, slot := 7, constantValue := 0 }, { name := "LOG2_ARRAY_FLOAT_INDEX_SCALE", type := .int, accessFlags := 25, slot := 8, constantValue := 0 }, { name := "LOG2_ARRAY_DOUBLE_INDEX_SCALE", type := .int, accessFlags := 25, slot := 9, constantValue := 0 }, { name := "LOG2_BYTE_BIT_SIZE", type := .int, accessFlags := 26, slot := 10, constantValue := 0 }, { name := "T_BOOLEAN", type := .int, accessFlags := 25, slot := 11, constantValue := 0 }, { name := "T_CHAR", type := .int, accessFlags := 25, slot := 12, constantValue := 0 }, { name := "T_FLOAT", type := .int, accessFlags := 25, slot := 13, constantValue := 0 }, { name := "T_DOUBLE", type := .int, accessFlags := 25, slot := 14, constantValue := 0 }, { name := "T_BYTE", type := .int, accessFlags := 25, slot := 15, constantValue := 0 }, { name := "T_SHORT", type := .int, accessFlags := 25, slot := 16, constantValue := 0 }, { name := "T_INT", type := .int, accessFlags := 25, slot := 17, constantValue := 0 }, { name := "T_LONG", type := .int, accessFlags := 25, slot := 18, constantValue := 0 }, { name := "JLA", type := (.object "jdk/internal/access/JavaLangAccess"), accessFlags := 26, slot := 19, constantValue := 0 }, { name := "SOFT_MAX_ARRAY_LENGTH", type := .int, accessFlags := 25, slot := 20, constantValue := 0 }]
  methods := #[k14m0]
  instanceTypes := #[]
  staticTypes := #[(.object "jdk/internal/misc/Unsafe"), .boolean, .int, .int, .int, .int, .int, .int, .int, .int, .int, .int, .int, .int, .int, .int, .int, .int, .int, (.object "jdk/internal/access/JavaLangAccess"), .int]
  resolved := Array.replicate 378 none
  statics := none }

def pool15 : Array CpInfo := pool [(1, u "java/lang/Cloneable"), (0, .class_ 1), (0, u "java/lang/Object"), (0, .class_ 3)] 3

/-- java/lang/Cloneable -/
def k15 : Class := { plain "java/lang/Cloneable" (some 0) with
  accessFlags := 1537
  interfaces := #[]
  cf := some (fileOf pool15 2 #[] #[] 1537 4 #[] #[])
  fields := #[]
  methods := #[]
  instanceTypes := #[]
  staticTypes := #[]
  resolved := Array.replicate 8 none
  statics := none }

/-- the primitive byte -/
def k16 : Class := { plain "byte" none with kind := .primitive 'B', accessFlags := 0x411 }
/-- [B -/
def k17 : Class := { plain "[B" (some 0) with kind := .array 16 .byte, interfaces := #[15, 2], accessFlags := 1041 }

/-- the primitive char -/
def k18 : Class := { plain "char" none with kind := .primitive 'C', accessFlags := 0x411 }
/-- [C -/
def k19 : Class := { plain "[C" (some 0) with kind := .array 18 .char, interfaces := #[15, 2], accessFlags := 1041 }

/-- the primitive int -/
def k20 : Class := { plain "int" none with kind := .primitive 'I', accessFlags := 0x411 }
/-- [I -/
def k21 : Class := { plain "[I" (some 0) with kind := .array 20 .int, interfaces := #[15, 2], accessFlags := 1041 }

/-- [Lcom/example/nitpick/nitpick/internal/interpolation/ExpressionLiterals$Quoting; -/
def k22 : Class := { plain "[Lcom/example/nitpick/nitpick/internal/interpolation/ExpressionLiterals$Quoting;" (some 0) with kind := .array 13 (.object "com/example/nitpick/nitpick/internal/interpolation/ExpressionLiterals$Quoting"), interfaces := #[15, 2], accessFlags := 1041 }
/-- [[I -/
def k23 : Class := { plain "[[I" (some 0) with kind := .array 21 (.array .int), interfaces := #[15, 2], accessFlags := 1041 }

def heap : Heap := #[{ cls := 7, slots := #[.long 0, .int 1, .null, .int 0, .null, .int 0, .int 0], vm := .statics 7 },
  { cls := 9, slots := #[.ref 4, .int 0], vm := .statics 9 },
  { cls := 11, slots := #[.null, .null, .null], vm := .statics 11 },
  { cls := 13, slots := #[.ref 5, .ref 6, .ref 7, .ref 8, .ref 9, .null], vm := .statics 13 },
  { cls := 22, slots := #[.ref 5, .ref 6, .ref 7, .ref 8, .ref 9], vm := .none },
  { cls := 13, slots := #[.null, .int 0, .int 0], vm := .none },
  { cls := 13, slots := #[.null, .int 1, .int 0], vm := .none },
  { cls := 13, slots := #[.null, .int 2, .int 0], vm := .none },
  { cls := 13, slots := #[.null, .int 3, .int 0], vm := .none },
  { cls := 13, slots := #[.null, .int 4, .int 0], vm := .none }]
def classes : Array Class := #[k0, k1, k2, k3, k4, k5, k6, k7, k8, k9, k10, k11, k12, k13, k14, k15, k16, k17, k18, k19, k20, k21, k22, k23]
def interned : List (Array UInt16 × Addr) := []
def slotsUsed : Nat := 38
def theMethod : MethodId := ⟨1, 4⟩
def args0 : Array Value := #[.int 5, .int 5, .int 5, .int 5, .int 5, .int 5]
def aboutOver (below : List Frame) : State where
  vm := { classes := classes, interned := interned.toArray }
  heap := heap
  slotsUsed := slotsUsed
  threads := #[{ frames := .invoking theMethod args0 :: below }]
def below0 : List Frame := [.native { method := ⟨0, 0⟩, args := #[] }]
def about1 : State := aboutOver below0
def p0 : Program := .bare "" "" ""
def e0 : Env := launch0.env 0 0 0
theorem w_frames : about1.frames = Frame.invoking theMethod args0 :: below0 := rfl
set_option maxRecDepth 65536 in
theorem w_args : argsFit about1.vm theMethod args0 = true := by decide +kernel
set_option maxRecDepth 65536 in
theorem w_heap : heapFits about1 = true := by decide +kernel
set_option maxRecDepth 65536 in
theorem w_runnable : about1.curStatus? = some .runnable := by decide +kernel
set_option maxRecDepth 65536 in
theorem w_alone : about1.alone = true := by decide +kernel
set_option maxRecDepth 65536 in
theorem w_named : about1.methodNamed? x = some theMethod := by decide +kernel
set_option maxRecDepth 65536 in
theorem w_hears : about1.hears theMethod below0 = true := by decide +kernel
set_option maxRecDepth 65536 in
theorem w_ripe : about1.ripe theMethod args0 below0 = true := by decide +kernel
theorem w_running : about1.status = .running := rfl
set_option maxRecDepth 65536 in
theorem w_room : about1.hasRoom e0.platform room_1 = true :=
  launch0.hasRoom_least _ room_1 (by decide +kernel) (by decide +kernel) (by decide +kernel) (by decide +kernel) (by decide +kernel) (by decide +kernel)
theorem allAtoms_all (ts : List Jvm.Cond) (a : Array Jvm.Value) (st : Jvm.State) : (allAtoms ts).before a st = ts.all (fun c => c.before a st) := by
  induction ts with
  | nil => rfl
  | cons c t ih =>
    show (Jvm.Cond.and c (allAtoms t)).before a st = _
    rw [Jvm.Cond.before_and, ih, List.all_cons]
def words1 : List Jvm.Cond := Jvm.Cond.code x code maxLocals ret :: tables_1
/-- a 'code' word, met by the world's own term for the bytes: nothing is compared byte by byte -/
theorem code_word {y : MethodName} {bytes : ByteArray} {mx : Nat} {rt : Option FieldType} {a : Array Value} {s : State} {m : MethodId} {meth : Method} {c : Code} (h1 : s.methodNamed? y = some m) (h2 : s.vm.method? m = some meth) (h3 : meth.code = some c) (h4 : c.code = bytes)
    (h5 : (c.maxLocals == mx && c.exceptionTable.isEmpty && decide (c.maxStack ≤ mostOperands) && decide (meth.sig.returnType = rt) && !meth.locks && decide (parseMethodDescriptor y.desc = some meth.sig)) = true) : (Jvm.Cond.code y bytes mx rt).before a s = true := by
  simp only [Bool.and_eq_true, beq_iff_eq, Bool.not_eq_true', decide_eq_true_eq] at h5
  obtain ⟨⟨⟨⟨⟨g1, g2⟩, g3⟩, g4⟩, g5⟩, g6⟩ := h5
  simp [Cond.before, Cond.holds, Cond.value, h1, h2, h3, h4, g1, g2, g3, g4, g5, g6]
def isCode : Jvm.Cond → Bool
  | .code _ _ _ _ => true
  | _ => false
theorem all_split {L : List Jvm.Cond} {P : Jvm.Cond → Bool} (h1 : L.all (fun c => isCode c || P c) = true) (h2 : ∀ c ∈ L.filter isCode, P c = true) : L.all P = true := by
  refine List.all_eq_true.mpr fun c hc => ?_
  have h := List.all_eq_true.mp h1 c hc
  rcases Bool.eq_false_or_eq_true (isCode c) with hi | hi
  · exact h2 c (List.mem_filter.mpr ⟨hc, hi⟩)
  · simpa [hi] using h
set_option maxRecDepth 65536 in
theorem w_c0 : (Jvm.Cond.code x code maxLocals ret).before args0 about1 = true := code_word (m := ⟨1, 4⟩) (meth := k1m4) (c := k1c4) (by decide +kernel) rfl rfl rfl (by decide +kernel)
set_option maxRecDepth 65536 in
theorem w_c1 : (Jvm.Cond.code ({ cls := "com/example/nitpick/nitpick/internal/interpolation/ExpressionEndsOfPinLaw", name := "pick", desc := "(I)C" } : Jvm.MethodName) method_2_code (2 : Nat) (Option.some Jvm.ClassFile.FieldType.char)).before args0 about1 = true := code_word (m := ⟨1, 1⟩) (meth := k1m1) (c := k1c1) (by decide +kernel) rfl rfl rfl (by decide +kernel)
set_option maxRecDepth 65536 in
theorem w_c2 : (Jvm.Cond.code ({ cls := "java/lang/String", name := "<init>", desc := "([C)V" } : Jvm.MethodName) jdk_42_method_3_code (2 : Nat) (Option.none : Option Jvm.ClassFile.FieldType)).before args0 about1 = true := code_word (m := ⟨7, 1⟩) (meth := k7m1) (c := k7c1) (by decide +kernel) rfl rfl rfl (by decide +kernel)
set_option maxRecDepth 65536 in
theorem w_c3 : (Jvm.Cond.code ({ cls := "java/lang/String", name := "<init>", desc := "([CIILjava/lang/Void;)V" } : Jvm.MethodName) jdk_42_method_149_code (6 : Nat) (Option.none : Option Jvm.ClassFile.FieldType)).before args0 about1 = true := code_word (m := ⟨7, 4⟩) (meth := k7m4) (c := k7c4) (by decide +kernel) rfl rfl rfl (by decide +kernel)
set_option maxRecDepth 65536 in
theorem w_c4 : (Jvm.Cond.code ({ cls := "java/lang/Object", name := "<init>", desc := "()V" } : Jvm.MethodName) object_method_1_code (1 : Nat) (Option.none : Option Jvm.ClassFile.FieldType)).before args0 about1 = true := code_word (m := ⟨0, 0⟩) (meth := k0m0) (c := k0c0) (by decide +kernel) rfl rfl rfl (by decide +kernel)
set_option maxRecDepth 65536 in
theorem w_c5 : (Jvm.Cond.code ({ cls := "java/lang/StringUTF16", name := "compress", desc := "([CII)[B" } : Jvm.MethodName) jdk_52_method_16_code (6 : Nat) (Option.some (Jvm.ClassFile.FieldType.array Jvm.ClassFile.FieldType.byte))).before args0 about1 = true := code_word (m := ⟨8, 2⟩) (meth := k8m2) (c := k8c2) (by decide +kernel) rfl rfl rfl (by decide +kernel)
set_option maxRecDepth 65536 in
theorem w_c6 : (Jvm.Cond.code ({ cls := "java/lang/StringUTF16", name := "compress", desc := "([CI[BII)I" } : Jvm.MethodName) jdk_52_method_21_code (7 : Nat) (Option.some Jvm.ClassFile.FieldType.int)).before args0 about1 = true := code_word (m := ⟨8, 3⟩) (meth := k8m3) (c := k8c3) (by decide +kernel) rfl rfl rfl (by decide +kernel)
set_option maxRecDepth 65536 in
theorem w_c7 : (Jvm.Cond.code ({ cls := "java/lang/StringUTF16", name := "coderFromArrayLen", desc := "([BI)B" } : Jvm.MethodName) jdk_52_method_15_code (2 : Nat) (Option.some Jvm.ClassFile.FieldType.byte)).before args0 about1 = true := code_word (m := ⟨8, 1⟩) (meth := k8m1) (c := k8c1) (by decide +kernel) rfl rfl rfl (by decide +kernel)
set_option maxRecDepth 65536 in
theorem w_c8 : (Jvm.Cond.code ({ cls := "com/example/nitpick/nitpick/internal/interpolation/ExpressionEndsOfPinLaw", name := "closes", desc := "(IC)Z" } : Jvm.MethodName) method_3_code (2 : Nat) (Option.some Jvm.ClassFile.FieldType.boolean)).before args0 about1 = true := code_word (m := ⟨1, 2⟩) (meth := k1m2) (c := k1c2) (by decide +kernel) rfl rfl rfl (by decide +kernel)
set_option maxRecDepth 65536 in
theorem w_c9 : (Jvm.Cond.code ({ cls := "com/example/nitpick/nitpick/internal/interpolation/ExpressionEndsOfPinLaw", name := "step", desc := "(IC)I" } : Jvm.MethodName) method_4_code (4 : Nat) (Option.some Jvm.ClassFile.FieldType.int)).before args0 about1 = true := code_word (m := ⟨1, 3⟩) (meth := k1m3) (c := k1c3) (by decide +kernel) rfl rfl rfl (by decide +kernel)
set_option maxRecDepth 65536 in
theorem w_c10 : (Jvm.Cond.code ({ cls := "com/example/nitpick/nitpick/internal/interpolation/ExpressionEnds", name := "of", desc := "(Ljava/lang/String;)Lcom/example/nitpick/nitpick/internal/interpolation/ExpressionEnds;" } : Jvm.MethodName) prog_57_method_2_code (10 : Nat) (Option.some (Jvm.ClassFile.FieldType.object "com/example/nitpick/nitpick/internal/interpolation/ExpressionEnds"))).before args0 about1 = true := code_word (m := ⟨9, 1⟩) (meth := k9m1) (c := k9c1) (by decide +kernel) rfl rfl rfl (by decide +kernel)
set_option maxRecDepth 65536 in
theorem w_c11 : (Jvm.Cond.code ({ cls := "java/lang/String", name := "length", desc := "()I" } : Jvm.MethodName) jdk_42_method_54_code (1 : Nat) (Option.some Jvm.ClassFile.FieldType.int)).before args0 about1 = true := code_word (m := ⟨7, 2⟩) (meth := k7m2) (c := k7c2) (by decide +kernel) rfl rfl rfl (by decide +kernel)
set_option maxRecDepth 65536 in
theorem w_c12 : (Jvm.Cond.code ({ cls := "java/lang/String", name := "coder", desc := "()B" } : Jvm.MethodName) jdk_42_method_152_code (1 : Nat) (Option.some Jvm.ClassFile.FieldType.byte)).before args0 about1 = true := code_word (m := ⟨7, 5⟩) (meth := k7m5) (c := k7c5) (by decide +kernel) rfl rfl rfl (by decide +kernel)
set_option maxRecDepth 65536 in
theorem w_c13 : (Jvm.Cond.code ({ cls := "java/lang/String", name := "charAt", desc := "(I)C" } : Jvm.MethodName) jdk_42_method_56_code (2 : Nat) (Option.some Jvm.ClassFile.FieldType.char)).before args0 about1 = true := code_word (m := ⟨7, 3⟩) (meth := k7m3) (c := k7c3) (by decide +kernel) rfl rfl rfl (by decide +kernel)
set_option maxRecDepth 65536 in
theorem w_c14 : (Jvm.Cond.code ({ cls := "java/lang/String", name := "isLatin1", desc := "()Z" } : Jvm.MethodName) jdk_42_method_154_code (1 : Nat) (Option.some Jvm.ClassFile.FieldType.boolean)).before args0 about1 = true := code_word (m := ⟨7, 6⟩) (meth := k7m6) (c := k7c6) (by decide +kernel) rfl rfl rfl (by decide +kernel)
set_option maxRecDepth 65536 in
theorem w_c15 : (Jvm.Cond.code ({ cls := "java/lang/StringLatin1", name := "charAt", desc := "([BI)C" } : Jvm.MethodName) jdk_43_method_2_code (2 : Nat) (Option.some Jvm.ClassFile.FieldType.char)).before args0 about1 = true := code_word (m := ⟨10, 1⟩) (meth := k10m1) (c := k10c1) (by decide +kernel) rfl rfl rfl (by decide +kernel)
set_option maxRecDepth 65536 in
theorem w_c16 : (Jvm.Cond.code ({ cls := "java/lang/String", name := "checkIndex", desc := "(II)V" } : Jvm.MethodName) jdk_42_method_155_code (2 : Nat) (Option.none : Option Jvm.ClassFile.FieldType)).before args0 about1 = true := code_word (m := ⟨7, 7⟩) (meth := k7m7) (c := k7c7) (by decide +kernel) rfl rfl rfl (by decide +kernel)
set_option maxRecDepth 65536 in
theorem w_c17 : (Jvm.Cond.code ({ cls := "jdk/internal/util/Preconditions", name := "checkIndex", desc := "(IILjava/util/function/BiFunction;)I" } : Jvm.MethodName) jdk_41_method_11_code (3 : Nat) (Option.some Jvm.ClassFile.FieldType.int)).before args0 about1 = true := code_word (m := ⟨11, 1⟩) (meth := k11m1) (c := k11c1) (by decide +kernel) rfl rfl rfl (by decide +kernel)
set_option maxRecDepth 65536 in
theorem w_c18 : (Jvm.Cond.code ({ cls := "com/example/nitpick/nitpick/internal/interpolation/ExpressionLiterals$Quoting", name := "next", desc := "(C)Lcom/example/nitpick/nitpick/internal/interpolation/ExpressionLiterals$Quoting;" } : Jvm.MethodName) prog_61_method_4_code (2 : Nat) (Option.some (Jvm.ClassFile.FieldType.object "com/example/nitpick/nitpick/internal/interpolation/ExpressionLiterals$Quoting"))).before args0 about1 = true := code_word (m := ⟨13, 0⟩) (meth := k13m0) (c := k13c0) (by decide +kernel) rfl rfl rfl (by decide +kernel)
set_option maxRecDepth 65536 in
theorem w_c19 : (Jvm.Cond.code ({ cls := "java/lang/Enum", name := "ordinal", desc := "()I" } : Jvm.MethodName) jdk_37_method_2_code (1 : Nat) (Option.some Jvm.ClassFile.FieldType.int)).before args0 about1 = true := code_word (m := ⟨12, 0⟩) (meth := k12m0) (c := k12c0) (by decide +kernel) rfl rfl rfl (by decide +kernel)
set_option maxRecDepth 65536 in
theorem w_c20 : (Jvm.Cond.code ({ cls := "com/example/nitpick/nitpick/internal/interpolation/ExpressionEnds", name := "<init>", desc := "([[I)V" } : Jvm.MethodName) prog_57_method_1_code (2 : Nat) (Option.none : Option Jvm.ClassFile.FieldType)).before args0 about1 = true := code_word (m := ⟨9, 0⟩) (meth := k9m0) (c := k9c0) (by decide +kernel) rfl rfl rfl (by decide +kernel)
set_option maxRecDepth 65536 in
theorem w_c21 : (Jvm.Cond.code ({ cls := "com/example/nitpick/nitpick/internal/interpolation/ExpressionEnds", name := "endOf", desc := "(I)I" } : Jvm.MethodName) prog_57_method_3_code (3 : Nat) (Option.some Jvm.ClassFile.FieldType.int)).before args0 about1 = true := code_word (m := ⟨9, 2⟩) (meth := k9m2) (c := k9c2) (by decide +kernel) rfl rfl rfl (by decide +kernel)
def codes1 : List Jvm.Cond := [Jvm.Cond.code x code maxLocals ret, Jvm.Cond.code ({ cls := "com/example/nitpick/nitpick/internal/interpolation/ExpressionEndsOfPinLaw", name := "pick", desc := "(I)C" } : Jvm.MethodName) method_2_code (2 : Nat) (Option.some Jvm.ClassFile.FieldType.char), Jvm.Cond.code ({ cls := "java/lang/String", name := "<init>", desc := "([C)V" } : Jvm.MethodName) jdk_42_method_3_code (2 : Nat) (Option.none : Option Jvm.ClassFile.FieldType), Jvm.Cond.code ({ cls := "java/lang/String", name := "<init>", desc := "([CIILjava/lang/Void;)V" } : Jvm.MethodName) jdk_42_method_149_code (6 : Nat) (Option.none : Option Jvm.ClassFile.FieldType), Jvm.Cond.code ({ cls := "java/lang/Object", name := "<init>", desc := "()V" } : Jvm.MethodName) object_method_1_code (1 : Nat) (Option.none : Option Jvm.ClassFile.FieldType), Jvm.Cond.code ({ cls := "java/lang/StringUTF16", name := "compress", desc := "([CII)[B" } : Jvm.MethodName) jdk_52_method_16_code (6 : Nat) (Option.some (Jvm.ClassFile.FieldType.array Jvm.ClassFile.FieldType.byte)), Jvm.Cond.code ({ cls := "java/lang/StringUTF16", name := "compress", desc := "([CI[BII)I" } : Jvm.MethodName) jdk_52_method_21_code (7 : Nat) (Option.some Jvm.ClassFile.FieldType.int), Jvm.Cond.code ({ cls := "java/lang/StringUTF16", name := "coderFromArrayLen", desc := "([BI)B" } : Jvm.MethodName) jdk_52_method_15_code (2 : Nat) (Option.some Jvm.ClassFile.FieldType.byte), Jvm.Cond.code ({ cls := "com/example/nitpick/nitpick/internal/interpolation/ExpressionEndsOfPinLaw", name := "closes", desc := "(IC)Z" } : Jvm.MethodName) method_3_code (2 : Nat) (Option.some Jvm.ClassFile.FieldType.boolean), Jvm.Cond.code ({ cls := "com/example/nitpick/nitpick/internal/interpolation/ExpressionEndsOfPinLaw", name := "step", desc := "(IC)I" } : Jvm.MethodName) method_4_code (4 : Nat) (Option.some Jvm.ClassFile.FieldType.int), Jvm.Cond.code ({ cls := "com/example/nitpick/nitpick/internal/interpolation/ExpressionEnds", name := "of", desc := "(Ljava/lang/String;)Lcom/example/nitpick/nitpick/internal/interpolation/ExpressionEnds;" } : Jvm.MethodName) prog_57_method_2_code (10 : Nat) (Option.some (Jvm.ClassFile.FieldType.object "com/example/nitpick/nitpick/internal/interpolation/ExpressionEnds")), Jvm.Cond.code ({ cls := "java/lang/String", name := "length", desc := "()I" } : Jvm.MethodName) jdk_42_method_54_code (1 : Nat) (Option.some Jvm.ClassFile.FieldType.int), Jvm.Cond.code ({ cls := "java/lang/String", name := "coder", desc := "()B" } : Jvm.MethodName) jdk_42_method_152_code (1 : Nat) (Option.some Jvm.ClassFile.FieldType.byte), Jvm.Cond.code ({ cls := "java/lang/String", name := "charAt", desc := "(I)C" } : Jvm.MethodName) jdk_42_method_56_code (2 : Nat) (Option.some Jvm.ClassFile.FieldType.char), Jvm.Cond.code ({ cls := "java/lang/String", name := "isLatin1", desc := "()Z" } : Jvm.MethodName) jdk_42_method_154_code (1 : Nat) (Option.some Jvm.ClassFile.FieldType.boolean), Jvm.Cond.code ({ cls := "java/lang/StringLatin1", name := "charAt", desc := "([BI)C" } : Jvm.MethodName) jdk_43_method_2_code (2 : Nat) (Option.some Jvm.ClassFile.FieldType.char), Jvm.Cond.code ({ cls := "java/lang/String", name := "checkIndex", desc := "(II)V" } : Jvm.MethodName) jdk_42_method_155_code (2 : Nat) (Option.none : Option Jvm.ClassFile.FieldType), Jvm.Cond.code ({ cls := "jdk/internal/util/Preconditions", name := "checkIndex", desc := "(IILjava/util/function/BiFunction;)I" } : Jvm.MethodName) jdk_41_method_11_code (3 : Nat) (Option.some Jvm.ClassFile.FieldType.int), Jvm.Cond.code ({ cls := "com/example/nitpick/nitpick/internal/interpolation/ExpressionLiterals$Quoting", name := "next", desc := "(C)Lcom/example/nitpick/nitpick/internal/interpolation/ExpressionLiterals$Quoting;" } : Jvm.MethodName) prog_61_method_4_code (2 : Nat) (Option.some (Jvm.ClassFile.FieldType.object "com/example/nitpick/nitpick/internal/interpolation/ExpressionLiterals$Quoting")), Jvm.Cond.code ({ cls := "java/lang/Enum", name := "ordinal", desc := "()I" } : Jvm.MethodName) jdk_37_method_2_code (1 : Nat) (Option.some Jvm.ClassFile.FieldType.int), Jvm.Cond.code ({ cls := "com/example/nitpick/nitpick/internal/interpolation/ExpressionEnds", name := "<init>", desc := "([[I)V" } : Jvm.MethodName) prog_57_method_1_code (2 : Nat) (Option.none : Option Jvm.ClassFile.FieldType), Jvm.Cond.code ({ cls := "com/example/nitpick/nitpick/internal/interpolation/ExpressionEnds", name := "endOf", desc := "(I)I" } : Jvm.MethodName) prog_57_method_3_code (3 : Nat) (Option.some Jvm.ClassFile.FieldType.int)]
set_option maxRecDepth 65536 in
theorem codes_eq : words1.filter isCode = codes1 := rfl
theorem w_codes : ∀ c ∈ words1.filter isCode, c.before args0 about1 = true := by
  rw [codes_eq]
  intro c hc
  simp only [codes1, List.mem_cons, List.not_mem_nil, or_false] at hc
  rcases hc with rfl | rfl | rfl | rfl | rfl | rfl | rfl | rfl | rfl | rfl | rfl | rfl | rfl | rfl | rfl | rfl | rfl | rfl | rfl | rfl | rfl | rfl
  · exact w_c0
  · exact w_c1
  · exact w_c2
  · exact w_c3
  · exact w_c4
  · exact w_c5
  · exact w_c6
  · exact w_c7
  · exact w_c8
  · exact w_c9
  · exact w_c10
  · exact w_c11
  · exact w_c12
  · exact w_c13
  · exact w_c14
  · exact w_c15
  · exact w_c16
  · exact w_c17
  · exact w_c18
  · exact w_c19
  · exact w_c20
  · exact w_c21
set_option maxRecDepth 65536 in
theorem w_t1 : (words1.take 24).all (fun c => isCode c || c.before args0 about1) = true := by decide +kernel
set_option maxRecDepth 65536 in
theorem w_t2 : ((words1.drop 24).take 24).all (fun c => isCode c || c.before args0 about1) = true := by decide +kernel
set_option maxRecDepth 65536 in
theorem w_t3 : (((words1.drop 24).drop 24).take 24).all (fun c => isCode c || c.before args0 about1) = true := by decide +kernel
set_option maxRecDepth 65536 in
theorem w_t4 : ((((words1.drop 24).drop 24).drop 24).take 24).all (fun c => isCode c || c.before args0 about1) = true := by decide +kernel
set_option maxRecDepth 65536 in
theorem w_t5 : (((((words1.drop 24).drop 24).drop 24).drop 24).take 24).all (fun c => isCode c || c.before args0 about1) = true := by decide +kernel
set_option maxRecDepth 65536 in
theorem w_t6 : (((((words1.drop 24).drop 24).drop 24).drop 24).drop 24).all (fun c => isCode c || c.before args0 about1) = true := by decide +kernel
theorem w_tables : (allAtoms (Jvm.Cond.code x code maxLocals ret :: tables_1)).before args0 about1 = true := by
  rw [allAtoms_all]
  show words1.all (fun c => c.before args0 about1) = true
  refine all_split ?_ w_codes
  rw [← List.take_append_drop 24 words1, List.all_append, w_t1, ← List.take_append_drop 24 (words1.drop 24), List.all_append, w_t2, ← List.take_append_drop 24 ((words1.drop 24).drop 24), List.all_append, w_t3, ← List.take_append_drop 24 (((words1.drop 24).drop 24).drop 24), List.all_append, w_t4, ← List.take_append_drop 24 ((((words1.drop 24).drop 24).drop 24).drop 24), List.all_append, w_t5, w_t6]
  rfl
set_option maxRecDepth 65536 in
theorem w_rest : rest_1_c.before args0 about1 = true := by decide +kernel
set_option maxRecDepth 65536 in
theorem w_case : (Jvm.Cond.and given_1 narrow_1).before args0 about1 = true := by decide +kernel
theorem w_applies : (headSpec (Jvm.Cond.code x code maxLocals ret :: tables_1) room_1).applies x e0.platform about1 = true :=
  (Spec.applies_iff w_frames).mpr ⟨w_running, w_runnable, w_alone, w_named, w_hears, w_ripe, w_room, w_tables⟩
theorem atStart : AtStart classFile x code maxLocals ret World_1 tables_1 room_1 Calls_1 rest_1 Pre_1 launch0 p0 e0 about1 theMethod args0 below0 :=
  ⟨lists_1, trivial, launch0.admits_env _ _ _, launch0.least_env, fairChoices_fair.cas, fairChoices_fair.clock, w_frames, w_args, w_heap, w_applies, trivial, w_rest, w_case⟩
end start1
theorem witness_1 : WitnessClaimed_1 := ⟨start1.p0, start1.e0, start1.about1, start1.theMethod, start1.args0, start1.below0, start1.atStart⟩
end Jvm.Pilot.@@N@@
