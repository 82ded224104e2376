import JvmDerived
import JvmDerived.Pilot.@@N@@Statement
import JvmDerived.Pilot.@@N@@Code
set_option linter.unusedVariables false
set_option linter.unusedSimpArgs false
namespace Jvm.RoadKit
open Sem ClassFile Op Lib Jvm.Stand Jvm.Free Jvm.LawKit
section New
variable {p : Program} {l : Launch} {e : Env} {R : Room} {s : State} {m : MethodId} {args : Array Value} {below : List Frame} {meth : Method} {c : Code} {T : State} {locs : List Loc} {cells slots : Nat}
theorem retI (X : Stand p l e R s m args below meth c T locs cells slots) (hx : p.tables.exec = Jvm.exec) {pc : Nat} {Ls : Array Slot} {z : Int32} {rest : List Value} (hret : meth.sig.returnType = some .int) (hd : decode c.code pc = .ok (.ireturn, 1)) {fs : List Frame}
  (hl : ∀ (f : JFrame) (acts : List Action), f.method = m → f.locked = none → f.entered = [] → (doReturn e (T.setTop f) acts (some (.int z))).1 = T.setFrames fs) : Steps p.tables e below (T.setTop (mkF m pc Ls (.int z :: rest))) (T.setFrames fs) := by
 have hm' : T.vm.method? m = some meth := X.method'
 have hn : narrow .int (.int z) = .int z := rfl
 show Steps p.tables e below (T.setTop { method := m, pc := pc, locals := Ls, stack := _ :: rest, locked := none }) _
 jvm_step X.here [X.here.top, hx, hd, hm', hret, hn]
 first | (intro acts; rw [hl _ acts rfl rfl rfl]) | rw [hl _ _ rfl rfl rfl]
 exact Steps.refl _
end New
end Jvm.RoadKit
namespace Jvm.Pilot.@@N@@
set_option maxRecDepth 65536
set_option maxHeartbeats 40000000
open Jvm Jvm.ClassFile Sem Op Lib Jvm.Free Jvm.Stand Jvm.LawKit Jvm.RoadKit Bundle Jvm.Pilot.@@N@@.Jvm.D
section OwnKit
variable {p : Program} {l : Launch} {e : Env} {R : Room} {s : State} {m : MethodId} {args : Array Value} {below : List Frame} {meth : Method} {c : Code} {T : State} {locs : List Loc} {cells slots : Nat} {Z : State} {a0 : Array Value} {h : Heap} {P : Outcome → State → Prop} {pc pc' pc1 pc2 : Nat} {L L' : Array Slot} {S : List Value}
/-- the run from U comes to an end that P holds of -/
def OG (p : Program) (e : Env) (below : List Frame) (P : Outcome → State → Prop) (U : State) : Prop := ∃ s₂ o, Steps p.tables e below U s₂ ∧ s₂.status = .running ∧ Ended s₂ below o ∧ P o s₂
theorem OG.of {U U' : State} (k : ∀ t, Steps p.tables e below U' t → Steps p.tables e below U t) (h : OG p e below P U') : OG p e below P U := by
 obtain ⟨t, o, h1, h2⟩ := h; exact ⟨t, o, k t h1, h2⟩
theorem OG.cast {g g' : JFrame} (q : g = g') (k : OG p e below P (T.setTop g')) : OG p e below P (T.setTop g) := q ▸ k
theorem own_mono (X : Stand p l e R s m args below meth c T locs cells slots) {c' n' : Nat} (h1 : cells ≤ c') (h2 : slots ≤ n') : Stand p l e R s m args below meth c T locs c' n' :=
 ⟨X.admits, X.cas, X.clock, X.frames, X.room, X.hears, X.method, X.code, X.here, X.tail, X.warmed, X.limits, X.bytes, X.same.mono h1 h2⟩
theorem og_iadd (X : Stand p l e R s m args below meth c T locs cells slots) (hx : p.tables.exec = Jvm.exec) {x y : Int32} (hd : decode c.code pc = .ok (.iadd, 1)) (hp : pc + 1 = pc') (k : OG p e below P (T.setTop (mkF m pc' L (.int (x + y) :: S)))) : OG p e below P (T.setTop (mkF m pc L (.int y :: .int x :: S))) := by
 subst hp; exact OG.of (fun t k => XS.iadd X.here hx rfl hd rfl k) k
theorem og_isub (X : Stand p l e R s m args below meth c T locs cells slots) (hx : p.tables.exec = Jvm.exec) {x y : Int32} (hd : decode c.code pc = .ok (.isub, 1)) (hp : pc + 1 = pc') (k : OG p e below P (T.setTop (mkF m pc' L (.int (x - y) :: S)))) : OG p e below P (T.setTop (mkF m pc L (.int y :: .int x :: S))) := by
 subst hp; exact OG.of (fun t k => XS.isub X.here hx rfl hd rfl k) k
theorem og_iand (X : Stand p l e R s m args below meth c T locs cells slots) (hx : p.tables.exec = Jvm.exec) {x y : Int32} (hd : decode c.code pc = .ok (.iand, 1)) (hp : pc + 1 = pc') (k : OG p e below P (T.setTop (mkF m pc' L (.int (x &&& y) :: S)))) : OG p e below P (T.setTop (mkF m pc L (.int y :: .int x :: S))) := by
 subst hp; exact OG.of (fun t k => XS.iand X.here hx rfl hd rfl k) k
theorem og_ishl (X : Stand p l e R s m args below meth c T locs cells slots) (hx : p.tables.exec = Jvm.exec) {x y : Int32} (hd : decode c.code pc = .ok (.ishl, 1)) (hp : pc + 1 = pc') (k : OG p e below P (T.setTop (mkF m pc' L (.int (x <<< (y &&& 31)) :: S)))) : OG p e below P (T.setTop (mkF m pc L (.int y :: .int x :: S))) := by
 subst hp; exact OG.of (fun t k => XS.ishl X.here hx rfl hd rfl k) k
theorem og_ishr (X : Stand p l e R s m args below meth c T locs cells slots) (hx : p.tables.exec = Jvm.exec) {x y : Int32} (hd : decode c.code pc = .ok (.ishr, 1)) (hp : pc + 1 = pc') (k : OG p e below P (T.setTop (mkF m pc' L (.int (x >>> (y &&& 31)) :: S)))) : OG p e below P (T.setTop (mkF m pc L (.int y :: .int x :: S))) := by
 subst hp; exact OG.of (fun t k => XS.ishr X.here hx rfl hd rfl k) k
theorem og_iushr (X : Stand p l e R s m args below meth c T locs cells slots) (hx : p.tables.exec = Jvm.exec) {x y : Int32} (hd : decode c.code pc = .ok (.iushr, 1)) (hp : pc + 1 = pc') (k : OG p e below P (T.setTop (mkF m pc' L (.int ((x.toUInt32 >>> (y &&& 31).toUInt32).toInt32) :: S)))) : OG p e below P (T.setTop (mkF m pc L (.int y :: .int x :: S))) := by
 subst hp; exact OG.of (fun t k => XS.iushr X.here hx rfl hd rfl k) k
theorem og_i2b (X : Stand p l e R s m args below meth c T locs cells slots) (hx : p.tables.exec = Jvm.exec) {x : Int32} (hd : decode c.code pc = .ok (.i2b, 1)) (hp : pc + 1 = pc') (k : OG p e below P (T.setTop (mkF m pc' L (.int (x.toInt8.toInt32) :: S)))) : OG p e below P (T.setTop (mkF m pc L (.int x :: S))) := by
 subst hp; exact OG.of (fun t k => XS.i2b X.here hx rfl hd rfl k) k
theorem og_i2c (X : Stand p l e R s m args below meth c T locs cells slots) (hx : p.tables.exec = Jvm.exec) {x : Int32} (hd : decode c.code pc = .ok (.i2c, 1)) (hp : pc + 1 = pc') (k : OG p e below P (T.setTop (mkF m pc' L (.int (x.toUInt32.toUInt16.toUInt32.toInt32) :: S)))) : OG p e below P (T.setTop (mkF m pc L (.int x :: S))) := by
 subst hp; exact OG.of (fun t k => XS.i2c X.here hx rfl hd rfl k) k
theorem og_iconst (X : Stand p l e R s m args below meth c T locs cells slots) (hx : p.tables.exec = Jvm.exec) {i : Int} {v : Int32} (hv : Int32.ofInt i = v) (hd : decode c.code pc = .ok (.iconst i, 1)) (hp : pc + 1 = pc') (k : OG p e below P (T.setTop (mkF m pc' L (.int v :: S)))) : OG p e below P (T.setTop (mkF m pc L S)) := by
 subst hp; exact OG.of (fun t k => XS.iconst X.here hx rfl hd (hv ▸ k)) k
theorem og_bipush (X : Stand p l e R s m args below meth c T locs cells slots) (hx : p.tables.exec = Jvm.exec) {i : Int} {v : Int32} (hv : (Int8.ofInt i).toInt32 = v) (hd : decode c.code pc = .ok (.bipush i, 2)) (hp : pc + 2 = pc') (k : OG p e below P (T.setTop (mkF m pc' L (.int v :: S)))) : OG p e below P (T.setTop (mkF m pc L S)) := by
 subst hp; exact OG.of (fun t k => XS.bipush X.here hx rfl hd (hv ▸ k)) k
theorem og_sipush (X : Stand p l e R s m args below meth c T locs cells slots) (hx : p.tables.exec = Jvm.exec) {i : Int} {v : Int32} (hv : (Int16.ofInt i).toInt32 = v) (hd : decode c.code pc = .ok (.sipush i, 3)) (hp : pc + 3 = pc') (k : OG p e below P (T.setTop (mkF m pc' L (.int v :: S)))) : OG p e below P (T.setTop (mkF m pc L S)) := by
 subst hp; exact OG.of (fun t k => XS.sipush X.here hx rfl hd (hv ▸ k)) k
theorem og_aconst_null (X : Stand p l e R s m args below meth c T locs cells slots) (hx : p.tables.exec = Jvm.exec)  (hd : decode c.code pc = .ok (.aconst_null, 1)) (hp : pc + 1 = pc') (k : OG p e below P (T.setTop (mkF m pc' L (.null :: S)))) : OG p e below P (T.setTop (mkF m pc L S)) := by
 subst hp; exact OG.of (fun t k => XS.aconstNull X.here hx rfl hd k) k
theorem og_iload (X : Stand p l e R s m args below meth c T locs cells slots) (hx : p.tables.exec = Jvm.exec) {j : Nat} {v : Int32} (hl : L[j]? = some (.val (.int v))) (hd : decode c.code pc = .ok (.iload j, 2)) (hp : pc + 2 = pc') (k : OG p e below P (T.setTop (mkF m pc' L (.int v :: S)))) : OG p e below P (T.setTop (mkF m pc L S)) := by
 subst hp; exact OG.of (fun t k => XS.iload X.here hx rfl hd hl k) k
theorem og_iloadN (X : Stand p l e R s m args below meth c T locs cells slots) (hx : p.tables.exec = Jvm.exec) {j : Fin 4} {v : Int32} (hl : L[j.val]? = some (.val (.int v))) (hd : decode c.code pc = .ok (.iload_n j, 1)) (hp : pc + 1 = pc') (k : OG p e below P (T.setTop (mkF m pc' L (.int v :: S)))) : OG p e below P (T.setTop (mkF m pc L S)) := by
 subst hp; exact OG.of (fun t k => XS.iloadN X.here hx rfl hd hl k) k
theorem og_istore (X : Stand p l e R s m args below meth c T locs cells slots) (hx : p.tables.exec = Jvm.exec) {j : Nat} {v : Int32} (hl : storeLocals L j (.int v) = some L') (hd : decode c.code pc = .ok (.istore j, 2)) (hp : pc + 2 = pc') (k : OG p e below P (T.setTop (mkF m pc' L' S))) : OG p e below P (T.setTop (mkF m pc L (.int v :: S))) := by
 subst hp; exact OG.of (fun t k => XS.istore X.here hx rfl hd rfl hl k) k
theorem og_istoreN (X : Stand p l e R s m args below meth c T locs cells slots) (hx : p.tables.exec = Jvm.exec) {j : Fin 4} {v : Int32} (hl : storeLocals L j.val (.int v) = some L') (hd : decode c.code pc = .ok (.istore_n j, 1)) (hp : pc + 1 = pc') (k : OG p e below P (T.setTop (mkF m pc' L' S))) : OG p e below P (T.setTop (mkF m pc L (.int v :: S))) := by
 subst hp; exact OG.of (fun t k => XS.istoreN X.here hx rfl hd rfl hl k) k
theorem og_aload (X : Stand p l e R s m args below meth c T locs cells slots) (hx : p.tables.exec = Jvm.exec) {j : Nat} {v : Value} (hl : L[j]? = some (.val v)) (hv : v.isRef = true) (hd : decode c.code pc = .ok (.aload j, 2)) (hp : pc + 2 = pc') (k : OG p e below P (T.setTop (mkF m pc' L (v :: S)))) : OG p e below P (T.setTop (mkF m pc L S)) := by
 subst hp; exact OG.of (fun t k => XS.aload X.here hx rfl hd hl hv k) k
theorem og_aloadN (X : Stand p l e R s m args below meth c T locs cells slots) (hx : p.tables.exec = Jvm.exec) {j : Fin 4} {v : Value} (hl : L[j.val]? = some (.val v)) (hv : v.isRef = true) (hd : decode c.code pc = .ok (.aload_n j, 1)) (hp : pc + 1 = pc') (k : OG p e below P (T.setTop (mkF m pc' L (v :: S)))) : OG p e below P (T.setTop (mkF m pc L S)) := by
 subst hp; exact OG.of (fun t k => XS.aloadN X.here hx rfl hd hl hv k) k
theorem og_astore (X : Stand p l e R s m args below meth c T locs cells slots) (hx : p.tables.exec = Jvm.exec) {j : Nat} {v : Value} (hv : v.isRef = true) (hl : storeLocals L j v = some L') (hd : decode c.code pc = .ok (.astore j, 2)) (hp : pc + 2 = pc') (k : OG p e below P (T.setTop (mkF m pc' L' S))) : OG p e below P (T.setTop (mkF m pc L (v :: S))) := by
 subst hp; exact OG.of (fun t k => XS.astore X.here hx rfl hd rfl hv hl k) k
theorem og_astoreN (X : Stand p l e R s m args below meth c T locs cells slots) (hx : p.tables.exec = Jvm.exec) {j : Fin 4} {v : Value} (hv : v.isRef = true) (hl : storeLocals L j.val v = some L') (hd : decode c.code pc = .ok (.astore_n j, 1)) (hp : pc + 1 = pc') (k : OG p e below P (T.setTop (mkF m pc' L' S))) : OG p e below P (T.setTop (mkF m pc L (v :: S))) := by
 subst hp; exact OG.of (fun t k => XS.astoreN X.here hx rfl hd rfl hv hl k) k
theorem og_iinc (X : Stand p l e R s m args below meth c T locs cells slots) (hx : p.tables.exec = Jvm.exec) {j : Nat} {i : Int} {v w : Int32} (h1 : L[j]? = some (.val (.int v))) (hv : Int32.ofInt i = w) (hl : storeLocals L j (.int (v + w)) = some L') (hd : decode c.code pc = .ok (.iinc j i, 3)) (hp : pc + 3 = pc') (k : OG p e below P (T.setTop (mkF m pc' L' S))) : OG p e below P (T.setTop (mkF m pc L S)) := by
 subst hp; exact OG.of (fun t k => XS.iinc X.here hx rfl hd h1 (hv.symm ▸ hl) k) k
theorem og_dup (X : Stand p l e R s m args below meth c T locs cells slots) (hx : p.tables.exec = Jvm.exec) {v : Value} (hv : v.category = 1) (hd : decode c.code pc = .ok (.dup, 1)) (hp : pc + 1 = pc') (k : OG p e below P (T.setTop (mkF m pc' L (v :: v :: S)))) : OG p e below P (T.setTop (mkF m pc L (v :: S))) := by
 subst hp; exact OG.of (fun t k => XS.dup X.here hx rfl hd rfl hv k) k
theorem og_pop (X : Stand p l e R s m args below meth c T locs cells slots) (hx : p.tables.exec = Jvm.exec) {v : Value} (hv : v.category = 1) (hd : decode c.code pc = .ok (.pop, 1)) (hp : pc + 1 = pc') (k : OG p e below P (T.setTop (mkF m pc' L S))) : OG p e below P (T.setTop (mkF m pc L (v :: S))) := by
 subst hp; exact OG.of (fun t k => XS.pop X.here hx rfl hd rfl hv k) k
theorem og_dup_x1 (X : Stand p l e R s m args below meth c T locs cells slots) (hx : p.tables.exec = Jvm.exec) {v w : Value} (hv : v.category = 1) (hw : w.category = 1) (hd : decode c.code pc = .ok (.dup_x1, 1)) (hp : pc + 1 = pc') (k : OG p e below P (T.setTop (mkF m pc' L (v :: w :: v :: S)))) : OG p e below P (T.setTop (mkF m pc L (v :: w :: S))) := by
 subst hp; exact OG.of (fun t k => XS.dupX1 X.here hx rfl hd rfl hv hw k) k
theorem og_goto (X : Stand p l e R s m args below meth c T locs cells slots) (hx : p.tables.exec = Jvm.exec) {o : Int} (hd : decode c.code pc = .ok (.goto o, 3)) (ho : 0 ≤ (pc : Int) + o) (hp : ((pc : Int) + o).toNat = pc') (k : OG p e below P (T.setTop (mkF m pc' L S))) : OG p e below P (T.setTop (mkF m pc L S)) :=
 OG.of (fun t k => XS.goto X.here hx rfl rfl hd ho hp k) k
theorem og_icmp_lt (X : Stand p l e R s m args below meth c T locs cells slots) (hx : p.tables.exec = Jvm.exec) {x y : Int32} {o : Int} (hd : decode c.code pc = .ok (.if_icmp .lt o, 3)) (ho : 0 ≤ (pc : Int) + o) (hp1 : ((pc : Int) + o).toNat = pc1) (hp2 : pc + 3 = pc2) (k1 : x < y → OG p e below P (T.setTop (mkF m pc1 L S))) (k2 : ¬ x < y → OG p e below P (T.setTop (mkF m pc2 L S))) : OG p e below P (T.setTop (mkF m pc L (.int y :: .int x :: S))) := by
  subst hp2; by_cases q : x < y
  · exact OG.of (fun t k => XS.icmpYes X.here hx rfl rfl hd rfl ((tlt q).1) ho hp1 k) (k1 q)
  · exact OG.of (fun t k => XS.icmpNo X.here hx rfl hd rfl ((flt q).1) k) (k2 q)
theorem og_if_lt (X : Stand p l e R s m args below meth c T locs cells slots) (hx : p.tables.exec = Jvm.exec) {x : Int32} {o : Int} (hd : decode c.code pc = .ok (.ifCond .lt o, 3)) (ho : 0 ≤ (pc : Int) + o) (hp1 : ((pc : Int) + o).toNat = pc1) (hp2 : pc + 3 = pc2) (k1 : x < (0 : Int32) → OG p e below P (T.setTop (mkF m pc1 L S))) (k2 : ¬ x < (0 : Int32) → OG p e below P (T.setTop (mkF m pc2 L S))) : OG p e below P (T.setTop (mkF m pc L (.int x :: S))) := by
  subst hp2; by_cases q : x < (0 : Int32)
  · exact OG.of (fun t k => XS.ifYes X.here hx rfl rfl hd rfl ((if0 _ _).trans (tlt q).1) ho hp1 k) (k1 q)
  · exact OG.of (fun t k => XS.ifNo X.here hx rfl hd rfl ((if0 _ _).trans (flt q).1) k) (k2 q)
theorem og_icmp_ge (X : Stand p l e R s m args below meth c T locs cells slots) (hx : p.tables.exec = Jvm.exec) {x y : Int32} {o : Int} (hd : decode c.code pc = .ok (.if_icmp .ge o, 3)) (ho : 0 ≤ (pc : Int) + o) (hp1 : ((pc : Int) + o).toNat = pc1) (hp2 : pc + 3 = pc2) (k1 : ¬ x < y → OG p e below P (T.setTop (mkF m pc1 L S))) (k2 : x < y → OG p e below P (T.setTop (mkF m pc2 L S))) : OG p e below P (T.setTop (mkF m pc L (.int y :: .int x :: S))) := by
  subst hp2; by_cases q : x < y
  · exact OG.of (fun t k => XS.icmpNo X.here hx rfl hd rfl ((tlt q).2.1) k) (k2 q)
  · exact OG.of (fun t k => XS.icmpYes X.here hx rfl rfl hd rfl ((flt q).2.1) ho hp1 k) (k1 q)
theorem og_icmp_gt (X : Stand p l e R s m args below meth c T locs cells slots) (hx : p.tables.exec = Jvm.exec) {x y : Int32} {o : Int} (hd : decode c.code pc = .ok (.if_icmp .gt o, 3)) (ho : 0 ≤ (pc : Int) + o) (hp1 : ((pc : Int) + o).toNat = pc1) (hp2 : pc + 3 = pc2) (k1 : y < x → OG p e below P (T.setTop (mkF m pc1 L S))) (k2 : ¬ y < x → OG p e below P (T.setTop (mkF m pc2 L S))) : OG p e below P (T.setTop (mkF m pc L (.int y :: .int x :: S))) := by
  subst hp2; by_cases q : y < x
  · exact OG.of (fun t k => XS.icmpYes X.here hx rfl rfl hd rfl ((tlt q).2.2.1) ho hp1 k) (k1 q)
  · exact OG.of (fun t k => XS.icmpNo X.here hx rfl hd rfl ((flt q).2.2.1) k) (k2 q)
theorem og_if_gt (X : Stand p l e R s m args below meth c T locs cells slots) (hx : p.tables.exec = Jvm.exec) {x : Int32} {o : Int} (hd : decode c.code pc = .ok (.ifCond .gt o, 3)) (ho : 0 ≤ (pc : Int) + o) (hp1 : ((pc : Int) + o).toNat = pc1) (hp2 : pc + 3 = pc2) (k1 : (0 : Int32) < x → OG p e below P (T.setTop (mkF m pc1 L S))) (k2 : ¬ (0 : Int32) < x → OG p e below P (T.setTop (mkF m pc2 L S))) : OG p e below P (T.setTop (mkF m pc L (.int x :: S))) := by
  subst hp2; by_cases q : (0 : Int32) < x
  · exact OG.of (fun t k => XS.ifYes X.here hx rfl rfl hd rfl ((if0 _ _).trans (tlt q).2.2.1) ho hp1 k) (k1 q)
  · exact OG.of (fun t k => XS.ifNo X.here hx rfl hd rfl ((if0 _ _).trans (flt q).2.2.1) k) (k2 q)
theorem og_if_le (X : Stand p l e R s m args below meth c T locs cells slots) (hx : p.tables.exec = Jvm.exec) {x : Int32} {o : Int} (hd : decode c.code pc = .ok (.ifCond .le o, 3)) (ho : 0 ≤ (pc : Int) + o) (hp1 : ((pc : Int) + o).toNat = pc1) (hp2 : pc + 3 = pc2) (k1 : ¬ (0 : Int32) < x → OG p e below P (T.setTop (mkF m pc1 L S))) (k2 : (0 : Int32) < x → OG p e below P (T.setTop (mkF m pc2 L S))) : OG p e below P (T.setTop (mkF m pc L (.int x :: S))) := by
  subst hp2; by_cases q : (0 : Int32) < x
  · exact OG.of (fun t k => XS.ifNo X.here hx rfl hd rfl ((if0 _ _).trans (tlt q).2.2.2) k) (k2 q)
  · exact OG.of (fun t k => XS.ifYes X.here hx rfl rfl hd rfl ((if0 _ _).trans (flt q).2.2.2) ho hp1 k) (k1 q)
theorem og_icmp_eq (X : Stand p l e R s m args below meth c T locs cells slots) (hx : p.tables.exec = Jvm.exec) {x y : Int32} {o : Int} (hd : decode c.code pc = .ok (.if_icmp .eq o, 3)) (ho : 0 ≤ (pc : Int) + o) (hp1 : ((pc : Int) + o).toNat = pc1) (hp2 : pc + 3 = pc2) (k1 : x = y → OG p e below P (T.setTop (mkF m pc1 L S))) (k2 : ¬ x = y → OG p e below P (T.setTop (mkF m pc2 L S))) : OG p e below P (T.setTop (mkF m pc L (.int y :: .int x :: S))) := by
  subst hp2; by_cases q : x = y
  · exact OG.of (fun t k => XS.icmpYes X.here hx rfl rfl hd rfl ((teq q).1) ho hp1 k) (k1 q)
  · exact OG.of (fun t k => XS.icmpNo X.here hx rfl hd rfl ((feq q).1) k) (k2 q)
theorem og_if_eq (X : Stand p l e R s m args below meth c T locs cells slots) (hx : p.tables.exec = Jvm.exec) {x : Int32} {o : Int} (hd : decode c.code pc = .ok (.ifCond .eq o, 3)) (ho : 0 ≤ (pc : Int) + o) (hp1 : ((pc : Int) + o).toNat = pc1) (hp2 : pc + 3 = pc2) (k1 : x = (0 : Int32) → OG p e below P (T.setTop (mkF m pc1 L S))) (k2 : ¬ x = (0 : Int32) → OG p e below P (T.setTop (mkF m pc2 L S))) : OG p e below P (T.setTop (mkF m pc L (.int x :: S))) := by
  subst hp2; by_cases q : x = (0 : Int32)
  · exact OG.of (fun t k => XS.ifYes X.here hx rfl rfl hd rfl ((if0 _ _).trans (teq q).1) ho hp1 k) (k1 q)
  · exact OG.of (fun t k => XS.ifNo X.here hx rfl hd rfl ((if0 _ _).trans (feq q).1) k) (k2 q)
theorem og_icmp_ne (X : Stand p l e R s m args below meth c T locs cells slots) (hx : p.tables.exec = Jvm.exec) {x y : Int32} {o : Int} (hd : decode c.code pc = .ok (.if_icmp .ne o, 3)) (ho : 0 ≤ (pc : Int) + o) (hp1 : ((pc : Int) + o).toNat = pc1) (hp2 : pc + 3 = pc2) (k1 : ¬ x = y → OG p e below P (T.setTop (mkF m pc1 L S))) (k2 : x = y → OG p e below P (T.setTop (mkF m pc2 L S))) : OG p e below P (T.setTop (mkF m pc L (.int y :: .int x :: S))) := by
  subst hp2; by_cases q : x = y
  · exact OG.of (fun t k => XS.icmpNo X.here hx rfl hd rfl ((teq q).2) k) (k2 q)
  · exact OG.of (fun t k => XS.icmpYes X.here hx rfl rfl hd rfl ((feq q).2) ho hp1 k) (k1 q)
theorem og_if_ne (X : Stand p l e R s m args below meth c T locs cells slots) (hx : p.tables.exec = Jvm.exec) {x : Int32} {o : Int} (hd : decode c.code pc = .ok (.ifCond .ne o, 3)) (ho : 0 ≤ (pc : Int) + o) (hp1 : ((pc : Int) + o).toNat = pc1) (hp2 : pc + 3 = pc2) (k1 : ¬ x = (0 : Int32) → OG p e below P (T.setTop (mkF m pc1 L S))) (k2 : x = (0 : Int32) → OG p e below P (T.setTop (mkF m pc2 L S))) : OG p e below P (T.setTop (mkF m pc L (.int x :: S))) := by
  subst hp2; by_cases q : x = (0 : Int32)
  · exact OG.of (fun t k => XS.ifNo X.here hx rfl hd rfl ((if0 _ _).trans (teq q).2) k) (k2 q)
  · exact OG.of (fun t k => XS.ifYes X.here hx rfl rfl hd rfl ((if0 _ _).trans (feq q).2) ho hp1 k) (k1 q)
theorem og_ifnonnull (X : Stand p l e R s m args below meth c T locs cells slots) (hx : p.tables.exec = Jvm.exec) {v : Value} (hv : v.isRef = true) {o : Int} (hd : decode c.code pc = .ok (.ifnonnull o, 3)) (ho : 0 ≤ (pc : Int) + o) (hp1 : ((pc : Int) + o).toNat = pc1) (hp2 : pc + 3 = pc2) (k1 : v ≠ .null → OG p e below P (T.setTop (mkF m pc1 L S))) (k2 : v = .null → OG p e below P (T.setTop (mkF m pc2 L S))) : OG p e below P (T.setTop (mkF m pc L (v :: S))) := by
  subst hp2; rcases ref_cases hv with rfl | ⟨b, rfl⟩
  · exact OG.of (fun t k => XS.ifnonnullNo X.here hx rfl hd rfl k) (k2 rfl)
  · exact OG.of (fun t k => XS.ifnonnullYes X.here hx rfl rfl hd rfl ho hp1 k) (k1 nofun)
theorem og_acmp_eq (X : Stand p l e R s m args below meth c T locs cells slots) (hx : p.tables.exec = Jvm.exec) {v w : Value} (hv : v.isRef = true) (hw : w.isRef = true) {o : Int} (hd : decode c.code pc = .ok (.if_acmp .eq o, 3)) (ho : 0 ≤ (pc : Int) + o) (hp1 : ((pc : Int) + o).toNat = pc1) (hp2 : pc + 3 = pc2) (k1 : v = w → OG p e below P (T.setTop (mkF m pc1 L S))) (k2 : ¬ v = w → OG p e below P (T.setTop (mkF m pc2 L S))) : OG p e below P (T.setTop (mkF m pc L (w :: v :: S))) := by
  subst hp2 hp1; by_cases q : v = w
  · exact OG.of (fun t k => Jvm.RoadKit.acmp X hx rfl hv hw (same := true) rfl hd rfl (decide_eq_true q) ho rfl k) (k1 q)
  · exact OG.of (fun t k => Jvm.RoadKit.acmp X hx rfl hv hw (same := false) rfl hd rfl (decide_eq_false q) ho rfl k) (k2 q)
theorem og_acmp_ne (X : Stand p l e R s m args below meth c T locs cells slots) (hx : p.tables.exec = Jvm.exec) {v w : Value} (hv : v.isRef = true) (hw : w.isRef = true) {o : Int} (hd : decode c.code pc = .ok (.if_acmp .ne o, 3)) (ho : 0 ≤ (pc : Int) + o) (hp1 : ((pc : Int) + o).toNat = pc1) (hp2 : pc + 3 = pc2) (k1 : ¬ v = w → OG p e below P (T.setTop (mkF m pc1 L S))) (k2 : v = w → OG p e below P (T.setTop (mkF m pc2 L S))) : OG p e below P (T.setTop (mkF m pc L (w :: v :: S))) := by
  subst hp2 hp1; by_cases q : v = w
  · exact OG.of (fun t k => Jvm.RoadKit.acmp X hx rfl hv hw (same := true) rfl hd rfl (decide_eq_true q) ho rfl k) (k2 q)
  · exact OG.of (fun t k => Jvm.RoadKit.acmp X hx rfl hv hw (same := false) rfl hd rfl (decide_eq_false q) ho rfl k) (k1 q)
theorem og_ldcF (X : Stand p l e R s m args below meth c T locs cells slots) (hx : p.tables.exec = Jvm.exec) (hZ : Z.Warmed39 s.vm) {own : String} {index : Nat} {v : UInt32} (hown : s.vm.findClass own = some m.cls) (w : (Cond.constantFloat own index v).before a0 Z = true) (hd : decode c.code pc = .ok (.ldc index, 2)) (hp : pc + 2 = pc') (k : OG p e below P (T.setTop (mkF m pc' L (.float v :: S)))) : OG p e below P (T.setTop (mkF m pc L S)) := by
 subst hp; exact OG.of (X.ldcFloatC hx hown (mvT hZ w) (g := mkF m pc L S) rfl hd) k
theorem og_getstatic (X : Stand p l e R s m args below meth c T locs cells slots) (hx : p.tables.exec = Jvm.exec) (hZ : Z.Warmed39 s.vm) {own R0 O n d host : String} {index : Nat} (hown : s.vm.findClass own = some m.cls) (w : (Cond.fieldLink own index R0 n d).before a0 Z = true ∨ (Cond.fieldLinkNest own index R0 n d host).before a0 Z = true) (via : Via Z R0 O n d) (eT : T.heap = h) {v : Value} (F : Sta Z h O n d v) (hd : decode c.code pc = .ok (.getstatic index, 3)) (hp : pc + 3 = pc') (k : ∀ T', Stand p l e R s m args below meth c T' locs cells slots → T'.heap = h → OG p e below P (T'.setTop (mkF m pc' L (v :: S)))) : OG p e below P (T.setTop (mkF m pc L S)) := by
 subst hp; obtain ⟨T', X', e', st⟩ := getS2 X hx hZ hown w via eT F (g := mkF m pc L S) rfl hd
 exact OG.of st (k T' X' e')
theorem og_getfield (X : Stand p l e R s m args below meth c T locs cells slots) (hx : p.tables.exec = Jvm.exec) (hZ : Z.Warmed39 s.vm) {own R0 O n d host : String} {index : Nat} (hown : s.vm.findClass own = some m.cls) (w : (Cond.fieldLink own index R0 n d).before a0 Z = true ∨ (Cond.fieldLinkNest own index R0 n d host).before a0 Z = true) (via : Via Z R0 O n d) (eT : T.heap = h) {a : Addr} {v : Value} (F : Fld Z h a O n d v) (hd : decode c.code pc = .ok (.getfield index, 3)) (hp : pc + 3 = pc') (k : ∀ T', Stand p l e R s m args below meth c T' locs cells slots → T'.heap = h → OG p e below P (T'.setTop (mkF m pc' L (v :: S)))) : OG p e below P (T.setTop (mkF m pc L (.ref a :: S))) := by
 subst hp; obtain ⟨T', X', e', st⟩ := getF X hx hZ hown w via eT F (g := mkF m pc L (.ref a :: S)) rfl rfl hd
 exact OG.of st (k T' X' e')
theorem og_putfield (X : Stand p l e R s m args below meth c T locs cells slots) (hx : p.tables.exec = Jvm.exec) (hZ : Z.Warmed39 s.vm) {C : String} {kk : Nat} {ty : FieldType} {own R0 O n d host : String} {index : Nat} (hown : s.vm.findClass own = some m.cls) (w : (Cond.fieldLink own index R0 n d).before a0 Z = true ∨ (Cond.fieldLinkNest own index R0 n d host).before a0 Z = true) (via : Via Z R0 O n d) (eT : T.heap = h) {a : Addr} {v old : Value} (F : Fld Z h a O n d old) (E : Exa Z h a C) (Ly : (Cond.lays C O n d).before a0 Z = true ∨ ((Cond.laysFinal C O n d).before a0 Z = true ∧ own = O ∧ meth.name = "<init>")) (wi : (Cond.instantiable C kk).before a0 Z = true) (hty : parseFieldDescriptor d = some ty) (hn : narrow ty v = v) (hf : fits ty v = true) (hd : decode c.code pc = .ok (.putfield index, 3)) (hp : pc + 3 = pc') (k : ∀ T' h', Stand p l e R s m args below meth c T' (locs ++ [⟨a, Jvm.RoadKit.slotOf Z O n d⟩]) cells slots → T'.heap = h' → Wr h h' a (Jvm.RoadKit.slotOf Z O n d) v → OG p e below P (T'.setTop (mkF m pc' L S))) : OG p e below P (T.setTop (mkF m pc L (v :: .ref a :: S))) := by
 subst hp; obtain ⟨T', h', X', e', W', st⟩ := putF X hx hZ hown w via eT F E Ly wi hty hn hf (g := mkF m pc L (v :: .ref a :: S)) rfl rfl hd
 exact OG.of st (k T' h' X' e' W')
theorem og_new (X : Stand p l e R s m args below meth c T locs cells slots) (hx : p.tables.exec = Jvm.exec) (hZ : Z.Warmed39 s.vm) {own C : String} {index n : Nat} {cells' slots' : Nat} (hown : s.vm.findClass own = some m.cls) (w : (Cond.classLink own index C).before a0 Z = true) (wi : (Cond.instantiable C n).before a0 Z = true) (wz : (Cond.initialized C).before a0 Z = true) (eT : T.heap = h) (hd : decode c.code pc = .ok (.new index, 3)) (hp : pc + 3 = pc') (hc' : cells + 1 = cells') (hs' : slots + n = slots') (hc : cells' ≤ R.cells) (hl : slots' ≤ R.slots) (k : ∀ T' h' a, Stand p l e R s m args below meth c T' locs cells' slots' → T'.heap = h' → Ext h h' → a = h.size → Exa Z h' a C → (∀ {O nm d : String} {ty : FieldType}, Laid Z a0 C O nm d → parseFieldDescriptor d = some ty → Fld Z h' a O nm d (defaultValue ty)) → (∃ cell : Cell, h'[a]? = some cell ∧ cell.vm = .none ∧ cell.monitor = {}) → OG p e below P (T'.setTop (mkF m pc' L (.ref a :: S)))) : OG p e below P (T.setTop (mkF m pc L S)) := by
 subst hp hc' hs'; obtain ⟨T', h', X', e', E', A', D', B', st⟩ := newO X hx hZ hown w wi wz eT (g := mkF m pc L S) rfl hd hc hl
 exact OG.of st (k T' h' _ X' e' E' rfl A' D' B')
theorem og_newarray (X : Stand p l e R s m args below meth c T locs cells slots) (hx : p.tables.exec = Jvm.exec) (hZ : Z.Warmed39 s.vm) {aty : ArrayType} {ty : FieldType} {cells' slots' : Nat} (hty : newarray.typeOf aty = ty) (w : (Cond.arrayClass ty).before a0 Z = true) (eT : T.heap = h) {n : Int32} (hn : ¬ n < 0) {cap : Nat} (hcap : n.toNatClampNeg ≤ cap) (hb : cap * 8 ≤ 536870912) (hd : decode c.code pc = .ok (.newarray aty, 2)) (hp : pc + 2 = pc') (hc' : cells + 1 = cells') (hs' : slots + cap = slots') (hc : cells' ≤ R.cells) (hl : slots' ≤ R.slots) (k : ∀ T' h' a kA, Stand p l e R s m args below meth c T' locs cells' slots' → T'.heap = h' → Ext h h' → a = h.size → Arv Z h' a kA ty n [] (defaultValue ty) → OG p e below P (T'.setTop (mkF m pc' L (.ref a :: S)))) : OG p e below P (T.setTop (mkF m pc L (.int n :: S))) := by
 subst hp hc' hs' hty; obtain ⟨T', h', kA, X', e', E', A', st⟩ := newP X hx hZ w eT (g := mkF m pc L (.int n :: S)) rfl hd rfl hn hcap hb hc hl
 exact OG.of st (k T' h' _ kA X' e' E' rfl (Arv.new A' hn))
theorem og_anewarray (X : Stand p l e R s m args below meth c T locs cells slots) (hx : p.tables.exec = Jvm.exec) (hZ : Z.Warmed39 s.vm) {own C : String} {index : Nat} {cells' slots' : Nat} (hown : s.vm.findClass own = some m.cls) (w1 : (Cond.classLink own index C).before a0 Z = true) (w2 : (Cond.arrayOver (.object C)).before a0 Z = true) (eT : T.heap = h) {n : Int32} (hn : ¬ n < 0) {cap : Nat} (hcap : n.toNatClampNeg ≤ cap) (hb : cap * 8 ≤ 536870912) (hd : decode c.code pc = .ok (.anewarray index, 3)) (hp : pc + 3 = pc') (hc' : cells + 1 = cells') (hs' : slots + cap = slots') (hc : cells' ≤ R.cells) (hl : slots' ≤ R.slots) (k : ∀ T' h' a kA, Stand p l e R s m args below meth c T' locs cells' slots' → T'.heap = h' → Ext h h' → a = h.size → Arv Z h' a kA (.object C) n [] .null → Ovr Z kA C → OG p e below P (T'.setTop (mkF m pc' L (.ref a :: S)))) : OG p e below P (T.setTop (mkF m pc L (.int n :: S))) := by
 subst hp hc' hs'; obtain ⟨T', h', kA, X', e', E', A', O', st⟩ := newR X hx hZ hown w1 w2 eT (g := mkF m pc L (.int n :: S)) rfl hd rfl hn hcap hb hc hl
 exact OG.of st (k T' h' _ kA X' e' E' rfl (Arv.new A' hn) O')
theorem og_bastore (X : Stand p l e R s m args below meth c T locs cells slots) (hx : p.tables.exec = Jvm.exec) (hZ : Z.Warmed39 s.vm) (eT : T.heap = h) {a : Addr} {kA : ClassId} {j x z : Int32} {vs : List Value} {dv : Value} (F : Arv Z h a kA .byte z vs dv) (q : ¬ j < 0 ∧ j < z) (i : Nat) (hj : j.toNatClampNeg = i) (hi : i < vs.length) (hd : decode c.code pc = .ok (.bastore, 1)) (hp : pc + 1 = pc') (k : ∀ T' h', Stand p l e R s m args below meth c T' (locs ++ [⟨a, j.toNatClampNeg⟩]) cells slots → T'.heap = h' → Wr h h' a j.toNatClampNeg (.int (nar .byte x)) → Arv Z h' a kA .byte z (vs.set i (.int (nar .byte x))) dv → OG p e below P (T'.setTop (mkF m pc' L S))) : OG p e below P (T.setTop (mkF m pc L (.int x :: .int j :: .ref a :: S))) := by
 subst hp; obtain ⟨cl, A, q1, S1, q3, H, G⟩ := F
 obtain ⟨T', h', X', e', W', st⟩ := stB X hx hZ eT A (j := j) (inb_of S1 q) (g := mkF m pc L (.int x :: .int j :: .ref a :: S)) rfl rfl hd
 exact OG.of st (k T' h' X' e' W' (Arv.set A q1 S1 q3 H G (fits_nar_byte _) W' i hj hi))
theorem og_aastore (X : Stand p l e R s m args below meth c T locs cells slots) (hx : p.tables.exec = Jvm.exec) (hZ : Z.Warmed39 s.vm) (eT : T.heap = h) {a : Addr} {kA : ClassId} {j z : Int32} {vs : List Value} {dv v : Value} {ty : FieldType} (F : Arv Z h a kA ty z vs dv) (hty : ty.isReference = true) (q : ¬ j < 0 ∧ j < z) (i : Nat) (hj : j.toNatClampNeg = i) (hi : i < vs.length) (hv : fits ty v = true) (Q : Sto Z h a v) (hd : decode c.code pc = .ok (.aastore, 1)) (hp : pc + 1 = pc') (k : ∀ T' h', Stand p l e R s m args below meth c T' (locs ++ [⟨a, j.toNatClampNeg⟩]) cells slots → T'.heap = h' → Wr h h' a j.toNatClampNeg v → Arv Z h' a kA ty z (vs.set i v) dv → OG p e below P (T'.setTop (mkF m pc' L S))) : OG p e below P (T.setTop (mkF m pc L (v :: .int j :: .ref a :: S))) := by
 subst hp; obtain ⟨cl, A, q1, S1, q3, H, G⟩ := F
 obtain ⟨T', h', X', e', W', st⟩ := stR X hx hZ eT A (j := j) (inb_of S1 q) hty Q (g := mkF m pc L (v :: .int j :: .ref a :: S)) rfl rfl hd
 exact OG.of st (k T' h' X' e' W' (Arv.set A q1 S1 q3 H G hv W' i hj hi))
theorem own_sto {a y : Addr} {kA : ClassId} {C : String} {z : Int32} {vs : List Value} {dv : Value} {ty : FieldType} (F : Arv Z h a kA ty z vs dv) (O : Ovr Z kA C) (I : Ins Z h y C true) : Sto Z h a (.ref y) := by
 obtain ⟨cl, A, q1, -⟩ := F; exact Sto.ofV A q1 O I
theorem og_baload (X : Stand p l e R s m args below meth c T locs cells slots) (hx : p.tables.exec = Jvm.exec) (hZ : Z.Warmed39 s.vm) (eT : T.heap = h) {a : Addr} {kA : ClassId} {j z : Int32} {vs : List Value} {dv v : Value} (F : Arv Z h a kA .byte z vs dv) (q : ¬ j < 0 ∧ j < z) (hv : vs.getD j.toNatClampNeg dv = v) (hd : decode c.code pc = .ok (.baload, 1)) (hp : pc + 1 = pc') (k : OG p e below P (T.setTop (mkF m pc' L (v :: S)))) : OG p e below P (T.setTop (mkF m pc L (.int j :: .ref a :: S))) := by
 subst hp; obtain ⟨cl, A, q1, S1, q3, H, G⟩ := F
 exact OG.of (fun t k => X.baloadBytes hx (j := j) (v := v) (by rw [eT]; exact A.1) (State.isArrayOf_alike hZ.alike A.2.1) A.2.2 (inb_of S1 q) (H.at (inb_of S1 q) hv) (g := mkF m pc L (.int j :: .ref a :: S)) rfl rfl hd t k) k
theorem og_aaload (X : Stand p l e R s m args below meth c T locs cells slots) (hx : p.tables.exec = Jvm.exec) (hZ : Z.Warmed39 s.vm) (eT : T.heap = h) {a : Addr} {kA : ClassId} {j z : Int32} {vs : List Value} {dv v : Value} {ty : FieldType} (hty : ty.isReference = true) (F : Arv Z h a kA ty z vs dv) (q : ¬ j < 0 ∧ j < z) (hv : vs.getD j.toNatClampNeg dv = v) (hd : decode c.code pc = .ok (.aaload, 1)) (hp : pc + 1 = pc') (k : OG p e below P (T.setTop (mkF m pc' L (v :: S)))) : OG p e below P (T.setTop (mkF m pc L (.int j :: .ref a :: S))) := by
 subst hp; obtain ⟨cl, A, q1, S1, q3, H, G⟩ := F
 exact OG.of (fun t k => X.aaload hx (j := j) (v := v) (by rw [eT]; exact A.1) (State.isArrayOf_alike hZ.alike A.2.1) hty A.2.2 (inb_of S1 q) (H.at (inb_of S1 q) hv) (g := mkF m pc L (.int j :: .ref a :: S)) rfl rfl hd t k) k
theorem og_arraylength (X : Stand p l e R s m args below meth c T locs cells slots) (hx : p.tables.exec = Jvm.exec) (hZ : Z.Warmed39 s.vm) (eT : T.heap = h) {a : Addr} {kA : ClassId} {z : Int32} {vs : List Value} {dv : Value} {ty : FieldType} (F : Arv Z h a kA ty z vs dv) (hd : decode c.code pc = .ok (.arraylength, 1)) (hp : pc + 1 = pc') (k : OG p e below P (T.setTop (mkF m pc' L (.int z :: S)))) : OG p e below P (T.setTop (mkF m pc L (.ref a :: S))) := by
 subst hp; obtain ⟨cl, A, q1, S1, q3, H, G⟩ := F
 refine OG.of (fun t k => X.arraylength hx (by rw [eT]; exact A.1) (State.isArrayOf_alike hZ.alike A.2.1) (g := mkF m pc L (.ref a :: S)) rfl rfl hd t k) ?_
 rw [len_of S1 q3]; exact k
theorem og_initO (X : Stand p l e R s m args below meth c T locs cells slots) (hx : p.tables.exec = Jvm.exec) (hZ : Z.Warmed39 s.vm) {own : String} {idx : Nat} (hml : L.size = c.maxLocals) (hown : s.vm.findClass own = some m.cls) (w1 : (Cond.methodLink own idx Lib.objectInit).before a0 Z = true) (w2 : (Cond.instanceMethod Lib.objectInit).before a0 Z = true) (w3 : (Cond.code Lib.objectInit ⟨#[0xb1]⟩ 1 none).before a0 Z = true) (eT : T.heap = h) {a : Addr} {W : Nat} (hW : (S.map fun v => v.category).sum = W) (hf : 1 ≤ R.frames) (hl : W + 12 ≤ R.locals) (hd : decode c.code pc = .ok (.invokespecial idx, 3)) (hp : pc + 3 = pc') (k : ∀ T', Stand p l e R s m args below meth c T' locs cells slots → T'.heap = h → OG p e below P (T'.setTop (mkF m pc' L S))) : OG p e below P (T.setTop (mkF m pc L (.ref a :: S))) := by
 subst hp; obtain ⟨T', X', e', st⟩ := initO X hx hZ hown w1 w2 w3 eT (g := mkF m pc L (.ref a :: S)) rfl hml rfl hd hf (W := W) (by show 2 * 0 + _ ≤ _; rw [hW]; omega) hl
 exact OG.of st (k T' X' e')
theorem og_arraycopy (X : Stand p l e R s m args below meth c T locs cells slots) (hx : p.tables.exec = Jvm.exec) (hZ : Z.Warmed39 s.vm) {own : String} {index : Nat} (hml : L.size = c.maxLocals) (hown : s.vm.findClass own = some m.cls) (w1 : (Cond.methodLink own index Jvm.Stand.acN).before a0 Z = true) (w2 : (Cond.native Jvm.Stand.acN).before a0 Z = true) (w3 : (Cond.static Jvm.Stand.acN).before a0 Z = true) (w4 : (Cond.initialized "java/lang/System").before a0 Z = true) (eT : T.heap = h) {a b : Addr} {kA kB : ClassId} {ty : FieldType} {z z' sp dp nn : Int32} {vs vd us : List Value} {dv dd : Value} (A : Arv Z h a kA ty z vs dv) (B : Arv Z h b kB ty z' vd dd) (hty : refKind ty = false) (h1 : ¬ sp < 0) (h2 : ¬ dp < 0) (h3 : ¬ nn < 0) (h4 : sp.toNatClampNeg + nn.toNatClampNeg ≤ z.toNatClampNeg) (h5 : dp.toNatClampNeg + nn.toNatClampNeg ≤ z'.toNatClampNeg) (hus : us = (List.range nn.toNatClampNeg).map fun i => vs.getD (sp.toNatClampNeg + i) dv) (hl : dp.toNatClampNeg + nn.toNatClampNeg ≤ vd.length) {n0 : Nat} (N : Fr n0 locs) (ge : n0 ≤ b) {W : Nat} (hW : (S.map fun v => v.category).sum = W) (hf : 1 ≤ R.frames) (hlo : W + (nativeFrameWords "java/lang/System" "arraycopy" 5 + 11) ≤ R.locals) (hd : decode c.code pc = .ok (.invokestatic index, 3)) (hp : pc + 3 = pc') (k : ∀ T' h' l', Stand p l e R s m args below meth c T' l' cells slots → T'.heap = h' → Fr n0 l' → Keep h h' [b] → Arv Z h' b kB ty z' (vd.take dp.toNatClampNeg ++ us ++ vd.drop (dp.toNatClampNeg + nn.toNatClampNeg)) dd → OG p e below P (T'.setTop (mkF m pc' L S))) : OG p e below P (T.setTop (mkF m pc L (.int nn :: .int dp :: .ref b :: .int sp :: .ref a :: S))) := by
 subst hp; obtain ⟨T', h', l', X', e', N', K', V', st⟩ := cpA X hx hZ hown w1 w2 w3 w4 eT A B (Or.inl ⟨rfl, hty⟩) h1 h2 h3 h4 h5 hus hl N ge (g := mkF m pc L (.int nn :: .int dp :: .ref b :: .int sp :: .ref a :: S)) rfl hml rfl hd hf (W := W) (by show 2 * 0 + _ ≤ _; rw [hW]; omega) hlo
 exact OG.of st (k T' h' l' X' e' N' K' V')
theorem og_newarrayE (X : Stand p l e R s m args below meth c T locs cells slots) (hx : p.tables.exec = Jvm.exec) (hZ : Z.Warmed39 s.vm) {aty : ArrayType} {ty : FieldType} {cells' slots' : Nat} (hty : newarray.typeOf aty = ty) (w : (Cond.arrayClass ty).before a0 Z = true) (eT : T.heap = h) {n : Int32} (hn : ¬ n < 0) {cap : Nat} (hcap : n.toNatClampNeg ≤ cap) (hb : cap * 8 ≤ 536870912) {ad : String} (had : "[" ++ ty.toString = ad) (hd : decode c.code pc = .ok (.newarray aty, 2)) (hp : pc + 2 = pc') (hc' : cells + 1 = cells') (hs' : slots + cap = slots') (hc : cells' ≤ R.cells) (hl : slots' ≤ R.slots) (k : ∀ T' h' a kA, Stand p l e R s m args below meth c T' locs cells' slots' → T'.heap = h' → Ext h h' → a = h.size → Arv Z h' a kA ty n [] (defaultValue ty) → Exa Z h' a ad → OG p e below P (T'.setTop (mkF m pc' L (.ref a :: S)))) : OG p e below P (T.setTop (mkF m pc L (.int n :: S))) := by
 subst hp hc' hs' hty; obtain ⟨T', h', kA, X', e', E', A', EA, st⟩ := newPE X hx hZ w eT (g := mkF m pc L (.int n :: S)) rfl hd rfl hn hcap hb hc hl had
 exact OG.of st (k T' h' _ kA X' e' E' rfl (Arv.new A' hn) EA)
theorem og_getClassI (X : Stand p l e R s m args below meth c T locs cells slots) (hx : p.tables.exec = Jvm.exec) (hZ : Z.Warmed39 s.vm) {own C I : String} {index count : Nat} (hml : L.size = c.maxLocals) (hown : s.vm.findClass own = some m.cls) (w1 : (Cond.methodLink own index ⟨I, "getClass", "()Ljava/lang/Class;"⟩).before a0 Z = true) (w2 : (Cond.declares ⟨"java/lang/Object", "getClass", "()Ljava/lang/Class;"⟩).before a0 Z = true) (w3 : (Cond.interfaceMethod I "java/lang/Object" "getClass" "()Ljava/lang/Class;").before a0 Z = true) (w4 : (Cond.selects C ⟨I, "getClass", "()Ljava/lang/Class;"⟩ ⟨"java/lang/Object", "getClass", "()Ljava/lang/Class;"⟩).before a0 Z = true) (w5 : (Cond.instanceMethod ⟨"java/lang/Object", "getClass", "()Ljava/lang/Class;"⟩).before a0 Z = true) (w6 : (Cond.publicMethod ⟨"java/lang/Object", "getClass", "()Ljava/lang/Class;"⟩).before a0 Z = true) (w7 : (Cond.unhidden C "getClass" "()Ljava/lang/Class;").before a0 Z = true) (w8 : (Cond.castable C I).before a0 Z = true) (w9 : (Cond.native ⟨"java/lang/Object", "getClass", "()Ljava/lang/Class;"⟩).before a0 Z = true) (hI : I ≠ "java/lang/invoke/MethodHandle" ∧ I ≠ "java/lang/invoke/VarHandle") (hIo : I ≠ "java/lang/Object") (eT : T.heap = h) {a mr : Addr} (E : Exa Z h a C) (M : (Term.mirror C).eval #[] Z none [] Z = some (.ref mr)) {W : Nat} (hW : (S.map fun v => v.category).sum = W) (hf : 1 ≤ R.frames) (hl : W + (nativeFrameWords "java/lang/Object" "getClass" 1 + 11) ≤ R.locals) (hd : decode c.code pc = .ok (.invokeinterface index count, 5)) (hp : pc + 5 = pc') (k : ∀ T', Stand p l e R s m args below meth c T' locs cells slots → T'.heap = h → OG p e below P (T'.setTop (mkF m pc' L (.ref mr :: S)))) : OG p e below P (T.setTop (mkF m pc L (.ref a :: S))) := by
 subst hp
 obtain ⟨cB, kB, i1, i2, i3⟩ := isOf hZ eT E
 obtain ⟨cc, kc, a', m1, m2, m3, ha⟩ := Term.mirror_spec M
 cases ha
 rw [hZ.alike.findClass] at i1
 cases i1.symm.trans m1
 obtain ⟨k', q, ek⟩ := hZ.alike.2.2 _ _ m2
 obtain ⟨vm', X', st⟩ := X.getClassOfI hx (count := count) (xi := ⟨I, "getClass", "()Ljava/lang/Class;"⟩) hown (mvT hZ w1) (mvT hZ w2) (Jvm.Free.ULB.iface_rides hZ.alike w3) (mvT hZ w4) (mvT hZ w5) (mvT hZ w6) (mvT hZ w7) (mvT hZ w8) (mvT hZ w9) hI hIo rfl rfl (by rw [hZ.alike.findClass]; exact m1) q i3 (by rw [ek]; exact m3) (g := mkF m pc L (.ref a :: S)) rfl hml (rest := S) rfl hd hf (by show 2 * 0 + _ + _ ≤ _; rw [hW]; omega)
 exact OG.of st (k _ X' eT)
theorem og_ldcMirror (X : Stand p l e R s m args below meth c T locs cells slots) (hx : p.tables.exec = Jvm.exec) (hZ : Z.Warmed39 s.vm) {own C : String} {index : Nat} {a : Addr} (hown : s.vm.findClass own = some m.cls) (w : (Cond.classLink own index C).before a0 Z = true) (M : (Term.mirror C).eval #[] Z none [] Z = some (.ref a)) (eT : T.heap = h) (hd : decode c.code pc = .ok (.ldc index, 2)) (hp : pc + 2 = pc') (k : ∀ T', Stand p l e R s m args below meth c T' locs cells slots → T'.heap = h → OG p e below P (T'.setTop (mkF m pc' L (.ref a :: S)))) : OG p e below P (T.setTop (mkF m pc L S)) := by
 subst hp; obtain ⟨vm', X', st⟩ := X.ldcMirror hx hown (mvT hZ w) (Jvm.Free.ULB.mirror_move hZ.alike M) (g := mkF m pc L S) rfl hd
 exact OG.of st (k _ X' eT)
def Con (l : Launch) (Z : State) (y : MethodName) (bytes : ByteArray) (maxL : Nat) (ret : Option FieldType) (rm : Room) (as' : Array Value) (h : Heap) (Q : Option Value → Heap → List Loc → Prop) : Prop :=
 MetFree l y (head1 [Cond.code y bytes maxL ret] rm) (fun a U => a = as' ∧ Z.Warmed39 U.vm ∧ U.heap = h) (fun _ _ _ _ _ => True) (fun _ U o U' => ∃ v L, o = .returned v ∧ Q v U'.heap L ∧ FrameEnd U o U' L rm.cells rm.slots)
abbrev OFin (s : State) (Q : Option Value → Heap → List Loc → Prop) (k n : Nat) (o : Outcome) (t : State) : Prop := ∃ v L, o = .returned v ∧ Q v t.heap L ∧ FrameEnd s o t L k n
theorem own_start {y : MethodName} {bytes : ByteArray} {maxL : Nat} {ret : Option FieldType} {rm : Room} {as' : Array Value} {ws : List Cond} {Q : Option Value → Heap → List Loc → Prop} {kc ks : Nat} (hpn : plainFor y = true)
  (body : ∀ (p : Program) (e : Env) (s : State) (m : MethodId) (below : List Frame) (meth : Method) (c : Code) (T : State), Stand p l e rm s m as' below meth c T [] 0 0 → p.tables.exec = Jvm.exec → c.code = bytes → c.maxLocals = maxL → Z.Warmed39 s.vm → s.vm.findClass y.cls = some m.cls → meth.name = y.name → meth.sig.returnType = ret → meth.locks = false → T.heap = h → OG p e below (OFin s Q kc ks) (T.setTop (entryFrame m as' maxL))) :
  MetFree l y (head1 (Cond.code y bytes maxL ret :: ws) rm) (fun a U => a = as' ∧ Z.Warmed39 U.vm ∧ U.heap = h) (fun _ _ _ _ _ => True) (fun _ U o U' => ∃ v L, o = .returned v ∧ Q v U'.heap L ∧ FrameEnd U o U' L kc ks) := by
 refine MetFree.of_bodySF hpn hisR ?_
 intro p e s m args below meth c s₁ Bd hml0 hP hK
 obtain ⟨rfl, hZ, hh⟩ := hP
 exact body p e s m below meth c s₁ (Stand.of_body Bd) Bd.exec Bd.bytes hml0 hZ (findClass_of_methodNamed Bd.named) (name_of_methodNamed Bd.named Bd.method).1 Bd.returns Bd.notSynchronized (by rw [← hh, Bd.state]; rfl)
theorem own_startC {y : MethodName} {bytes : ByteArray} {maxL : Nat} {ret : Option FieldType} {rm : Room} {as' : Array Value} {Q : Option Value → Heap → List Loc → Prop} (hpn : plainFor y = true)
  (body : ∀ (p : Program) (e : Env) (s : State) (m : MethodId) (below : List Frame) (meth : Method) (c : Code) (T : State), Stand p l e rm s m as' below meth c T [] 0 0 → p.tables.exec = Jvm.exec → c.code = bytes → c.maxLocals = maxL → Z.Warmed39 s.vm → s.vm.findClass y.cls = some m.cls → meth.name = y.name → meth.sig.returnType = ret → meth.locks = false → T.heap = h → OG p e below (OFin s Q rm.cells rm.slots) (T.setTop (entryFrame m as' maxL))) : Con l Z y bytes maxL ret rm as' h Q := own_start (Q := Q) hpn body
theorem og_ret (X : Stand p l e R s m args below meth c T locs cells slots) (hlk : meth.locks = false) {Q : Option Value → Heap → List Loc → Prop} {kc ks : Nat} {g : JFrame} (v : Option Value) (hv : meth.sig.returnType = none → v = none)
  (st : ∀ fs, (∀ (f : JFrame) (acts : List Action), f.method = m → f.locked = none → f.entered = [] → (doReturn e (T.setTop f) acts v).1 = T.setFrames fs) → Steps p.tables e below (T.setTop g) (T.setFrames fs)) (hc : cells ≤ kc) (hs : slots ≤ ks) (hQ : Q v T.heap locs) : OG p e below (OFin s Q kc ks) (T.setTop g) := by
 obtain ⟨fs, hr, hrun, hended, hW, hsame⟩ := X.leave hv hlk
 exact ⟨_, _, st fs hr, hrun, hended, v, locs, rfl, hQ, ⟨_, rfl⟩, hW, hsame.mono hc hs⟩
theorem og_retI (X : Stand p l e R s m args below meth c T locs cells slots) (hx : p.tables.exec = Jvm.exec) (hlk : meth.locks = false) (hret : meth.sig.returnType = some .int) {Q : Option Value → Heap → List Loc → Prop} {kc ks : Nat} {z : Int32} (hd : decode c.code pc = .ok (.ireturn, 1)) (hc : cells ≤ kc) (hs : slots ≤ ks) (hQ : Q (some (.int z)) T.heap locs) : OG p e below (OFin s Q kc ks) (T.setTop (mkF m pc L (.int z :: S))) :=
 og_ret X hlk (some (.int z)) (fun q => by rw [hret] at q; cases q) (fun fs hr => retI X hx hret hd hr) hc hs hQ
theorem og_retN (X : Stand p l e R s m args below meth c T locs cells slots) (hx : p.tables.exec = Jvm.exec) (hlk : meth.locks = false) {t : FieldType} (hret : meth.sig.returnType = some t) (ht : t = .boolean ∨ t = .byte ∨ t = .char ∨ t = .short) {Q : Option Value → Heap → List Loc → Prop} {kc ks : Nat} {z : Int32} (hd : decode c.code pc = .ok (.ireturn, 1)) (hc : cells ≤ kc) (hs : slots ≤ ks) (hQ : Q (some (.int (nar t z))) T.heap locs) : OG p e below (OFin s Q kc ks) (T.setTop (mkF m pc L (.int z :: S))) :=
 og_ret X hlk (some (.int (nar t z))) (fun q => by rw [hret] at q; cases q) (fun fs hr => retN X hx hret ht hd hr) hc hs hQ
theorem og_retR (X : Stand p l e R s m args below meth c T locs cells slots) (hx : p.tables.exec = Jvm.exec) (hlk : meth.locks = false) {t : FieldType} (hret : meth.sig.returnType = some t) (ht : t.isReference = true) {Q : Option Value → Heap → List Loc → Prop} {kc ks : Nat} {v : Value} (hv : v.isRef = true) (hn : narrow t v = v) (hd : decode c.code pc = .ok (.areturn, 1)) (hc : cells ≤ kc) (hs : slots ≤ ks) (hQ : Q (some v) T.heap locs) : OG p e below (OFin s Q kc ks) (T.setTop (mkF m pc L (v :: S))) :=
 og_ret X hlk (some v) (fun q => by rw [hret] at q; cases q) (fun fs hr => retOut X hx hret hn (Or.inr (Or.inr (Or.inr (Or.inr ⟨rfl, ht, hv⟩)))) hd hr) hc hs hQ
theorem og_retV (X : Stand p l e R s m args below meth c T locs cells slots) (hx : p.tables.exec = Jvm.exec) (hlk : meth.locks = false) (hret : meth.sig.returnType = none) {Q : Option Value → Heap → List Loc → Prop} {kc ks : Nat} (hd : decode c.code pc = .ok (.return_, 1)) (hc : cells ≤ kc) (hs : slots ≤ ks) (hQ : Q none T.heap locs) : OG p e below (OFin s Q kc ks) (T.setTop (mkF m pc L [])) :=
 og_ret X hlk none (fun _ => rfl) (fun fs hr => X.returnOut hx hret hd hr) hc hs hQ
theorem og_static (X : Stand p l e R s m args below meth c T locs cells slots) (hx : p.tables.exec = Jvm.exec) (hZ : Z.Warmed39 s.vm) {own : String} {index : Nat} {y : MethodName} {bytes : ByteArray} {maxL : Nat} {ret : Option FieldType} {rm : Room} {as' : Array Value} {Q : Option Value → Heap → List Loc → Prop} {W cells' slots' : Nat} (hM : Con l Z y bytes maxL ret rm as' h Q) (hown : s.vm.findClass own = some m.cls) (w1 : (Cond.methodLink own index y).before a0 Z = true) (w2 : (Cond.static y).before a0 Z = true) (wz : (Cond.initialized y.cls).before a0 Z = true) (wc : (Cond.code y bytes maxL ret).before a0 Z = true) (hy : y.cls ≠ "java/lang/invoke/MethodHandle" ∧ y.cls ≠ "java/lang/invoke/VarHandle") (hml : L.size = c.maxLocals) (eT : T.heap = h) {ps : List FieldType} {rt : Option FieldType} (hpd : parseMethodDescriptor y.desc = some ⟨ps, rt⟩) (argsL rest : List Value) (hll : argsL.length = ps.length) (has : argsL.toArray = as') (hst : S = argsL.reverse ++ rest) (hW : (rest.map fun v => v.category).sum = W) (hf : rm.frames + 1 ≤ R.frames) (hl : W + (maxL + 11) + rm.locals ≤ R.locals) (hc' : cells + rm.cells = cells') (hs' : slots + rm.slots = slots') (hc : cells' ≤ R.cells) (hs : slots' ≤ R.slots) (hd : decode c.code pc = .ok (.invokestatic index, 3)) (hp : pc + 3 = pc') (k : ∀ v T' h' Lc, Stand p l e R s m args below meth c T' (locs ++ Lc) cells' slots' → T'.heap = h' → Q v h' Lc → OG p e below P (T'.setTop (mkF m pc' L (v.toList ++ rest)))) : OG p e below P (T.setTop (mkF m pc L S)) := by
 subst hp hst hc' hs' has
 obtain ⟨v, _, ⟨T1, L1, k1, n1⟩, -, X1, ⟨Lc, hQ, l1, y1, z1⟩, st⟩ := Jvm.LawKit.callS X hx (y := y) hown (mvT hZ w1) (mvT hZ w2) (mvT hZ wz) (mvT hZ wc) hy (backOf (W := W) hM hZ wc wz hf hl) (g := mkF m pc L (argsL.reverse ++ rest)) rfl hml (argsL := argsL) (rest := rest) (lenOf hpd hll) rfl (by show 2 * 0 + _ ≤ _; rw [hW]; omega) hd (fun _ _ => ⟨rfl, eT, hc, hs⟩)
 dsimp only [Pt.U, Pt.locs, Pt.cells, Pt.slots] at X1 l1 y1 z1 st hQ
 subst l1 y1 z1
 exact OG.of st (k v T1 _ Lc X1 rfl hQ)
theorem og_special (X : Stand p l e R s m args below meth c T locs cells slots) (hx : p.tables.exec = Jvm.exec) (hZ : Z.Warmed39 s.vm) {own : String} {index : Nat} {y : MethodName} {bytes : ByteArray} {maxL : Nat} {rm : Room} {as' : Array Value} {Q : Option Value → Heap → List Loc → Prop} {W cells' slots' : Nat} (hM : Con l Z y bytes maxL none rm as' h Q) (hin : y.name = "<init>") (hown : s.vm.findClass own = some m.cls) (w1 : (Cond.methodLink own index y).before a0 Z = true) (w2 : (Cond.instanceMethod y).before a0 Z = true) (wz : (Cond.initialized y.cls).before a0 Z = true) (wc : (Cond.code y bytes maxL none).before a0 Z = true) (hy : y.cls ≠ "java/lang/invoke/MethodHandle" ∧ y.cls ≠ "java/lang/invoke/VarHandle") (hml : L.size = c.maxLocals) (eT : T.heap = h) {ps : List FieldType} {rt : Option FieldType} (hpd : parseMethodDescriptor y.desc = some ⟨ps, rt⟩) {a : Addr} (argsL rest : List Value) (hll : argsL.length = ps.length) (has : (.ref a :: argsL).toArray = as') (hst : S = argsL.reverse ++ .ref a :: rest) (hW : (rest.map fun v => v.category).sum = W) (hf : rm.frames + 1 ≤ R.frames) (hl : W + (maxL + 11) + rm.locals ≤ R.locals) (hc' : cells + rm.cells = cells') (hs' : slots + rm.slots = slots') (hc : cells' ≤ R.cells) (hs : slots' ≤ R.slots) (hd : decode c.code pc = .ok (.invokespecial index, 3)) (hp : pc + 3 = pc') (k : ∀ v T' h' Lc, Stand p l e R s m args below meth c T' (locs ++ Lc) cells' slots' → T'.heap = h' → Q v h' Lc → OG p e below P (T'.setTop (mkF m pc' L (v.toList ++ rest)))) : OG p e below P (T.setTop (mkF m pc L S)) := by
 subst hp hst hc' hs' has
 obtain ⟨v, _, ⟨T1, L1, k1, n1⟩, -, X1, ⟨Lc, hQ, l1, y1, z1⟩, st⟩ := X.specialBack hx (y := y) hin hown (mvT hZ w1) (mvT hZ w2) (mvT hZ wc) hy (backOf (W := W) hM hZ wc wz hf hl) (g := mkF m pc L (argsL.reverse ++ .ref a :: rest)) rfl hml (Steps.refl _) (a := a) (argsL := argsL) (rest := rest) (lenOf hpd hll) rfl (by show 2 * 0 + _ ≤ _; rw [hW]; omega) hd (fun _ _ => ⟨rfl, eT, hc, hs⟩)
 dsimp only [Pt.U, Pt.locs, Pt.cells, Pt.slots] at X1 l1 y1 z1 st hQ
 subst l1 y1 z1
 exact OG.of (fun t k => st.trans k) (k v T1 _ Lc X1 rfl hQ)
theorem og_virtual (X : Stand p l e R s m args below meth c T locs cells slots) (hx : p.tables.exec = Jvm.exec) (hZ : Z.Warmed39 s.vm) {own C : String} {index : Nat} {y z : MethodName} {bytes : ByteArray} {maxL : Nat} {ret : Option FieldType} {rm : Room} {as' : Array Value} {Q : Option Value → Heap → List Loc → Prop} {W cells' slots' : Nat} (hM : Con l Z z bytes maxL ret rm as' h Q) (hown : s.vm.findClass own = some m.cls) (w1 : (Cond.methodLink own index y).before a0 Z = true) (w2 : (Cond.declares y).before a0 Z = true) (hnf : NotFace s y) (w3 : (Cond.selects C y z).before a0 Z = true) (w4 : (Cond.instanceMethod z).before a0 Z = true) (wz : (Cond.initialized z.cls).before a0 Z = true) (wc : (Cond.code z bytes maxL ret).before a0 Z = true) (hy : y.cls ≠ "java/lang/invoke/MethodHandle" ∧ y.cls ≠ "java/lang/invoke/VarHandle") (hml : L.size = c.maxLocals) (eT : T.heap = h) {ps : List FieldType} {rt : Option FieldType} (hpd : parseMethodDescriptor y.desc = some ⟨ps, rt⟩) {a : Addr} (argsL rest : List Value) (hll : argsL.length = ps.length) (has : (.ref a :: argsL).toArray = as') (hst : S = argsL.reverse ++ .ref a :: rest) (hW : (rest.map fun v => v.category).sum = W) (hf : rm.frames + 1 ≤ R.frames) (hl : W + (maxL + 11) + rm.locals ≤ R.locals) (hc' : cells + rm.cells = cells') (hs' : slots + rm.slots = slots') (hc : cells' ≤ R.cells) (hs : slots' ≤ R.slots) (E : Exa Z h a C) (hd : decode c.code pc = .ok (.invokevirtual index, 3)) (hp : pc + 3 = pc') (k : ∀ v T' h' Lc, Stand p l e R s m args below meth c T' (locs ++ Lc) cells' slots' → T'.heap = h' → Q v h' Lc → OG p e below P (T'.setTop (mkF m pc' L (v.toList ++ rest)))) : OG p e below P (T.setTop (mkF m pc L S)) := by
 subst hp hst hc' hs' has
 obtain ⟨cq, kq, qa, qb, qc⟩ := isOf hZ eT E
 obtain ⟨v, _, ⟨T1, L1, k1, n1⟩, -, X1, ⟨Lc, hQ, l1, y1, z1⟩, st⟩ := X.virtualBack hx (y := y) (z := z) hown (mvT hZ w1) (mvT hZ w2) hnf (mvT hZ w3) (mvT hZ w4) hy (backOf (W := W) hM hZ wc wz hf hl) qa qc (g := mkF m pc L (argsL.reverse ++ .ref a :: rest)) rfl hml (Steps.refl _) (argsL := argsL) (rest := rest) (lenOf hpd hll) rfl (by show 2 * 0 + _ ≤ _; rw [hW]; omega) hd (fun _ _ => ⟨rfl, eT, hc, hs⟩)
 dsimp only [Pt.U, Pt.locs, Pt.cells, Pt.slots] at X1 l1 y1 z1 st hQ
 subst l1 y1 z1
 exact OG.of (fun t k => st.trans k) (k v T1 _ Lc X1 rfl hQ)
theorem own_nf (hZ : Z.Warmed39 s.vm) {C : String} {y : MethodName} (w : (Cond.selects C y y).before a0 Z = true) : NotFace s y := notFace_of_selects (args := #[]) (mvT hZ w)
theorem own_n0 {n0 : Nat} (O : Old Z n0 h) : n0 ≤ h.size := O.1 ▸ O.2.1
theorem own_eqint {args : Array Value} {t : Term} {n : Int32} (q : (Cond.eq t (Term.int n)).value args s none s [] = some true) : t.eval args s none [] s = some (.int n) := by
  simp only [Cond.value, Term.eval] at q
  cases ht : t.eval args s none [] s with
  | none => simp [ht] at q
  | some x => cases x <;> simp [ht] at q ⊢; exact q
theorem own_nfc {y y' : MethodName} {C : String} {a0 : Array Value} (w : (Cond.declares y').before a0 Z = true) (w' : (Cond.selects C y' y').before a0 Z = true) (e : y.cls = y'.cls) : NotFace Z y := fun r0 hn => by
 obtain ⟨r1, r, hn', -⟩ := Cond.declares_spec w
 obtain ⟨k, hk, hi⟩ := notFace_of_selects w' r1 hn'
 have a := findClass_of_methodNamed hn
 have b := findClass_of_methodNamed hn'
 rw [e] at a
 have q : r0.cls = r1.cls := Option.some.inj (a.symm.trans b)
 exact ⟨k, by rw [q]; exact hk, hi⟩
theorem own_sameM {y : MethodName} {a0 : Array Value} (w : (Cond.declares y).before a0 Z = true) (nf : NotFace Z y) (hy : y.cls ≠ "java/lang/invoke/MethodHandle" ∧ y.cls ≠ "java/lang/invoke/VarHandle") : (Cond.sameMethod y.cls y.cls y.name y.desc).before a0 Z = true := by
 obtain ⟨r0, r, hn, hrm, -, -⟩ := Cond.declares_spec w
 obtain ⟨kr, hkr, hni⟩ := nf r0 hn
 have hc := findClass_of_methodNamed hn
 have hf := State.methodFound?_of_named hn hy
 simp [Cond.before, Cond.holds, Cond.value, hc, hf, hn, hkr, hni]
theorem own_selfp {y : MethodName} {C : String} {a0 : Array Value} (w : (Cond.selects C y y).before a0 Z = true) (wi : (Cond.instanceMethod y).before a0 Z = true) (wp : (Cond.privateMethod y).before a0 Z = true) (hy : y.cls ≠ "java/lang/invoke/MethodHandle" ∧ y.cls ≠ "java/lang/invoke/VarHandle") : (Cond.selects y.cls y y).before a0 Z = true := by
 obtain ⟨c2, r2, m2, -, -, q3, -, k, hk, hki⟩ := Cond.selects_spec w
 exact selects_self_of_private (findClass_of_methodNamed q3) hk hki (Cond.privateMethod_at wp) wi hy
theorem og_super (X : Stand p l e R s m args below meth c T locs cells slots) (hx : p.tables.exec = Jvm.exec) (hZ : Z.Warmed39 s.vm) {own K : String} {index : Nat} {y : MethodName} {bytes : ByteArray} {maxL : Nat} {ret : Option FieldType} {rm : Room} {as' : Array Value} {Q : Option Value → Heap → List Loc → Prop} {W cells' slots' : Nat} (hM : Con l Z y bytes maxL ret rm as' h Q) (hown : s.vm.findClass own = some m.cls) (w1 : (Cond.methodLink own index y).before a0 Z = true) (w2 : (Cond.sameMethod y.cls y.cls y.name y.desc).before a0 Z = true) (w3 : (Cond.instanceMethod y).before a0 Z = true) (w4 : (Cond.superclass own y.cls).before a0 Z = true) (hn : y.name ≠ "<init>") (wz : (Cond.initialized y.cls).before a0 Z = true) (wc : (Cond.code y bytes maxL ret).before a0 Z = true) (hy : y.cls ≠ "java/lang/invoke/MethodHandle" ∧ y.cls ≠ "java/lang/invoke/VarHandle") (hml : L.size = c.maxLocals) (eT : T.heap = h) {ps : List FieldType} {rt : Option FieldType} (hpd : parseMethodDescriptor y.desc = some ⟨ps, rt⟩) {a : Addr} (argsL rest : List Value) (hll : argsL.length = ps.length) (has : (.ref a :: argsL).toArray = as') (hst : S = argsL.reverse ++ .ref a :: rest) (hW : (rest.map fun v => v.category).sum = W) (hf : rm.frames + 1 ≤ R.frames) (hl : W + (maxL + 11) + rm.locals ≤ R.locals) (hc' : cells + rm.cells = cells') (hs' : slots + rm.slots = slots') (hc : cells' ≤ R.cells) (hs : slots' ≤ R.slots) (E : Exa Z h a K) (hd : decode c.code pc = .ok (.invokespecial index, 3)) (hp : pc + 3 = pc') (k : ∀ v T' h' Lc, Stand p l e R s m args below meth c T' (locs ++ Lc) cells' slots' → T'.heap = h' → Q v h' Lc → OG p e below P (T'.setTop (mkF m pc' L (v.toList ++ rest)))) : OG p e below P (T.setTop (mkF m pc L S)) := by
 subst hp hst hc' hs' has
 obtain ⟨v, _, ⟨T1, L1, k1, n1⟩, -, X1, ⟨Lc, hQ, l1, y1, z1⟩, st⟩ := superBack X hx hZ (y := y) hown w1 w2 w3 w4 hn (backOf (W := W) hM hZ wc wz hf hl) eT (Ins.self E) (g := mkF m pc L (argsL.reverse ++ .ref a :: rest)) rfl hml wc (argsL := argsL) (rest := rest) (lenOf hpd hll) rfl (by show 2 * 0 + _ ≤ _; rw [hW]; omega) hd (fun _ _ => ⟨rfl, eT, hc, hs⟩)
 dsimp only [Pt.U, Pt.locs, Pt.cells, Pt.slots] at X1 l1 y1 z1 st hQ
 subst l1 y1 z1
 exact OG.of (fun t k => st.trans k) (k v T1 _ Lc X1 rfl hQ)
theorem og_private (X : Stand p l e R s m args below meth c T locs cells slots) (hx : p.tables.exec = Jvm.exec) (hZ : Z.Warmed39 s.vm) {own : String} {index : Nat} {y : MethodName} {bytes : ByteArray} {maxL : Nat} {ret : Option FieldType} {rm : Room} {as' : Array Value} {Q : Option Value → Heap → List Loc → Prop} {W cells' slots' : Nat} (hM : Con l Z y bytes maxL ret rm as' h Q) (hown : s.vm.findClass own = some m.cls) (w1 : (Cond.methodLink own index y).before a0 Z = true) (w2 : (Cond.instanceMethod y).before a0 Z = true) (w3 : (Cond.selects y.cls y y).before a0 Z = true) (w4 : (Cond.privateMethod y).before a0 Z = true) (wz : (Cond.initialized y.cls).before a0 Z = true) (wc : (Cond.code y bytes maxL ret).before a0 Z = true) (hy : y.cls ≠ "java/lang/invoke/MethodHandle" ∧ y.cls ≠ "java/lang/invoke/VarHandle") (hml : L.size = c.maxLocals) (eT : T.heap = h) {ps : List FieldType} {rt : Option FieldType} (hpd : parseMethodDescriptor y.desc = some ⟨ps, rt⟩) {a : Addr} (argsL rest : List Value) (hll : argsL.length = ps.length) (has : (.ref a :: argsL).toArray = as') (hst : S = argsL.reverse ++ .ref a :: rest) (hW : (rest.map fun v => v.category).sum = W) (hf : rm.frames + 1 ≤ R.frames) (hl : W + (maxL + 11) + rm.locals ≤ R.locals) (hc' : cells + rm.cells = cells') (hs' : slots + rm.slots = slots') (hc : cells' ≤ R.cells) (hs : slots' ≤ R.slots) {C : String} (E : Exa Z h a C) (hd : decode c.code pc = .ok (.invokevirtual index, 3)) (hp : pc + 3 = pc') (k : ∀ v T' h' Lc, Stand p l e R s m args below meth c T' (locs ++ Lc) cells' slots' → T'.heap = h' → Q v h' Lc → OG p e below P (T'.setTop (mkF m pc' L (v.toList ++ rest)))) : OG p e below P (T.setTop (mkF m pc L S)) := by
 subst hp hst hc' hs' has
 obtain ⟨cq, q1, q2⟩ := E.cell
 obtain ⟨v, _, ⟨T1, L1, k1, n1⟩, -, X1, ⟨Lc, hQ, l1, y1, z1⟩, st⟩ := X.privateBack hx (y := y) hown (mvT hZ w1) (mvT hZ w2) (mvT hZ w3) (Cond.privateMethod_at (mvP hZ w4 (args := #[]))) (mvT hZ wc) hy (backOf (W := W) hM hZ wc wz hf hl) (g := mkF m pc L (argsL.reverse ++ .ref a :: rest)) rfl hml (Steps.refl _) (a := a) (by rw [eT]; exact q1) q2 (argsL := argsL) (rest := rest) (lenOf hpd hll) rfl (by show 2 * 0 + _ ≤ _; rw [hW]; omega) hd (fun _ _ => ⟨rfl, eT, hc, hs⟩)
 dsimp only [Pt.U, Pt.locs, Pt.cells, Pt.slots] at X1 l1 y1 z1 st hQ
 subst l1 y1 z1
 exact OG.of (fun t k => st.trans k) (k v T1 _ Lc X1 rfl hQ)
theorem og_interface (X : Stand p l e R s m args below meth c T locs cells slots) (hx : p.tables.exec = Jvm.exec) (hZ : Z.Warmed39 s.vm) {own C : String} {index count : Nat} {y z : MethodName} {bytes : ByteArray} {maxL : Nat} {ret : Option FieldType} {rm : Room} {as' : Array Value} {Q : Option Value → Heap → List Loc → Prop} {W cells' slots' : Nat} (hM : Con l Z z bytes maxL ret rm as' h Q) (hown : s.vm.findClass own = some m.cls) (w1 : (Cond.methodLink own index y).before a0 Z = true) (w2 : (Cond.declares y).before a0 Z = true) (w3 : (Cond.interfaceMethod y.cls y.cls y.name y.desc).before a0 Z = true) (w4 : (Cond.selects C y z).before a0 Z = true) (w5 : (Cond.instanceMethod z).before a0 Z = true) (w6 : (Cond.publicMethod z).before a0 Z = true) (w7 : (Cond.unhidden C y.name y.desc).before a0 Z = true) (w8 : (Cond.castable C y.cls).before a0 Z = true) (wz : (Cond.initialized z.cls).before a0 Z = true) (wc : (Cond.code z bytes maxL ret).before a0 Z = true) (hy : y.cls ≠ "java/lang/invoke/MethodHandle" ∧ y.cls ≠ "java/lang/invoke/VarHandle") (hml : L.size = c.maxLocals) (eT : T.heap = h) {ps : List FieldType} {rt : Option FieldType} (hpd : parseMethodDescriptor y.desc = some ⟨ps, rt⟩) {a : Addr} (argsL rest : List Value) (hll : argsL.length = ps.length) (has : (.ref a :: argsL).toArray = as') (hst : S = argsL.reverse ++ .ref a :: rest) (hW : (rest.map fun v => v.category).sum = W) (hf : rm.frames + 1 ≤ R.frames) (hl : W + (maxL + 11) + rm.locals ≤ R.locals) (hc' : cells + rm.cells = cells') (hs' : slots + rm.slots = slots') (hc : cells' ≤ R.cells) (hs : slots' ≤ R.slots) (E : Exa Z h a C) (hd : decode c.code pc = .ok (.invokeinterface index count, 5)) (hp : pc + 5 = pc') (k : ∀ v T' h' Lc, Stand p l e R s m args below meth c T' (locs ++ Lc) cells' slots' → T'.heap = h' → Q v h' Lc → OG p e below P (T'.setTop (mkF m pc' L (v.toList ++ rest)))) : OG p e below P (T.setTop (mkF m pc L S)) := by
 subst hp hst hc' hs' has
 obtain ⟨cq, kq, qa, qb, qc⟩ := isOf hZ eT E
 obtain ⟨v, _, ⟨T1, L1, k1, n1⟩, -, X1, ⟨Lc, hQ, l1, y1, z1⟩, st⟩ := X.interfaceBack hx (xi := y) (y := z) hown (mvT hZ w1) (mvT hZ w2) (Jvm.Free.ULB.iface_rides (U := s) hZ.alike w3) (mvT hZ w4) (mvT hZ w5) (mvT hZ w6) (mvT hZ w7) (mvT hZ w8) hy (backOf (W := W) hM hZ wc wz hf hl) qa qb qc (g := mkF m pc L (argsL.reverse ++ .ref a :: rest)) rfl hml (Steps.refl _) (argsL := argsL) (rest := rest) (lenOf hpd hll) rfl (by show 2 * 0 + _ ≤ _; rw [hW]; omega) hd (fun _ _ => ⟨rfl, eT, hc, hs⟩)
 dsimp only [Pt.U, Pt.locs, Pt.cells, Pt.slots] at X1 l1 y1 z1 st hQ
 subst l1 y1 z1
 exact OG.of (fun t k => st.trans k) (k v T1 _ Lc X1 rfl hQ)
end OwnKit
section OwnKitW
variable {p : Program} {l : Launch} {e : Env} {R : Room} {s : State} {m : MethodId} {args : Array Value} {below : List Frame} {meth : Method} {c : Code} {T : State} {locs : List Loc} {cells slots : Nat} {Z : State} {a0 : Array Value} {h : Heap} {P : Outcome → State → Prop} {pc pc' pc1 pc2 : Nat} {L L' : Array Slot} {S : List Value} {vm : Vm} {EL : List (String × Nat)} {k0 : Nat}
abbrev FinW (s Z : State) (EL : List (String × Nat)) (Q : Option Value → Heap → List Loc → Prop) (k n : Nat) (o : Outcome) (t : State) : Prop := ∃ v L, o = .returned v ∧ Q v t.heap L ∧ CHr Z EL s.vm s.heap t.vm t.heap ∧ ReturnedEndW s o t L k n
def ConW (l : Launch) (Z : State) (EL : List (String × Nat)) (sw : List Addr) (y : MethodName) (bytes : ByteArray) (maxL : Nat) (ret : Option FieldType) (rm : Room) (as' : Array Value) (h : Heap) (Q : Option Value → Heap → List Loc → Prop) : Prop :=
 MetFree l y (head1 [Cond.code y bytes maxL ret] rm) (fun a U => a = as' ∧ Z.Warmed39 U.vm ∧ U.heap = h ∧ CHv Z EL U.vm h ∧ ∀ x ∈ sw, Safe Z EL U.vm h x) (fun _ _ _ _ _ => True) (fun _ U o U' => ∃ v L, o = .returned v ∧ Q v U'.heap L ∧ CHr Z EL U.vm U.heap U'.vm U'.heap ∧ ReturnedEndW U o U' L rm.cells rm.slots)
theorem own_since (s : State) (n : Nat) : s.Since s.vm n := ⟨State.Warmed39.refl s, by first | exact State.Booked.refl _ _ | (intro j q h1 h2; exact absurd (Array.getElem?_eq_some_iff.mp h2).1 (Nat.not_lt.mpr h1)) | simp [State.Booked]⟩
theorem own_backW {sw : List Addr} {y : MethodName} {bytes : ByteArray} {maxL : Nat} {ret : Option FieldType} {rm : Room} {len W : Nat} {as' : Array Value} {Q : Option Value → Heap → List Loc → Prop} (hM : ConW l Z EL sw y bytes maxL ret rm as' h Q) (hZ : Z.Warmed39 vm) (wc : (Cond.code y bytes maxL ret).before a0 Z = true) (wz : (Cond.initialized y.cls).before a0 Z = true) (hf : rm.frames + 1 ≤ R.frames) (hl : W + (maxL + 11) + rm.locals ≤ R.locals) (hEL : EW Z a0 EL) (H : CHv Z EL vm h) (hsw : ∀ x ∈ sw, x < h.size ∧ Safe Z EL vm h x) :
    BackS l R p e below (s.setVm vm) args y len W (fun A a => a = as' ∧ A.U.heap = h ∧ A.cells + rm.cells ≤ R.cells ∧ A.slots + rm.slots ≤ R.slots) (fun A _ v B => ∃ L, Q v B.U.heap L ∧ B.locs = A.locs ++ L ∧ B.cells = A.cells + rm.cells ∧ B.slots = A.slots + rm.slots ∧ CHr Z EL vm h B.U.vm B.U.heap) := by
  refine BackS.of_freeW (bytes := bytes) (maxL := maxL) (ret := ret) (E := fun _ first o t L k n => k = rm.cells ∧ n = rm.slots ∧ (∃ v, o = .returned v ∧ Q v t.heap L) ∧ CHr Z EL first.vm first.heap t.vm t.heap) hM hf hl ?_ ?_ (fun _ _ _ _ _ _ _ _ _ => trivial) ?_ ?_
  · intro m meth c A a Y hp
    have hU : Z.Warmed39 A.U.vm := wtrans (s := s.setVm vm) hZ Y.warmed
    exact ⟨by show (Cond.and _ .tt).before a A.U = true; rw [Cond.before_and, mv hU wc]; rfl, mv hU wc, mv hU wz, hp.2.2.1, hp.2.2.2⟩
  · intro m meth c A a g mk Y hp
    have q := CHv.at Y hZ hEL H
    exact ⟨hp.1, wtrans (s := s.setVm vm) hZ Y.warmed, hp.2.1, q.1, fun x hx => q.safe (hsw x hx).1 (hsw x hx).2⟩
  · rintro _ _ _ _ ⟨v, L, h1, h2, h3, h4⟩
    exact ⟨L, _, _, h4, rfl, rfl, ⟨v, h1, h2⟩, h3⟩
  · rintro m meth c A a g mk v t L k n Y hp _ _ ⟨e1, e2, ⟨v', e3, e4⟩, e5⟩
    cases e3; subst e1 e2
    refine ⟨L, e4, rfl, rfl, rfl, (CHv.at Y hZ hEL H).trans ?_⟩
    rw [← hp.2.1]; exact e5
theorem own_startW {sw : List Addr} {y : MethodName} {bytes : ByteArray} {maxL : Nat} {ret : Option FieldType} {rm : Room} {as' : Array Value} {ws : List Cond} {Q : Option Value → Heap → List Loc → Prop} {kc ks : Nat} (hpn : plainFor y = true)
  (body : ∀ (p : Program) (e : Env) (s : State) (m : MethodId) (below : List Frame) (meth : Method) (c : Code) (T : State), Stand p l e rm (s.setVm s.vm) m as' below meth c T [] 0 0 → p.tables.exec = Jvm.exec → c.code = bytes → c.maxLocals = maxL → Z.Warmed39 s.vm → s.vm.findClass y.cls = some m.cls → meth.name = y.name → meth.sig.returnType = ret → meth.locks = false → T.heap = h → s.heap = h → s.Since s.vm h.size → CHr Z EL s.vm h s.vm h → (∀ x ∈ sw, Safe Z EL s.vm h x) → OG p e below (FinW s Z EL Q kc ks) (T.setTop (entryFrame m as' maxL))) :
  MetFree l y (head1 (Cond.code y bytes maxL ret :: ws) rm) (fun a U => a = as' ∧ Z.Warmed39 U.vm ∧ U.heap = h ∧ CHv Z EL U.vm h ∧ ∀ x ∈ sw, Safe Z EL U.vm h x) (fun _ _ _ _ _ => True) (fun _ U o U' => ∃ v L, o = .returned v ∧ Q v U'.heap L ∧ CHr Z EL U.vm U.heap U'.vm U'.heap ∧ ReturnedEndW U o U' L kc ks) := by
 refine MetFree.of_bodySF hpn hisR ?_
 intro p e s m args below meth c s₁ Bd hml0 hP hK
 obtain ⟨rfl, hZ, hh, hC, hQ⟩ := hP
 exact body p e s m below meth c s₁ (Stand.of_body Bd) Bd.exec Bd.bytes hml0 hZ (findClass_of_methodNamed Bd.named) (name_of_methodNamed Bd.named Bd.method).1 Bd.returns Bd.notSynchronized (by rw [← hh, Bd.state]; rfl) hh (own_since s _) (CHr.refl hC) hQ
theorem own_startWC {sw : List Addr} {y : MethodName} {bytes : ByteArray} {maxL : Nat} {ret : Option FieldType} {rm : Room} {as' : Array Value} {Q : Option Value → Heap → List Loc → Prop} (hpn : plainFor y = true)
  (body : ∀ (p : Program) (e : Env) (s : State) (m : MethodId) (below : List Frame) (meth : Method) (c : Code) (T : State), Stand p l e rm (s.setVm s.vm) m as' below meth c T [] 0 0 → p.tables.exec = Jvm.exec → c.code = bytes → c.maxLocals = maxL → Z.Warmed39 s.vm → s.vm.findClass y.cls = some m.cls → meth.name = y.name → meth.sig.returnType = ret → meth.locks = false → T.heap = h → s.heap = h → s.Since s.vm h.size → CHr Z EL s.vm h s.vm h → (∀ x ∈ sw, Safe Z EL s.vm h x) → OG p e below (FinW s Z EL Q rm.cells rm.slots) (T.setTop (entryFrame m as' maxL))) : ConW l Z EL sw y bytes maxL ret rm as' h Q := own_startW (Q := Q) hpn body
theorem og_retW (X : Stand p l e R (s.setVm vm) m args below meth c T locs cells slots) (hZ : Z.Warmed39 vm) (hlk : meth.locks = false) {Q : Option Value → Heap → List Loc → Prop} {kc ks : Nat} {g : JFrame} (hEL : EW Z a0 EL) (hS : s.Since vm k0) (eT : T.heap = h) {h' : Heap} (e0 : s.heap = h') (hk : k0 ≤ h.size) (hR : CHr Z EL s.vm h' vm h) (v : Option Value) (hv : meth.sig.returnType = none → v = none)
  (st : ∀ fs, (∀ (f : JFrame) (acts : List Action), f.method = m → f.locked = none → f.entered = [] → (doReturn e (T.setTop f) acts v).1 = T.setFrames fs) → Steps p.tables e below (T.setTop g) (T.setFrames fs)) (hc : cells ≤ kc) (hs : slots ≤ ks) (hQ : Q v T.heap locs) : OG p e below (FinW s Z EL Q kc ks) (T.setTop g) := by
 subst eT e0
 obtain ⟨fs, hr, hrun, hended, hW⟩ := X.leaveW hS hk hv hlk
 have q := CHv.at X hZ hEL hR.1
 exact ⟨_, _, st fs hr, hrun, hended, v, locs, rfl, hQ, hR.trans q, hW.1, hW.2.1, hW.2.2.1, hW.2.2.2.mono hc hs⟩
theorem og_retNW (X : Stand p l e R (s.setVm vm) m args below meth c T locs cells slots) (hx : p.tables.exec = Jvm.exec) (hZ : Z.Warmed39 vm) (hlk : meth.locks = false) (hEL : EW Z a0 EL) (hS : s.Since vm k0) (eT : T.heap = h) {h' : Heap} (e0 : s.heap = h') (hk : k0 ≤ h.size) (hR : CHr Z EL s.vm h' vm h) {t : FieldType} (hret : meth.sig.returnType = some t) (ht : t = .boolean ∨ t = .byte ∨ t = .char ∨ t = .short) {Q : Option Value → Heap → List Loc → Prop} {kc ks : Nat} {z : Int32} (hd : decode c.code pc = .ok (.ireturn, 1)) (hc : cells ≤ kc) (hs : slots ≤ ks) (hQ : Q (some (.int (nar t z))) T.heap locs) : OG p e below (FinW s Z EL Q kc ks) (T.setTop (mkF m pc L (.int z :: S))) :=
 og_retW X hZ hlk hEL hS eT e0 hk hR (some (.int (nar t z))) (fun q => by rw [hret] at q; cases q) (fun fs hr => retN X hx hret ht hd hr) hc hs hQ
theorem og_retRW (X : Stand p l e R (s.setVm vm) m args below meth c T locs cells slots) (hx : p.tables.exec = Jvm.exec) (hZ : Z.Warmed39 vm) (hlk : meth.locks = false) (hEL : EW Z a0 EL) (hS : s.Since vm k0) (eT : T.heap = h) {h' : Heap} (e0 : s.heap = h') (hk : k0 ≤ h.size) (hR : CHr Z EL s.vm h' vm h) {t : FieldType} (hret : meth.sig.returnType = some t) (ht : t.isReference = true) {Q : Option Value → Heap → List Loc → Prop} {kc ks : Nat} {v : Value} (hv : v.isRef = true) (hn : narrow t v = v) (hd : decode c.code pc = .ok (.areturn, 1)) (hc : cells ≤ kc) (hs : slots ≤ ks) (hQ : Q (some v) T.heap locs) : OG p e below (FinW s Z EL Q kc ks) (T.setTop (mkF m pc L (v :: S))) :=
 og_retW X hZ hlk hEL hS eT e0 hk hR (some v) (fun q => by rw [hret] at q; cases q) (fun fs hr => retOut X hx hret hn (Or.inr (Or.inr (Or.inr (Or.inr ⟨rfl, ht, hv⟩)))) hd hr) hc hs hQ
theorem og_retVW (X : Stand p l e R (s.setVm vm) m args below meth c T locs cells slots) (hx : p.tables.exec = Jvm.exec) (hZ : Z.Warmed39 vm) (hlk : meth.locks = false) (hEL : EW Z a0 EL) (hS : s.Since vm k0) (eT : T.heap = h) {h' : Heap} (e0 : s.heap = h') (hk : k0 ≤ h.size) (hR : CHr Z EL s.vm h' vm h) (hret : meth.sig.returnType = none) {Q : Option Value → Heap → List Loc → Prop} {kc ks : Nat}  (hd : decode c.code pc = .ok (.return_, 1)) (hc : cells ≤ kc) (hs : slots ≤ ks) (hQ : Q none T.heap locs) : OG p e below (FinW s Z EL Q kc ks) (T.setTop (mkF m pc L [])) :=
 og_retW X hZ hlk hEL hS eT e0 hk hR none (fun _ => rfl) (fun fs hr => X.returnOut hx hret hd hr) hc hs hQ
theorem og_ldcS (X : Stand p l e R (s.setVm vm) m args below meth c T locs cells slots) (hx : p.tables.exec = Jvm.exec) (hZ : Z.Warmed39 vm) {own text : String} {index : Nat} (hown : vm.findClass own = some m.cls) (w : (Cond.stringLink own index text).before a0 Z = true) (wS : ∀ a ∈ Bundle.stringAtoms, a.before a0 Z = true) (eT : T.heap = h) (hS : s.Since vm k0) (hk : k0 ≤ h.size) (hEL : EW Z a0 EL) (hmem : (own, index) ∈ EL) (H : CHv Z EL vm h) {vs : List Value} {z : Int32} (ht : (∀ c ∈ text.toList, c.toNat < 256) ∧ text.toList.map (fun c => Value.int (Jvm.Lit.byteI c.toNat.toUInt16)) = vs) (hz : ¬ z < 0) (hl : z.toNatClampNeg = vs.length) {n cells' slots' : Nat} (hn : 4 * text.toList.length ≤ n) (hbig : n ≤ 536870912) (hd : decode c.code pc = .ok (.ldc index, 2)) (hp : pc + 2 = pc') (hc' : cells + 2 = cells') (hs' : slots + (n + 4) = slots') (hc : cells' ≤ R.cells) (hsl : slots' ≤ R.slots) (k : ∀ a T' h' k1 b kA, Stand p l e R (s.setVm T'.vm) m args below meth c T' locs cells' slots' → T'.heap = h' → Ext h h' → s.Since T'.vm k1 → k1 ≤ h'.size → Z.Warmed39 T'.vm → T'.vm.findClass own = some m.cls → Exa Z h' a "java/lang/String" → Fld Z h' a "java/lang/String" "coder" "B" (.int 0) → Fld Z h' a "java/lang/String" "value" "[B" (.ref b) → Arv Z h' b kA .byte z vs (.int 0) → CHr Z EL vm h T'.vm h' → (∀ x, Safe Z EL T'.vm h' x → x ≠ a ∧ x ≠ b) → OG p e below P (T'.setTop (mkF m pc' L (.ref a :: S)))) : OG p e below P (T.setTop (mkF m pc L S)) := by
 subst hp hc' hs'
 obtain ⟨a, T', h', k1, b, kA, X', e', E', S', hk', hZ', ho', A1, A2, A3, A4, -, -, hC', -, hne', st⟩ := ldcCH X hx hZ hown w wS eT hS hk hEL hmem H ht hz hl (g := mkF m pc L S) rfl hd hn hbig hc hsl
 exact OG.of st (k a T' h' k1 b kA X' e' E' S' hk' hZ' ho' A1 A2 A3 A4 hC' hne')
theorem og_ldcO (X : Stand p l e R (s.setVm vm) m args below meth c T locs cells slots) (hx : p.tables.exec = Jvm.exec) (hZ : Z.Warmed39 vm) {own text : String} {index : Nat} (hown : vm.findClass own = some m.cls) (w : (Cond.stringLink own index text).before a0 Z = true) (wS : ∀ a ∈ Bundle.stringAtoms, a.before a0 Z = true) (eT : T.heap = h) (hS : s.Since vm k0) (hk : k0 ≤ h.size) (hEL : EW Z a0 EL) (H : CHv Z EL vm h) {n cells' slots' : Nat} (hn : 4 * text.toList.length ≤ n) (hbig : n ≤ 536870912) (hd : decode c.code pc = .ok (.ldc index, 2)) (hp : pc + 2 = pc') (hc' : cells + 2 = cells') (hs' : slots + (n + 4) = slots') (hc : cells' ≤ R.cells) (hsl : slots' ≤ R.slots) (k : ∀ a T' h' k1, Stand p l e R (s.setVm T'.vm) m args below meth c T' locs cells' slots' → T'.heap = h' → Ext h h' → s.Since T'.vm k1 → k1 ≤ h'.size → Z.Warmed39 T'.vm → T'.vm.findClass own = some m.cls → CHr Z EL vm h T'.vm h' → OG p e below P (T'.setTop (mkF m pc' L (.ref a :: S)))) : OG p e below P (T.setTop (mkF m pc L S)) := by
 subst hp hc' hs'
 obtain ⟨a, T', h', k1, X', e', E', S', hk', hZ', ho', hC', -, st⟩ := ldcOH X hx hZ hown w wS eT hS hk hEL H (g := mkF m pc L S) rfl hd hn hbig hc hsl
 exact OG.of st (k a T' h' k1 X' e' E' S' hk' hZ' ho' hC')
theorem og_specialW (X : Stand p l e R (s.setVm vm) m args below meth c T locs cells slots) (hx : p.tables.exec = Jvm.exec) (hZ : Z.Warmed39 vm) {own : String} {index : Nat} {y : MethodName} {bytes : ByteArray} {maxL : Nat} {sw : List Addr} {rm : Room} {as' : Array Value} {Q : Option Value → Heap → List Loc → Prop} {W cells' slots' : Nat} (hM : ConW l Z EL sw y bytes maxL none rm as' h Q) (hEL : EW Z a0 EL) (hS : s.Since vm k0) (hk : k0 ≤ h.size) (H : CHv Z EL vm h) (hsw : ∀ x ∈ sw, x < h.size ∧ Safe Z EL vm h x) (hin : y.name = "<init>") (hown : vm.findClass own = some m.cls) (w1 : (Cond.methodLink own index y).before a0 Z = true) (w2 : (Cond.instanceMethod y).before a0 Z = true) (wz : (Cond.initialized y.cls).before a0 Z = true) (wc : (Cond.code y bytes maxL none).before a0 Z = true) (hy : y.cls ≠ "java/lang/invoke/MethodHandle" ∧ y.cls ≠ "java/lang/invoke/VarHandle") (hml : L.size = c.maxLocals) (eT : T.heap = h) {ps : List FieldType} {rt : Option FieldType} (hpd : parseMethodDescriptor y.desc = some ⟨ps, rt⟩) {a : Addr} (argsL rest : List Value) (hll : argsL.length = ps.length) (has : (.ref a :: argsL).toArray = as') (hst : S = argsL.reverse ++ .ref a :: rest) (hW : (rest.map fun v => v.category).sum = W) (hf : rm.frames + 1 ≤ R.frames) (hl : W + (maxL + 11) + rm.locals ≤ R.locals) (hc' : cells + rm.cells = cells') (hs' : slots + rm.slots = slots') (hc : cells' ≤ R.cells) (hs : slots' ≤ R.slots) (hd : decode c.code pc = .ok (.invokespecial index, 3)) (hp : pc + 3 = pc') (k : ∀ v T' h' Lc k1, Stand p l e R (s.setVm T'.vm) m args below meth c T' (locs ++ Lc) cells' slots' → T'.heap = h' → s.Since T'.vm k1 → k1 ≤ h'.size → Z.Warmed39 T'.vm → T'.vm.findClass own = some m.cls → CHr Z EL vm h T'.vm h' → Q v h' Lc → OG p e below P (T'.setTop (mkF m pc' L (v.toList ++ rest)))) : OG p e below P (T.setTop (mkF m pc L S)) := by
 subst hp hst hc' hs' has
 obtain ⟨v, _, ⟨T1, L1, k1, n1⟩, -, X1, hS1, hg1, ⟨Lc, hQ, l1, y1, z1, hC1⟩, st⟩ := X.specialBackS hx (y := y) hin hown (mvT (s := s.setVm vm) hZ w1) (mvT (s := s.setVm vm) hZ w2) (mvT (s := s.setVm vm) hZ wc) hy (own_backW (s := s) (vm := vm) (W := W) hM hZ wc wz hf hl hEL H hsw) (g := mkF m pc L (argsL.reverse ++ .ref a :: rest)) rfl hml (Steps.refl _) (a := a) (argsL := argsL) (rest := rest) (lenOf hpd hll) rfl (by show 2 * 0 + _ ≤ _; rw [hW]; omega) hd (fun _ _ => ⟨rfl, eT, hc, hs⟩)
 dsimp only [Pt.U, Pt.locs, Pt.cells, Pt.slots] at X1 l1 y1 z1 st hQ hS1 hg1 hC1
 subst l1 y1 z1 eT
 exact OG.of (fun t k => st.trans k) (k v T1 _ Lc _ X1 rfl (hS.trans hS1 (Nat.le_trans hk hg1)) (Nat.le_refl _) (State.Warmed39.trans (t := s.setVm vm) hZ hS1.1) (by rw [hS1.1.alike.findClass]; exact hown) hC1 hQ)
theorem og_virtualW (X : Stand p l e R (s.setVm vm) m args below meth c T locs cells slots) (hx : p.tables.exec = Jvm.exec) (hZ : Z.Warmed39 vm) {own C : String} {index : Nat} {y z : MethodName} {bytes : ByteArray} {maxL : Nat} {ret : Option FieldType} {sw : List Addr} {rm : Room} {as' : Array Value} {Q : Option Value → Heap → List Loc → Prop} {W cells' slots' : Nat} (hM : ConW l Z EL sw z bytes maxL ret rm as' h Q) (hEL : EW Z a0 EL) (hS : s.Since vm k0) (hk : k0 ≤ h.size) (H : CHv Z EL vm h) (hsw : ∀ x ∈ sw, x < h.size ∧ Safe Z EL vm h x) (hown : vm.findClass own = some m.cls) (w1 : (Cond.methodLink own index y).before a0 Z = true) (w2 : (Cond.declares y).before a0 Z = true) (hnf : NotFace (s.setVm vm) y) (w3 : (Cond.selects C y z).before a0 Z = true) (w4 : (Cond.instanceMethod z).before a0 Z = true) (wz : (Cond.initialized z.cls).before a0 Z = true) (wc : (Cond.code z bytes maxL ret).before a0 Z = true) (hy : y.cls ≠ "java/lang/invoke/MethodHandle" ∧ y.cls ≠ "java/lang/invoke/VarHandle") (hml : L.size = c.maxLocals) (eT : T.heap = h) {ps : List FieldType} {rt : Option FieldType} (hpd : parseMethodDescriptor y.desc = some ⟨ps, rt⟩) {a : Addr} (argsL rest : List Value) (hll : argsL.length = ps.length) (has : (.ref a :: argsL).toArray = as') (hst : S = argsL.reverse ++ .ref a :: rest) (hW : (rest.map fun v => v.category).sum = W) (hf : rm.frames + 1 ≤ R.frames) (hl : W + (maxL + 11) + rm.locals ≤ R.locals) (hc' : cells + rm.cells = cells') (hs' : slots + rm.slots = slots') (hc : cells' ≤ R.cells) (hs : slots' ≤ R.slots) (E : Exa Z h a C) (hd : decode c.code pc = .ok (.invokevirtual index, 3)) (hp : pc + 3 = pc') (k : ∀ v T' h' Lc k1, Stand p l e R (s.setVm T'.vm) m args below meth c T' (locs ++ Lc) cells' slots' → T'.heap = h' → s.Since T'.vm k1 → k1 ≤ h'.size → Z.Warmed39 T'.vm → T'.vm.findClass own = some m.cls → CHr Z EL vm h T'.vm h' → Q v h' Lc → OG p e below P (T'.setTop (mkF m pc' L (v.toList ++ rest)))) : OG p e below P (T.setTop (mkF m pc L S)) := by
 subst hp hst hc' hs' has
 obtain ⟨cq, kq, qa, qb, qc⟩ := isOf (s := s.setVm vm) hZ eT E
 obtain ⟨v, _, ⟨T1, L1, k1, n1⟩, -, X1, hS1, hg1, ⟨Lc, hQ, l1, y1, z1, hC1⟩, st⟩ := X.virtualBackS hx (y := y) (z := z) hown (mvT (s := s.setVm vm) hZ w1) (mvT (s := s.setVm vm) hZ w2) hnf (mvT (s := s.setVm vm) hZ w3) (mvT (s := s.setVm vm) hZ w4) hy (own_backW (s := s) (vm := vm) (W := W) hM hZ wc wz hf hl hEL H hsw) qa qc (g := mkF m pc L (argsL.reverse ++ .ref a :: rest)) rfl hml (Steps.refl _) (argsL := argsL) (rest := rest) (lenOf hpd hll) rfl (by show 2 * 0 + _ ≤ _; rw [hW]; omega) hd (fun _ _ => ⟨rfl, eT, hc, hs⟩)
 dsimp only [Pt.U, Pt.locs, Pt.cells, Pt.slots] at X1 l1 y1 z1 st hQ hS1 hg1 hC1
 subst l1 y1 z1 eT
 exact OG.of (fun t k => st.trans k) (k v T1 _ Lc _ X1 rfl (hS.trans hS1 (Nat.le_trans hk hg1)) (Nat.le_refl _) (State.Warmed39.trans (t := s.setVm vm) hZ hS1.1) (by rw [hS1.1.alike.findClass]; exact hown) hC1 hQ)
end OwnKitW
def own_EL : List (String × Nat) := [("com/example/marsh_tit/marshtit/stanza/ElementAddPinLaw", 46)]
abbrev HW (a0 : Array Value) (Z : State) : Prop := ∀ d ∈ tables_1, d.before a0 Z = true
theorem mg {c : Jvm.Cond} (i : Nat) (h : tables_1[i]? = some c) : c ∈ tables_1 := List.mem_of_getElem? h
section Words
variable {a0 : Array Value} {Z : State} (hw : HW a0 Z)
def ow0 := hw _ (mg 0 rfl)
def ow1 := hw _ (mg 1 rfl)
def ow2 := hw _ (mg 2 rfl)
def ow3 := hw _ (mg 3 rfl)
def ow4 := hw _ (mg 4 rfl)
def ow5 := hw _ (mg 5 rfl)
def ow6 := hw _ (mg 6 rfl)
def ow7 := hw _ (mg 7 rfl)
def ow8 := hw _ (mg 8 rfl)
def ow9 := hw _ (mg 9 rfl)
def ow10 := hw _ (mg 10 rfl)
def ow11 := hw _ (mg 11 rfl)
def ow12 := hw _ (mg 12 rfl)
def ow13 := hw _ (mg 13 rfl)
def ow14 := hw _ (mg 14 rfl)
def ow15 := hw _ (mg 15 rfl)
def ow16 := hw _ (mg 16 rfl)
def ow17 := hw _ (mg 17 rfl)
def ow18 := hw _ (mg 18 rfl)
def ow19 := hw _ (mg 19 rfl)
def ow20 := hw _ (mg 20 rfl)
def ow21 := hw _ (mg 21 rfl)
def ow22 := hw _ (mg 22 rfl)
def ow23 := hw _ (mg 23 rfl)
def ow25 := hw _ (mg 25 rfl)
def ow26 := hw _ (mg 26 rfl)
def ow27 := hw _ (mg 27 rfl)
def ow28 := hw _ (mg 28 rfl)
def ow29 := hw _ (mg 29 rfl)
def ow30 := hw _ (mg 30 rfl)
def ow31 := hw _ (mg 31 rfl)
def ow32 := hw _ (mg 32 rfl)
def ow33 := hw _ (mg 33 rfl)
def ow34 := hw _ (mg 34 rfl)
def ow35 := hw _ (mg 35 rfl)
def ow36 := hw _ (mg 36 rfl)
def ow37 := hw _ (mg 37 rfl)
def ow38 := hw _ (mg 38 rfl)
def ow39 := hw _ (mg 39 rfl)
def ow40 := hw _ (mg 40 rfl)
def ow41 := hw _ (mg 41 rfl)
def ow42 := hw _ (mg 42 rfl)
def ow43 := hw _ (mg 43 rfl)
def ow44 := hw _ (mg 44 rfl)
def ow47 := hw _ (mg 47 rfl)
def ow48 := hw _ (mg 48 rfl)
def ow49 := hw _ (mg 49 rfl)
def ow50 := hw _ (mg 50 rfl)
def ow53 := hw _ (mg 53 rfl)
def ow54 := hw _ (mg 54 rfl)
def ow55 := hw _ (mg 55 rfl)
def ow56 := hw _ (mg 56 rfl)
def ow57 := hw _ (mg 57 rfl)
def ow58 := hw _ (mg 58 rfl)
def ow59 := hw _ (mg 59 rfl)
def ow60 := hw _ (mg 60 rfl)
def ow61 := hw _ (mg 61 rfl)
def ow62 := hw _ (mg 62 rfl)
def ow63 := hw _ (mg 63 rfl)
def ow64 := hw _ (mg 64 rfl)
def ow65 := hw _ (mg 65 rfl)
def ow66 := hw _ (mg 66 rfl)
def ow67 := hw _ (mg 67 rfl)
def ow68 := hw _ (mg 68 rfl)
def ow69 := hw _ (mg 69 rfl)
def ow70 := hw _ (mg 70 rfl)
def ow71 := hw _ (mg 71 rfl)
def ow72 := hw _ (mg 72 rfl)
def ow75 := hw _ (mg 75 rfl)
def ow76 := hw _ (mg 76 rfl)
def ow77 := hw _ (mg 77 rfl)
def ow78 := hw _ (mg 78 rfl)
def ow81 := hw _ (mg 81 rfl)
def ow82 := hw _ (mg 82 rfl)
def ow83 := hw _ (mg 83 rfl)
def ow84 := hw _ (mg 84 rfl)
def ow85 := hw _ (mg 85 rfl)
def ow86 := hw _ (mg 86 rfl)
def ow87 := hw _ (mg 87 rfl)
def ow88 := hw _ (mg 88 rfl)
def ow89 := hw _ (mg 89 rfl)
def ow90 := hw _ (mg 90 rfl)
def ow92 := hw _ (mg 92 rfl)
def ow93 := hw _ (mg 93 rfl)
def ow94 := hw _ (mg 94 rfl)
def ow95 := hw _ (mg 95 rfl)
def ow96 := hw _ (mg 96 rfl)
def ow97 := hw _ (mg 97 rfl)
def ow98 := hw _ (mg 98 rfl)
def ow99 := hw _ (mg 99 rfl)
def ow100 := hw _ (mg 100 rfl)
def ow102 := hw _ (mg 102 rfl)
def ow103 := hw _ (mg 103 rfl)
def ow104 := hw _ (mg 104 rfl)
def ow105 := hw _ (mg 105 rfl)
def ow106 := hw _ (mg 106 rfl)
def ow107 := hw _ (mg 107 rfl)
def ow108 := hw _ (mg 108 rfl)
def ow110 := hw _ (mg 110 rfl)
def ow111 := hw _ (mg 111 rfl)
def ow112 := hw _ (mg 112 rfl)
def ow113 := hw _ (mg 113 rfl)
def ow114 := hw _ (mg 114 rfl)
def ow115 := hw _ (mg 115 rfl)
def ow116 := hw _ (mg 116 rfl)
def ow117 := hw _ (mg 117 rfl)
def ow118 := hw _ (mg 118 rfl)
def ow119 := hw _ (mg 119 rfl)
def ow120 := hw _ (mg 120 rfl)
def ow121 := hw _ (mg 121 rfl)
def ow122 := hw _ (mg 122 rfl)
def ow123 := hw _ (mg 123 rfl)
def ow124 := hw _ (mg 124 rfl)
def ow125 := hw _ (mg 125 rfl)
def ow126 := hw _ (mg 126 rfl)
def ow127 := hw _ (mg 127 rfl)
def ow128 := hw _ (mg 128 rfl)
def ow129 := hw _ (mg 129 rfl)
def ow130 := hw _ (mg 130 rfl)
def ow131 := hw _ (mg 131 rfl)
def ow132 := hw _ (mg 132 rfl)
def ow133 := hw _ (mg 133 rfl)
def ow134 := hw _ (mg 134 rfl)
def ow135 := hw _ (mg 135 rfl)
def ow136 := hw _ (mg 136 rfl)
def ow137 := hw _ (mg 137 rfl)
def ow138 := hw _ (mg 138 rfl)
def ow139 := hw _ (mg 139 rfl)
def ow140 := hw _ (mg 140 rfl)
def ow141 := hw _ (mg 141 rfl)
def ow142 := hw _ (mg 142 rfl)
def ow143 := hw _ (mg 143 rfl)
def ow144 := hw _ (mg 144 rfl)
def ow145 := hw _ (mg 145 rfl)
def ow146 := hw _ (mg 146 rfl)
def ow147 := hw _ (mg 147 rfl)
def ow148 := hw _ (mg 148 rfl)
def ow149 := hw _ (mg 149 rfl)
def ow150 := hw _ (mg 150 rfl)
def ow151 := hw _ (mg 151 rfl)
def ow152 := hw _ (mg 152 rfl)
def ow153 := hw _ (mg 153 rfl)
def ow154 := hw _ (mg 154 rfl)
def ow155 := hw _ (mg 155 rfl)
def ow156 := hw _ (mg 156 rfl)
def ow157 := hw _ (mg 157 rfl)
def ow158 := hw _ (mg 158 rfl)
def ow159 := hw _ (mg 159 rfl)
def ow160 := hw _ (mg 160 rfl)
def ow161 := hw _ (mg 161 rfl)
def ow162 := hw _ (mg 162 rfl)
def ow164 := hw _ (mg 164 rfl)
def ow165 := hw _ (mg 165 rfl)
def ow166 := hw _ (mg 166 rfl)
def ow167 := hw _ (mg 167 rfl)
def ow168 := hw _ (mg 168 rfl)
def ow169 := hw _ (mg 169 rfl)
def ow170 := hw _ (mg 170 rfl)
def ow171 := hw _ (mg 171 rfl)
def ow172 := hw _ (mg 172 rfl)
def ow173 := hw _ (mg 173 rfl)
def ow174 := hw _ (mg 174 rfl)
def ow175 := hw _ (mg 175 rfl)
def ow176 := hw _ (mg 176 rfl)
def ow177 := hw _ (mg 177 rfl)
def ow178 := hw _ (mg 178 rfl)
def ow179 := hw _ (mg 179 rfl)
def ow180 := hw _ (mg 180 rfl)
def ow181 := hw _ (mg 181 rfl)
def ow182 := hw _ (mg 182 rfl)
def ow183 := hw _ (mg 183 rfl)
def ow184 := hw _ (mg 184 rfl)
def ow185 := hw _ (mg 185 rfl)
def ow186 := hw _ (mg 186 rfl)
def ow187 := hw _ (mg 187 rfl)
def ow188 := hw _ (mg 188 rfl)
def ow189 := hw _ (mg 189 rfl)
def ow190 := hw _ (mg 190 rfl)
def ow191 := hw _ (mg 191 rfl)
def ow192 := hw _ (mg 192 rfl)
def ow193 := hw _ (mg 193 rfl)
def ow194 := hw _ (mg 194 rfl)
def ow195 := hw _ (mg 195 rfl)
def ow196 := hw _ (mg 196 rfl)
def ow197 := hw _ (mg 197 rfl)
def ow198 := hw _ (mg 198 rfl)
def ow199 := hw _ (mg 199 rfl)
def ow201 := hw _ (mg 201 rfl)
def ow202 := hw _ (mg 202 rfl)
def ow203 := hw _ (mg 203 rfl)
def ow204 := hw _ (mg 204 rfl)
def ow205 := hw _ (mg 205 rfl)
def ow206 := hw _ (mg 206 rfl)
def ow207 := hw _ (mg 207 rfl)
def ow208 := hw _ (mg 208 rfl)
def ow209 := hw _ (mg 209 rfl)
def ow210 := hw _ (mg 210 rfl)
def ow211 := hw _ (mg 211 rfl)
def ow212 := hw _ (mg 212 rfl)
def ow214 := hw _ (mg 214 rfl)
def ow216 := hw _ (mg 216 rfl)
def ow217 := hw _ (mg 217 rfl)
def ow219 := hw _ (mg 219 rfl)
def ow220 := hw _ (mg 220 rfl)
def ow221 := hw _ (mg 221 rfl)
def ow222 := hw _ (mg 222 rfl)
def ow223 := hw _ (mg 223 rfl)
def ow224 := hw _ (mg 224 rfl)
def ow225 := hw _ (mg 225 rfl)
def ow226 := hw _ (mg 226 rfl)
def ow227 := hw _ (mg 227 rfl)
def ow230 := hw _ (mg 230 rfl)
def ow231 := hw _ (mg 231 rfl)
def ow232 := hw _ (mg 232 rfl)
def ow233 := hw _ (mg 233 rfl)
def ow236 := hw _ (mg 236 rfl)
def ow237 := hw _ (mg 237 rfl)
def ow238 := hw _ (mg 238 rfl)
def ow239 := hw _ (mg 239 rfl)
def ow240 := hw _ (mg 240 rfl)
def ow241 := hw _ (mg 241 rfl)
def ow242 := hw _ (mg 242 rfl)
def ow243 := hw _ (mg 243 rfl)
def ow244 := hw _ (mg 244 rfl)
def ow245 := hw _ (mg 245 rfl)
def ow246 := hw _ (mg 246 rfl)
def ow247 := hw _ (mg 247 rfl)
def ow248 := hw _ (mg 248 rfl)
def ow249 := hw _ (mg 249 rfl)
def ow250 := hw _ (mg 250 rfl)
def ow251 := hw _ (mg 251 rfl)
def ow252 := hw _ (mg 252 rfl)
def ow253 := hw _ (mg 253 rfl)
def ow254 := hw _ (mg 254 rfl)
def ow255 := hw _ (mg 255 rfl)
def ow256 := hw _ (mg 256 rfl)
def ow257 := hw _ (mg 257 rfl)
def ow258 := hw _ (mg 258 rfl)
def ow259 := hw _ (mg 259 rfl)
def ow260 := hw _ (mg 260 rfl)
def ow261 := hw _ (mg 261 rfl)
def ow262 := hw _ (mg 262 rfl)
def ow263 := hw _ (mg 263 rfl)
def ow264 := hw _ (mg 264 rfl)
def ow265 := hw _ (mg 265 rfl)
def ow266 := hw _ (mg 266 rfl)
def ow267 := hw _ (mg 267 rfl)
def ow268 := hw _ (mg 268 rfl)
def ow269 := hw _ (mg 269 rfl)
def ow270 := hw _ (mg 270 rfl)
def ow271 := hw _ (mg 271 rfl)
def ow272 := hw _ (mg 272 rfl)
def ow273 := hw _ (mg 273 rfl)
def ow274 := hw _ (mg 274 rfl)
def ow275 := hw _ (mg 275 rfl)
def ow276 := hw _ (mg 276 rfl)
def ow277 := hw _ (mg 277 rfl)
def ow278 := hw _ (mg 278 rfl)
def ow279 := hw _ (mg 279 rfl)
def ow280 := hw _ (mg 280 rfl)
def ow281 := hw _ (mg 281 rfl)
def ow282 := hw _ (mg 282 rfl)
def ow283 := hw _ (mg 283 rfl)
def ow284 := hw _ (mg 284 rfl)
def ow285 := hw _ (mg 285 rfl)
def ow286 := hw _ (mg 286 rfl)
def ow288 := hw _ (mg 288 rfl)
def ow289 := hw _ (mg 289 rfl)
def ow290 := hw _ (mg 290 rfl)
def ow291 := hw _ (mg 291 rfl)
def ow292 := hw _ (mg 292 rfl)
def ow293 := hw _ (mg 293 rfl)
def ow294 := hw _ (mg 294 rfl)
def ow295 := hw _ (mg 295 rfl)
def ow296 := hw _ (mg 296 rfl)
def ow297 := hw _ (mg 297 rfl)
def ow298 := hw _ (mg 298 rfl)
def ow299 := hw _ (mg 299 rfl)
def ow300 := hw _ (mg 300 rfl)
def ow303 := hw _ (mg 303 rfl)
def ow304 := hw _ (mg 304 rfl)
def ow305 := hw _ (mg 305 rfl)
def ow306 := hw _ (mg 306 rfl)
def ow307 := hw _ (mg 307 rfl)
def ow308 := hw _ (mg 308 rfl)
def ow309 := hw _ (mg 309 rfl)
def ow310 := hw _ (mg 310 rfl)
def ow311 := hw _ (mg 311 rfl)
def ow312 := hw _ (mg 312 rfl)
def ow313 := hw _ (mg 313 rfl)
def ow314 := hw _ (mg 314 rfl)
def ow315 := hw _ (mg 315 rfl)
def ow316 := hw _ (mg 316 rfl)
def ow317 := hw _ (mg 317 rfl)
def ow318 := hw _ (mg 318 rfl)
def ow319 := hw _ (mg 319 rfl)
def ow320 := hw _ (mg 320 rfl)
def ow321 := hw _ (mg 321 rfl)
def ow322 := hw _ (mg 322 rfl)
def ow323 := hw _ (mg 323 rfl)
def ow324 := hw _ (mg 324 rfl)
def ow325 := hw _ (mg 325 rfl)
def ow326 := hw _ (mg 326 rfl)
def ow327 := hw _ (mg 327 rfl)
def ow328 := hw _ (mg 328 rfl)
def ow329 := hw _ (mg 329 rfl)
def ow330 := hw _ (mg 330 rfl)
def ow331 := hw _ (mg 331 rfl)
def ow332 := hw _ (mg 332 rfl)
def ow333 := hw _ (mg 333 rfl)
def ow334 := hw _ (mg 334 rfl)
def ow335 := hw _ (mg 335 rfl)
def ow336 := hw _ (mg 336 rfl)
def ow337 := hw _ (mg 337 rfl)
def ow338 := hw _ (mg 338 rfl)
def ow339 := hw _ (mg 339 rfl)
def ow340 := hw _ (mg 340 rfl)
def ow341 := hw _ (mg 341 rfl)
def ow342 := hw _ (mg 342 rfl)
def ow343 := hw _ (mg 343 rfl)
def ow344 := hw _ (mg 344 rfl)
def ow345 := hw _ (mg 345 rfl)
def ow346 := hw _ (mg 346 rfl)
def ow347 := hw _ (mg 347 rfl)
def ow348 := hw _ (mg 348 rfl)
def ow349 := hw _ (mg 349 rfl)
def ow350 := hw _ (mg 350 rfl)
def ow351 := hw _ (mg 351 rfl)
def ow352 := hw _ (mg 352 rfl)
def ow353 := hw _ (mg 353 rfl)
def ow354 := hw _ (mg 354 rfl)
def ow355 := hw _ (mg 355 rfl)
def ow356 := hw _ (mg 356 rfl)
def ow357 := hw _ (mg 357 rfl)
def ow358 := hw _ (mg 358 rfl)
def ow359 := hw _ (mg 359 rfl)
def ow360 := hw _ (mg 360 rfl)
def ow361 := hw _ (mg 361 rfl)
def ow362 := hw _ (mg 362 rfl)
def ow363 := hw _ (mg 363 rfl)
def ow364 := hw _ (mg 364 rfl)
def ow365 := hw _ (mg 365 rfl)
def ow366 := hw _ (mg 366 rfl)
def ow367 := hw _ (mg 367 rfl)
def ow368 := hw _ (mg 368 rfl)
def ow369 := hw _ (mg 369 rfl)
def ow370 := hw _ (mg 370 rfl)
def ow371 := hw _ (mg 371 rfl)
def ow372 := hw _ (mg 372 rfl)
def ow373 := hw _ (mg 373 rfl)
def ow374 := hw _ (mg 374 rfl)
def ow375 := hw _ (mg 375 rfl)
def ow376 := hw _ (mg 376 rfl)
def ow377 := hw _ (mg 377 rfl)
def ow378 := hw _ (mg 378 rfl)
def ow379 := hw _ (mg 379 rfl)
def ow380 := hw _ (mg 380 rfl)
def ow381 := hw _ (mg 381 rfl)
def ow382 := hw _ (mg 382 rfl)
def ow383 := hw _ (mg 383 rfl)
def ow384 := hw _ (mg 384 rfl)
def ow385 := hw _ (mg 385 rfl)
def ow386 := hw _ (mg 386 rfl)
def ow387 := hw _ (mg 387 rfl)
def ow388 := hw _ (mg 388 rfl)
def ow389 := hw _ (mg 389 rfl)
def ow390 := hw _ (mg 390 rfl)
def ow391 := hw _ (mg 391 rfl)
def ow392 := hw _ (mg 392 rfl)
def ow393 := hw _ (mg 393 rfl)
def ow394 := hw _ (mg 394 rfl)
def ow395 := hw _ (mg 395 rfl)
def ow396 := hw _ (mg 396 rfl)
def ow397 := hw _ (mg 397 rfl)
def ow398 := hw _ (mg 398 rfl)
def ow399 := hw _ (mg 399 rfl)
def ow400 := hw _ (mg 400 rfl)
def ow401 := hw _ (mg 401 rfl)
def ow402 := hw _ (mg 402 rfl)
def ow403 := hw _ (mg 403 rfl)
def ow404 := hw _ (mg 404 rfl)
def ow405 := hw _ (mg 405 rfl)
def ow406 := hw _ (mg 406 rfl)
def ow407 := hw _ (mg 407 rfl)
def ow408 := hw _ (mg 408 rfl)
def ow409 := hw _ (mg 409 rfl)
def ow410 := hw _ (mg 410 rfl)
def ow411 := hw _ (mg 411 rfl)
def ow412 := hw _ (mg 412 rfl)
def ow413 := hw _ (mg 413 rfl)
def ow414 := hw _ (mg 414 rfl)
def ow415 := hw _ (mg 415 rfl)
def ow416 := hw _ (mg 416 rfl)
def ow417 := hw _ (mg 417 rfl)
def ow418 := hw _ (mg 418 rfl)
def ow419 := hw _ (mg 419 rfl)
def ow420 := hw _ (mg 420 rfl)
def ow421 := hw _ (mg 421 rfl)
def ow422 := hw _ (mg 422 rfl)
def ow423 := hw _ (mg 423 rfl)
def ow424 := hw _ (mg 424 rfl)
def ow425 := hw _ (mg 425 rfl)
def ow426 := hw _ (mg 426 rfl)
end Words
abbrev DD (b : ByteArray) (p : Nat) (i : ClassFile.Instr) (n : Nat) : Prop := decode b p = .ok (i, n)
theorem opd_0 : parseMethodDescriptor "()V" = some ⟨[], none⟩ := by decide +kernel
theorem opd_1 : parseMethodDescriptor "(Ljava/lang/Object;Ljava/lang/String;)Ljava/lang/Object;" = some ⟨[(.object "java/lang/Object"), (.object "java/lang/String")], some (.object "java/lang/Object")⟩ := by decide +kernel
theorem opd_2 : parseMethodDescriptor "(C)Z" = some ⟨[.char], some .boolean⟩ := by decide +kernel
theorem opd_3 : parseMethodDescriptor "(C)[B" = some ⟨[.char], some (.array .byte)⟩ := by decide +kernel
theorem opd_4 : parseMethodDescriptor "([BB)V" = some ⟨[(.array .byte), .byte], none⟩ := by decide +kernel
theorem opd_5 : parseMethodDescriptor "(II)I" = some ⟨[.int, .int], some .int⟩ := by decide +kernel
theorem opd_6 : parseMethodDescriptor "(I)[Ljava/lang/Object;" = some ⟨[.int], some (.array (.object "java/lang/Object"))⟩ := by decide +kernel
theorem opd_7 : parseMethodDescriptor "()[Ljava/lang/Object;" = some ⟨[], some (.array (.object "java/lang/Object"))⟩ := by decide +kernel
theorem opd_8 : parseMethodDescriptor "(Ljava/lang/Object;[Ljava/lang/Object;I)V" = some ⟨[(.object "java/lang/Object"), (.array (.object "java/lang/Object")), .int], none⟩ := by decide +kernel
theorem opd_9 : parseMethodDescriptor "(IILjava/util/function/BiFunction;)I" = some ⟨[.int, .int, (.object "java/util/function/BiFunction")], some .int⟩ := by decide +kernel
theorem opd_10 : parseMethodDescriptor "(I)Ljava/lang/Object;" = some ⟨[.int], some (.object "java/lang/Object")⟩ := by decide +kernel
theorem opd_11 : parseMethodDescriptor "(Ljava/util/ArrayList;)V" = some ⟨[(.object "java/util/ArrayList")], none⟩ := by decide +kernel
theorem opd_12 : parseMethodDescriptor "(Ljava/util/Collection;)V" = some ⟨[(.object "java/util/Collection")], none⟩ := by decide +kernel
theorem opd_13 : parseMethodDescriptor "(Ljava/util/List;)V" = some ⟨[(.object "java/util/List")], none⟩ := by decide +kernel
theorem opd_14 : parseMethodDescriptor "()I" = some ⟨[], some .int⟩ := by decide +kernel
theorem opd_15 : parseMethodDescriptor "(I)V" = some ⟨[.int], none⟩ := by decide +kernel
theorem opd_16 : parseMethodDescriptor "()B" = some ⟨[], some .byte⟩ := by decide +kernel
theorem opd_17 : parseMethodDescriptor "(Ljava/lang/String;)V" = some ⟨[(.object "java/lang/String")], none⟩ := by decide +kernel
theorem opd_18 : parseMethodDescriptor "([BIB)V" = some ⟨[(.array .byte), .int, .byte], none⟩ := by decide +kernel
theorem opd_19 : parseMethodDescriptor "(ILjava/lang/String;)V" = some ⟨[.int, (.object "java/lang/String")], none⟩ := by decide +kernel
theorem opd_20 : parseMethodDescriptor "(Ljava/lang/String;)Ljava/lang/AbstractStringBuilder;" = some ⟨[(.object "java/lang/String")], some (.object "java/lang/AbstractStringBuilder")⟩ := by decide +kernel
theorem opd_21 : parseMethodDescriptor "(II)V" = some ⟨[.int, .int], none⟩ := by decide +kernel
theorem opd_22 : parseMethodDescriptor "([BII)[B" = some ⟨[(.array .byte), .int, .int], some (.array .byte)⟩ := by decide +kernel
theorem opd_23 : parseMethodDescriptor "()[B" = some ⟨[], some (.array .byte)⟩ := by decide +kernel
theorem opd_24 : parseMethodDescriptor "()Z" = some ⟨[], some .boolean⟩ := by decide +kernel
theorem opd_25 : parseMethodDescriptor "(Ljava/lang/AbstractStringBuilder;Ljava/lang/Void;)V" = some ⟨[(.object "java/lang/AbstractStringBuilder"), (.object "java/lang/Void")], none⟩ := by decide +kernel
theorem opd_26 : parseMethodDescriptor "(Ljava/lang/StringBuilder;)V" = some ⟨[(.object "java/lang/StringBuilder")], none⟩ := by decide +kernel
theorem opd_27 : parseMethodDescriptor "()Ljava/util/Iterator;" = some ⟨[], some (.object "java/util/Iterator")⟩ := by decide +kernel
theorem opd_28 : parseMethodDescriptor "()Ljava/lang/Object;" = some ⟨[], some (.object "java/lang/Object")⟩ := by decide +kernel
theorem opd_29 : parseMethodDescriptor "(Ljava/lang/Object;)Z" = some ⟨[(.object "java/lang/Object")], some .boolean⟩ := by decide +kernel
theorem opd_30 : parseMethodDescriptor "(Ljava/util/List;)Ljava/util/List;" = some ⟨[(.object "java/util/List")], some (.object "java/util/List")⟩ := by decide +kernel
theorem opd_31 : parseMethodDescriptor "()Ljava/lang/String;" = some ⟨[], some (.object "java/lang/String")⟩ := by decide +kernel
theorem opd_32 : parseMethodDescriptor "(Ljava/lang/String;)Ljava/lang/StringBuilder;" = some ⟨[(.object "java/lang/String")], some (.object "java/lang/StringBuilder")⟩ := by decide +kernel
theorem opd_33 : parseMethodDescriptor "([B[B)Z" = some ⟨[(.array .byte), (.array .byte)], some .boolean⟩ := by decide +kernel
theorem opd_34 : parseMethodDescriptor "(C)Ljava/lang/String;" = some ⟨[.char], some (.object "java/lang/String")⟩ := by decide +kernel
theorem opd_35 : parseMethodDescriptor "(I)Ljava/lang/String;" = some ⟨[.int], some (.object "java/lang/String")⟩ := by decide +kernel
theorem opd_36 : parseMethodDescriptor "(Ljava/lang/String;Ljava/lang/String;)V" = some ⟨[(.object "java/lang/String"), (.object "java/lang/String")], none⟩ := by decide +kernel
theorem opd_37 : parseMethodDescriptor "(Lcom/example/marsh_tit/marshtit/stanza/Element;)Lcom/example/marsh_tit/marshtit/stanza/Element;" = some ⟨[(.object "com/example/marsh_tit/marshtit/stanza/Element")], some (.object "com/example/marsh_tit/marshtit/stanza/Element")⟩ := by decide +kernel
theorem opd_38 : parseMethodDescriptor "()Ljava/util/List;" = some ⟨[], some (.object "java/util/List")⟩ := by decide +kernel
theorem opd_39 : parseMethodDescriptor "(Ljava/lang/String;)Lcom/example/marsh_tit/marshtit/stanza/Element;" = some ⟨[(.object "java/lang/String")], some (.object "com/example/marsh_tit/marshtit/stanza/Element")⟩ := by decide +kernel
abbrev b1 := method_2_code
theorem d1_0 : DD b1 0 (.iload_n 0) 1 := by decide +kernel
theorem d1_1 : DD b1 1 (.sipush 255) 3 := by decide +kernel
theorem d1_4 : DD b1 4 (.iand) 1 := by decide +kernel
theorem d1_5 : DD b1 5 (.i2c) 1 := by decide +kernel
theorem d1_6 : DD b1 6 (.invokestatic 7) 3 := by decide +kernel
theorem d1_9 : DD b1 9 (.areturn) 1 := by decide +kernel
abbrev b2 := jdk_42_method_139_code
theorem d2_0 : DD b2 0 (.getstatic 38) 3 := by decide +kernel
theorem d2_3 : DD b2 3 (.ifCond .eq 23) 3 := by decide +kernel
theorem d2_6 : DD b2 6 (.iload_n 0) 1 := by decide +kernel
theorem d2_7 : DD b2 7 (.invokestatic 1015) 3 := by decide +kernel
theorem d2_10 : DD b2 10 (.ifCond .eq 16) 3 := by decide +kernel
theorem d2_13 : DD b2 13 (.new 10) 3 := by decide +kernel
theorem d2_16 : DD b2 16 (.dup) 1 := by decide +kernel
theorem d2_17 : DD b2 17 (.iload_n 0) 1 := by decide +kernel
theorem d2_18 : DD b2 18 (.invokestatic 1018) 3 := by decide +kernel
theorem d2_21 : DD b2 21 (.iconst 0) 1 := by decide +kernel
theorem d2_22 : DD b2 22 (.invokespecial 209) 3 := by decide +kernel
theorem d2_25 : DD b2 25 (.areturn) 1 := by decide +kernel
abbrev b3 := jdk_43_method_3_code
theorem d3_0 : DD b3 0 (.iload_n 0) 1 := by decide +kernel
theorem d3_1 : DD b3 1 (.sipush 255) 3 := by decide +kernel
theorem d3_4 : DD b3 4 (.if_icmp .gt 7) 3 := by decide +kernel
theorem d3_7 : DD b3 7 (.iconst 1) 1 := by decide +kernel
theorem d3_8 : DD b3 8 (.goto 4) 3 := by decide +kernel
theorem d3_12 : DD b3 12 (.ireturn) 1 := by decide +kernel
abbrev b4 := jdk_43_method_46_code
theorem d4_0 : DD b4 0 (.iconst 1) 1 := by decide +kernel
theorem d4_1 : DD b4 1 (.newarray .byte) 2 := by decide +kernel
theorem d4_3 : DD b4 3 (.dup) 1 := by decide +kernel
theorem d4_4 : DD b4 4 (.iconst 0) 1 := by decide +kernel
theorem d4_5 : DD b4 5 (.iload_n 0) 1 := by decide +kernel
theorem d4_6 : DD b4 6 (.i2b) 1 := by decide +kernel
theorem d4_7 : DD b4 7 (.bastore) 1 := by decide +kernel
theorem d4_8 : DD b4 8 (.areturn) 1 := by decide +kernel
abbrev b5 := jdk_42_method_151_code
theorem d5_0 : DD b5 0 (.aload_n 0) 1 := by decide +kernel
theorem d5_1 : DD b5 1 (.invokespecial 1) 3 := by decide +kernel
theorem d5_4 : DD b5 4 (.aload_n 0) 1 := by decide +kernel
theorem d5_5 : DD b5 5 (.aload_n 1) 1 := by decide +kernel
theorem d5_6 : DD b5 6 (.putfield 9) 3 := by decide +kernel
theorem d5_9 : DD b5 9 (.aload_n 0) 1 := by decide +kernel
theorem d5_10 : DD b5 10 (.iload_n 2) 1 := by decide +kernel
theorem d5_11 : DD b5 11 (.putfield 15) 3 := by decide +kernel
theorem d5_14 : DD b5 14 (.return_) 1 := by decide +kernel
abbrev b7 := prog_19_method_1_code
theorem d7_0 : DD b7 0 (.aload_n 0) 1 := by decide +kernel
theorem d7_1 : DD b7 1 (.invokespecial 1) 3 := by decide +kernel
theorem d7_4 : DD b7 4 (.aload_n 0) 1 := by decide +kernel
theorem d7_5 : DD b7 5 (.new 7) 3 := by decide +kernel
theorem d7_8 : DD b7 8 (.dup) 1 := by decide +kernel
theorem d7_9 : DD b7 9 (.invokespecial 9) 3 := by decide +kernel
theorem d7_12 : DD b7 12 (.putfield 10) 3 := by decide +kernel
theorem d7_15 : DD b7 15 (.aload_n 0) 1 := by decide +kernel
theorem d7_16 : DD b7 16 (.new 16) 3 := by decide +kernel
theorem d7_19 : DD b7 19 (.dup) 1 := by decide +kernel
theorem d7_20 : DD b7 20 (.invokespecial 18) 3 := by decide +kernel
theorem d7_23 : DD b7 23 (.putfield 19) 3 := by decide +kernel
theorem d7_26 : DD b7 26 (.aload_n 0) 1 := by decide +kernel
theorem d7_27 : DD b7 27 (.aload_n 1) 1 := by decide +kernel
theorem d7_28 : DD b7 28 (.ldc 23) 2 := by decide +kernel
theorem d7_30 : DD b7 30 (.invokestatic 25) 3 := by decide +kernel
theorem d7_33 : DD b7 33 (.checkcast 31) 3 := by decide +kernel
theorem d7_36 : DD b7 36 (.putfield 33) 3 := by decide +kernel
theorem d7_39 : DD b7 39 (.aload_n 0) 1 := by decide +kernel
theorem d7_40 : DD b7 40 (.aload_n 2) 1 := by decide +kernel
theorem d7_41 : DD b7 41 (.ldc 37) 2 := by decide +kernel
theorem d7_43 : DD b7 43 (.invokestatic 25) 3 := by decide +kernel
theorem d7_46 : DD b7 46 (.checkcast 31) 3 := by decide +kernel
theorem d7_49 : DD b7 49 (.putfield 39) 3 := by decide +kernel
theorem d7_52 : DD b7 52 (.return_) 1 := by decide +kernel
abbrev b8 := jdk_94_method_16_code
theorem d8_0 : DD b8 0 (.aload_n 0) 1 := by decide +kernel
theorem d8_1 : DD b8 1 (.invokespecial 87) 3 := by decide +kernel
theorem d8_4 : DD b8 4 (.aload_n 0) 1 := by decide +kernel
theorem d8_5 : DD b8 5 (.iconst 0) 1 := by decide +kernel
theorem d8_6 : DD b8 6 (.putfield 1) 3 := by decide +kernel
theorem d8_9 : DD b8 9 (.aload_n 0) 1 := by decide +kernel
theorem d8_10 : DD b8 10 (.iconst 0) 1 := by decide +kernel
theorem d8_11 : DD b8 11 (.putfield 64) 3 := by decide +kernel
theorem d8_14 : DD b8 14 (.return_) 1 := by decide +kernel
abbrev b9 := jdk_69_method_7_code
theorem d9_0 : DD b9 0 (.aload_n 0) 1 := by decide +kernel
theorem d9_1 : DD b9 1 (.invokespecial 43) 3 := by decide +kernel
theorem d9_4 : DD b9 4 (.aload_n 0) 1 := by decide +kernel
theorem d9_5 : DD b9 5 (.ldc 92) 2 := by decide +kernel
theorem d9_7 : DD b9 7 (.putfield 81) 3 := by decide +kernel
theorem d9_10 : DD b9 10 (.return_) 1 := by decide +kernel
abbrev b10 := jdk_71_method_1_code
theorem d10_0 : DD b10 0 (.aload_n 0) 1 := by decide +kernel
theorem d10_1 : DD b10 1 (.invokespecial 1) 3 := by decide +kernel
theorem d10_4 : DD b10 4 (.return_) 1 := by decide +kernel
abbrev b11 := jdk_38_method_2_code
theorem d11_0 : DD b11 0 (.aload_n 0) 1 := by decide +kernel
theorem d11_1 : DD b11 1 (.invokespecial 1) 3 := by decide +kernel
theorem d11_4 : DD b11 4 (.aload_n 0) 1 := by decide +kernel
theorem d11_5 : DD b11 5 (.getstatic 39) 3 := by decide +kernel
theorem d11_8 : DD b11 8 (.putfield 9) 3 := by decide +kernel
theorem d11_11 : DD b11 11 (.return_) 1 := by decide +kernel
abbrev b12 := jdk_39_method_1_code
theorem d12_0 : DD b12 0 (.aload_n 0) 1 := by decide +kernel
theorem d12_1 : DD b12 1 (.invokespecial 1) 3 := by decide +kernel
theorem d12_4 : DD b12 4 (.aload_n 0) 1 := by decide +kernel
theorem d12_5 : DD b12 5 (.iconst 0) 1 := by decide +kernel
theorem d12_6 : DD b12 6 (.putfield 7) 3 := by decide +kernel
theorem d12_9 : DD b12 9 (.return_) 1 := by decide +kernel
abbrev b13 := jdk_22_method_1_code
theorem d13_0 : DD b13 0 (.aload_n 0) 1 := by decide +kernel
theorem d13_1 : DD b13 1 (.invokespecial 1) 3 := by decide +kernel
theorem d13_4 : DD b13 4 (.return_) 1 := by decide +kernel
abbrev b14 := jdk_31_method_11_code
theorem d14_0 : DD b14 0 (.aload_n 0) 1 := by decide +kernel
theorem d14_1 : DD b14 1 (.ifnonnull 12) 3 := by decide +kernel
theorem d14_13 : DD b14 13 (.aload_n 0) 1 := by decide +kernel
theorem d14_14 : DD b14 14 (.areturn) 1 := by decide +kernel
abbrev b15 := prog_19_method_8_code
theorem d15_0 : DD b15 0 (.aload_n 0) 1 := by decide +kernel
theorem d15_1 : DD b15 1 (.getfield 19) 3 := by decide +kernel
theorem d15_4 : DD b15 4 (.aload_n 1) 1 := by decide +kernel
theorem d15_5 : DD b15 5 (.ldc 78) 2 := by decide +kernel
theorem d15_7 : DD b15 7 (.invokestatic 25) 3 := by decide +kernel
theorem d15_10 : DD b15 10 (.invokeinterface 80 2) 5 := by decide +kernel
theorem d15_15 : DD b15 15 (.pop) 1 := by decide +kernel
theorem d15_16 : DD b15 16 (.aload_n 0) 1 := by decide +kernel
theorem d15_17 : DD b15 17 (.areturn) 1 := by decide +kernel
abbrev b16 := jdk_38_method_25_code
theorem d16_0 : DD b16 0 (.aload_n 0) 1 := by decide +kernel
theorem d16_1 : DD b16 1 (.dup) 1 := by decide +kernel
theorem d16_2 : DD b16 2 (.getfield 63) 3 := by decide +kernel
theorem d16_5 : DD b16 5 (.iconst 1) 1 := by decide +kernel
theorem d16_6 : DD b16 6 (.iadd) 1 := by decide +kernel
theorem d16_7 : DD b16 7 (.putfield 63) 3 := by decide +kernel
theorem d16_10 : DD b16 10 (.aload_n 0) 1 := by decide +kernel
theorem d16_11 : DD b16 11 (.aload_n 1) 1 := by decide +kernel
theorem d16_12 : DD b16 12 (.aload_n 0) 1 := by decide +kernel
theorem d16_13 : DD b16 13 (.getfield 9) 3 := by decide +kernel
theorem d16_16 : DD b16 16 (.aload_n 0) 1 := by decide +kernel
theorem d16_17 : DD b16 17 (.getfield 48) 3 := by decide +kernel
theorem d16_20 : DD b16 20 (.invokevirtual 131) 3 := by decide +kernel
theorem d16_23 : DD b16 23 (.iconst 1) 1 := by decide +kernel
theorem d16_24 : DD b16 24 (.ireturn) 1 := by decide +kernel
abbrev b17 := jdk_38_method_24_code
theorem d17_0 : DD b17 0 (.iload_n 3) 1 := by decide +kernel
theorem d17_1 : DD b17 1 (.aload_n 2) 1 := by decide +kernel
theorem d17_2 : DD b17 2 (.arraylength) 1 := by decide +kernel
theorem d17_3 : DD b17 3 (.if_icmp .ne 8) 3 := by decide +kernel
theorem d17_6 : DD b17 6 (.aload_n 0) 1 := by decide +kernel
theorem d17_7 : DD b17 7 (.invokevirtual 129) 3 := by decide +kernel
theorem d17_10 : DD b17 10 (.astore_n 2) 1 := by decide +kernel
theorem d17_11 : DD b17 11 (.aload_n 2) 1 := by decide +kernel
theorem d17_12 : DD b17 12 (.iload_n 3) 1 := by decide +kernel
theorem d17_13 : DD b17 13 (.aload_n 1) 1 := by decide +kernel
theorem d17_14 : DD b17 14 (.aastore) 1 := by decide +kernel
theorem d17_15 : DD b17 15 (.aload_n 0) 1 := by decide +kernel
theorem d17_16 : DD b17 16 (.iload_n 3) 1 := by decide +kernel
theorem d17_17 : DD b17 17 (.iconst 1) 1 := by decide +kernel
theorem d17_18 : DD b17 18 (.iadd) 1 := by decide +kernel
theorem d17_19 : DD b17 19 (.putfield 48) 3 := by decide +kernel
theorem d17_22 : DD b17 22 (.return_) 1 := by decide +kernel
abbrev b18 := jdk_38_method_7_code
theorem d18_0 : DD b18 0 (.aload_n 0) 1 := by decide +kernel
theorem d18_1 : DD b18 1 (.aload_n 0) 1 := by decide +kernel
theorem d18_2 : DD b18 2 (.getfield 48) 3 := by decide +kernel
theorem d18_5 : DD b18 5 (.iconst 1) 1 := by decide +kernel
theorem d18_6 : DD b18 6 (.iadd) 1 := by decide +kernel
theorem d18_7 : DD b18 7 (.invokevirtual 69) 3 := by decide +kernel
theorem d18_10 : DD b18 10 (.areturn) 1 := by decide +kernel
abbrev b19 := jdk_38_method_6_code
theorem d19_0 : DD b19 0 (.aload_n 0) 1 := by decide +kernel
theorem d19_1 : DD b19 1 (.getfield 9) 3 := by decide +kernel
theorem d19_4 : DD b19 4 (.arraylength) 1 := by decide +kernel
theorem d19_5 : DD b19 5 (.istore_n 2) 1 := by decide +kernel
theorem d19_6 : DD b19 6 (.iload_n 2) 1 := by decide +kernel
theorem d19_7 : DD b19 7 (.ifCond .gt 13) 3 := by decide +kernel
theorem d19_10 : DD b19 10 (.aload_n 0) 1 := by decide +kernel
theorem d19_11 : DD b19 11 (.getfield 9) 3 := by decide +kernel
theorem d19_14 : DD b19 14 (.getstatic 39) 3 := by decide +kernel
theorem d19_17 : DD b19 17 (.if_acmp .eq 28) 3 := by decide +kernel
theorem d19_45 : DD b19 45 (.aload_n 0) 1 := by decide +kernel
theorem d19_46 : DD b19 46 (.bipush 10) 2 := by decide +kernel
theorem d19_48 : DD b19 48 (.iload_n 1) 1 := by decide +kernel
theorem d19_49 : DD b19 49 (.invokestatic 79) 3 := by decide +kernel
theorem d19_52 : DD b19 52 (.anewarray 7) 3 := by decide +kernel
theorem d19_55 : DD b19 55 (.dup_x1) 1 := by decide +kernel
theorem d19_56 : DD b19 56 (.putfield 9) 3 := by decide +kernel
theorem d19_59 : DD b19 59 (.areturn) 1 := by decide +kernel
abbrev b20 := jdk_29_method_65_code
theorem d20_0 : DD b20 0 (.iload_n 0) 1 := by decide +kernel
theorem d20_1 : DD b20 1 (.iload_n 1) 1 := by decide +kernel
theorem d20_2 : DD b20 2 (.if_icmp .lt 7) 3 := by decide +kernel
theorem d20_5 : DD b20 5 (.iload_n 0) 1 := by decide +kernel
theorem d20_6 : DD b20 6 (.goto 4) 3 := by decide +kernel
theorem d20_10 : DD b20 10 (.ireturn) 1 := by decide +kernel
abbrev b21 := prog_19_method_11_code
theorem d21_0 : DD b21 0 (.new 16) 3 := by decide +kernel
theorem d21_3 : DD b21 3 (.dup) 1 := by decide +kernel
theorem d21_4 : DD b21 4 (.invokespecial 18) 3 := by decide +kernel
theorem d21_7 : DD b21 7 (.astore_n 1) 1 := by decide +kernel
theorem d21_8 : DD b21 8 (.aload_n 0) 1 := by decide +kernel
theorem d21_9 : DD b21 9 (.getfield 19) 3 := by decide +kernel
theorem d21_12 : DD b21 12 (.invokeinterface 116 1) 5 := by decide +kernel
theorem d21_17 : DD b21 17 (.astore_n 2) 1 := by decide +kernel
theorem d21_18 : DD b21 18 (.aload_n 2) 1 := by decide +kernel
theorem d21_19 : DD b21 19 (.invokeinterface 120 1) 5 := by decide +kernel
theorem d21_24 : DD b21 24 (.ifCond .eq 31) 3 := by decide +kernel
theorem d21_27 : DD b21 27 (.aload_n 2) 1 := by decide +kernel
theorem d21_28 : DD b21 28 (.invokeinterface 125 1) 5 := by decide +kernel
theorem d21_33 : DD b21 33 (.astore_n 3) 1 := by decide +kernel
theorem d21_34 : DD b21 34 (.aload_n 3) 1 := by decide +kernel
theorem d21_35 : DD b21 35 (.instanceof 11) 3 := by decide +kernel
theorem d21_38 : DD b21 38 (.ifCond .eq 14) 3 := by decide +kernel
theorem d21_41 : DD b21 41 (.aload_n 1) 1 := by decide +kernel
theorem d21_42 : DD b21 42 (.aload_n 3) 1 := by decide +kernel
theorem d21_43 : DD b21 43 (.checkcast 11) 3 := by decide +kernel
theorem d21_46 : DD b21 46 (.invokeinterface 80 2) 5 := by decide +kernel
theorem d21_51 : DD b21 51 (.pop) 1 := by decide +kernel
theorem d21_52 : DD b21 52 (.goto (-34)) 3 := by decide +kernel
theorem d21_55 : DD b21 55 (.aload_n 1) 1 := by decide +kernel
theorem d21_56 : DD b21 56 (.invokestatic 129) 3 := by decide +kernel
theorem d21_59 : DD b21 59 (.areturn) 1 := by decide +kernel
abbrev b22 := jdk_38_method_55_code
theorem d22_0 : DD b22 0 (.new 267) 3 := by decide +kernel
theorem d22_3 : DD b22 3 (.dup) 1 := by decide +kernel
theorem d22_4 : DD b22 4 (.aload_n 0) 1 := by decide +kernel
theorem d22_5 : DD b22 5 (.invokespecial 269) 3 := by decide +kernel
theorem d22_8 : DD b22 8 (.areturn) 1 := by decide +kernel
abbrev b23 := jdk_49_method_1_code
theorem d23_0 : DD b23 0 (.aload_n 0) 1 := by decide +kernel
theorem d23_1 : DD b23 1 (.aload_n 1) 1 := by decide +kernel
theorem d23_2 : DD b23 2 (.putfield 1) 3 := by decide +kernel
theorem d23_5 : DD b23 5 (.aload_n 0) 1 := by decide +kernel
theorem d23_6 : DD b23 6 (.invokespecial 7) 3 := by decide +kernel
theorem d23_9 : DD b23 9 (.aload_n 0) 1 := by decide +kernel
theorem d23_10 : DD b23 10 (.iconst (-1)) 1 := by decide +kernel
theorem d23_11 : DD b23 11 (.putfield 13) 3 := by decide +kernel
theorem d23_14 : DD b23 14 (.aload_n 0) 1 := by decide +kernel
theorem d23_15 : DD b23 15 (.aload_n 0) 1 := by decide +kernel
theorem d23_16 : DD b23 16 (.getfield 1) 3 := by decide +kernel
theorem d23_19 : DD b23 19 (.getfield 17) 3 := by decide +kernel
theorem d23_22 : DD b23 22 (.putfield 22) 3 := by decide +kernel
theorem d23_25 : DD b23 25 (.return_) 1 := by decide +kernel
abbrev b24 := jdk_49_method_2_code
theorem d24_0 : DD b24 0 (.aload_n 0) 1 := by decide +kernel
theorem d24_1 : DD b24 1 (.getfield 25) 3 := by decide +kernel
theorem d24_4 : DD b24 4 (.aload_n 0) 1 := by decide +kernel
theorem d24_5 : DD b24 5 (.getfield 1) 3 := by decide +kernel
theorem d24_8 : DD b24 8 (.getfield 28) 3 := by decide +kernel
theorem d24_11 : DD b24 11 (.if_icmp .eq 7) 3 := by decide +kernel
theorem d24_14 : DD b24 14 (.iconst 1) 1 := by decide +kernel
theorem d24_15 : DD b24 15 (.goto 4) 3 := by decide +kernel
theorem d24_18 : DD b24 18 (.iconst 0) 1 := by decide +kernel
theorem d24_19 : DD b24 19 (.ireturn) 1 := by decide +kernel
abbrev b25 := jdk_49_method_3_code
theorem d25_0 : DD b25 0 (.aload_n 0) 1 := by decide +kernel
theorem d25_1 : DD b25 1 (.invokevirtual 31) 3 := by decide +kernel
theorem d25_4 : DD b25 4 (.aload_n 0) 1 := by decide +kernel
theorem d25_5 : DD b25 5 (.getfield 25) 3 := by decide +kernel
theorem d25_8 : DD b25 8 (.istore_n 1) 1 := by decide +kernel
theorem d25_9 : DD b25 9 (.iload_n 1) 1 := by decide +kernel
theorem d25_10 : DD b25 10 (.aload_n 0) 1 := by decide +kernel
theorem d25_11 : DD b25 11 (.getfield 1) 3 := by decide +kernel
theorem d25_14 : DD b25 14 (.getfield 28) 3 := by decide +kernel
theorem d25_17 : DD b25 17 (.if_icmp .lt 11) 3 := by decide +kernel
theorem d25_28 : DD b25 28 (.aload_n 0) 1 := by decide +kernel
theorem d25_29 : DD b25 29 (.getfield 1) 3 := by decide +kernel
theorem d25_32 : DD b25 32 (.getfield 37) 3 := by decide +kernel
theorem d25_35 : DD b25 35 (.astore_n 2) 1 := by decide +kernel
theorem d25_36 : DD b25 36 (.iload_n 1) 1 := by decide +kernel
theorem d25_37 : DD b25 37 (.aload_n 2) 1 := by decide +kernel
theorem d25_38 : DD b25 38 (.arraylength) 1 := by decide +kernel
theorem d25_39 : DD b25 39 (.if_icmp .lt 11) 3 := by decide +kernel
theorem d25_50 : DD b25 50 (.aload_n 0) 1 := by decide +kernel
theorem d25_51 : DD b25 51 (.iload_n 1) 1 := by decide +kernel
theorem d25_52 : DD b25 52 (.iconst 1) 1 := by decide +kernel
theorem d25_53 : DD b25 53 (.iadd) 1 := by decide +kernel
theorem d25_54 : DD b25 54 (.putfield 25) 3 := by decide +kernel
theorem d25_57 : DD b25 57 (.aload_n 2) 1 := by decide +kernel
theorem d25_58 : DD b25 58 (.aload_n 0) 1 := by decide +kernel
theorem d25_59 : DD b25 59 (.iload_n 1) 1 := by decide +kernel
theorem d25_60 : DD b25 60 (.dup_x1) 1 := by decide +kernel
theorem d25_61 : DD b25 61 (.putfield 13) 3 := by decide +kernel
theorem d25_64 : DD b25 64 (.aaload) 1 := by decide +kernel
theorem d25_65 : DD b25 65 (.areturn) 1 := by decide +kernel
abbrev b26 := jdk_49_method_6_code
theorem d26_0 : DD b26 0 (.aload_n 0) 1 := by decide +kernel
theorem d26_1 : DD b26 1 (.getfield 1) 3 := by decide +kernel
theorem d26_4 : DD b26 4 (.getfield 17) 3 := by decide +kernel
theorem d26_7 : DD b26 7 (.aload_n 0) 1 := by decide +kernel
theorem d26_8 : DD b26 8 (.getfield 22) 3 := by decide +kernel
theorem d26_11 : DD b26 11 (.if_icmp .eq 11) 3 := by decide +kernel
theorem d26_22 : DD b26 22 (.return_) 1 := by decide +kernel
abbrev b27 := jdk_79_method_35_code
theorem d27_0 : DD b27 0 (.aload_n 0) 1 := by decide +kernel
theorem d27_1 : DD b27 1 (.invokeinterface 211 1) 5 := by decide +kernel
theorem d27_6 : DD b27 6 (.ldc 212) 2 := by decide +kernel
theorem d27_8 : DD b27 8 (.if_acmp .eq 14) 3 := by decide +kernel
theorem d27_11 : DD b27 11 (.aload_n 0) 1 := by decide +kernel
theorem d27_12 : DD b27 12 (.invokeinterface 214 1) 5 := by decide +kernel
theorem d27_17 : DD b27 17 (.ldc 215) 2 := by decide +kernel
theorem d27_19 : DD b27 19 (.if_acmp .ne 5) 3 := by decide +kernel
theorem d27_24 : DD b27 24 (.aload_n 0) 1 := by decide +kernel
theorem d27_25 : DD b27 25 (.instanceof 13) 3 := by decide +kernel
theorem d27_28 : DD b27 28 (.ifCond .eq 14) 3 := by decide +kernel
theorem d27_31 : DD b27 31 (.new 215) 3 := by decide +kernel
theorem d27_34 : DD b27 34 (.dup) 1 := by decide +kernel
theorem d27_35 : DD b27 35 (.aload_n 0) 1 := by decide +kernel
theorem d27_36 : DD b27 36 (.invokespecial 217) 3 := by decide +kernel
theorem d27_39 : DD b27 39 (.goto 11) 3 := by decide +kernel
theorem d27_50 : DD b27 50 (.areturn) 1 := by decide +kernel
abbrev b28 := jdk_121_method_1_code
theorem d28_0 : DD b28 0 (.aload_n 0) 1 := by decide +kernel
theorem d28_1 : DD b28 1 (.aload_n 1) 1 := by decide +kernel
theorem d28_2 : DD b28 2 (.invokespecial 1) 3 := by decide +kernel
theorem d28_5 : DD b28 5 (.return_) 1 := by decide +kernel
abbrev b29 := jdk_120_method_1_code
theorem d29_0 : DD b29 0 (.aload_n 0) 1 := by decide +kernel
theorem d29_1 : DD b29 1 (.aload_n 1) 1 := by decide +kernel
theorem d29_2 : DD b29 2 (.invokespecial 1) 3 := by decide +kernel
theorem d29_5 : DD b29 5 (.aload_n 0) 1 := by decide +kernel
theorem d29_6 : DD b29 6 (.aload_n 1) 1 := by decide +kernel
theorem d29_7 : DD b29 7 (.putfield 7) 3 := by decide +kernel
theorem d29_10 : DD b29 10 (.return_) 1 := by decide +kernel
abbrev b30 := jdk_119_method_1_code
theorem d30_0 : DD b30 0 (.aload_n 0) 1 := by decide +kernel
theorem d30_1 : DD b30 1 (.invokespecial 1) 3 := by decide +kernel
theorem d30_4 : DD b30 4 (.aload_n 1) 1 := by decide +kernel
theorem d30_5 : DD b30 5 (.ifnonnull 11) 3 := by decide +kernel
theorem d30_16 : DD b30 16 (.aload_n 0) 1 := by decide +kernel
theorem d30_17 : DD b30 17 (.aload_n 1) 1 := by decide +kernel
theorem d30_18 : DD b30 18 (.putfield 10) 3 := by decide +kernel
theorem d30_21 : DD b30 21 (.return_) 1 := by decide +kernel
abbrev b31 := jdk_119_method_2_code
theorem d31_0 : DD b31 0 (.aload_n 0) 1 := by decide +kernel
theorem d31_1 : DD b31 1 (.getfield 10) 3 := by decide +kernel
theorem d31_4 : DD b31 4 (.invokeinterface 16 1) 5 := by decide +kernel
theorem d31_9 : DD b31 9 (.ireturn) 1 := by decide +kernel
abbrev b32 := jdk_38_method_8_code
theorem d32_0 : DD b32 0 (.aload_n 0) 1 := by decide +kernel
theorem d32_1 : DD b32 1 (.getfield 48) 3 := by decide +kernel
theorem d32_4 : DD b32 4 (.ireturn) 1 := by decide +kernel
abbrev b33 := jdk_120_method_4_code
theorem d33_0 : DD b33 0 (.aload_n 0) 1 := by decide +kernel
theorem d33_1 : DD b33 1 (.getfield 7) 3 := by decide +kernel
theorem d33_4 : DD b33 4 (.iload_n 1) 1 := by decide +kernel
theorem d33_5 : DD b33 5 (.invokeinterface 23 2) 5 := by decide +kernel
theorem d33_10 : DD b33 10 (.areturn) 1 := by decide +kernel
abbrev b34 := jdk_38_method_20_code
theorem d34_0 : DD b34 0 (.iload_n 1) 1 := by decide +kernel
theorem d34_1 : DD b34 1 (.aload_n 0) 1 := by decide +kernel
theorem d34_2 : DD b34 2 (.getfield 48) 3 := by decide +kernel
theorem d34_5 : DD b34 5 (.invokestatic 118) 3 := by decide +kernel
theorem d34_8 : DD b34 8 (.pop) 1 := by decide +kernel
theorem d34_9 : DD b34 9 (.aload_n 0) 1 := by decide +kernel
theorem d34_10 : DD b34 10 (.iload_n 1) 1 := by decide +kernel
theorem d34_11 : DD b34 11 (.invokevirtual 123) 3 := by decide +kernel
theorem d34_14 : DD b34 14 (.areturn) 1 := by decide +kernel
abbrev b35 := jdk_31_method_17_code
theorem d35_0 : DD b35 0 (.iload_n 0) 1 := by decide +kernel
theorem d35_1 : DD b35 1 (.iload_n 1) 1 := by decide +kernel
theorem d35_2 : DD b35 2 (.aconst_null) 1 := by decide +kernel
theorem d35_3 : DD b35 3 (.invokestatic 105) 3 := by decide +kernel
theorem d35_6 : DD b35 6 (.ireturn) 1 := by decide +kernel
abbrev b36 := jdk_41_method_11_code
theorem d36_0 : DD b36 0 (.iload_n 0) 1 := by decide +kernel
theorem d36_1 : DD b36 1 (.ifCond .lt 8) 3 := by decide +kernel
theorem d36_4 : DD b36 4 (.iload_n 0) 1 := by decide +kernel
theorem d36_5 : DD b36 5 (.iload_n 1) 1 := by decide +kernel
theorem d36_6 : DD b36 6 (.if_icmp .lt 10) 3 := by decide +kernel
theorem d36_16 : DD b36 16 (.iload_n 0) 1 := by decide +kernel
theorem d36_17 : DD b36 17 (.ireturn) 1 := by decide +kernel
abbrev b37 := jdk_38_method_18_code
theorem d37_0 : DD b37 0 (.aload_n 0) 1 := by decide +kernel
theorem d37_1 : DD b37 1 (.getfield 9) 3 := by decide +kernel
theorem d37_4 : DD b37 4 (.iload_n 1) 1 := by decide +kernel
theorem d37_5 : DD b37 5 (.aaload) 1 := by decide +kernel
theorem d37_6 : DD b37 6 (.areturn) 1 := by decide +kernel
abbrev b38 := prog_19_method_13_code
theorem d38_0 : DD b38 0 (.new 143) 3 := by decide +kernel
theorem d38_3 : DD b38 3 (.dup) 1 := by decide +kernel
theorem d38_4 : DD b38 4 (.invokespecial 145) 3 := by decide +kernel
theorem d38_7 : DD b38 7 (.astore_n 1) 1 := by decide +kernel
theorem d38_8 : DD b38 8 (.aload_n 0) 1 := by decide +kernel
theorem d38_9 : DD b38 9 (.getfield 19) 3 := by decide +kernel
theorem d38_12 : DD b38 12 (.invokeinterface 116 1) 5 := by decide +kernel
theorem d38_17 : DD b38 17 (.astore_n 2) 1 := by decide +kernel
theorem d38_18 : DD b38 18 (.aload_n 2) 1 := by decide +kernel
theorem d38_19 : DD b38 19 (.invokeinterface 120 1) 5 := by decide +kernel
theorem d38_24 : DD b38 24 (.ifCond .eq 29) 3 := by decide +kernel
theorem d38_27 : DD b38 27 (.aload_n 2) 1 := by decide +kernel
theorem d38_28 : DD b38 28 (.invokeinterface 125 1) 5 := by decide +kernel
theorem d38_33 : DD b38 33 (.astore_n 3) 1 := by decide +kernel
theorem d38_34 : DD b38 34 (.aload_n 3) 1 := by decide +kernel
theorem d38_35 : DD b38 35 (.instanceof 31) 3 := by decide +kernel
theorem d38_38 : DD b38 38 (.ifCond .eq 12) 3 := by decide +kernel
theorem d38_41 : DD b38 41 (.aload_n 1) 1 := by decide +kernel
theorem d38_42 : DD b38 42 (.aload_n 3) 1 := by decide +kernel
theorem d38_43 : DD b38 43 (.checkcast 31) 3 := by decide +kernel
theorem d38_46 : DD b38 46 (.invokevirtual 146) 3 := by decide +kernel
theorem d38_49 : DD b38 49 (.pop) 1 := by decide +kernel
theorem d38_50 : DD b38 50 (.goto (-32)) 3 := by decide +kernel
theorem d38_53 : DD b38 53 (.aload_n 1) 1 := by decide +kernel
theorem d38_54 : DD b38 54 (.invokevirtual 150) 3 := by decide +kernel
theorem d38_57 : DD b38 57 (.areturn) 1 := by decide +kernel
abbrev b39 := jdk_67_method_1_code
theorem d39_0 : DD b39 0 (.aload_n 0) 1 := by decide +kernel
theorem d39_1 : DD b39 1 (.bipush 16) 2 := by decide +kernel
theorem d39_3 : DD b39 3 (.invokespecial 1) 3 := by decide +kernel
theorem d39_6 : DD b39 6 (.return_) 1 := by decide +kernel
abbrev b40 := jdk_68_method_2_code
theorem d40_0 : DD b40 0 (.aload_n 0) 1 := by decide +kernel
theorem d40_1 : DD b40 1 (.invokespecial 3) 3 := by decide +kernel
theorem d40_4 : DD b40 4 (.getstatic 18) 3 := by decide +kernel
theorem d40_7 : DD b40 7 (.ifCond .eq 18) 3 := by decide +kernel
theorem d40_10 : DD b40 10 (.aload_n 0) 1 := by decide +kernel
theorem d40_11 : DD b40 11 (.iload_n 1) 1 := by decide +kernel
theorem d40_12 : DD b40 12 (.newarray .byte) 2 := by decide +kernel
theorem d40_14 : DD b40 14 (.putfield 15) 3 := by decide +kernel
theorem d40_17 : DD b40 17 (.aload_n 0) 1 := by decide +kernel
theorem d40_18 : DD b40 18 (.iconst 0) 1 := by decide +kernel
theorem d40_19 : DD b40 19 (.putfield 22) 3 := by decide +kernel
theorem d40_22 : DD b40 22 (.goto 16) 3 := by decide +kernel
theorem d40_38 : DD b40 38 (.return_) 1 := by decide +kernel
abbrev b41 := jdk_67_method_42_code
theorem d41_0 : DD b41 0 (.new 18) 3 := by decide +kernel
theorem d41_3 : DD b41 3 (.dup) 1 := by decide +kernel
theorem d41_4 : DD b41 4 (.aload_n 0) 1 := by decide +kernel
theorem d41_5 : DD b41 5 (.invokespecial 137) 3 := by decide +kernel
theorem d41_8 : DD b41 8 (.areturn) 1 := by decide +kernel
abbrev b42 := jdk_42_method_53_code
theorem d42_0 : DD b42 0 (.aload_n 0) 1 := by decide +kernel
theorem d42_1 : DD b42 1 (.aload_n 1) 1 := by decide +kernel
theorem d42_2 : DD b42 2 (.aconst_null) 1 := by decide +kernel
theorem d42_3 : DD b42 3 (.invokespecial 489) 3 := by decide +kernel
theorem d42_6 : DD b42 6 (.return_) 1 := by decide +kernel
abbrev b43 := jdk_42_method_150_code
theorem d43_0 : DD b43 0 (.aload_n 0) 1 := by decide +kernel
theorem d43_1 : DD b43 1 (.invokespecial 1) 3 := by decide +kernel
theorem d43_4 : DD b43 4 (.aload_n 1) 1 := by decide +kernel
theorem d43_5 : DD b43 5 (.invokevirtual 552) 3 := by decide +kernel
theorem d43_8 : DD b43 8 (.astore_n 3) 1 := by decide +kernel
theorem d43_9 : DD b43 9 (.aload_n 1) 1 := by decide +kernel
theorem d43_10 : DD b43 10 (.invokevirtual 549) 3 := by decide +kernel
theorem d43_13 : DD b43 13 (.istore 4) 2 := by decide +kernel
theorem d43_15 : DD b43 15 (.aload_n 1) 1 := by decide +kernel
theorem d43_16 : DD b43 16 (.invokevirtual 1047) 3 := by decide +kernel
theorem d43_19 : DD b43 19 (.ifCond .eq 22) 3 := by decide +kernel
theorem d43_22 : DD b43 22 (.aload_n 0) 1 := by decide +kernel
theorem d43_23 : DD b43 23 (.iconst 0) 1 := by decide +kernel
theorem d43_24 : DD b43 24 (.putfield 15) 3 := by decide +kernel
theorem d43_27 : DD b43 27 (.aload_n 0) 1 := by decide +kernel
theorem d43_28 : DD b43 28 (.aload_n 3) 1 := by decide +kernel
theorem d43_29 : DD b43 29 (.iconst 0) 1 := by decide +kernel
theorem d43_30 : DD b43 30 (.iload 4) 2 := by decide +kernel
theorem d43_32 : DD b43 32 (.invokestatic 54) 3 := by decide +kernel
theorem d43_35 : DD b43 35 (.putfield 9) 3 := by decide +kernel
theorem d43_38 : DD b43 38 (.goto 59) 3 := by decide +kernel
theorem d43_97 : DD b43 97 (.return_) 1 := by decide +kernel
abbrev b44 := jdk_68_method_64_code
theorem d44_0 : DD b44 0 (.aload_n 0) 1 := by decide +kernel
theorem d44_1 : DD b44 1 (.getfield 15) 3 := by decide +kernel
theorem d44_4 : DD b44 4 (.areturn) 1 := by decide +kernel
abbrev b45 := jdk_67_method_93_code
theorem d45_0 : DD b45 0 (.aload_n 0) 1 := by decide +kernel
theorem d45_1 : DD b45 1 (.invokespecial 343) 3 := by decide +kernel
theorem d45_4 : DD b45 4 (.ireturn) 1 := by decide +kernel
abbrev b46 := jdk_68_method_6_code
theorem d46_0 : DD b46 0 (.aload_n 0) 1 := by decide +kernel
theorem d46_1 : DD b46 1 (.getfield 79) 3 := by decide +kernel
theorem d46_4 : DD b46 4 (.ireturn) 1 := by decide +kernel
abbrev b47 := jdk_68_method_68_code
theorem d47_0 : DD b47 0 (.getstatic 18) 3 := by decide +kernel
theorem d47_3 : DD b47 3 (.ifCond .eq 14) 3 := by decide +kernel
theorem d47_6 : DD b47 6 (.aload_n 0) 1 := by decide +kernel
theorem d47_7 : DD b47 7 (.getfield 22) 3 := by decide +kernel
theorem d47_10 : DD b47 10 (.ifCond .ne 7) 3 := by decide +kernel
theorem d47_13 : DD b47 13 (.iconst 1) 1 := by decide +kernel
theorem d47_14 : DD b47 14 (.goto 4) 3 := by decide +kernel
theorem d47_18 : DD b47 18 (.ireturn) 1 := by decide +kernel
abbrev b48 := jdk_65_method_132_code
theorem d48_0 : DD b48 0 (.iload_n 1) 1 := by decide +kernel
theorem d48_1 : DD b48 1 (.ifCond .ne 9) 3 := by decide +kernel
theorem d48_4 : DD b48 4 (.iload_n 2) 1 := by decide +kernel
theorem d48_5 : DD b48 5 (.aload_n 0) 1 := by decide +kernel
theorem d48_6 : DD b48 6 (.arraylength) 1 := by decide +kernel
theorem d48_7 : DD b48 7 (.if_icmp .eq 10) 3 := by decide +kernel
theorem d48_10 : DD b48 10 (.aload_n 0) 1 := by decide +kernel
theorem d48_11 : DD b48 11 (.iload_n 1) 1 := by decide +kernel
theorem d48_12 : DD b48 12 (.iload_n 2) 1 := by decide +kernel
theorem d48_13 : DD b48 13 (.invokestatic 339) 3 := by decide +kernel
theorem d48_16 : DD b48 16 (.areturn) 1 := by decide +kernel
abbrev b49 := jdk_65_method_133_code
theorem d49_0 : DD b49 0 (.iload_n 1) 1 := by decide +kernel
theorem d49_1 : DD b49 1 (.iload_n 2) 1 := by decide +kernel
theorem d49_2 : DD b49 2 (.invokestatic 343) 3 := by decide +kernel
theorem d49_5 : DD b49 5 (.iload_n 2) 1 := by decide +kernel
theorem d49_6 : DD b49 6 (.iload_n 1) 1 := by decide +kernel
theorem d49_7 : DD b49 7 (.isub) 1 := by decide +kernel
theorem d49_8 : DD b49 8 (.istore_n 3) 1 := by decide +kernel
theorem d49_9 : DD b49 9 (.iload_n 3) 1 := by decide +kernel
theorem d49_10 : DD b49 10 (.newarray .byte) 2 := by decide +kernel
theorem d49_12 : DD b49 12 (.astore 4) 2 := by decide +kernel
theorem d49_14 : DD b49 14 (.aload_n 0) 1 := by decide +kernel
theorem d49_15 : DD b49 15 (.iload_n 1) 1 := by decide +kernel
theorem d49_16 : DD b49 16 (.aload 4) 2 := by decide +kernel
theorem d49_18 : DD b49 18 (.iconst 0) 1 := by decide +kernel
theorem d49_19 : DD b49 19 (.aload_n 0) 1 := by decide +kernel
theorem d49_20 : DD b49 20 (.arraylength) 1 := by decide +kernel
theorem d49_21 : DD b49 21 (.iload_n 1) 1 := by decide +kernel
theorem d49_22 : DD b49 22 (.isub) 1 := by decide +kernel
theorem d49_23 : DD b49 23 (.iload_n 3) 1 := by decide +kernel
theorem d49_24 : DD b49 24 (.invokestatic 304) 3 := by decide +kernel
theorem d49_27 : DD b49 27 (.invokestatic 150) 3 := by decide +kernel
theorem d49_30 : DD b49 30 (.aload 4) 2 := by decide +kernel
theorem d49_32 : DD b49 32 (.areturn) 1 := by decide +kernel
abbrev b50 := jdk_65_method_131_code
theorem d50_0 : DD b50 0 (.iload_n 1) 1 := by decide +kernel
theorem d50_1 : DD b50 1 (.iload_n 0) 1 := by decide +kernel
theorem d50_2 : DD b50 2 (.if_icmp .ge 35) 3 := by decide +kernel
theorem d50_37 : DD b50 37 (.return_) 1 := by decide +kernel
abbrev b51 := jdk_29_method_69_code
theorem d51_0 : DD b51 0 (.iload_n 0) 1 := by decide +kernel
theorem d51_1 : DD b51 1 (.iload_n 1) 1 := by decide +kernel
theorem d51_2 : DD b51 2 (.if_icmp .gt 7) 3 := by decide +kernel
theorem d51_9 : DD b51 9 (.iload_n 1) 1 := by decide +kernel
theorem d51_10 : DD b51 10 (.ireturn) 1 := by decide +kernel
abbrev b52 := jdk_42_method_66_code
theorem d52_0 : DD b52 0 (.aload_n 0) 1 := by decide +kernel
theorem d52_1 : DD b52 1 (.aload_n 1) 1 := by decide +kernel
theorem d52_2 : DD b52 2 (.if_acmp .ne 5) 3 := by decide +kernel
theorem d52_7 : DD b52 7 (.aload_n 1) 1 := by decide +kernel
theorem d52_8 : DD b52 8 (.instanceof 10) 3 := by decide +kernel
theorem d52_11 : DD b52 11 (.ifCond .eq 43) 3 := by decide +kernel
theorem d52_14 : DD b52 14 (.aload_n 1) 1 := by decide +kernel
theorem d52_15 : DD b52 15 (.checkcast 10) 3 := by decide +kernel
theorem d52_18 : DD b52 18 (.astore_n 2) 1 := by decide +kernel
theorem d52_19 : DD b52 19 (.getstatic 38) 3 := by decide +kernel
theorem d52_22 : DD b52 22 (.ifCond .eq 14) 3 := by decide +kernel
theorem d52_25 : DD b52 25 (.aload_n 0) 1 := by decide +kernel
theorem d52_26 : DD b52 26 (.getfield 15) 3 := by decide +kernel
theorem d52_29 : DD b52 29 (.aload_n 2) 1 := by decide +kernel
theorem d52_30 : DD b52 30 (.getfield 15) 3 := by decide +kernel
theorem d52_33 : DD b52 33 (.if_icmp .ne 21) 3 := by decide +kernel
theorem d52_36 : DD b52 36 (.aload_n 0) 1 := by decide +kernel
theorem d52_37 : DD b52 37 (.getfield 9) 3 := by decide +kernel
theorem d52_40 : DD b52 40 (.aload_n 2) 1 := by decide +kernel
theorem d52_41 : DD b52 41 (.getfield 9) 3 := by decide +kernel
theorem d52_44 : DD b52 44 (.invokestatic 541) 3 := by decide +kernel
theorem d52_47 : DD b52 47 (.ifCond .eq 7) 3 := by decide +kernel
theorem d52_50 : DD b52 50 (.iconst 1) 1 := by decide +kernel
theorem d52_51 : DD b52 51 (.goto 4) 3 := by decide +kernel
theorem d52_54 : DD b52 54 (.iconst 0) 1 := by decide +kernel
theorem d52_55 : DD b52 55 (.ireturn) 1 := by decide +kernel
abbrev b53 := jdk_43_method_13_code
theorem d53_0 : DD b53 0 (.aload_n 0) 1 := by decide +kernel
theorem d53_1 : DD b53 1 (.arraylength) 1 := by decide +kernel
theorem d53_2 : DD b53 2 (.aload_n 1) 1 := by decide +kernel
theorem d53_3 : DD b53 3 (.arraylength) 1 := by decide +kernel
theorem d53_4 : DD b53 4 (.if_icmp .ne 30) 3 := by decide +kernel
theorem d53_7 : DD b53 7 (.iconst 0) 1 := by decide +kernel
theorem d53_8 : DD b53 8 (.istore_n 2) 1 := by decide +kernel
theorem d53_9 : DD b53 9 (.iload_n 2) 1 := by decide +kernel
theorem d53_10 : DD b53 10 (.aload_n 0) 1 := by decide +kernel
theorem d53_11 : DD b53 11 (.arraylength) 1 := by decide +kernel
theorem d53_12 : DD b53 12 (.if_icmp .ge 20) 3 := by decide +kernel
theorem d53_15 : DD b53 15 (.aload_n 0) 1 := by decide +kernel
theorem d53_16 : DD b53 16 (.iload_n 2) 1 := by decide +kernel
theorem d53_17 : DD b53 17 (.baload) 1 := by decide +kernel
theorem d53_18 : DD b53 18 (.aload_n 1) 1 := by decide +kernel
theorem d53_19 : DD b53 19 (.iload_n 2) 1 := by decide +kernel
theorem d53_20 : DD b53 20 (.baload) 1 := by decide +kernel
theorem d53_21 : DD b53 21 (.if_icmp .eq 5) 3 := by decide +kernel
theorem d53_24 : DD b53 24 (.iconst 0) 1 := by decide +kernel
theorem d53_25 : DD b53 25 (.ireturn) 1 := by decide +kernel
theorem d53_26 : DD b53 26 (.iinc 2 1) 3 := by decide +kernel
theorem d53_29 : DD b53 29 (.goto (-20)) 3 := by decide +kernel
theorem d53_32 : DD b53 32 (.iconst 1) 1 := by decide +kernel
theorem d53_33 : DD b53 33 (.ireturn) 1 := by decide +kernel
abbrev b54 := prog_19_method_10_code
theorem d54_0 : DD b54 0 (.aload_n 0) 1 := by decide +kernel
theorem d54_1 : DD b54 1 (.getfield 19) 3 := by decide +kernel
theorem d54_4 : DD b54 4 (.invokeinterface 93 1) 5 := by decide +kernel
theorem d54_9 : DD b54 9 (.iconst 1) 1 := by decide +kernel
theorem d54_10 : DD b54 10 (.isub) 1 := by decide +kernel
theorem d54_11 : DD b54 11 (.istore_n 2) 1 := by decide +kernel
theorem d54_12 : DD b54 12 (.iload_n 2) 1 := by decide +kernel
theorem d54_13 : DD b54 13 (.ifCond .lt 52) 3 := by decide +kernel
theorem d54_16 : DD b54 16 (.aload_n 0) 1 := by decide +kernel
theorem d54_17 : DD b54 17 (.getfield 19) 3 := by decide +kernel
theorem d54_20 : DD b54 20 (.iload_n 2) 1 := by decide +kernel
theorem d54_21 : DD b54 21 (.invokeinterface 97 2) 5 := by decide +kernel
theorem d54_26 : DD b54 26 (.instanceof 31) 3 := by decide +kernel
theorem d54_29 : DD b54 29 (.ifCond .eq 36) 3 := by decide +kernel
theorem d54_65 : DD b54 65 (.aload_n 1) 1 := by decide +kernel
theorem d54_66 : DD b54 66 (.invokevirtual 112) 3 := by decide +kernel
theorem d54_69 : DD b54 69 (.ifCond .ne 14) 3 := by decide +kernel
theorem d54_72 : DD b54 72 (.aload_n 0) 1 := by decide +kernel
theorem d54_73 : DD b54 73 (.getfield 19) 3 := by decide +kernel
theorem d54_76 : DD b54 76 (.aload_n 1) 1 := by decide +kernel
theorem d54_77 : DD b54 77 (.invokeinterface 80 2) 5 := by decide +kernel
theorem d54_82 : DD b54 82 (.pop) 1 := by decide +kernel
theorem d54_83 : DD b54 83 (.aload_n 0) 1 := by decide +kernel
theorem d54_84 : DD b54 84 (.areturn) 1 := by decide +kernel
abbrev b55 := jdk_42_method_55_code
theorem d55_0 : DD b55 0 (.aload_n 0) 1 := by decide +kernel
theorem d55_1 : DD b55 1 (.getfield 9) 3 := by decide +kernel
theorem d55_4 : DD b55 4 (.arraylength) 1 := by decide +kernel
theorem d55_5 : DD b55 5 (.ifCond .ne 7) 3 := by decide +kernel
theorem d55_12 : DD b55 12 (.iconst 0) 1 := by decide +kernel
theorem d55_13 : DD b55 13 (.ireturn) 1 := by decide +kernel
abbrev b56 := jdk_67_method_7_code
theorem d56_0 : DD b56 0 (.aload_n 0) 1 := by decide +kernel
theorem d56_1 : DD b56 1 (.aload_n 1) 1 := by decide +kernel
theorem d56_2 : DD b56 2 (.invokespecial 29) 3 := by decide +kernel
theorem d56_5 : DD b56 5 (.pop) 1 := by decide +kernel
theorem d56_6 : DD b56 6 (.aload_n 0) 1 := by decide +kernel
theorem d56_7 : DD b56 7 (.areturn) 1 := by decide +kernel
abbrev b57 := jdk_68_method_22_code
theorem d57_0 : DD b57 0 (.aload_n 1) 1 := by decide +kernel
theorem d57_1 : DD b57 1 (.ifnonnull 8) 3 := by decide +kernel
theorem d57_9 : DD b57 9 (.aload_n 1) 1 := by decide +kernel
theorem d57_10 : DD b57 10 (.invokevirtual 32) 3 := by decide +kernel
theorem d57_13 : DD b57 13 (.istore_n 2) 1 := by decide +kernel
theorem d57_14 : DD b57 14 (.aload_n 0) 1 := by decide +kernel
theorem d57_15 : DD b57 15 (.aload_n 0) 1 := by decide +kernel
theorem d57_16 : DD b57 16 (.getfield 79) 3 := by decide +kernel
theorem d57_19 : DD b57 19 (.iload_n 2) 1 := by decide +kernel
theorem d57_20 : DD b57 20 (.iadd) 1 := by decide +kernel
theorem d57_21 : DD b57 21 (.invokevirtual 100) 3 := by decide +kernel
theorem d57_24 : DD b57 24 (.aload_n 0) 1 := by decide +kernel
theorem d57_25 : DD b57 25 (.aload_n 0) 1 := by decide +kernel
theorem d57_26 : DD b57 26 (.getfield 79) 3 := by decide +kernel
theorem d57_29 : DD b57 29 (.aload_n 1) 1 := by decide +kernel
theorem d57_30 : DD b57 30 (.invokevirtual 208) 3 := by decide +kernel
theorem d57_33 : DD b57 33 (.aload_n 0) 1 := by decide +kernel
theorem d57_34 : DD b57 34 (.dup) 1 := by decide +kernel
theorem d57_35 : DD b57 35 (.getfield 79) 3 := by decide +kernel
theorem d57_38 : DD b57 38 (.iload_n 2) 1 := by decide +kernel
theorem d57_39 : DD b57 39 (.iadd) 1 := by decide +kernel
theorem d57_40 : DD b57 40 (.putfield 79) 3 := by decide +kernel
theorem d57_43 : DD b57 43 (.aload_n 0) 1 := by decide +kernel
theorem d57_44 : DD b57 44 (.areturn) 1 := by decide +kernel
abbrev b58 := jdk_42_method_54_code
theorem d58_0 : DD b58 0 (.aload_n 0) 1 := by decide +kernel
theorem d58_1 : DD b58 1 (.getfield 9) 3 := by decide +kernel
theorem d58_4 : DD b58 4 (.arraylength) 1 := by decide +kernel
theorem d58_5 : DD b58 5 (.aload_n 0) 1 := by decide +kernel
theorem d58_6 : DD b58 6 (.invokevirtual 335) 3 := by decide +kernel
theorem d58_9 : DD b58 9 (.ishr) 1 := by decide +kernel
theorem d58_10 : DD b58 10 (.ireturn) 1 := by decide +kernel
abbrev b59 := jdk_42_method_152_code
theorem d59_0 : DD b59 0 (.getstatic 38) 3 := by decide +kernel
theorem d59_3 : DD b59 3 (.ifCond .eq 10) 3 := by decide +kernel
theorem d59_6 : DD b59 6 (.aload_n 0) 1 := by decide +kernel
theorem d59_7 : DD b59 7 (.getfield 15) 3 := by decide +kernel
theorem d59_10 : DD b59 10 (.goto 4) 3 := by decide +kernel
theorem d59_14 : DD b59 14 (.ireturn) 1 := by decide +kernel
abbrev b60 := jdk_68_method_9_code
theorem d60_0 : DD b60 0 (.aload_n 0) 1 := by decide +kernel
theorem d60_1 : DD b60 1 (.getfield 15) 3 := by decide +kernel
theorem d60_4 : DD b60 4 (.arraylength) 1 := by decide +kernel
theorem d60_5 : DD b60 5 (.aload_n 0) 1 := by decide +kernel
theorem d60_6 : DD b60 6 (.getfield 22) 3 := by decide +kernel
theorem d60_9 : DD b60 9 (.ishr) 1 := by decide +kernel
theorem d60_10 : DD b60 10 (.istore_n 2) 1 := by decide +kernel
theorem d60_11 : DD b60 11 (.iload_n 1) 1 := by decide +kernel
theorem d60_12 : DD b60 12 (.iload_n 2) 1 := by decide +kernel
theorem d60_13 : DD b60 13 (.isub) 1 := by decide +kernel
theorem d60_14 : DD b60 14 (.ifCond .le 24) 3 := by decide +kernel
theorem d60_38 : DD b60 38 (.return_) 1 := by decide +kernel
abbrev b61 := jdk_68_method_73_code
theorem d61_0 : DD b61 0 (.aload_n 0) 1 := by decide +kernel
theorem d61_1 : DD b61 1 (.aload_n 2) 1 := by decide +kernel
theorem d61_2 : DD b61 2 (.invokevirtual 397) 3 := by decide +kernel
theorem d61_5 : DD b61 5 (.aload_n 2) 1 := by decide +kernel
theorem d61_6 : DD b61 6 (.aload_n 0) 1 := by decide +kernel
theorem d61_7 : DD b61 7 (.getfield 15) 3 := by decide +kernel
theorem d61_10 : DD b61 10 (.iload_n 1) 1 := by decide +kernel
theorem d61_11 : DD b61 11 (.aload_n 0) 1 := by decide +kernel
theorem d61_12 : DD b61 12 (.getfield 22) 3 := by decide +kernel
theorem d61_15 : DD b61 15 (.invokevirtual 399) 3 := by decide +kernel
theorem d61_18 : DD b61 18 (.return_) 1 := by decide +kernel
abbrev b62 := jdk_68_method_71_code
theorem d62_0 : DD b62 0 (.getstatic 18) 3 := by decide +kernel
theorem d62_3 : DD b62 3 (.ifCond .eq 18) 3 := by decide +kernel
theorem d62_6 : DD b62 6 (.aload_n 0) 1 := by decide +kernel
theorem d62_7 : DD b62 7 (.getfield 22) 3 := by decide +kernel
theorem d62_10 : DD b62 10 (.aload_n 1) 1 := by decide +kernel
theorem d62_11 : DD b62 11 (.invokevirtual 40) 3 := by decide +kernel
theorem d62_14 : DD b62 14 (.if_icmp .eq 7) 3 := by decide +kernel
theorem d62_21 : DD b62 21 (.return_) 1 := by decide +kernel
abbrev b63 := jdk_42_method_147_code
theorem d63_0 : DD b63 0 (.aload_n 0) 1 := by decide +kernel
theorem d63_1 : DD b63 1 (.invokevirtual 335) 3 := by decide +kernel
theorem d63_4 : DD b63 4 (.iload_n 3) 1 := by decide +kernel
theorem d63_5 : DD b63 5 (.if_icmp .ne 23) 3 := by decide +kernel
theorem d63_8 : DD b63 8 (.aload_n 0) 1 := by decide +kernel
theorem d63_9 : DD b63 9 (.getfield 9) 3 := by decide +kernel
theorem d63_12 : DD b63 12 (.iconst 0) 1 := by decide +kernel
theorem d63_13 : DD b63 13 (.aload_n 1) 1 := by decide +kernel
theorem d63_14 : DD b63 14 (.iload_n 2) 1 := by decide +kernel
theorem d63_15 : DD b63 15 (.iload_n 3) 1 := by decide +kernel
theorem d63_16 : DD b63 16 (.ishl) 1 := by decide +kernel
theorem d63_17 : DD b63 17 (.aload_n 0) 1 := by decide +kernel
theorem d63_18 : DD b63 18 (.getfield 9) 3 := by decide +kernel
theorem d63_21 : DD b63 21 (.arraylength) 1 := by decide +kernel
theorem d63_22 : DD b63 22 (.invokestatic 212) 3 := by decide +kernel
theorem d63_25 : DD b63 25 (.goto 18) 3 := by decide +kernel
theorem d63_43 : DD b63 43 (.return_) 1 := by decide +kernel
theorem oef0 (m : MethodId) (x0 : Addr) : entryFrame m #[(.ref x0)] 1 = mkF m 0 #[.val (.ref x0)] [] := by first | (simp [entryFrame, mkF, argsToLocals, Value.category]; done) | rfl
theorem oef1 (m : MethodId) (x0 : Addr) (x1 : Addr) : entryFrame m #[(.ref x0), (.ref x1)] 2 = mkF m 0 #[.val (.ref x0), .val (.ref x1)] [] := by first | (simp [entryFrame, mkF, argsToLocals, Value.category]; done) | rfl
theorem oef2 (m : MethodId) (x0 : Addr) (x1 : Addr) (x2 : Addr) : entryFrame m #[(.ref x0), (.ref x1), (.ref x2)] 3 = mkF m 0 #[.val (.ref x0), .val (.ref x1), .val (.ref x2)] [] := by first | (simp [entryFrame, mkF, argsToLocals, Value.category]; done) | rfl
theorem oef3 (m : MethodId) (x0 : Int32) : entryFrame m #[(.int x0)] 1 = mkF m 0 #[.val (.int x0)] [] := by first | (simp [entryFrame, mkF, argsToLocals, Value.category]; done) | rfl
theorem oef4 (m : MethodId) (x0 : Addr) (x1 : Addr) (x2 : Int32) : entryFrame m #[(.ref x0), (.ref x1), (.int x2)] 3 = mkF m 0 #[.val (.ref x0), .val (.ref x1), .val (.int x2)] [] := by first | (simp [entryFrame, mkF, argsToLocals, Value.category]; done) | rfl
theorem oef5 (m : MethodId) (x0 : Int32) (x1 : Int32) : entryFrame m #[(.int x0), (.int x1)] 2 = mkF m 0 #[.val (.int x0), .val (.int x1)] [] := by first | (simp [entryFrame, mkF, argsToLocals, Value.category]; done) | rfl
theorem oef6 (m : MethodId) (x0 : Addr) (x1 : Int32) : entryFrame m #[(.ref x0), (.int x1)] 4 = mkF m 0 #[.val (.ref x0), .val (.int x1), .unset, .unset] [] := by first | (simp [entryFrame, mkF, argsToLocals, Value.category]; done) | rfl
theorem oef7 (m : MethodId) (x0 : Addr) (x1 : Addr) (x2 : Addr) (x3 : Int32) : entryFrame m #[(.ref x0), (.ref x1), (.ref x2), (.int x3)] 4 = mkF m 0 #[.val (.ref x0), .val (.ref x1), .val (.ref x2), .val (.int x3)] [] := by first | (simp [entryFrame, mkF, argsToLocals, Value.category]; done) | rfl
theorem oef8 (m : MethodId) (x0 : Int32) (x1 : Int32) : entryFrame m #[(.int x0), (.int x1), .null] 3 = mkF m 0 #[.val (.int x0), .val (.int x1), .val .null] [] := by first | (simp [entryFrame, mkF, argsToLocals, Value.category]; done) | rfl
theorem oef9 (m : MethodId) (x0 : Addr) (x1 : Int32) : entryFrame m #[(.ref x0), (.int x1)] 2 = mkF m 0 #[.val (.ref x0), .val (.int x1)] [] := by first | (simp [entryFrame, mkF, argsToLocals, Value.category]; done) | rfl
theorem oef10 (m : MethodId) (x0 : Addr) : entryFrame m #[(.ref x0)] 3 = mkF m 0 #[.val (.ref x0), .unset, .unset] [] := by first | (simp [entryFrame, mkF, argsToLocals, Value.category]; done) | rfl
theorem oef11 (m : MethodId) (x0 : Addr) (x1 : Int32) : entryFrame m #[(.ref x0), (.int x1)] 3 = mkF m 0 #[.val (.ref x0), .val (.int x1), .unset] [] := by first | (simp [entryFrame, mkF, argsToLocals, Value.category]; done) | rfl
theorem oef12 (m : MethodId) (x0 : Addr) (x1 : Addr) (x2 : Int32) (x3 : Int32) : entryFrame m #[(.ref x0), (.ref x1), (.int x2), (.int x3)] 4 = mkF m 0 #[.val (.ref x0), .val (.ref x1), .val (.int x2), .val (.int x3)] [] := by first | (simp [entryFrame, mkF, argsToLocals, Value.category]; done) | rfl
theorem oef13 (m : MethodId) (x0 : Addr) (x1 : Int32) (x2 : Addr) : entryFrame m #[(.ref x0), (.int x1), (.ref x2)] 3 = mkF m 0 #[.val (.ref x0), .val (.int x1), .val (.ref x2)] [] := by first | (simp [entryFrame, mkF, argsToLocals, Value.category]; done) | rfl
theorem oef14 (m : MethodId) (x0 : Addr) (x1 : Addr) : entryFrame m #[(.ref x0), (.ref x1)] 3 = mkF m 0 #[.val (.ref x0), .val (.ref x1), .unset] [] := by first | (simp [entryFrame, mkF, argsToLocals, Value.category]; done) | rfl
theorem oef15 (m : MethodId) (x0 : Addr) (x1 : Int32) (x2 : Int32) : entryFrame m #[(.ref x0), (.int x1), (.int x2)] 5 = mkF m 0 #[.val (.ref x0), .val (.int x1), .val (.int x2), .unset, .unset] [] := by first | (simp [entryFrame, mkF, argsToLocals, Value.category]; done) | rfl
theorem oef16 (m : MethodId) (x0 : Addr) (x1 : Int32) (x2 : Int32) : entryFrame m #[(.ref x0), (.int x1), (.int x2)] 3 = mkF m 0 #[.val (.ref x0), .val (.int x1), .val (.int x2)] [] := by first | (simp [entryFrame, mkF, argsToLocals, Value.category]; done) | rfl
theorem oef17 (m : MethodId) (x0 : Addr) (x1 : Addr) : entryFrame m #[(.ref x0), (.ref x1), .null] 5 = mkF m 0 #[.val (.ref x0), .val (.ref x1), .val .null, .unset, .unset] [] := by first | (simp [entryFrame, mkF, argsToLocals, Value.category]; done) | rfl
theorem oef18 (m : MethodId) (x0 : Addr) : entryFrame m #[(.ref x0)] 4 = mkF m 0 #[.val (.ref x0), .unset, .unset, .unset] [] := by first | (simp [entryFrame, mkF, argsToLocals, Value.category]; done) | rfl
theorem oef19 (m : MethodId) (x0 : Int32) (x1 : Int32) (x2 : Int32) (x3 : Int32) (x4 : Int32) : entryFrame m #[(.int x0), (.int x1), (.int x2), (.int x3), (.int x4)] maxLocals = mkF m 0 #[.val (.int x0), .val (.int x1), .val (.int x2), .val (.int x3), .val (.int x4), .unset, .unset, .unset, .unset, .unset, .unset, .unset, .unset, .unset, .unset, .unset, .unset, .unset, .unset, .unset] [] := by first | (simp [entryFrame, mkF, argsToLocals, Value.category, maxLocals]; done) | rfl
theorem opn_0 : plainFor x = true := plainFor_of_name (by first | (simp [plainName, overriddenIn]; done) | decide +kernel)
theorem opn_1 : plainFor (⟨"com/example/marsh_tit/marshtit/stanza/ElementAddPinLaw", "s", "(I)Ljava/lang/String;"⟩ : MethodName) = true := plainFor_of_name (by first | (simp [plainName, overriddenIn]; done) | decide +kernel)
theorem opn_2 : plainFor (⟨"java/lang/String", "valueOf", "(C)Ljava/lang/String;"⟩ : MethodName) = true := plainFor_of_name (by first | (simp [plainName, overriddenIn]; done) | decide +kernel)
theorem opn_3 : plainFor (⟨"java/lang/StringLatin1", "canEncode", "(C)Z"⟩ : MethodName) = true := plainFor_of_name (by first | (simp [plainName, overriddenIn]; done) | decide +kernel)
theorem opn_4 : plainFor (⟨"java/lang/StringLatin1", "toBytes", "(C)[B"⟩ : MethodName) = true := plainFor_of_name (by first | (simp [plainName, overriddenIn]; done) | decide +kernel)
theorem opn_5 : plainFor (⟨"java/lang/String", "<init>", "([BB)V"⟩ : MethodName) = true := plainFor_of_name (by first | (simp [plainName, overriddenIn]; done) | decide +kernel)
theorem opn_7 : plainFor (⟨"com/example/marsh_tit/marshtit/stanza/Element", "<init>", "(Ljava/lang/String;Ljava/lang/String;)V"⟩ : MethodName) = true := plainFor_of_name (by first | (simp [plainName, overriddenIn]; done) | decide +kernel)
theorem opn_8 : plainFor (⟨"java/util/LinkedHashMap", "<init>", "()V"⟩ : MethodName) = true := plainFor_of_name (by first | (simp [plainName, overriddenIn]; done) | decide +kernel)
theorem opn_9 : plainFor (⟨"java/util/HashMap", "<init>", "()V"⟩ : MethodName) = true := plainFor_of_name (by first | (simp [plainName, overriddenIn]; done) | decide +kernel)
theorem opn_10 : plainFor (⟨"java/util/AbstractMap", "<init>", "()V"⟩ : MethodName) = true := plainFor_of_name (by first | (simp [plainName, overriddenIn]; done) | decide +kernel)
theorem opn_11 : plainFor (⟨"java/util/ArrayList", "<init>", "()V"⟩ : MethodName) = true := plainFor_of_name (by first | (simp [plainName, overriddenIn]; done) | decide +kernel)
theorem opn_12 : plainFor (⟨"java/util/AbstractList", "<init>", "()V"⟩ : MethodName) = true := plainFor_of_name (by first | (simp [plainName, overriddenIn]; done) | decide +kernel)
theorem opn_13 : plainFor (⟨"java/util/AbstractCollection", "<init>", "()V"⟩ : MethodName) = true := plainFor_of_name (by first | (simp [plainName, overriddenIn]; done) | decide +kernel)
theorem opn_14 : plainFor (⟨"java/util/Objects", "requireNonNull", "(Ljava/lang/Object;Ljava/lang/String;)Ljava/lang/Object;"⟩ : MethodName) = true := plainFor_of_name (by first | (simp [plainName, overriddenIn]; done) | decide +kernel)
theorem opn_15 : plainFor (⟨"com/example/marsh_tit/marshtit/stanza/Element", "add", "(Lcom/example/marsh_tit/marshtit/stanza/Element;)Lcom/example/marsh_tit/marshtit/stanza/Element;"⟩ : MethodName) = true := plainFor_of_name (by first | (simp [plainName, overriddenIn]; done) | decide +kernel)
theorem opn_16 : plainFor (⟨"java/util/ArrayList", "add", "(Ljava/lang/Object;)Z"⟩ : MethodName) = true := plainFor_of_name (by first | (simp [plainName, overriddenIn]; done) | decide +kernel)
theorem opn_17 : plainFor (⟨"java/util/ArrayList", "add", "(Ljava/lang/Object;[Ljava/lang/Object;I)V"⟩ : MethodName) = true := plainFor_of_name (by first | (simp [plainName, overriddenIn]; done) | decide +kernel)
theorem opn_18 : plainFor (⟨"java/util/ArrayList", "grow", "()[Ljava/lang/Object;"⟩ : MethodName) = true := plainFor_of_name (by first | (simp [plainName, overriddenIn]; done) | decide +kernel)
theorem opn_19 : plainFor (⟨"java/util/ArrayList", "grow", "(I)[Ljava/lang/Object;"⟩ : MethodName) = true := plainFor_of_name (by first | (simp [plainName, overriddenIn]; done) | decide +kernel)
theorem opn_20 : plainFor (⟨"java/lang/Math", "max", "(II)I"⟩ : MethodName) = true := Jvm.Free.JP.mathPlain rfl (by decide +kernel)
theorem opn_21 : plainFor (⟨"com/example/marsh_tit/marshtit/stanza/Element", "elements", "()Ljava/util/List;"⟩ : MethodName) = true := plainFor_of_name (by first | (simp [plainName, overriddenIn]; done) | decide +kernel)
theorem opn_22 : plainFor (⟨"java/util/ArrayList", "iterator", "()Ljava/util/Iterator;"⟩ : MethodName) = true := plainFor_of_name (by first | (simp [plainName, overriddenIn]; done) | decide +kernel)
theorem opn_23 : plainFor (⟨"java/util/ArrayList$Itr", "<init>", "(Ljava/util/ArrayList;)V"⟩ : MethodName) = true := plainFor_of_name (by first | (simp [plainName, overriddenIn]; done) | decide +kernel)
theorem opn_24 : plainFor (⟨"java/util/ArrayList$Itr", "hasNext", "()Z"⟩ : MethodName) = true := plainFor_of_name (by first | (simp [plainName, overriddenIn]; done) | decide +kernel)
theorem opn_25 : plainFor (⟨"java/util/ArrayList$Itr", "next", "()Ljava/lang/Object;"⟩ : MethodName) = true := plainFor_of_name (by first | (simp [plainName, overriddenIn]; done) | decide +kernel)
theorem opn_26 : plainFor (⟨"java/util/ArrayList$Itr", "checkForComodification", "()V"⟩ : MethodName) = true := plainFor_of_name (by first | (simp [plainName, overriddenIn]; done) | decide +kernel)
theorem opn_27 : plainFor (⟨"java/util/Collections", "unmodifiableList", "(Ljava/util/List;)Ljava/util/List;"⟩ : MethodName) = true := plainFor_of_name (by first | (simp [plainName, overriddenIn]; done) | decide +kernel)
theorem opn_28 : plainFor (⟨"java/util/Collections$UnmodifiableRandomAccessList", "<init>", "(Ljava/util/List;)V"⟩ : MethodName) = true := plainFor_of_name (by first | (simp [plainName, overriddenIn]; done) | decide +kernel)
theorem opn_29 : plainFor (⟨"java/util/Collections$UnmodifiableList", "<init>", "(Ljava/util/List;)V"⟩ : MethodName) = true := plainFor_of_name (by first | (simp [plainName, overriddenIn]; done) | decide +kernel)
theorem opn_30 : plainFor (⟨"java/util/Collections$UnmodifiableCollection", "<init>", "(Ljava/util/Collection;)V"⟩ : MethodName) = true := plainFor_of_name (by first | (simp [plainName, overriddenIn]; done) | decide +kernel)
theorem opn_31 : plainFor (⟨"java/util/Collections$UnmodifiableCollection", "size", "()I"⟩ : MethodName) = true := plainFor_of_name (by first | (simp [plainName, overriddenIn]; done) | decide +kernel)
theorem opn_32 : plainFor (⟨"java/util/ArrayList", "size", "()I"⟩ : MethodName) = true := plainFor_of_name (by first | (simp [plainName, overriddenIn]; done) | decide +kernel)
theorem opn_33 : plainFor (⟨"java/util/Collections$UnmodifiableList", "get", "(I)Ljava/lang/Object;"⟩ : MethodName) = true := plainFor_of_name (by first | (simp [plainName, overriddenIn]; done) | decide +kernel)
theorem opn_34 : plainFor (⟨"java/util/ArrayList", "get", "(I)Ljava/lang/Object;"⟩ : MethodName) = true := plainFor_of_name (by first | (simp [plainName, overriddenIn]; done) | decide +kernel)
theorem opn_35 : plainFor (⟨"java/util/Objects", "checkIndex", "(II)I"⟩ : MethodName) = true := plainFor_of_name (by first | (simp [plainName, overriddenIn]; done) | decide +kernel)
theorem opn_36 : plainFor (⟨"jdk/internal/util/Preconditions", "checkIndex", "(IILjava/util/function/BiFunction;)I"⟩ : MethodName) = true := plainFor_of_name (by first | (simp [plainName, overriddenIn]; done) | decide +kernel)
theorem opn_37 : plainFor (⟨"java/util/ArrayList", "elementData", "(I)Ljava/lang/Object;"⟩ : MethodName) = true := plainFor_of_name (by first | (simp [plainName, overriddenIn]; done) | decide +kernel)
theorem opn_38 : plainFor (⟨"com/example/marsh_tit/marshtit/stanza/Element", "text", "()Ljava/lang/String;"⟩ : MethodName) = true := plainFor_of_name (by first | (simp [plainName, overriddenIn]; done) | decide +kernel)
theorem opn_39 : plainFor (⟨"java/lang/StringBuilder", "<init>", "()V"⟩ : MethodName) = true := plainFor_of_name (by first | (simp [plainName, overriddenIn]; done) | decide +kernel)
theorem opn_40 : plainFor (⟨"java/lang/AbstractStringBuilder", "<init>", "(I)V"⟩ : MethodName) = true := plainFor_of_name (by first | (simp [plainName, overriddenIn]; done) | decide +kernel)
theorem opn_41 : plainFor (⟨"java/lang/StringBuilder", "toString", "()Ljava/lang/String;"⟩ : MethodName) = true := plainFor_of_name (by first | (simp [plainName, overriddenIn]; done) | decide +kernel)
theorem opn_42 : plainFor (⟨"java/lang/String", "<init>", "(Ljava/lang/StringBuilder;)V"⟩ : MethodName) = true := plainFor_of_name (by first | (simp [plainName, overriddenIn]; done) | decide +kernel)
theorem opn_43 : plainFor (⟨"java/lang/String", "<init>", "(Ljava/lang/AbstractStringBuilder;Ljava/lang/Void;)V"⟩ : MethodName) = true := plainFor_of_name (by first | (simp [plainName, overriddenIn]; done) | decide +kernel)
theorem opn_44 : plainFor (⟨"java/lang/AbstractStringBuilder", "getValue", "()[B"⟩ : MethodName) = true := plainFor_of_name (by first | (simp [plainName, overriddenIn]; done) | decide +kernel)
theorem opn_45 : plainFor (⟨"java/lang/StringBuilder", "length", "()I"⟩ : MethodName) = true := plainFor_of_name (by first | (simp [plainName, overriddenIn]; done) | decide +kernel)
theorem opn_46 : plainFor (⟨"java/lang/AbstractStringBuilder", "length", "()I"⟩ : MethodName) = true := plainFor_of_name (by first | (simp [plainName, overriddenIn]; done) | decide +kernel)
theorem opn_47 : plainFor (⟨"java/lang/AbstractStringBuilder", "isLatin1", "()Z"⟩ : MethodName) = true := plainFor_of_name (by first | (simp [plainName, overriddenIn]; done) | decide +kernel)
theorem opn_48 : plainFor (⟨"java/util/Arrays", "copyOfRange", "([BII)[B"⟩ : MethodName) = true := plainFor_of_name (by first | (simp [plainName, overriddenIn]; done) | decide +kernel)
theorem opn_49 : plainFor (⟨"java/util/Arrays", "copyOfRangeByte", "([BII)[B"⟩ : MethodName) = true := plainFor_of_name (by first | (simp [plainName, overriddenIn]; done) | decide +kernel)
theorem opn_50 : plainFor (⟨"java/util/Arrays", "checkLength", "(II)V"⟩ : MethodName) = true := plainFor_of_name (by first | (simp [plainName, overriddenIn]; done) | decide +kernel)
theorem opn_51 : plainFor (⟨"java/lang/Math", "min", "(II)I"⟩ : MethodName) = true := Jvm.Free.JP.mathPlain rfl (by decide +kernel)
theorem opn_52 : plainFor (⟨"java/lang/String", "equals", "(Ljava/lang/Object;)Z"⟩ : MethodName) = true := plainFor_of_name (by first | (simp [plainName, overriddenIn]; done) | decide +kernel)
theorem opn_53 : plainFor (⟨"java/lang/StringLatin1", "equals", "([B[B)Z"⟩ : MethodName) = true := plainFor_of_name (by first | (simp [plainName, overriddenIn]; done) | decide +kernel)
theorem opn_54 : plainFor (⟨"com/example/marsh_tit/marshtit/stanza/Element", "addText", "(Ljava/lang/String;)Lcom/example/marsh_tit/marshtit/stanza/Element;"⟩ : MethodName) = true := plainFor_of_name (by first | (simp [plainName, overriddenIn]; done) | decide +kernel)
theorem opn_55 : plainFor (⟨"java/lang/String", "isEmpty", "()Z"⟩ : MethodName) = true := plainFor_of_name (by first | (simp [plainName, overriddenIn]; done) | decide +kernel)
theorem opn_56 : plainFor (⟨"java/lang/StringBuilder", "append", "(Ljava/lang/String;)Ljava/lang/StringBuilder;"⟩ : MethodName) = true := plainFor_of_name (by first | (simp [plainName, overriddenIn]; done) | decide +kernel)
theorem opn_57 : plainFor (⟨"java/lang/AbstractStringBuilder", "append", "(Ljava/lang/String;)Ljava/lang/AbstractStringBuilder;"⟩ : MethodName) = true := plainFor_of_name (by first | (simp [plainName, overriddenIn]; done) | decide +kernel)
theorem opn_58 : plainFor (⟨"java/lang/String", "length", "()I"⟩ : MethodName) = true := plainFor_of_name (by first | (simp [plainName, overriddenIn]; done) | decide +kernel)
theorem opn_59 : plainFor (⟨"java/lang/String", "coder", "()B"⟩ : MethodName) = true := plainFor_of_name (by first | (simp [plainName, overriddenIn]; done) | decide +kernel)
theorem opn_60 : plainFor (⟨"java/lang/AbstractStringBuilder", "ensureCapacityInternal", "(I)V"⟩ : MethodName) = true := plainFor_of_name (by first | (simp [plainName, overriddenIn]; done) | decide +kernel)
theorem opn_61 : plainFor (⟨"java/lang/AbstractStringBuilder", "putStringAt", "(ILjava/lang/String;)V"⟩ : MethodName) = true := plainFor_of_name (by first | (simp [plainName, overriddenIn]; done) | decide +kernel)
theorem opn_62 : plainFor (⟨"java/lang/AbstractStringBuilder", "inflateIfNeededFor", "(Ljava/lang/String;)V"⟩ : MethodName) = true := plainFor_of_name (by first | (simp [plainName, overriddenIn]; done) | decide +kernel)
theorem opn_63 : plainFor (⟨"java/lang/String", "getBytes", "([BIB)V"⟩ : MethodName) = true := plainFor_of_name (by first | (simp [plainName, overriddenIn]; done) | decide +kernel)
theorem own_hEL {a0 : Array Value} {Z : State} (hw : HW a0 Z) : EW Z a0 own_EL := (EW.cons (hw _ (List.mem_of_getElem? (i := 287) rfl)) (by decide) EW.nil)
theorem own_wS {a0 : Array Value} {Z : State} (hw : HW a0 Z) : ∀ a ∈ Bundle.stringAtoms, a.before a0 Z = true := by
  intro a ha
  simp only [Bundle.stringAtoms, List.mem_cons, List.not_mem_nil, or_false] at ha
  rcases ha with rfl | rfl | rfl | rfl | rfl | rfl | rfl
  · exact (ow9 hw)
  · exact (ow17 hw)
  · exact (ow21 hw)
  · exact (ow30 hw)
  · exact (ow32 hw)
  · exact (ow92 hw)
  · exact (ow93 hw)
theorem own_nb (x : Int32) : nar .byte (x.toInt8.toInt32) = x.toInt8.toInt32 := by
 show x.toInt8.toInt32.toInt8.toInt32 = x.toInt8.toInt32
 simp
theorem own_strarr {Z : State} {h : Heap} {a b : Addr} {C : String} {k : ClassId} {ty : FieldType} {z : Int32} {vs : List Value} {dv : Value} {a0 : Array Value} {n : Nat} (E : Exa Z h a C) (A : Arv Z h b k ty z vs dv) (w : (Cond.instantiable C n).before a0 Z = true) (q : a = b) : False := by
 obtain ⟨cl, A, -⟩ := A
 exact ne_arr E w A q
theorem own_ne0 {args : Array Value} {s : State} {t : Term} {x : Int32} (e : t.eval args s none [] s = some (.int x)) (h : (Cond.not (Cond.eq t (Term.int 0))).value args s none s [] = some true) : ¬ x = 0 := by
 have h := not_v h
 simp only [Cond.value, Term.eval, e] at h
 simpa using h
theorem own_byte {c : Int32} (h : 0 ≤ c.toInt ∧ c.toInt ≤ 255) : ∃ n : Fin 256, c = Int32.ofNat n.val := by
 refine ⟨⟨c.toInt.toNat, by omega⟩, ?_⟩
 apply Int32.toInt_inj.mp
 rw [Int32.toInt_ofNat_of_lt (by omega)]
 show c.toInt = ((c.toInt.toNat : Nat) : Int)
 omega
theorem own_ch {c : Int32} (h : 0 ≤ c.toInt ∧ c.toInt ≤ 255) : nar .char ((c.toInt8.toInt32 &&& 255).toUInt32.toUInt16.toUInt32.toInt32) = c := by
 obtain ⟨n, rfl⟩ := own_byte h
 revert n; decide +kernel
theorem own_nc {c : Int32} (h : 0 ≤ c.toInt ∧ c.toInt ≤ 255) : nar .char c = c := by
 obtain ⟨n, rfl⟩ := own_byte h
 revert n; decide +kernel
theorem own_shr0 (x : Int32) : x >>> ((0 : Int32) &&& 31) = x := by
 have h := c_ishr x 0 0 (by decide)
 apply Int32.toInt_inj.mp
 rw [h]; simp
theorem own_le255 {c : Int32} (h : 0 ≤ c.toInt ∧ c.toInt ≤ 255) : ¬ (255 : Int32) < c := by
 rw [Int32.lt_iff_toInt_lt]
 have e : (255 : Int32).toInt = 255 := by decide
 omega
theorem own_arvstart {s : State} {args : Array Value} {t : Term} {a : Addr} {cl : Cell} {ty : FieldType} {z : Int32} {vs : List Value} {dv : Value} (hf : Fit s) (ev : t.eval args s none [] s = some (.ref a)) (A : Arr s s.heap a cl ty) (hl : (Term.length t).eval args s none [] s = some (.int z)) (hz : ¬ z < 0) (hn : z.toNatClampNeg = vs.length) (H : HasL cl 0 vs) : Arv s s.heap a cl.cls ty z vs dv := by
 obtain ⟨a', cell, e1, e2, e3, e4⟩ := Jvm.Free.SB.Term.length_small hl
 cases ev.symm.trans e1
 cases (Arr.fin (Vm.Alike.refl _) A).symm.trans e2
 exact Arv.start hf A e4 (Value.int.inj e3).symm hz hn H
theorem own_elem {s : State} {args : Array Value} {t u : Term} {a b : Addr} {cl : Cell} {ty : FieldType} {j : Int32} {k : Nat} (ev : t.eval args s none [] s = some (.ref a)) (A : Arr s s.heap a cl ty) (eu : u.eval args s none [] s = some (.ref b)) (h : (Cond.eq (Term.elem t (Term.int j)) u).value args s none s [] = some true) (hj : j.toNatClampNeg = k) : cl.slots[k]? = some (.ref b) := by
 subst hj
 obtain ⟨x, y, e1, e2, -, -⟩ := cmp_v (Or.inl h)
 cases eu.symm.trans e2
 have hx : x = .ref b := by
  have h' := h
  simp only [Cond.value, e1, e2] at h'
  cases x <;> simp at h' ⊢
  exact h'
 subst hx
 exact (elem_in e1 ev (Term.int_eval j) A.1).2
theorem own_chi (x : Int32) : 0 ≤ ((x &&& 255).toUInt32.toUInt16.toUInt32.toInt32).toInt ∧ ((x &&& 255).toUInt32.toUInt16.toUInt32.toInt32).toInt ≤ 255 := by
 have h1 := c_mask x 255 8 (by decide) (by decide)
 have h : 0 ≤ (x &&& 255).toInt ∧ (x &&& 255).toInt ≤ 255 := by omega
 have e : (x &&& 255).toUInt32.toUInt16.toUInt32.toInt32 = x &&& 255 := own_nc h
 rw [e]; exact h
theorem own_chz {z x : Int32} (h : z = (x &&& 255).toUInt32.toUInt16.toUInt32.toInt32) : 0 ≤ z.toInt ∧ z.toInt ≤ 255 := h ▸ own_chi x
theorem own_shl0 (x : Int32) : x <<< ((0 : Int32) &&& 31) = x := by
 have h := c_ishl x 0 0 (by decide)
 have r := rng32 x
 have r2 := rng32 (x <<< ((0 : Int32) &&& 31))
 apply Int32.toInt_inj.mp
 omega
theorem own_mir {C : String} {s : State} (h : MirrorMade s C) : ∃ m, (Term.mirror C).eval #[] s none [] s = some (.ref m) ∧ Mir s C m := by
 obtain ⟨c, k, m, h1, h2, h3, h4⟩ := h
 exact ⟨m, by simp [Term.eval, h1, h2, h3], c, k, h1, h2, h3, h4⟩
theorem own_held {tb : Tables} {e : Env} {args : Array Value} {s : State} (h : call_1_4 tb e args s) : ∀ p ∈ own_EL, Jvm.Lit.constHeld s p.1 p.2 := fun p hp => h p ((by decide : ∀ p ∈ own_EL, p ∈ consts_1) p hp)
theorem rm_am (l : Launch) (Z : State) (a0 : Array Value) (hw : HW a0 Z) (a1 : Addr) (h0 : Heap) (n0 : Nat) (O : Old Z n0 h0) :
  Con l Z (⟨"java/util/AbstractMap", "<init>", "()V"⟩ : MethodName) jdk_71_method_1_code 1 none ({ frames := 1, cells := 0, slots := 0, locals := 12 } : Room) #[(.ref a1)] h0 (fun v h L => v = none ∧ Fr n0 L ∧ h = h0) := by
 refine own_startC opn_10 ?_
 intro p e s m below meth c T0 X0 hx hby hml hZ hown hnm hret hlk e0
 have N := Fr.nil n0
 refine OG.cast (oef0 m a1) ?_
 refine og_aloadN X0 hx rfl rfl (hb hby d10_0) rfl ?_
 refine og_initO (pc' := 4) X0 hx hZ (W := 0) (by rw [hml]; rfl) hown (ow55 hw) (ow27 hw) (ow28 hw) e0 rfl (by decide) (by decide) (hb hby d10_1) rfl (fun T11 X11 e11 => ?_)
 refine og_retV X11 hx hlk hret (hb hby d10_4) (by decide) (by decide) ?_
 rw [e11]; exact ⟨rfl, N, rfl⟩
theorem rm_ac (l : Launch) (Z : State) (a0 : Array Value) (hw : HW a0 Z) (a1 : Addr) (h0 : Heap) (n0 : Nat) (O : Old Z n0 h0) :
  Con l Z (⟨"java/util/AbstractCollection", "<init>", "()V"⟩ : MethodName) jdk_22_method_1_code 1 none ({ frames := 1, cells := 0, slots := 0, locals := 12 } : Room) #[(.ref a1)] h0 (fun v h L => v = none ∧ Fr n0 L ∧ h = h0) := by
 refine own_startC opn_13 ?_
 intro p e s m below meth c T0 X0 hx hby hml hZ hown hnm hret hlk e0
 have N := Fr.nil n0
 refine OG.cast (oef0 m a1) ?_
 refine og_aloadN X0 hx rfl rfl (hb hby d13_0) rfl ?_
 refine og_initO (pc' := 4) X0 hx hZ (W := 0) (by rw [hml]; rfl) hown (ow83 hw) (ow27 hw) (ow28 hw) e0 rfl (by decide) (by decide) (hb hby d13_1) rfl (fun T11 X11 e11 => ?_)
 refine og_retV X11 hx hlk hret (hb hby d13_4) (by decide) (by decide) ?_
 rw [e11]; exact ⟨rfl, N, rfl⟩
theorem rm_hm2 (l : Launch) (Z : State) (a0 : Array Value) (hw : HW a0 Z) (a1 : Addr) (h0 : Heap) (n0 : Nat) (O : Old Z n0 h0) (E_a1 : Exa Z h0 a1 "java/util/LinkedHashMap") (F_loadFactor_a1 : Fld Z h0 a1 "java/util/HashMap" "loadFactor" "F" (.float (0 : UInt32))) (F_putMode_a1 : Fld Z h0 a1 "java/util/LinkedHashMap" "putMode" "I" (.int 0)) (F_accessOrder_a1 : Fld Z h0 a1 "java/util/LinkedHashMap" "accessOrder" "Z" (.int 0)) (g_a1 : n0 ≤ a1) :
  Con l Z (⟨"java/util/HashMap", "<init>", "()V"⟩ : MethodName) jdk_69_method_7_code 1 none ({ frames := 2, cells := 0, slots := 0, locals := 24 } : Room) #[(.ref a1)] h0 (fun v h L => v = none ∧ Fr n0 L ∧ Keep h0 h [a1] ∧ Fld Z h a1 "java/util/LinkedHashMap" "putMode" "I" (.int 0) ∧ Fld Z h a1 "java/util/LinkedHashMap" "accessOrder" "Z" (.int 0)) := by
 refine own_startC opn_9 ?_
 intro p e s m below meth c T0 X0 hx hby hml hZ hown hnm hret hlk e0
 have N := Fr.nil n0; have K := Keep.refl h0 [a1]
 refine OG.cast (oef0 m a1) ?_
 refine og_aloadN X0 hx rfl rfl (hb hby d9_0) rfl ?_
 refine og_special (pc' := 4) (cells' := 0) (slots' := 0) (W := 0) X0 hx hZ (rm_am l Z a0 hw a1 h0 n0 O) rfl hown (ow49 hw) (ow50 hw) (ow53 hw) (ow54 hw) (by decide) (by rw [hml]; rfl) e0 opd_0 [] [] rfl rfl rfl rfl (by decide) (by decide) rfl rfl (by decide) (by decide) (hb hby d9_1) rfl (fun v11 T11 h11 L11 X11 e11 z11 => ?_)
 obtain ⟨rfl, Nq11, hq11⟩ := z11; replace e11 := e11.trans hq11; have N := Fr.app N Nq11
 refine og_aloadN X11 hx rfl rfl (hb hby d9_4) rfl ?_
 refine og_ldcF (pc' := 7) X11 hx hZ hown (ow56 hw) (hb hby d9_5) rfl ?_
 refine og_putfield X11 hx hZ (ty := .float) (host := "") hown (Or.inl (ow57 hw)) Via.refl e11 F_loadFactor_a1 E_a1 (Or.inr ⟨(ow58 hw), rfl, hnm⟩) (ow38 hw) (by decide) rfl rfl (hb hby d9_7) rfl (fun T12 h12 X12 e12 W12 => ?_)
 have F_putMode_a1 := F_putMode_a1.other W12 (Or.inr (slot_ne (Or.inl (ow60 hw)) (Or.inr (ow58 hw)) (by decide) (t := .int) (t' := .float) (by decide) (by decide))); have F_accessOrder_a1 := F_accessOrder_a1.other W12 (Or.inr (slot_ne (Or.inr (ow62 hw)) (Or.inr (ow58 hw)) (by decide) (t := .boolean) (t' := .float) (by decide) (by decide))); have K := K.wr W12 (Or.inl (List.mem_of_getElem? (i := 0) rfl))
 have N := Fr.snoc X12 N g_a1
 refine og_retV X12 hx hlk hret (hb hby d9_10) (by decide) (by decide) ?_
 rw [e12]; exact ⟨rfl, N, K, F_putMode_a1, F_accessOrder_a1⟩
theorem rm_lh (l : Launch) (Z : State) (a0 : Array Value) (hw : HW a0 Z) (a1 : Addr) (h0 : Heap) (n0 : Nat) (O : Old Z n0 h0) (E_a1 : Exa Z h0 a1 "java/util/LinkedHashMap") (F_loadFactor_a1 : Fld Z h0 a1 "java/util/HashMap" "loadFactor" "F" (.float (0 : UInt32))) (F_putMode_a1 : Fld Z h0 a1 "java/util/LinkedHashMap" "putMode" "I" (.int 0)) (F_accessOrder_a1 : Fld Z h0 a1 "java/util/LinkedHashMap" "accessOrder" "Z" (.int 0)) (g_a1 : n0 ≤ a1) :
  Con l Z (⟨"java/util/LinkedHashMap", "<init>", "()V"⟩ : MethodName) jdk_94_method_16_code 1 none ({ frames := 3, cells := 0, slots := 0, locals := 36 } : Room) #[(.ref a1)] h0 (fun v h L => v = none ∧ Fr n0 L ∧ Keep h0 h [a1]) := by
 refine own_startC opn_8 ?_
 intro p e s m below meth c T0 X0 hx hby hml hZ hown hnm hret hlk e0
 have N := Fr.nil n0; have K := Keep.refl h0 [a1]
 refine OG.cast (oef0 m a1) ?_
 refine og_aloadN X0 hx rfl rfl (hb hby d8_0) rfl ?_
 refine og_special (pc' := 4) (cells' := 0) (slots' := 0) (W := 0) X0 hx hZ (rm_hm2 l Z a0 hw a1 h0 n0 O E_a1 F_loadFactor_a1 F_putMode_a1 F_accessOrder_a1 g_a1) rfl hown (ow43 hw) (ow44 hw) (ow47 hw) (ow48 hw) (by decide) (by rw [hml]; rfl) e0 opd_0 [] [] rfl rfl rfl rfl (by decide) (by decide) rfl rfl (by decide) (by decide) (hb hby d8_1) rfl (fun v11 T11 h11 L11 X11 e11 z11 => ?_)
 obtain ⟨rfl, Nq11, K11, F_putMode_a1', F_accessOrder_a1'⟩ := z11; have N := Fr.app N Nq11
 have E_a1 := E_a1.keep K11; have K := K.trans K11 (allS (Or.inl (List.mem_of_getElem? (i := 0) rfl)) all0)
 have F_putMode_a1 := F_putMode_a1'; have F_accessOrder_a1 := F_accessOrder_a1'
 refine og_aloadN X11 hx rfl rfl (hb hby d8_4) rfl ?_
 refine og_iconst (v := 0) X11 hx rfl (hb hby d8_5) rfl ?_
 refine og_putfield X11 hx hZ (ty := .int) (host := "") hown (Or.inl (ow59 hw)) Via.refl e11 F_putMode_a1 E_a1 (Or.inl (ow60 hw)) (ow38 hw) (by decide) rfl rfl (hb hby d8_6) rfl (fun T12 h12 X12 e12 W12 => ?_)
 have E_a1 := E_a1.wr W12; have F_accessOrder_a1 := F_accessOrder_a1.other W12 (Or.inr (slot_ne (Or.inr (ow62 hw)) (Or.inl (ow60 hw)) (by decide) (t := .boolean) (t' := .int) (by decide) (by decide))); have K := K.wr W12 (Or.inl (List.mem_of_getElem? (i := 0) rfl))
 have N := Fr.snoc X12 N g_a1
 refine og_aloadN X12 hx rfl rfl (hb hby d8_9) rfl ?_
 refine og_iconst (v := 0) X12 hx rfl (hb hby d8_10) rfl ?_
 refine og_putfield X12 hx hZ (ty := .boolean) (host := "") hown (Or.inl (ow61 hw)) Via.refl e12 F_accessOrder_a1 E_a1 (Or.inr ⟨(ow62 hw), rfl, hnm⟩) (ow38 hw) (by decide) rfl rfl (hb hby d8_11) rfl (fun T13 h13 X13 e13 W13 => ?_)
 have K := K.wr W13 (Or.inl (List.mem_of_getElem? (i := 0) rfl))
 have N := Fr.snoc X13 N g_a1
 refine og_retV X13 hx hlk hret (hb hby d8_14) (by decide) (by decide) ?_
 rw [e13]; exact ⟨rfl, N, K⟩
theorem rm_ab (l : Launch) (Z : State) (a0 : Array Value) (hw : HW a0 Z) (a1 : Addr) (h0 : Heap) (n0 : Nat) (O : Old Z n0 h0) (E_a1 : Exa Z h0 a1 "java/util/ArrayList") (F_modCount_a1 : Fld Z h0 a1 "java/util/AbstractList" "modCount" "I" (.int 0)) (F_elementData_a1 : Fld Z h0 a1 "java/util/ArrayList" "elementData" "[Ljava/lang/Object;" .null) (F_size_a1 : Fld Z h0 a1 "java/util/ArrayList" "size" "I" (.int 0)) (g_a1 : n0 ≤ a1) :
  Con l Z (⟨"java/util/AbstractList", "<init>", "()V"⟩ : MethodName) jdk_39_method_1_code 1 none ({ frames := 2, cells := 0, slots := 0, locals := 24 } : Room) #[(.ref a1)] h0 (fun v h L => v = none ∧ Fr n0 L ∧ Keep h0 h [a1] ∧ Fld Z h a1 "java/util/AbstractList" "modCount" "I" (.int 0) ∧ Fld Z h a1 "java/util/ArrayList" "elementData" "[Ljava/lang/Object;" .null ∧ Fld Z h a1 "java/util/ArrayList" "size" "I" (.int 0)) := by
 refine own_startC opn_12 ?_
 intro p e s m below meth c T0 X0 hx hby hml hZ hown hnm hret hlk e0
 have N := Fr.nil n0; have K := Keep.refl h0 [a1]
 refine OG.cast (oef0 m a1) ?_
 refine og_aloadN X0 hx rfl rfl (hb hby d12_0) rfl ?_
 refine og_special (pc' := 4) (cells' := 0) (slots' := 0) (W := 0) X0 hx hZ (rm_ac l Z a0 hw a1 h0 n0 O) rfl hown (ow77 hw) (ow78 hw) (ow81 hw) (ow82 hw) (by decide) (by rw [hml]; rfl) e0 opd_0 [] [] rfl rfl rfl rfl (by decide) (by decide) rfl rfl (by decide) (by decide) (hb hby d12_1) rfl (fun v11 T11 h11 L11 X11 e11 z11 => ?_)
 obtain ⟨rfl, Nq11, hq11⟩ := z11; replace e11 := e11.trans hq11; have N := Fr.app N Nq11
 refine og_aloadN X11 hx rfl rfl (hb hby d12_4) rfl ?_
 refine og_iconst (v := 0) X11 hx rfl (hb hby d12_5) rfl ?_
 refine og_putfield X11 hx hZ (ty := .int) (host := "") hown (Or.inl (ow84 hw)) Via.refl e11 F_modCount_a1 E_a1 (Or.inl (ow85 hw)) (ow66 hw) (by decide) rfl rfl (hb hby d12_6) rfl (fun T12 h12 X12 e12 W12 => ?_)
 have F_modCount_a1_ := F_modCount_a1.same W12
 have F_elementData_a1 := F_elementData_a1.other W12 (Or.inr (slot_ne (Or.inl (ow88 hw)) (Or.inl (ow85 hw)) (by decide) (t := (.array (.object "java/lang/Object"))) (t' := .int) (by decide) (by decide))); have F_size_a1 := F_size_a1.other W12 (Or.inr (slot_ne (Or.inl (ow122 hw)) (Or.inl (ow85 hw)) (by decide) (t := .int) (t' := .int) (by decide) (by decide))); have K := K.wr W12 (Or.inl (List.mem_of_getElem? (i := 0) rfl))
 have N := Fr.snoc X12 N g_a1; have F_modCount_a1 := F_modCount_a1_
 refine og_retV X12 hx hlk hret (hb hby d12_9) (by decide) (by decide) ?_
 rw [e12]; exact ⟨rfl, N, K, F_modCount_a1, F_elementData_a1, F_size_a1⟩
theorem rm_al (l : Launch) (Z : State) (a0 : Array Value) (hw : HW a0 Z) (a1 de : Addr) (h0 : Heap) (n0 : Nat) (O : Old Z n0 h0) (E_a1 : Exa Z h0 a1 "java/util/ArrayList") (F_modCount_a1 : Fld Z h0 a1 "java/util/AbstractList" "modCount" "I" (.int 0)) (F_elementData_a1 : Fld Z h0 a1 "java/util/ArrayList" "elementData" "[Ljava/lang/Object;" .null) (F_size_a1 : Fld Z h0 a1 "java/util/ArrayList" "size" "I" (.int 0)) (S_DE : Sta Z Z.heap "java/util/ArrayList" "DEFAULTCAPACITY_EMPTY_ELEMENTDATA" "[Ljava/lang/Object;" (.ref de)) (g_a1 : n0 ≤ a1) :
  Con l Z (⟨"java/util/ArrayList", "<init>", "()V"⟩ : MethodName) jdk_38_method_2_code 1 none ({ frames := 3, cells := 0, slots := 0, locals := 36 } : Room) #[(.ref a1)] h0 (fun v h L => v = none ∧ Fr n0 L ∧ Keep h0 h [a1] ∧ Fld Z h a1 "java/util/AbstractList" "modCount" "I" (.int 0) ∧ Fld Z h a1 "java/util/ArrayList" "elementData" "[Ljava/lang/Object;" (.ref de) ∧ Fld Z h a1 "java/util/ArrayList" "size" "I" (.int 0)) := by
 refine own_startC opn_11 ?_
 intro p e s m below meth c T0 X0 hx hby hml hZ hown hnm hret hlk e0
 have N := Fr.nil n0; have K := Keep.refl h0 [a1]
 refine OG.cast (oef0 m a1) ?_
 refine og_aloadN X0 hx rfl rfl (hb hby d11_0) rfl ?_
 refine og_special (pc' := 4) (cells' := 0) (slots' := 0) (W := 0) X0 hx hZ (rm_ab l Z a0 hw a1 h0 n0 O E_a1 F_modCount_a1 F_elementData_a1 F_size_a1 g_a1) rfl hown (ow71 hw) (ow72 hw) (ow75 hw) (ow76 hw) (by decide) (by rw [hml]; rfl) e0 opd_0 [] [] rfl rfl rfl rfl (by decide) (by decide) rfl rfl (by decide) (by decide) (hb hby d11_1) rfl (fun v11 T11 h11 L11 X11 e11 z11 => ?_)
 obtain ⟨rfl, Nq11, K11, F_modCount_a1', F_elementData_a1', F_size_a1'⟩ := z11; have N := Fr.app N Nq11
 have E_a1 := E_a1.keep K11; have O := O.keep K11 (allS g_a1 all0); have K := K.trans K11 (allS (Or.inl (List.mem_of_getElem? (i := 0) rfl)) all0)
 have F_modCount_a1 := F_modCount_a1'; have F_elementData_a1 := F_elementData_a1'; have F_size_a1 := F_size_a1'
 refine og_aloadN X11 hx rfl rfl (hb hby d11_4) rfl ?_
 refine og_getstatic X11 hx hZ (host := "") hown (Or.inl (ow86 hw)) Via.refl e11 (S_DE.ext O.2) (hb hby d11_5) rfl (fun T12 X12 e12 => ?_)
 refine og_putfield X12 hx hZ (ty := (.array (.object "java/lang/Object"))) (host := "") hown (Or.inl (ow87 hw)) Via.refl e12 F_elementData_a1 E_a1 (Or.inl (ow88 hw)) (ow66 hw) (by decide) rfl rfl (hb hby d11_8) rfl (fun T13 h13 X13 e13 W13 => ?_)
 have F_elementData_a1_ := F_elementData_a1.same W13
 have F_modCount_a1 := F_modCount_a1.other W13 (Or.inr (slot_ne (Or.inl (ow85 hw)) (Or.inl (ow88 hw)) (by decide) (t := .int) (t' := (.array (.object "java/lang/Object"))) (by decide) (by decide))); have F_size_a1 := F_size_a1.other W13 (Or.inr (slot_ne (Or.inl (ow122 hw)) (Or.inl (ow88 hw)) (by decide) (t := .int) (t' := (.array (.object "java/lang/Object"))) (by decide) (by decide))); have K := K.wr W13 (Or.inl (List.mem_of_getElem? (i := 0) rfl))
 have N := Fr.snoc X13 N g_a1; have F_elementData_a1 := F_elementData_a1_
 refine og_retV X13 hx hlk hret (hb hby d11_11) (by decide) (by decide) ?_
 rw [e13]; exact ⟨rfl, N, K, F_modCount_a1, F_elementData_a1, F_size_a1⟩
theorem rm_rnn (l : Launch) (Z : State) (a0 : Array Value) (hw : HW a0 Z) (a1 a2 : Addr) (h0 : Heap) (n0 : Nat) (O : Old Z n0 h0) :
  Con l Z (⟨"java/util/Objects", "requireNonNull", "(Ljava/lang/Object;Ljava/lang/String;)Ljava/lang/Object;"⟩ : MethodName) jdk_31_method_11_code 2 (some (.object "java/lang/Object")) ({ frames := 0, cells := 0, slots := 0, locals := 0 } : Room) #[(.ref a1), (.ref a2)] h0 (fun v h L => v = some (.ref a1) ∧ Fr n0 L ∧ h = h0) := by
 refine own_startC opn_14 ?_
 intro p e s m below meth c T0 X0 hx hby hml hZ hown hnm hret hlk e0
 have N := Fr.nil n0
 refine OG.cast (oef1 m a1 a2) ?_
 refine og_aloadN X0 hx rfl rfl (hb hby d14_0) rfl ?_
 refine og_ifnonnull (pc1 := 13) (pc2 := 4) X0 hx rfl (hb hby d14_1) (by decide) (by decide) rfl (fun _ => ?_) (fun q => absurd q nofun)
 refine og_aloadN X0 hx rfl rfl (hb hby d14_13) rfl ?_
 refine og_retR X0 hx hlk hret rfl rfl rfl (hb hby d14_14) (by decide) (by decide) ?_
 rw [e0]; exact ⟨rfl, N, rfl⟩
theorem rm_el (l : Launch) (Z : State) (a0 : Array Value) (hw : HW a0 Z) (t1 s1 s2 de : Addr) (h0 : Heap) (n0 : Nat) (O : Old Z n0 h0) (hEL : EW Z a0 own_EL) (E_t1 : Exa Z h0 t1 "com/example/marsh_tit/marshtit/stanza/Element") (F__attributes_t1 : Fld Z h0 t1 "com/example/marsh_tit/marshtit/stanza/Element" "_attributes" "Ljava/util/Map;" .null) (F__children_t1 : Fld Z h0 t1 "com/example/marsh_tit/marshtit/stanza/Element" "_children" "Ljava/util/List;" .null) (F__namespace_t1 : Fld Z h0 t1 "com/example/marsh_tit/marshtit/stanza/Element" "_namespace" "Ljava/lang/String;" .null) (F__name_t1 : Fld Z h0 t1 "com/example/marsh_tit/marshtit/stanza/Element" "_name" "Ljava/lang/String;" .null) (E_s1 : Exa Z h0 s1 "java/lang/String") (E_s2 : Exa Z h0 s2 "java/lang/String") (S_DE : Sta Z Z.heap "java/util/ArrayList" "DEFAULTCAPACITY_EMPTY_ELEMENTDATA" "[Ljava/lang/Object;" (.ref de)) (g_t1 : n0 ≤ t1) (ne_s1_t1 : s1 ≠ t1) (ne_s2_t1 : s2 ≠ t1) :
  ConW l Z own_EL [] (⟨"com/example/marsh_tit/marshtit/stanza/Element", "<init>", "(Ljava/lang/String;Ljava/lang/String;)V"⟩ : MethodName) prog_19_method_1_code 3 none ({ frames := 4, cells := 6, slots := 75, locals := 50 } : Room) #[(.ref t1), (.ref s1), (.ref s2)] h0 (fun v h L => v = none ∧ Fr n0 L ∧ Keep h0 h [t1] ∧ Fld Z h t1 "com/example/marsh_tit/marshtit/stanza/Element" "_namespace" "Ljava/lang/String;" (.ref s1) ∧ Fld Z h t1 "com/example/marsh_tit/marshtit/stanza/Element" "_name" "Ljava/lang/String;" (.ref s2) ∧ ∃ ll, h0.size ≤ ll ∧ Fld Z h t1 "com/example/marsh_tit/marshtit/stanza/Element" "_children" "Ljava/util/List;" (.ref ll) ∧ Exa Z h ll "java/util/ArrayList" ∧ Fld Z h ll "java/util/AbstractList" "modCount" "I" (.int 0) ∧ Fld Z h ll "java/util/ArrayList" "elementData" "[Ljava/lang/Object;" (.ref de) ∧ Fld Z h ll "java/util/ArrayList" "size" "I" (.int 0)) := by
 refine own_startWC opn_7 ?_
 intro p e s m below meth c T0 X0 hx hby hml hZ hown hnm hret hlk e0 es hS CR hsf
 have N := Fr.nil n0; have K := Keep.refl h0 [t1]; have hk := Nat.le_refl h0.size
 refine OG.cast (oef2 m t1 s1 s2) ?_
 refine og_aloadN X0 hx rfl rfl (hb hby d7_0) rfl ?_
 refine og_initO (pc' := 4) X0 hx hZ (W := 0) (by rw [hml]; rfl) hown (ow36 hw) (ow27 hw) (ow28 hw) e0 rfl (by decide) (by decide) (hb hby d7_1) rfl (fun T11 X11 e11 => ?_)
 refine og_aloadN X11 hx rfl rfl (hb hby d7_4) rfl ?_
 refine og_new (pc' := 8) (cells' := 1) (slots' := 12) X11 hx hZ hown (ow37 hw) (ow38 hw) (ow39 hw) e11 (hb hby d7_5) rfl rfl rfl (by decide) (by decide) (fun T12 h12 nb12 X12 e12 E12 q12 E_nb12 D12 B12 => ?_)
 have s_nb12 : h0.size ≤ nb12 := Nat.le_of_eq q12.symm; have g_nb12 : n0 ≤ nb12 := Nat.le_trans (own_n0 O) s_nb12; have sz_nb12 : h0.size ≤ nb12 := Nat.le_trans K.1 s_nb12; have ne_t1_nb12 : t1 ≠ nb12 := Nat.ne_of_lt (Nat.lt_of_lt_of_le E_t1.lt s_nb12)
 have Q_nb12 : Safe Z own_EL _ _ nb12 := Safe.new (Z := Z) (EL := own_EL) (vm := s.vm) s_nb12
 have Q_nb12 := Safe.ext E12 CR.1 Q_nb12; have E_t1 := E_t1.ext E12; have F__attributes_t1 := F__attributes_t1.ext E12; have F__children_t1 := F__children_t1.ext E12; have F__namespace_t1 := F__namespace_t1.ext E12; have F__name_t1 := F__name_t1.ext E12
 have E_s1 := E_s1.ext E12; have E_s2 := E_s2.ext E12; have O := O.ext E12; have K := K.ext E12; have hk := Nat.le_trans hk E12.1; have CR := CR.trans (CHr.ext E12 CR.1)
 have F_loadFactor_nb12 : Fld Z h12 nb12 "java/util/HashMap" "loadFactor" "F" (.float (0 : UInt32)) := D12 (Or.inr (ow58 hw)) (ty := .float) (by decide)
 have F_putMode_nb12 : Fld Z h12 nb12 "java/util/LinkedHashMap" "putMode" "I" (.int 0) := D12 (Or.inl (ow60 hw)) (ty := .int) (by decide)
 have F_accessOrder_nb12 : Fld Z h12 nb12 "java/util/LinkedHashMap" "accessOrder" "Z" (.int 0) := D12 (Or.inr (ow62 hw)) (ty := .boolean) (by decide)
 refine og_dup X12 hx rfl (hb hby d7_8) rfl ?_
 refine og_special (pc' := 12) (cells' := 1) (slots' := 12) (W := 2) X12 hx hZ (rm_lh l Z a0 hw nb12 h12 n0 O E_nb12 F_loadFactor_nb12 F_putMode_nb12 F_accessOrder_nb12 g_nb12) rfl hown (ow40 hw) (ow41 hw) (ow39 hw) (ow42 hw) (by decide) (by rw [hml]; rfl) e12 opd_0 [] [(.ref nb12), (.ref t1)] rfl rfl rfl rfl (by decide) (by decide) rfl rfl (by decide) (by decide) (hb hby d7_9) rfl (fun v13 T13 h13 L13 X13 e13 z13 => ?_)
 obtain ⟨rfl, Nq13, K13⟩ := z13; have N := Fr.app N Nq13
 have sf13 : ∀ x ∈ ([nb12] : List Addr), Safe Z own_EL s.vm h12 x := (sfS Q_nb12 sf0); have E_t1 := E_t1.keep K13; have F__attributes_t1 := F__attributes_t1.keep K13 (ninS ne_t1_nb12 nin0); have F__children_t1 := F__children_t1.keep K13 (ninS ne_t1_nb12 nin0); have F__namespace_t1 := F__namespace_t1.keep K13 (ninS ne_t1_nb12 nin0)
 have F__name_t1 := F__name_t1.keep K13 (ninS ne_t1_nb12 nin0); have E_s1 := E_s1.keep K13; have E_s2 := E_s2.keep K13; have O := O.keep K13 (allS g_nb12 all0); have K := K.trans K13 (allS (Or.inr sz_nb12) all0)
 have hk := Nat.le_trans hk K13.1; have CR := CR.trans (CHr.keep K13 sf13 CR.1)
 refine og_putfield X13 hx hZ (ty := (.object "java/util/Map")) (host := "") hown (Or.inl (ow63 hw)) Via.refl e13 F__attributes_t1 E_t1 (Or.inr ⟨(ow64 hw), rfl, hnm⟩) (ow1 hw) (by decide) rfl rfl (hb hby d7_12) rfl (fun T14 h14 X14 e14 W14 => ?_)
 have sf14 : Safe Z own_EL s.vm h13 t1 := (Safe.exa hZ.alike E_t1 (by decide) (by decide)); have E_t1 := E_t1.wr W14; have F__children_t1 := F__children_t1.other W14 (Or.inr (slot_ne (Or.inr (ow90 hw)) (Or.inr (ow64 hw)) (by decide) (t := (.object "java/util/List")) (t' := (.object "java/util/Map")) (by decide) (by decide))); have F__namespace_t1 := F__namespace_t1.other W14 (Or.inr (slot_ne (Or.inr (ow100 hw)) (Or.inr (ow64 hw)) (by decide) (t := (.object "java/lang/String")) (t' := (.object "java/util/Map")) (by decide) (by decide))); have F__name_t1 := F__name_t1.other W14 (Or.inr (slot_ne (Or.inr (ow103 hw)) (Or.inr (ow64 hw)) (by decide) (t := (.object "java/lang/String")) (t' := (.object "java/util/Map")) (by decide) (by decide)))
 have E_s1 := E_s1.wr W14; have E_s2 := E_s2.wr W14; have O := O.wr W14 g_t1; have K := K.wr W14 (Or.inl (List.mem_of_getElem? (i := 0) rfl)); have hk := Nat.le_trans hk (Keep.of_wr W14).1
 have CR := CR.trans (CHr.wr W14 sf14 CR.1)
 have N := Fr.snoc X14 N g_t1
 refine og_aloadN X14 hx rfl rfl (hb hby d7_15) rfl ?_
 refine og_new (pc' := 19) (cells' := 2) (slots' := 15) X14 hx hZ hown (ow65 hw) (ow66 hw) (ow67 hw) e14 (hb hby d7_16) rfl rfl rfl (by decide) (by decide) (fun T15 h15 nb15 X15 e15 E15 q15 E_nb15 D15 B15 => ?_)
 have s_nb15 : h14.size ≤ nb15 := Nat.le_of_eq q15.symm; have g_nb15 : n0 ≤ nb15 := Nat.le_trans (own_n0 O) s_nb15; have sz_nb15 : h0.size ≤ nb15 := Nat.le_trans K.1 s_nb15; have ne_t1_nb15 : t1 ≠ nb15 := Nat.ne_of_lt (Nat.lt_of_lt_of_le E_t1.lt s_nb15)
 have Q_nb15 : Safe Z own_EL _ _ nb15 := Safe.new (Z := Z) (EL := own_EL) (vm := s.vm) s_nb15
 have Q_nb15 := Safe.ext E15 CR.1 Q_nb15; have E_t1 := E_t1.ext E15; have F__children_t1 := F__children_t1.ext E15; have F__namespace_t1 := F__namespace_t1.ext E15; have F__name_t1 := F__name_t1.ext E15
 have E_s1 := E_s1.ext E15; have E_s2 := E_s2.ext E15; have O := O.ext E15; have K := K.ext E15
 have hk := Nat.le_trans hk E15.1; have CR := CR.trans (CHr.ext E15 CR.1)
 have F_modCount_nb15 : Fld Z h15 nb15 "java/util/AbstractList" "modCount" "I" (.int 0) := D15 (Or.inl (ow85 hw)) (ty := .int) (by decide)
 have F_elementData_nb15 : Fld Z h15 nb15 "java/util/ArrayList" "elementData" "[Ljava/lang/Object;" .null := D15 (Or.inl (ow88 hw)) (ty := (.array (.object "java/lang/Object"))) (by decide)
 have F_size_nb15 : Fld Z h15 nb15 "java/util/ArrayList" "size" "I" (.int 0) := D15 (Or.inl (ow122 hw)) (ty := .int) (by decide)
 refine og_dup X15 hx rfl (hb hby d7_19) rfl ?_
 refine og_special (pc' := 23) (cells' := 2) (slots' := 15) (W := 2) X15 hx hZ (rm_al l Z a0 hw nb15 de h15 n0 O E_nb15 F_modCount_nb15 F_elementData_nb15 F_size_nb15 S_DE g_nb15) rfl hown (ow68 hw) (ow69 hw) (ow67 hw) (ow70 hw) (by decide) (by rw [hml]; rfl) e15 opd_0 [] [(.ref nb15), (.ref t1)] rfl rfl rfl rfl (by decide) (by decide) rfl rfl (by decide) (by decide) (hb hby d7_20) rfl (fun v16 T16 h16 L16 X16 e16 z16 => ?_)
 obtain ⟨rfl, Nq16, K16, F_modCount_nb15', F_elementData_nb15', F_size_nb15'⟩ := z16; have N := Fr.app N Nq16
 have sf16 : ∀ x ∈ ([nb15] : List Addr), Safe Z own_EL s.vm h15 x := (sfS Q_nb15 sf0); have E_t1 := E_t1.keep K16; have F__children_t1 := F__children_t1.keep K16 (ninS ne_t1_nb15 nin0); have F__namespace_t1 := F__namespace_t1.keep K16 (ninS ne_t1_nb15 nin0)
 have F__name_t1 := F__name_t1.keep K16 (ninS ne_t1_nb15 nin0); have E_s1 := E_s1.keep K16; have E_s2 := E_s2.keep K16; have E_nb15 := E_nb15.keep K16
 have O := O.keep K16 (allS g_nb15 all0); have K := K.trans K16 (allS (Or.inr sz_nb15) all0); have hk := Nat.le_trans hk K16.1; have CR := CR.trans (CHr.keep K16 sf16 CR.1)
 have F_modCount_nb15 := F_modCount_nb15'; have F_elementData_nb15 := F_elementData_nb15'; have F_size_nb15 := F_size_nb15'
 refine og_putfield X16 hx hZ (ty := (.object "java/util/List")) (host := "") hown (Or.inl (ow89 hw)) Via.refl e16 F__children_t1 E_t1 (Or.inr ⟨(ow90 hw), rfl, hnm⟩) (ow1 hw) (by decide) rfl rfl (hb hby d7_23) rfl (fun T17 h17 X17 e17 W17 => ?_)
 have F__children_t1_ := F__children_t1.same W17
 have sf17 : Safe Z own_EL s.vm h16 t1 := (Safe.exa hZ.alike E_t1 (by decide) (by decide)); have E_t1 := E_t1.wr W17; have F__namespace_t1 := F__namespace_t1.other W17 (Or.inr (slot_ne (Or.inr (ow100 hw)) (Or.inr (ow90 hw)) (by decide) (t := (.object "java/lang/String")) (t' := (.object "java/util/List")) (by decide) (by decide))); have F__name_t1 := F__name_t1.other W17 (Or.inr (slot_ne (Or.inr (ow103 hw)) (Or.inr (ow90 hw)) (by decide) (t := (.object "java/lang/String")) (t' := (.object "java/util/List")) (by decide) (by decide)))
 have E_s1 := E_s1.wr W17; have E_s2 := E_s2.wr W17; have E_nb15 := E_nb15.wr W17; have F_modCount_nb15 := F_modCount_nb15.other W17 (Or.inl (Ne.symm ne_t1_nb15))
 have F_elementData_nb15 := F_elementData_nb15.other W17 (Or.inl (Ne.symm ne_t1_nb15)); have F_size_nb15 := F_size_nb15.other W17 (Or.inl (Ne.symm ne_t1_nb15)); have O := O.wr W17 g_t1; have K := K.wr W17 (Or.inl (List.mem_of_getElem? (i := 0) rfl)); have hk := Nat.le_trans hk (Keep.of_wr W17).1; have CR := CR.trans (CHr.wr W17 sf17 CR.1)
 have N := Fr.snoc X17 N g_t1; have F__children_t1 := F__children_t1_
 refine og_aloadN X17 hx rfl rfl (hb hby d7_26) rfl ?_
 refine og_aloadN X17 hx rfl rfl (hb hby d7_27) rfl ?_
 refine og_ldcO (pc' := 30) (cells' := 4) (slots' := 55) (n := 36) X17 hx hZ hown (hw _ (List.mem_of_getElem? (i := 91) rfl)) (own_wS hw) e17 hS hk hEL CR.1 (by decide) (by decide) (hb hby d7_28) rfl rfl rfl (by decide) (by decide) (fun na18 T18 h18 kk18 X18 e18 E18 hS hk hZ hown cr18 => ?_)
 have E_t1 := E_t1.ext E18; have F__namespace_t1 := F__namespace_t1.ext E18; have F__name_t1 := F__name_t1.ext E18; have E_s1 := E_s1.ext E18
 have E_s2 := E_s2.ext E18; have E_nb15 := E_nb15.ext E18; have F_modCount_nb15 := F_modCount_nb15.ext E18; have F_elementData_nb15 := F_elementData_nb15.ext E18
 have F_size_nb15 := F_size_nb15.ext E18; have F__children_t1 := F__children_t1.ext E18; have O := O.ext E18; have K := K.ext E18; have CR := CR.trans cr18
 refine og_static (pc' := 33) (cells' := 4) (slots' := 55) (W := 1) X18 hx hZ (rm_rnn l Z a0 hw s1 na18 h18 n0 O) hown (ow94 hw) (ow95 hw) (ow96 hw) (ow97 hw) (by decide) (by rw [hml]; rfl) e18 opd_1 [(.ref s1), (.ref na18)] [(.ref t1)] rfl rfl rfl rfl (by decide) (by decide) rfl rfl (by decide) (by decide) (hb hby d7_30) rfl (fun v19 T19 h19 L19 X19 e19 z19 => ?_)
 obtain ⟨rfl, Nq19, hq19⟩ := z19; replace e19 := e19.trans hq19; have N := Fr.app N Nq19
 obtain ⟨T20, X20, e20, st20⟩ := castY X19 hx hZ hown (ow98 hw) e19 (Ins.self E_s1) (g := (mkF m 33 #[.val (.ref t1), .val (.ref s1), .val (.ref s2)] [(.ref s1), (.ref t1)])) rfl rfl (hb hby d7_33)
 refine OG.of st20 ?_
 show OG p e below _ (T20.setTop (mkF m 36 #[.val (.ref t1), .val (.ref s1), .val (.ref s2)] [(.ref s1), (.ref t1)]))
 refine og_putfield X20 hx hZ (ty := (.object "java/lang/String")) (host := "") hown (Or.inl (ow99 hw)) Via.refl e20 F__namespace_t1 E_t1 (Or.inr ⟨(ow100 hw), rfl, hnm⟩) (ow1 hw) (by decide) rfl rfl (hb hby d7_36) rfl (fun T21 h21 X21 e21 W21 => ?_)
 have F__namespace_t1_ := F__namespace_t1.same W21
 have sf21 : Safe Z own_EL T18.vm h18 t1 := (Safe.exa hZ.alike E_t1 (by decide) (by decide)); have E_t1 := E_t1.wr W21; have F__name_t1 := F__name_t1.other W21 (Or.inr (slot_ne (Or.inr (ow103 hw)) (Or.inr (ow100 hw)) (by decide) (t := (.object "java/lang/String")) (t' := (.object "java/lang/String")) (by decide) (by decide)))
 have E_s2 := E_s2.wr W21; have E_nb15 := E_nb15.wr W21; have F_modCount_nb15 := F_modCount_nb15.other W21 (Or.inl (Ne.symm ne_t1_nb15)); have F_elementData_nb15 := F_elementData_nb15.other W21 (Or.inl (Ne.symm ne_t1_nb15))
 have F_size_nb15 := F_size_nb15.other W21 (Or.inl (Ne.symm ne_t1_nb15)); have F__children_t1 := F__children_t1.other W21 (Or.inr (slot_ne (Or.inr (ow90 hw)) (Or.inr (ow100 hw)) (by decide) (t := (.object "java/util/List")) (t' := (.object "java/lang/String")) (by decide) (by decide))); have O := O.wr W21 g_t1; have K := K.wr W21 (Or.inl (List.mem_of_getElem? (i := 0) rfl)); have hk := Nat.le_trans hk (Keep.of_wr W21).1; have CR := CR.trans (CHr.wr W21 sf21 CR.1)
 have N := Fr.snoc X21 N g_t1; have F__namespace_t1 := F__namespace_t1_
 refine og_aloadN X21 hx rfl rfl (hb hby d7_39) rfl ?_
 refine og_aloadN X21 hx rfl rfl (hb hby d7_40) rfl ?_
 refine og_ldcO (pc' := 43) (cells' := 6) (slots' := 75) (n := 16) X21 hx hZ hown (hw _ (List.mem_of_getElem? (i := 101) rfl)) (own_wS hw) e21 hS hk hEL CR.1 (by decide) (by decide) (hb hby d7_41) rfl rfl rfl (by decide) (by decide) (fun na22 T22 h22 kk22 X22 e22 E22 hS hk hZ hown cr22 => ?_)
 have E_t1 := E_t1.ext E22; have F__name_t1 := F__name_t1.ext E22; have E_s2 := E_s2.ext E22
 have E_nb15 := E_nb15.ext E22; have F_modCount_nb15 := F_modCount_nb15.ext E22; have F_elementData_nb15 := F_elementData_nb15.ext E22; have F_size_nb15 := F_size_nb15.ext E22
 have F__children_t1 := F__children_t1.ext E22; have F__namespace_t1 := F__namespace_t1.ext E22; have O := O.ext E22; have K := K.ext E22; have CR := CR.trans cr22
 refine og_static (pc' := 46) (cells' := 6) (slots' := 75) (W := 1) X22 hx hZ (rm_rnn l Z a0 hw s2 na22 h22 n0 O) hown (ow94 hw) (ow95 hw) (ow96 hw) (ow97 hw) (by decide) (by rw [hml]; rfl) e22 opd_1 [(.ref s2), (.ref na22)] [(.ref t1)] rfl rfl rfl rfl (by decide) (by decide) rfl rfl (by decide) (by decide) (hb hby d7_43) rfl (fun v23 T23 h23 L23 X23 e23 z23 => ?_)
 obtain ⟨rfl, Nq23, hq23⟩ := z23; replace e23 := e23.trans hq23; have N := Fr.app N Nq23
 obtain ⟨T24, X24, e24, st24⟩ := castY X23 hx hZ hown (ow98 hw) e23 (Ins.self E_s2) (g := (mkF m 46 #[.val (.ref t1), .val (.ref s1), .val (.ref s2)] [(.ref s2), (.ref t1)])) rfl rfl (hb hby d7_46)
 refine OG.of st24 ?_
 show OG p e below _ (T24.setTop (mkF m 49 #[.val (.ref t1), .val (.ref s1), .val (.ref s2)] [(.ref s2), (.ref t1)]))
 refine og_putfield X24 hx hZ (ty := (.object "java/lang/String")) (host := "") hown (Or.inl (ow102 hw)) Via.refl e24 F__name_t1 E_t1 (Or.inr ⟨(ow103 hw), rfl, hnm⟩) (ow1 hw) (by decide) rfl rfl (hb hby d7_49) rfl (fun T25 h25 X25 e25 W25 => ?_)
 have F__name_t1_ := F__name_t1.same W25
 have sf25 : Safe Z own_EL T22.vm h22 t1 := (Safe.exa hZ.alike E_t1 (by decide) (by decide))
 have E_nb15 := E_nb15.wr W25; have F_modCount_nb15 := F_modCount_nb15.other W25 (Or.inl (Ne.symm ne_t1_nb15)); have F_elementData_nb15 := F_elementData_nb15.other W25 (Or.inl (Ne.symm ne_t1_nb15)); have F_size_nb15 := F_size_nb15.other W25 (Or.inl (Ne.symm ne_t1_nb15))
 have F__children_t1 := F__children_t1.other W25 (Or.inr (slot_ne (Or.inr (ow90 hw)) (Or.inr (ow103 hw)) (by decide) (t := (.object "java/util/List")) (t' := (.object "java/lang/String")) (by decide) (by decide))); have F__namespace_t1 := F__namespace_t1.other W25 (Or.inr (slot_ne (Or.inr (ow100 hw)) (Or.inr (ow103 hw)) (by decide) (t := (.object "java/lang/String")) (t' := (.object "java/lang/String")) (by decide) (by decide))); have K := K.wr W25 (Or.inl (List.mem_of_getElem? (i := 0) rfl)); have hk := Nat.le_trans hk (Keep.of_wr W25).1; have CR := CR.trans (CHr.wr W25 sf25 CR.1)
 have N := Fr.snoc X25 N g_t1; have F__name_t1 := F__name_t1_
 refine og_retVW X25 hx hZ hlk hEL hS e25 es hk CR hret (hb hby d7_52) (by decide) (by decide) ?_
 rw [e25]; exact ⟨rfl, N, K, F__namespace_t1, F__name_t1, nb15, sz_nb15, F__children_t1, E_nb15, F_modCount_nb15, F_elementData_nb15, F_size_nb15⟩
theorem rm_can (l : Launch) (Z : State) (a0 : Array Value) (hw : HW a0 Z) (cc : Int32) (hcc : ¬ 255 < cc) (h0 : Heap) (n0 : Nat) (O : Old Z n0 h0) :
  Con l Z (⟨"java/lang/StringLatin1", "canEncode", "(C)Z"⟩ : MethodName) jdk_43_method_3_code 1 (some .boolean) ({ frames := 0, cells := 0, slots := 0, locals := 0 } : Room) #[(.int cc)] h0 (fun v h L => v = some (.int 1) ∧ Fr n0 L ∧ h = h0) := by
 refine own_startC opn_3 ?_
 intro p e s m below meth c T0 X0 hx hby hml hZ hown hnm hret hlk e0
 have N := Fr.nil n0
 refine OG.cast (oef3 m cc) ?_
 refine og_iloadN X0 hx rfl (hb hby d3_0) rfl ?_
 refine og_sipush (v := 255) X0 hx rfl (hb hby d3_1) rfl ?_
 refine og_icmp_gt (pc1 := 11) (pc2 := 7) X0 hx (hb hby d3_4) (by decide) (by decide) rfl (fun q => absurd q hcc) (fun _ => ?_)
 refine og_iconst (v := 1) X0 hx rfl (hb hby d3_7) rfl ?_
 refine og_goto (pc' := 12) X0 hx (hb hby d3_8) (by decide) (by decide) ?_
 refine og_retN X0 hx hlk hret (by simp) (hb hby d3_12) (by decide) (by decide) ?_
 rw [e0]; exact ⟨rfl, N, rfl⟩
theorem rm_tb (l : Launch) (Z : State) (a0 : Array Value) (hw : HW a0 Z) (cc : Int32) (h0 : Heap) (n0 : Nat) (O : Old Z n0 h0) :
  Con l Z (⟨"java/lang/StringLatin1", "toBytes", "(C)[B"⟩ : MethodName) jdk_43_method_46_code 1 (some (.array .byte)) ({ frames := 0, cells := 1, slots := 1, locals := 0 } : Room) #[(.int cc)] h0 (fun v h L => ∃ b k, v = some (.ref b) ∧ Fr n0 L ∧ Keep h0 h [] ∧ h0.size ≤ b ∧ Arv Z h b k .byte 1 [.int cc.toInt8.toInt32] (.int 0)) := by
 refine own_startC opn_4 ?_
 intro p e s m below meth c T0 X0 hx hby hml hZ hown hnm hret hlk e0
 have N := Fr.nil n0; have K := Keep.refl h0 []
 refine OG.cast (oef3 m cc) ?_
 refine og_iconst (v := 1) X0 hx rfl (hb hby d4_0) rfl ?_
 refine og_newarray (pc' := 3) (cells' := 1) (slots' := 1) (cap := 1) (ty := .byte) X0 hx hZ rfl (ow21 hw) e0 (by decide) (by decide) (by decide) (hb hby d4_1) rfl rfl rfl (by decide) (by decide) (fun T11 h11 nb11 kA11 X11 e11 E11 q11 V_nb11 => ?_)
 have s_nb11 : h0.size ≤ nb11 := Nat.le_of_eq q11.symm; have g_nb11 : n0 ≤ nb11 := Nat.le_trans (own_n0 O) s_nb11; have sz_nb11 : h0.size ≤ nb11 := Nat.le_trans K.1 s_nb11
 have K := K.ext E11
 have V_nb11 : Arv Z h11 nb11 kA11 .byte (1 : Int32) [(.int 0)] (.int 0) := V_nb11.pad (pad_rep [] (.int 0) 1)
 refine og_dup X11 hx rfl (hb hby d4_3) rfl ?_
 refine og_iconst (v := 0) X11 hx rfl (hb hby d4_4) rfl ?_
 refine og_iloadN X11 hx rfl (hb hby d4_5) rfl ?_
 refine og_i2b X11 hx (hb hby d4_6) rfl ?_
 refine og_bastore X11 hx hZ e11 V_nb11 ⟨by decide, by decide⟩ 0 (by decide) (Nat.le_of_ble_eq_true rfl) (hb hby d4_7) rfl (fun T12 h12 X12 e12 W12 V12 => ?_)
 have K := K.wr W12 (Or.inr sz_nb11)
 have N := Fr.snoc X12 N g_nb11
 have V_nb11 : Arv Z h12 nb11 kA11 .byte (1 : Int32) [(.int (nar .byte (cc.toInt8.toInt32)))] (.int 0) := V12
 rw [own_nb] at V_nb11
 refine og_retR X12 hx hlk hret rfl rfl rfl (hb hby d4_8) (by decide) (by decide) ?_
 rw [e12]; exact ⟨_, _, rfl, N, K, sz_nb11, V_nb11⟩
theorem rm_si (l : Launch) (Z : State) (a0 : Array Value) (hw : HW a0 Z) (a1 b1 : Addr) (h0 : Heap) (n0 : Nat) (O : Old Z n0 h0) (E_a1 : Exa Z h0 a1 "java/lang/String") (F_value_a1 : Fld Z h0 a1 "java/lang/String" "value" "[B" .null) (F_coder_a1 : Fld Z h0 a1 "java/lang/String" "coder" "B" (.int 0)) (g_a1 : n0 ≤ a1) :
  Con l Z (⟨"java/lang/String", "<init>", "([BB)V"⟩ : MethodName) jdk_42_method_151_code 3 none ({ frames := 1, cells := 0, slots := 0, locals := 12 } : Room) #[(.ref a1), (.ref b1), (.int 0)] h0 (fun v h L => v = none ∧ Fr n0 L ∧ Keep h0 h [a1] ∧ Exa Z h a1 "java/lang/String" ∧ Fld Z h a1 "java/lang/String" "value" "[B" (.ref b1) ∧ Fld Z h a1 "java/lang/String" "coder" "B" (.int 0)) := by
 refine own_startC opn_5 ?_
 intro p e s m below meth c T0 X0 hx hby hml hZ hown hnm hret hlk e0
 have N := Fr.nil n0; have K := Keep.refl h0 [a1]
 refine OG.cast (oef4 m a1 b1 (0 : Int32)) ?_
 refine og_aloadN X0 hx rfl rfl (hb hby d5_0) rfl ?_
 refine og_initO (pc' := 4) X0 hx hZ (W := 0) (by rw [hml]; rfl) hown (ow26 hw) (ow27 hw) (ow28 hw) e0 rfl (by decide) (by decide) (hb hby d5_1) rfl (fun T11 X11 e11 => ?_)
 refine og_aloadN X11 hx rfl rfl (hb hby d5_4) rfl ?_
 refine og_aloadN X11 hx rfl rfl (hb hby d5_5) rfl ?_
 refine og_putfield X11 hx hZ (ty := (.array .byte)) (host := "") hown (Or.inl (ow29 hw)) Via.refl e11 F_value_a1 E_a1 (Or.inr ⟨(ow30 hw), rfl, hnm⟩) (ow17 hw) (by decide) rfl rfl (hb hby d5_6) rfl (fun T12 h12 X12 e12 W12 => ?_)
 have F_value_a1_ := F_value_a1.same W12
 have E_a1 := E_a1.wr W12; have F_coder_a1 := F_coder_a1.other W12 (Or.inr (slot_ne (Or.inr (ow32 hw)) (Or.inr (ow30 hw)) (by decide) (t := .byte) (t' := (.array .byte)) (by decide) (by decide))); have K := K.wr W12 (Or.inl (List.mem_of_getElem? (i := 0) rfl))
 have N := Fr.snoc X12 N g_a1; have F_value_a1 := F_value_a1_
 refine og_aloadN X12 hx rfl rfl (hb hby d5_9) rfl ?_
 refine og_iloadN X12 hx rfl (hb hby d5_10) rfl ?_
 refine og_putfield X12 hx hZ (ty := .byte) (host := "") hown (Or.inl (ow31 hw)) Via.refl e12 F_coder_a1 E_a1 (Or.inr ⟨(ow32 hw), rfl, hnm⟩) (ow17 hw) (by decide) rfl rfl (hb hby d5_11) rfl (fun T13 h13 X13 e13 W13 => ?_)
 have F_coder_a1_ := F_coder_a1.same W13
 have E_a1 := E_a1.wr W13; have F_value_a1 := F_value_a1.other W13 (Or.inr (slot_ne (Or.inr (ow30 hw)) (Or.inr (ow32 hw)) (by decide) (t := (.array .byte)) (t' := .byte) (by decide) (by decide))); have K := K.wr W13 (Or.inl (List.mem_of_getElem? (i := 0) rfl))
 have N := Fr.snoc X13 N g_a1; have F_coder_a1 := F_coder_a1_
 refine og_retV X13 hx hlk hret (hb hby d5_14) (by decide) (by decide) ?_
 rw [e13]; exact ⟨rfl, N, K, E_a1, F_value_a1, F_coder_a1⟩
theorem rm_vo (l : Launch) (Z : State) (a0 : Array Value) (hw : HW a0 Z) (cc : Int32) (hcc : ¬ 255 < cc) (cs : Int32) (hcs : ¬ cs = 0) (h0 : Heap) (n0 : Nat) (O : Old Z n0 h0) (S_CS : Sta Z Z.heap "java/lang/String" "COMPACT_STRINGS" "Z" (.int cs)) :
  Con l Z (⟨"java/lang/String", "valueOf", "(C)Ljava/lang/String;"⟩ : MethodName) jdk_42_method_139_code 1 (some (.object "java/lang/String")) ({ frames := 2, cells := 2, slots := 5, locals := 27 } : Room) #[(.int cc)] h0 (fun v h L => ∃ a b k, v = some (.ref a) ∧ Fr n0 L ∧ Keep h0 h [] ∧ h0.size ≤ a ∧ h0.size ≤ b ∧ Exa Z h a "java/lang/String" ∧ Fld Z h a "java/lang/String" "value" "[B" (.ref b) ∧ Fld Z h a "java/lang/String" "coder" "B" (.int 0) ∧ Arv Z h b k .byte 1 [.int cc.toInt8.toInt32] (.int 0)) := by
 refine own_startC opn_2 ?_
 intro p e s m below meth c T0 X0 hx hby hml hZ hown hnm hret hlk e0
 have N := Fr.nil n0; have K := Keep.refl h0 []
 refine OG.cast (oef3 m cc) ?_
 refine og_getstatic X0 hx hZ (host := "") hown (Or.inl (ow11 hw)) Via.refl e0 (S_CS.ext O.2) (hb hby d2_0) rfl (fun T11 X11 e11 => ?_)
 refine og_if_eq (pc1 := 26) (pc2 := 6) X11 hx (hb hby d2_3) (by decide) (by decide) rfl (fun q => absurd q hcs) (fun _ => ?_)
 refine og_iloadN X11 hx rfl (hb hby d2_6) rfl ?_
 refine og_static (pc' := 10) (cells' := 0) (slots' := 0) (W := 0) X11 hx hZ (rm_can l Z a0 hw cc hcc h0 n0 O) hown (ow12 hw) (ow13 hw) (ow14 hw) (ow15 hw) (by decide) (by rw [hml]; rfl) e11 opd_2 [(.int cc)] [] rfl rfl rfl rfl (by decide) (by decide) rfl rfl (by decide) (by decide) (hb hby d2_7) rfl (fun v12 T12 h12 L12 X12 e12 z12 => ?_)
 obtain ⟨rfl, Nq12, hq12⟩ := z12; replace e12 := e12.trans hq12; have N := Fr.app N Nq12
 refine og_if_eq (pc1 := 26) (pc2 := 13) X12 hx (hb hby d2_10) (by decide) (by decide) rfl (fun q => absurd q (by decide)) (fun _ => ?_)
 refine og_new (pc' := 16) (cells' := 1) (slots' := 4) X12 hx hZ hown (ow16 hw) (ow17 hw) (ow9 hw) e12 (hb hby d2_13) rfl rfl rfl (by decide) (by decide) (fun T13 h13 nb13 X13 e13 E13 q13 E_nb13 D13 B13 => ?_)
 have s_nb13 : h0.size ≤ nb13 := Nat.le_of_eq q13.symm; have g_nb13 : n0 ≤ nb13 := Nat.le_trans (own_n0 O) s_nb13; have sz_nb13 : h0.size ≤ nb13 := Nat.le_trans K.1 s_nb13
 have O := O.ext E13; have K := K.ext E13
 have F_value_nb13 : Fld Z h13 nb13 "java/lang/String" "value" "[B" .null := D13 (Or.inr (ow30 hw)) (ty := (.array .byte)) (by decide)
 have F_coder_nb13 : Fld Z h13 nb13 "java/lang/String" "coder" "B" (.int 0) := D13 (Or.inr (ow32 hw)) (ty := .byte) (by decide)
 refine og_dup X13 hx rfl (hb hby d2_16) rfl ?_
 refine og_iloadN X13 hx rfl (hb hby d2_17) rfl ?_
 refine og_static (pc' := 21) (cells' := 2) (slots' := 5) (W := 2) X13 hx hZ (rm_tb l Z a0 hw cc h13 n0 O) hown (ow18 hw) (ow19 hw) (ow14 hw) (ow20 hw) (by decide) (by rw [hml]; rfl) e13 opd_3 [(.int cc)] [(.ref nb13), (.ref nb13)] rfl rfl rfl rfl (by decide) (by decide) rfl rfl (by decide) (by decide) (hb hby d2_18) rfl (fun v14 T14 h14 L14 X14 e14 z14 => ?_)
 obtain ⟨nb14, k14, rfl, Nq14, K14, sb14, V_nb14⟩ := z14; have N := Fr.app N Nq14
 have s_nb14 : h13.size ≤ nb14 := sb14; have sz_nb14 : h0.size ≤ nb14 := Nat.le_trans K.1 s_nb14; have ne_nb13_nb14 : nb13 ≠ nb14 := Nat.ne_of_lt (Nat.lt_of_lt_of_le E_nb13.lt s_nb14)
 have E_nb13 := E_nb13.keep K14; have F_value_nb13 := F_value_nb13.keep K14 nin0; have F_coder_nb13 := F_coder_nb13.keep K14 nin0; have O := O.keep K14 all0; have K := K.trans K14 all0
 refine og_iconst (v := 0) X14 hx rfl (hb hby d2_21) rfl ?_
 refine og_special (pc' := 25) (cells' := 2) (slots' := 5) (W := 1) X14 hx hZ (rm_si l Z a0 hw nb13 nb14 h14 n0 O E_nb13 F_value_nb13 F_coder_nb13 g_nb13) rfl hown (ow22 hw) (ow23 hw) (ow9 hw) (ow25 hw) (by decide) (by rw [hml]; rfl) e14 opd_4 [(.ref nb14), (.int 0)] [(.ref nb13)] rfl rfl rfl rfl (by decide) (by decide) rfl rfl (by decide) (by decide) (hb hby d2_22) rfl (fun v15 T15 h15 L15 X15 e15 z15 => ?_)
 obtain ⟨rfl, Nq15, K15, E_nb13', F_value_nb13', F_coder_nb13'⟩ := z15; have N := Fr.app N Nq15
 have V_nb14 := V_nb14.keep K15 (ninS (Ne.symm ne_nb13_nb14) nin0); have K := K.trans K15 (allS (Or.inr sz_nb13) all0)
 have E_nb13 := E_nb13'; have F_value_nb13 := F_value_nb13'; have F_coder_nb13 := F_coder_nb13'
 refine og_retR X15 hx hlk hret rfl rfl rfl (hb hby d2_25) (by decide) (by decide) ?_
 rw [e15]; exact ⟨_, _, _, rfl, N, K, sz_nb13, sz_nb14, E_nb13, F_value_nb13, F_coder_nb13, V_nb14⟩
theorem rm_max_10_1 (l : Launch) (Z : State) (a0 : Array Value) (hw : HW a0 Z)  (h0 : Heap) (n0 : Nat) (O : Old Z n0 h0) :
  Con l Z (⟨"java/lang/Math", "max", "(II)I"⟩ : MethodName) jdk_29_method_65_code 2 (some .int) ({ frames := 0, cells := 0, slots := 0, locals := 0 } : Room) #[(.int 10), (.int 1)] h0 (fun v h L => v = some (.int 10) ∧ Fr n0 L ∧ h = h0) := by
 refine own_startC opn_20 ?_
 intro p e s m below meth c T0 X0 hx hby hml hZ hown hnm hret hlk e0
 have N := Fr.nil n0
 refine OG.cast (oef5 m (10 : Int32) (1 : Int32)) ?_
 refine og_iloadN X0 hx rfl (hb hby d20_0) rfl ?_
 refine og_iloadN X0 hx rfl (hb hby d20_1) rfl ?_
 refine og_icmp_lt (pc1 := 9) (pc2 := 5) X0 hx (hb hby d20_2) (by decide) (by decide) rfl (fun q => absurd q (by decide)) (fun _ => ?_)
 refine og_iloadN X0 hx rfl (hb hby d20_5) rfl ?_
 refine og_goto (pc' := 10) X0 hx (hb hby d20_6) (by decide) (by decide) ?_
 refine og_retI X0 hx hlk hret (hb hby d20_10) (by decide) (by decide) ?_
 rw [e0]; exact ⟨rfl, N, rfl⟩
theorem rm_gri (l : Launch) (Z : State) (a0 : Array Value) (hw : HW a0 Z) (a1 : Addr) (mc : Int32) (de : Addr) (kde : ClassId) (h0 : Heap) (n0 : Nat) (O : Old Z n0 h0) (E_a1 : Exa Z h0 a1 "java/util/ArrayList") (F_modCount_a1 : Fld Z h0 a1 "java/util/AbstractList" "modCount" "I" (.int mc)) (F_elementData_a1 : Fld Z h0 a1 "java/util/ArrayList" "elementData" "[Ljava/lang/Object;" (.ref de)) (F_size_a1 : Fld Z h0 a1 "java/util/ArrayList" "size" "I" (.int 0)) (S_DE : Sta Z Z.heap "java/util/ArrayList" "DEFAULTCAPACITY_EMPTY_ELEMENTDATA" "[Ljava/lang/Object;" (.ref de)) (V_de : Arv Z Z.heap de kde (.object "java/lang/Object") (0 : Int32) [] .null) (g_a1 : n0 ≤ a1) :
  Con l Z (⟨"java/util/ArrayList", "grow", "(I)[Ljava/lang/Object;"⟩ : MethodName) jdk_38_method_6_code 4 (some (.array (.object "java/lang/Object"))) ({ frames := 1, cells := 1, slots := 10, locals := 14 } : Room) #[(.ref a1), (.int 1)] h0 (fun v h L => ∃ b k, v = some (.ref b) ∧ Fr n0 L ∧ Keep h0 h [a1] ∧ h0.size ≤ b ∧ Exa Z h a1 "java/util/ArrayList" ∧ Fld Z h a1 "java/util/AbstractList" "modCount" "I" (.int mc) ∧ Fld Z h a1 "java/util/ArrayList" "elementData" "[Ljava/lang/Object;" (.ref b) ∧ Fld Z h a1 "java/util/ArrayList" "size" "I" (.int 0) ∧ Arv Z h b k (.object "java/lang/Object") (10 : Int32) [.null, .null, .null, .null, .null, .null, .null, .null, .null, .null] .null ∧ Ovr Z k "java/lang/Object") := by
 refine own_startC opn_19 ?_
 intro p e s m below meth c T0 X0 hx hby hml hZ hown hnm hret hlk e0
 have N := Fr.nil n0; have K := Keep.refl h0 [a1]
 refine OG.cast (oef6 m a1 (1 : Int32)) ?_
 refine og_aloadN X0 hx rfl rfl (hb hby d19_0) rfl ?_
 refine og_getfield X0 hx hZ (host := "") hown (Or.inl (ow87 hw)) Via.refl e0 F_elementData_a1 (hb hby d19_1) rfl (fun T11 X11 e11 => ?_)
 refine og_arraylength X11 hx hZ e11 (V_de.ext O.2) (hb hby d19_4) rfl ?_
 refine og_istoreN (L' := #[.val (.ref a1), .val (.int 1), .val (.int 0), .unset]) X11 hx rfl (hb hby d19_5) rfl ?_
 refine og_iloadN X11 hx rfl (hb hby d19_6) rfl ?_
 refine og_if_gt (pc1 := 20) (pc2 := 10) X11 hx (hb hby d19_7) (by decide) (by decide) rfl (fun q => absurd q (by decide)) (fun _ => ?_)
 refine og_aloadN X11 hx rfl rfl (hb hby d19_10) rfl ?_
 refine og_getfield X11 hx hZ (host := "") hown (Or.inl (ow87 hw)) Via.refl e11 F_elementData_a1 (hb hby d19_11) rfl (fun T12 X12 e12 => ?_)
 refine og_getstatic X12 hx hZ (host := "") hown (Or.inl (ow86 hw)) Via.refl e12 (S_DE.ext O.2) (hb hby d19_14) rfl (fun T13 X13 e13 => ?_)
 refine og_acmp_eq (pc1 := 45) (pc2 := 20) X13 hx rfl rfl (hb hby d19_17) (by decide) (by decide) rfl (fun _ => ?_) (fun q => absurd rfl q)
 refine og_aloadN X13 hx rfl rfl (hb hby d19_45) rfl ?_
 refine og_bipush (v := 10) X13 hx rfl (hb hby d19_46) rfl ?_
 refine og_iloadN X13 hx rfl (hb hby d19_48) rfl ?_
 refine og_static (pc' := 52) (cells' := 0) (slots' := 0) (W := 1) X13 hx hZ (rm_max_10_1 l Z a0 hw h0 n0 O) hown (ow138 hw) (ow139 hw) (ow140 hw) (ow141 hw) (by decide) (by rw [hml]; rfl) e13 opd_5 [(.int 10), (.int 1)] [(.ref a1)] rfl rfl rfl rfl (by decide) (by decide) rfl rfl (by decide) (by decide) (hb hby d19_49) rfl (fun v14 T14 h14 L14 X14 e14 z14 => ?_)
 obtain ⟨rfl, Nq14, hq14⟩ := z14; replace e14 := e14.trans hq14; have N := Fr.app N Nq14
 refine og_anewarray (pc' := 55) (cells' := 1) (slots' := 10) (cap := 10) X14 hx hZ hown (ow142 hw) (ow143 hw) e14 (by decide) (by decide) (by decide) (hb hby d19_52) rfl rfl rfl (by decide) (by decide) (fun T15 h15 nb15 kA15 X15 e15 E15 q15 V_nb15 Ov_nb15 => ?_)
 have s_nb15 : h0.size ≤ nb15 := Nat.le_of_eq q15.symm; have sz_nb15 : h0.size ≤ nb15 := Nat.le_trans K.1 s_nb15; have ne_a1_nb15 : a1 ≠ nb15 := Nat.ne_of_lt (Nat.lt_of_lt_of_le E_a1.lt s_nb15)
 have E_a1 := E_a1.ext E15; have F_modCount_a1 := F_modCount_a1.ext E15; have F_elementData_a1 := F_elementData_a1.ext E15; have F_size_a1 := F_size_a1.ext E15; have K := K.ext E15
 have V_nb15 : Arv Z h15 nb15 kA15 (.object "java/lang/Object") (10 : Int32) [.null, .null, .null, .null, .null, .null, .null, .null, .null, .null] .null := V_nb15.pad (pad_rep [] .null 10)
 refine og_dup_x1 X15 hx rfl rfl (hb hby d19_55) rfl ?_
 refine og_putfield X15 hx hZ (ty := (.array (.object "java/lang/Object"))) (host := "") hown (Or.inl (ow87 hw)) Via.refl e15 F_elementData_a1 E_a1 (Or.inl (ow88 hw)) (ow66 hw) (by decide) rfl rfl (hb hby d19_56) rfl (fun T16 h16 X16 e16 W16 => ?_)
 have F_elementData_a1_ := F_elementData_a1.same W16
 have E_a1 := E_a1.wr W16; have F_modCount_a1 := F_modCount_a1.other W16 (Or.inr (slot_ne (Or.inl (ow85 hw)) (Or.inl (ow88 hw)) (by decide) (t := .int) (t' := (.array (.object "java/lang/Object"))) (by decide) (by decide))); have F_size_a1 := F_size_a1.other W16 (Or.inr (slot_ne (Or.inl (ow122 hw)) (Or.inl (ow88 hw)) (by decide) (t := .int) (t' := (.array (.object "java/lang/Object"))) (by decide) (by decide))); have V_nb15 := V_nb15.other W16 (Ne.symm ne_a1_nb15); have K := K.wr W16 (Or.inl (List.mem_of_getElem? (i := 0) rfl))
 have N := Fr.snoc X16 N g_a1; have F_elementData_a1 := F_elementData_a1_
 refine og_retR X16 hx hlk hret rfl rfl rfl (hb hby d19_59) (by decide) (by decide) ?_
 rw [e16]; exact ⟨_, _, rfl, N, K, sz_nb15, E_a1, F_modCount_a1, F_elementData_a1, F_size_a1, V_nb15, Ov_nb15⟩
theorem rm_gr (l : Launch) (Z : State) (a0 : Array Value) (hw : HW a0 Z) (a1 : Addr) (mc : Int32) (de : Addr) (kde : ClassId) (h0 : Heap) (n0 : Nat) (O : Old Z n0 h0) (E_a1 : Exa Z h0 a1 "java/util/ArrayList") (F_modCount_a1 : Fld Z h0 a1 "java/util/AbstractList" "modCount" "I" (.int mc)) (F_elementData_a1 : Fld Z h0 a1 "java/util/ArrayList" "elementData" "[Ljava/lang/Object;" (.ref de)) (F_size_a1 : Fld Z h0 a1 "java/util/ArrayList" "size" "I" (.int 0)) (S_DE : Sta Z Z.heap "java/util/ArrayList" "DEFAULTCAPACITY_EMPTY_ELEMENTDATA" "[Ljava/lang/Object;" (.ref de)) (V_de : Arv Z Z.heap de kde (.object "java/lang/Object") (0 : Int32) [] .null) (g_a1 : n0 ≤ a1) :
  Con l Z (⟨"java/util/ArrayList", "grow", "()[Ljava/lang/Object;"⟩ : MethodName) jdk_38_method_7_code 1 (some (.array (.object "java/lang/Object"))) ({ frames := 2, cells := 1, slots := 10, locals := 29 } : Room) #[(.ref a1)] h0 (fun v h L => ∃ b k, v = some (.ref b) ∧ Fr n0 L ∧ Keep h0 h [a1] ∧ h0.size ≤ b ∧ Exa Z h a1 "java/util/ArrayList" ∧ Fld Z h a1 "java/util/AbstractList" "modCount" "I" (.int mc) ∧ Fld Z h a1 "java/util/ArrayList" "elementData" "[Ljava/lang/Object;" (.ref b) ∧ Fld Z h a1 "java/util/ArrayList" "size" "I" (.int 0) ∧ Arv Z h b k (.object "java/lang/Object") (10 : Int32) [.null, .null, .null, .null, .null, .null, .null, .null, .null, .null] .null ∧ Ovr Z k "java/lang/Object") := by
 refine own_startC opn_18 ?_
 intro p e s m below meth c T0 X0 hx hby hml hZ hown hnm hret hlk e0
 have N := Fr.nil n0; have K := Keep.refl h0 [a1]
 refine OG.cast (oef0 m a1) ?_
 refine og_aloadN X0 hx rfl rfl (hb hby d18_0) rfl ?_
 refine og_aloadN X0 hx rfl rfl (hb hby d18_1) rfl ?_
 refine og_getfield X0 hx hZ (host := "") hown (Or.inl (ow121 hw)) Via.refl e0 F_size_a1 (hb hby d18_2) rfl (fun T11 X11 e11 => ?_)
 refine og_iconst (v := 1) X11 hx rfl (hb hby d18_5) rfl ?_
 refine og_iadd X11 hx (hb hby d18_6) rfl ?_
 show OG p e below _ (T11.setTop (mkF m 7 #[.val (.ref a1)] [(.int 1), (.ref a1)]))
 refine og_private (pc' := 10) (cells' := 1) (slots' := 10) (W := 0) X11 hx hZ (rm_gri l Z a0 hw a1 mc de kde h0 n0 O E_a1 F_modCount_a1 F_elementData_a1 F_size_a1 S_DE V_de g_a1) hown (ow133 hw) (ow134 hw) (ow136 hw) (ow135 hw) (ow67 hw) (ow137 hw) (by decide) (by rw [hml]; rfl) e11 opd_6 [(.int 1)] [] rfl rfl rfl rfl (by decide) (by decide) rfl rfl (by decide) (by decide) E_a1 (hb hby d18_7) rfl (fun v12 T12 h12 L12 X12 e12 z12 => ?_)
 obtain ⟨nb12, k12, rfl, Nq12, K12, sb12, E_a1', F_modCount_a1', F_elementData_a1', F_size_a1', V_nb12, Ov_nb12⟩ := z12; have N := Fr.app N Nq12
 have s_nb12 : h0.size ≤ nb12 := sb12; have sz_nb12 : h0.size ≤ nb12 := Nat.le_trans K.1 s_nb12
 have K := K.trans K12 (allS (Or.inl (List.mem_of_getElem? (i := 0) rfl)) all0)
 have E_a1 := E_a1'; have F_modCount_a1 := F_modCount_a1'; have F_elementData_a1 := F_elementData_a1'; have F_size_a1 := F_size_a1'
 refine og_retR X12 hx hlk hret rfl rfl rfl (hb hby d18_10) (by decide) (by decide) ?_
 rw [e12]; exact ⟨_, _, rfl, N, K, sz_nb12, E_a1, F_modCount_a1, F_elementData_a1, F_size_a1, V_nb12, Ov_nb12⟩
theorem rm_ad_0E (l : Launch) (Z : State) (a0 : Array Value) (hw : HW a0 Z) (a1 xx : Addr) (de : Addr) (kde : ClassId) (mc : Int32) (h0 : Heap) (n0 : Nat) (O : Old Z n0 h0) (E_a1 : Exa Z h0 a1 "java/util/ArrayList") (F_modCount_a1 : Fld Z h0 a1 "java/util/AbstractList" "modCount" "I" (.int mc)) (F_elementData_a1 : Fld Z h0 a1 "java/util/ArrayList" "elementData" "[Ljava/lang/Object;" (.ref de)) (F_size_a1 : Fld Z h0 a1 "java/util/ArrayList" "size" "I" (.int 0)) (E_xx : Exa Z h0 xx "com/example/marsh_tit/marshtit/stanza/Element") (S_DE : Sta Z Z.heap "java/util/ArrayList" "DEFAULTCAPACITY_EMPTY_ELEMENTDATA" "[Ljava/lang/Object;" (.ref de)) (V_de : Arv Z Z.heap de kde (.object "java/lang/Object") (0 : Int32) [] .null) (g_a1 : n0 ≤ a1) :
  Con l Z (⟨"java/util/ArrayList", "add", "(Ljava/lang/Object;[Ljava/lang/Object;I)V"⟩ : MethodName) jdk_38_method_24_code 4 none ({ frames := 3, cells := 1, slots := 10, locals := 41 } : Room) #[(.ref a1), (.ref xx), (.ref de), (.int 0)] h0 (fun v h L => ∃ b k, v = none ∧ Fr n0 L ∧ Keep h0 h [a1] ∧ h0.size ≤ b ∧ Exa Z h a1 "java/util/ArrayList" ∧ Fld Z h a1 "java/util/AbstractList" "modCount" "I" (.int mc) ∧ Fld Z h a1 "java/util/ArrayList" "elementData" "[Ljava/lang/Object;" (.ref b) ∧ Fld Z h a1 "java/util/ArrayList" "size" "I" (.int 1) ∧ Arv Z h b k (.object "java/lang/Object") (10 : Int32) [(.ref xx), .null, .null, .null, .null, .null, .null, .null, .null, .null] .null ∧ Ovr Z k "java/lang/Object") := by
 refine own_startC opn_17 ?_
 intro p e s m below meth c T0 X0 hx hby hml hZ hown hnm hret hlk e0
 have N := Fr.nil n0; have K := Keep.refl h0 [a1]
 refine OG.cast (oef7 m a1 xx de (0 : Int32)) ?_
 refine og_iloadN X0 hx rfl (hb hby d17_0) rfl ?_
 refine og_aloadN X0 hx rfl rfl (hb hby d17_1) rfl ?_
 refine og_arraylength X0 hx hZ e0 (V_de.ext O.2) (hb hby d17_2) rfl ?_
 refine og_icmp_ne (pc1 := 11) (pc2 := 6) X0 hx (hb hby d17_3) (by decide) (by decide) rfl (fun q => absurd q (by decide)) (fun _ => ?_)
 refine og_aloadN X0 hx rfl rfl (hb hby d17_6) rfl ?_
 refine og_private (pc' := 10) (cells' := 1) (slots' := 10) (W := 0) X0 hx hZ (rm_gr l Z a0 hw a1 mc de kde h0 n0 O E_a1 F_modCount_a1 F_elementData_a1 F_size_a1 S_DE V_de g_a1) hown (ow128 hw) (ow129 hw) (ow131 hw) (ow130 hw) (ow67 hw) (ow132 hw) (by decide) (by rw [hml]; rfl) e0 opd_7 [] [] rfl rfl rfl rfl (by decide) (by decide) rfl rfl (by decide) (by decide) E_a1 (hb hby d17_7) rfl (fun v11 T11 h11 L11 X11 e11 z11 => ?_)
 obtain ⟨nb11, k11, rfl, Nq11, K11, sb11, E_a1', F_modCount_a1', F_elementData_a1', F_size_a1', V_nb11, Ov_nb11⟩ := z11; have N := Fr.app N Nq11
 have s_nb11 : h0.size ≤ nb11 := sb11; have g_nb11 : n0 ≤ nb11 := Nat.le_trans (own_n0 O) s_nb11; have sz_nb11 : h0.size ≤ nb11 := Nat.le_trans K.1 s_nb11; have ne_a1_nb11 : a1 ≠ nb11 := Nat.ne_of_lt (Nat.lt_of_lt_of_le E_a1.lt s_nb11)
 have E_xx := E_xx.keep K11; have K := K.trans K11 (allS (Or.inl (List.mem_of_getElem? (i := 0) rfl)) all0)
 have E_a1 := E_a1'; have F_modCount_a1 := F_modCount_a1'; have F_elementData_a1 := F_elementData_a1'; have F_size_a1 := F_size_a1'
 refine og_astoreN (L' := #[.val (.ref a1), .val (.ref xx), .val (.ref nb11), .val (.int 0)]) X11 hx rfl rfl (hb hby d17_10) rfl ?_
 refine og_aloadN X11 hx rfl rfl (hb hby d17_11) rfl ?_
 refine og_iloadN X11 hx rfl (hb hby d17_12) rfl ?_
 refine og_aloadN X11 hx rfl rfl (hb hby d17_13) rfl ?_
 refine og_aastore X11 hx hZ e11 V_nb11 rfl ⟨by decide, by decide⟩ 0 (by decide) (Nat.le_of_ble_eq_true rfl) rfl (own_sto V_nb11 Ov_nb11 (Ins.of_exa E_xx (ow144 hw))) (hb hby d17_14) rfl (fun T12 h12 X12 e12 W12 V12 => ?_)
 have E_a1 := E_a1.wr W12; have F_modCount_a1 := F_modCount_a1.other W12 (Or.inl ne_a1_nb11); have F_elementData_a1 := F_elementData_a1.other W12 (Or.inl ne_a1_nb11); have F_size_a1 := F_size_a1.other W12 (Or.inl ne_a1_nb11)
 have K := K.wr W12 (Or.inr sz_nb11)
 have N := Fr.snoc X12 N g_nb11
 have V_nb11 : Arv Z h12 nb11 k11 (.object "java/lang/Object") (10 : Int32) [(.ref xx), .null, .null, .null, .null, .null, .null, .null, .null, .null] .null := V12
 refine og_aloadN X12 hx rfl rfl (hb hby d17_15) rfl ?_
 refine og_iloadN X12 hx rfl (hb hby d17_16) rfl ?_
 refine og_iconst (v := 1) X12 hx rfl (hb hby d17_17) rfl ?_
 refine og_iadd X12 hx (hb hby d17_18) rfl ?_
 show OG p e below _ (T12.setTop (mkF m 19 #[.val (.ref a1), .val (.ref xx), .val (.ref nb11), .val (.int 0)] [(.int 1), (.ref a1)]))
 refine og_putfield X12 hx hZ (ty := .int) (host := "") hown (Or.inl (ow121 hw)) Via.refl e12 F_size_a1 E_a1 (Or.inl (ow122 hw)) (ow66 hw) (by decide) rfl rfl (hb hby d17_19) rfl (fun T13 h13 X13 e13 W13 => ?_)
 have F_size_a1_ := F_size_a1.same W13
 have E_a1 := E_a1.wr W13; have F_modCount_a1 := F_modCount_a1.other W13 (Or.inr (slot_ne (Or.inl (ow85 hw)) (Or.inl (ow122 hw)) (by decide) (t := .int) (t' := .int) (by decide) (by decide))); have F_elementData_a1 := F_elementData_a1.other W13 (Or.inr (slot_ne (Or.inl (ow88 hw)) (Or.inl (ow122 hw)) (by decide) (t := (.array (.object "java/lang/Object"))) (t' := .int) (by decide) (by decide))); have V_nb11 := V_nb11.other W13 (Ne.symm ne_a1_nb11)
 have K := K.wr W13 (Or.inl (List.mem_of_getElem? (i := 0) rfl))
 have N := Fr.snoc X13 N g_a1; have F_size_a1 := F_size_a1_
 refine og_retV X13 hx hlk hret (hb hby d17_22) (by decide) (by decide) ?_
 rw [e13]; exact ⟨_, _, rfl, N, K, sz_nb11, E_a1, F_modCount_a1, F_elementData_a1, F_size_a1, V_nb11, Ov_nb11⟩
theorem rm_la_0E (l : Launch) (Z : State) (a0 : Array Value) (hw : HW a0 Z) (a1 xx : Addr) (de : Addr) (kde : ClassId) (h0 : Heap) (n0 : Nat) (O : Old Z n0 h0) (E_a1 : Exa Z h0 a1 "java/util/ArrayList") (F_modCount_a1 : Fld Z h0 a1 "java/util/AbstractList" "modCount" "I" (.int 0)) (F_elementData_a1 : Fld Z h0 a1 "java/util/ArrayList" "elementData" "[Ljava/lang/Object;" (.ref de)) (F_size_a1 : Fld Z h0 a1 "java/util/ArrayList" "size" "I" (.int 0)) (E_xx : Exa Z h0 xx "com/example/marsh_tit/marshtit/stanza/Element") (S_DE : Sta Z Z.heap "java/util/ArrayList" "DEFAULTCAPACITY_EMPTY_ELEMENTDATA" "[Ljava/lang/Object;" (.ref de)) (V_de : Arv Z Z.heap de kde (.object "java/lang/Object") (0 : Int32) [] .null) (g_a1 : n0 ≤ a1) :
  Con l Z (⟨"java/util/ArrayList", "add", "(Ljava/lang/Object;)Z"⟩ : MethodName) jdk_38_method_25_code 2 (some .boolean) ({ frames := 4, cells := 1, slots := 10, locals := 56 } : Room) #[(.ref a1), (.ref xx)] h0 (fun v h L => ∃ b k, v = some (.int 1) ∧ Fr n0 L ∧ Keep h0 h [a1] ∧ h0.size ≤ b ∧ Exa Z h a1 "java/util/ArrayList" ∧ Fld Z h a1 "java/util/AbstractList" "modCount" "I" (.int 1) ∧ Fld Z h a1 "java/util/ArrayList" "elementData" "[Ljava/lang/Object;" (.ref b) ∧ Fld Z h a1 "java/util/ArrayList" "size" "I" (.int 1) ∧ Arv Z h b k (.object "java/lang/Object") (10 : Int32) [(.ref xx), .null, .null, .null, .null, .null, .null, .null, .null, .null] .null ∧ Ovr Z k "java/lang/Object") := by
 refine own_startC opn_16 ?_
 intro p e s m below meth c T0 X0 hx hby hml hZ hown hnm hret hlk e0
 have N := Fr.nil n0; have K := Keep.refl h0 [a1]
 refine OG.cast (oef1 m a1 xx) ?_
 refine og_aloadN X0 hx rfl rfl (hb hby d16_0) rfl ?_
 refine og_dup X0 hx rfl (hb hby d16_1) rfl ?_
 refine og_getfield X0 hx hZ (host := "") hown (Or.inl (ow119 hw)) (Via.of (ow120 hw)) e0 F_modCount_a1 (hb hby d16_2) rfl (fun T11 X11 e11 => ?_)
 refine og_iconst (v := 1) X11 hx rfl (hb hby d16_5) rfl ?_
 refine og_iadd X11 hx (hb hby d16_6) rfl ?_
 show OG p e below _ (T11.setTop (mkF m 7 #[.val (.ref a1), .val (.ref xx)] [(.int 1), (.ref a1)]))
 refine og_putfield X11 hx hZ (ty := .int) (host := "") hown (Or.inl (ow119 hw)) (Via.of (ow120 hw)) e11 F_modCount_a1 E_a1 (Or.inl (ow85 hw)) (ow66 hw) (by decide) rfl rfl (hb hby d16_7) rfl (fun T12 h12 X12 e12 W12 => ?_)
 have F_modCount_a1_ := F_modCount_a1.same W12
 have E_a1 := E_a1.wr W12; have F_elementData_a1 := F_elementData_a1.other W12 (Or.inr (slot_ne (Or.inl (ow88 hw)) (Or.inl (ow85 hw)) (by decide) (t := (.array (.object "java/lang/Object"))) (t' := .int) (by decide) (by decide))); have F_size_a1 := F_size_a1.other W12 (Or.inr (slot_ne (Or.inl (ow122 hw)) (Or.inl (ow85 hw)) (by decide) (t := .int) (t' := .int) (by decide) (by decide))); have E_xx := E_xx.wr W12; have O := O.wr W12 g_a1; have K := K.wr W12 (Or.inl (List.mem_of_getElem? (i := 0) rfl))
 have N := Fr.snoc X12 N g_a1; have F_modCount_a1 := F_modCount_a1_
 refine og_aloadN X12 hx rfl rfl (hb hby d16_10) rfl ?_
 refine og_aloadN X12 hx rfl rfl (hb hby d16_11) rfl ?_
 refine og_aloadN X12 hx rfl rfl (hb hby d16_12) rfl ?_
 refine og_getfield X12 hx hZ (host := "") hown (Or.inl (ow87 hw)) Via.refl e12 F_elementData_a1 (hb hby d16_13) rfl (fun T13 X13 e13 => ?_)
 refine og_aloadN X13 hx rfl rfl (hb hby d16_16) rfl ?_
 refine og_getfield X13 hx hZ (host := "") hown (Or.inl (ow121 hw)) Via.refl e13 F_size_a1 (hb hby d16_17) rfl (fun T14 X14 e14 => ?_)
 refine og_private (pc' := 23) (cells' := 1) (slots' := 10) (W := 0) X14 hx hZ (rm_ad_0E l Z a0 hw a1 xx de kde (1 : Int32) h12 n0 O E_a1 F_modCount_a1 F_elementData_a1 F_size_a1 E_xx S_DE V_de g_a1) hown (ow123 hw) (ow124 hw) (ow126 hw) (ow125 hw) (ow67 hw) (ow127 hw) (by decide) (by rw [hml]; rfl) e14 opd_8 [(.ref xx), (.ref de), (.int 0)] [] rfl rfl rfl rfl (by decide) (by decide) rfl rfl (by decide) (by decide) E_a1 (hb hby d16_20) rfl (fun v15 T15 h15 L15 X15 e15 z15 => ?_)
 obtain ⟨nb15, k15, rfl, Nq15, K15, sb15, E_a1', F_modCount_a1', F_elementData_a1', F_size_a1', V_nb15, Ov_nb15⟩ := z15; have N := Fr.app N Nq15
 have s_nb15 : h12.size ≤ nb15 := sb15; have sz_nb15 : h0.size ≤ nb15 := Nat.le_trans K.1 s_nb15
 have K := K.trans K15 (allS (Or.inl (List.mem_of_getElem? (i := 0) rfl)) all0)
 have E_a1 := E_a1'; have F_modCount_a1 := F_modCount_a1'; have F_elementData_a1 := F_elementData_a1'; have F_size_a1 := F_size_a1'
 refine og_iconst (v := 1) X15 hx rfl (hb hby d16_23) rfl ?_
 refine og_retN X15 hx hlk hret (by simp) (hb hby d16_24) (by decide) (by decide) ?_
 rw [e15]; exact ⟨_, _, rfl, N, K, sz_nb15, E_a1, F_modCount_a1, F_elementData_a1, F_size_a1, V_nb15, Ov_nb15⟩
theorem rm_ad_0S (l : Launch) (Z : State) (a0 : Array Value) (hw : HW a0 Z) (a1 xx : Addr) (de : Addr) (kde : ClassId) (mc : Int32) (h0 : Heap) (n0 : Nat) (O : Old Z n0 h0) (E_a1 : Exa Z h0 a1 "java/util/ArrayList") (F_modCount_a1 : Fld Z h0 a1 "java/util/AbstractList" "modCount" "I" (.int mc)) (F_elementData_a1 : Fld Z h0 a1 "java/util/ArrayList" "elementData" "[Ljava/lang/Object;" (.ref de)) (F_size_a1 : Fld Z h0 a1 "java/util/ArrayList" "size" "I" (.int 0)) (E_xx : Exa Z h0 xx "java/lang/String") (S_DE : Sta Z Z.heap "java/util/ArrayList" "DEFAULTCAPACITY_EMPTY_ELEMENTDATA" "[Ljava/lang/Object;" (.ref de)) (V_de : Arv Z Z.heap de kde (.object "java/lang/Object") (0 : Int32) [] .null) (g_a1 : n0 ≤ a1) :
  Con l Z (⟨"java/util/ArrayList", "add", "(Ljava/lang/Object;[Ljava/lang/Object;I)V"⟩ : MethodName) jdk_38_method_24_code 4 none ({ frames := 3, cells := 1, slots := 10, locals := 41 } : Room) #[(.ref a1), (.ref xx), (.ref de), (.int 0)] h0 (fun v h L => ∃ b k, v = none ∧ Fr n0 L ∧ Keep h0 h [a1] ∧ h0.size ≤ b ∧ Exa Z h a1 "java/util/ArrayList" ∧ Fld Z h a1 "java/util/AbstractList" "modCount" "I" (.int mc) ∧ Fld Z h a1 "java/util/ArrayList" "elementData" "[Ljava/lang/Object;" (.ref b) ∧ Fld Z h a1 "java/util/ArrayList" "size" "I" (.int 1) ∧ Arv Z h b k (.object "java/lang/Object") (10 : Int32) [(.ref xx), .null, .null, .null, .null, .null, .null, .null, .null, .null] .null ∧ Ovr Z k "java/lang/Object") := by
 refine own_startC opn_17 ?_
 intro p e s m below meth c T0 X0 hx hby hml hZ hown hnm hret hlk e0
 have N := Fr.nil n0; have K := Keep.refl h0 [a1]
 refine OG.cast (oef7 m a1 xx de (0 : Int32)) ?_
 refine og_iloadN X0 hx rfl (hb hby d17_0) rfl ?_
 refine og_aloadN X0 hx rfl rfl (hb hby d17_1) rfl ?_
 refine og_arraylength X0 hx hZ e0 (V_de.ext O.2) (hb hby d17_2) rfl ?_
 refine og_icmp_ne (pc1 := 11) (pc2 := 6) X0 hx (hb hby d17_3) (by decide) (by decide) rfl (fun q => absurd q (by decide)) (fun _ => ?_)
 refine og_aloadN X0 hx rfl rfl (hb hby d17_6) rfl ?_
 refine og_private (pc' := 10) (cells' := 1) (slots' := 10) (W := 0) X0 hx hZ (rm_gr l Z a0 hw a1 mc de kde h0 n0 O E_a1 F_modCount_a1 F_elementData_a1 F_size_a1 S_DE V_de g_a1) hown (ow128 hw) (ow129 hw) (ow131 hw) (ow130 hw) (ow67 hw) (ow132 hw) (by decide) (by rw [hml]; rfl) e0 opd_7 [] [] rfl rfl rfl rfl (by decide) (by decide) rfl rfl (by decide) (by decide) E_a1 (hb hby d17_7) rfl (fun v11 T11 h11 L11 X11 e11 z11 => ?_)
 obtain ⟨nb11, k11, rfl, Nq11, K11, sb11, E_a1', F_modCount_a1', F_elementData_a1', F_size_a1', V_nb11, Ov_nb11⟩ := z11; have N := Fr.app N Nq11
 have s_nb11 : h0.size ≤ nb11 := sb11; have g_nb11 : n0 ≤ nb11 := Nat.le_trans (own_n0 O) s_nb11; have sz_nb11 : h0.size ≤ nb11 := Nat.le_trans K.1 s_nb11; have ne_a1_nb11 : a1 ≠ nb11 := Nat.ne_of_lt (Nat.lt_of_lt_of_le E_a1.lt s_nb11)
 have E_xx := E_xx.keep K11; have K := K.trans K11 (allS (Or.inl (List.mem_of_getElem? (i := 0) rfl)) all0)
 have E_a1 := E_a1'; have F_modCount_a1 := F_modCount_a1'; have F_elementData_a1 := F_elementData_a1'; have F_size_a1 := F_size_a1'
 refine og_astoreN (L' := #[.val (.ref a1), .val (.ref xx), .val (.ref nb11), .val (.int 0)]) X11 hx rfl rfl (hb hby d17_10) rfl ?_
 refine og_aloadN X11 hx rfl rfl (hb hby d17_11) rfl ?_
 refine og_iloadN X11 hx rfl (hb hby d17_12) rfl ?_
 refine og_aloadN X11 hx rfl rfl (hb hby d17_13) rfl ?_
 refine og_aastore X11 hx hZ e11 V_nb11 rfl ⟨by decide, by decide⟩ 0 (by decide) (Nat.le_of_ble_eq_true rfl) rfl (own_sto V_nb11 Ov_nb11 (Ins.of_exa E_xx (ow384 hw))) (hb hby d17_14) rfl (fun T12 h12 X12 e12 W12 V12 => ?_)
 have E_a1 := E_a1.wr W12; have F_modCount_a1 := F_modCount_a1.other W12 (Or.inl ne_a1_nb11); have F_elementData_a1 := F_elementData_a1.other W12 (Or.inl ne_a1_nb11); have F_size_a1 := F_size_a1.other W12 (Or.inl ne_a1_nb11)
 have K := K.wr W12 (Or.inr sz_nb11)
 have N := Fr.snoc X12 N g_nb11
 have V_nb11 : Arv Z h12 nb11 k11 (.object "java/lang/Object") (10 : Int32) [(.ref xx), .null, .null, .null, .null, .null, .null, .null, .null, .null] .null := V12
 refine og_aloadN X12 hx rfl rfl (hb hby d17_15) rfl ?_
 refine og_iloadN X12 hx rfl (hb hby d17_16) rfl ?_
 refine og_iconst (v := 1) X12 hx rfl (hb hby d17_17) rfl ?_
 refine og_iadd X12 hx (hb hby d17_18) rfl ?_
 show OG p e below _ (T12.setTop (mkF m 19 #[.val (.ref a1), .val (.ref xx), .val (.ref nb11), .val (.int 0)] [(.int 1), (.ref a1)]))
 refine og_putfield X12 hx hZ (ty := .int) (host := "") hown (Or.inl (ow121 hw)) Via.refl e12 F_size_a1 E_a1 (Or.inl (ow122 hw)) (ow66 hw) (by decide) rfl rfl (hb hby d17_19) rfl (fun T13 h13 X13 e13 W13 => ?_)
 have F_size_a1_ := F_size_a1.same W13
 have E_a1 := E_a1.wr W13; have F_modCount_a1 := F_modCount_a1.other W13 (Or.inr (slot_ne (Or.inl (ow85 hw)) (Or.inl (ow122 hw)) (by decide) (t := .int) (t' := .int) (by decide) (by decide))); have F_elementData_a1 := F_elementData_a1.other W13 (Or.inr (slot_ne (Or.inl (ow88 hw)) (Or.inl (ow122 hw)) (by decide) (t := (.array (.object "java/lang/Object"))) (t' := .int) (by decide) (by decide))); have V_nb11 := V_nb11.other W13 (Ne.symm ne_a1_nb11)
 have K := K.wr W13 (Or.inl (List.mem_of_getElem? (i := 0) rfl))
 have N := Fr.snoc X13 N g_a1; have F_size_a1 := F_size_a1_
 refine og_retV X13 hx hlk hret (hb hby d17_22) (by decide) (by decide) ?_
 rw [e13]; exact ⟨_, _, rfl, N, K, sz_nb11, E_a1, F_modCount_a1, F_elementData_a1, F_size_a1, V_nb11, Ov_nb11⟩
theorem rm_la_0S (l : Launch) (Z : State) (a0 : Array Value) (hw : HW a0 Z) (a1 xx : Addr) (de : Addr) (kde : ClassId) (h0 : Heap) (n0 : Nat) (O : Old Z n0 h0) (E_a1 : Exa Z h0 a1 "java/util/ArrayList") (F_modCount_a1 : Fld Z h0 a1 "java/util/AbstractList" "modCount" "I" (.int 0)) (F_elementData_a1 : Fld Z h0 a1 "java/util/ArrayList" "elementData" "[Ljava/lang/Object;" (.ref de)) (F_size_a1 : Fld Z h0 a1 "java/util/ArrayList" "size" "I" (.int 0)) (E_xx : Exa Z h0 xx "java/lang/String") (S_DE : Sta Z Z.heap "java/util/ArrayList" "DEFAULTCAPACITY_EMPTY_ELEMENTDATA" "[Ljava/lang/Object;" (.ref de)) (V_de : Arv Z Z.heap de kde (.object "java/lang/Object") (0 : Int32) [] .null) (g_a1 : n0 ≤ a1) :
  Con l Z (⟨"java/util/ArrayList", "add", "(Ljava/lang/Object;)Z"⟩ : MethodName) jdk_38_method_25_code 2 (some .boolean) ({ frames := 4, cells := 1, slots := 10, locals := 56 } : Room) #[(.ref a1), (.ref xx)] h0 (fun v h L => ∃ b k, v = some (.int 1) ∧ Fr n0 L ∧ Keep h0 h [a1] ∧ h0.size ≤ b ∧ Exa Z h a1 "java/util/ArrayList" ∧ Fld Z h a1 "java/util/AbstractList" "modCount" "I" (.int 1) ∧ Fld Z h a1 "java/util/ArrayList" "elementData" "[Ljava/lang/Object;" (.ref b) ∧ Fld Z h a1 "java/util/ArrayList" "size" "I" (.int 1) ∧ Arv Z h b k (.object "java/lang/Object") (10 : Int32) [(.ref xx), .null, .null, .null, .null, .null, .null, .null, .null, .null] .null ∧ Ovr Z k "java/lang/Object") := by
 refine own_startC opn_16 ?_
 intro p e s m below meth c T0 X0 hx hby hml hZ hown hnm hret hlk e0
 have N := Fr.nil n0; have K := Keep.refl h0 [a1]
 refine OG.cast (oef1 m a1 xx) ?_
 refine og_aloadN X0 hx rfl rfl (hb hby d16_0) rfl ?_
 refine og_dup X0 hx rfl (hb hby d16_1) rfl ?_
 refine og_getfield X0 hx hZ (host := "") hown (Or.inl (ow119 hw)) (Via.of (ow120 hw)) e0 F_modCount_a1 (hb hby d16_2) rfl (fun T11 X11 e11 => ?_)
 refine og_iconst (v := 1) X11 hx rfl (hb hby d16_5) rfl ?_
 refine og_iadd X11 hx (hb hby d16_6) rfl ?_
 show OG p e below _ (T11.setTop (mkF m 7 #[.val (.ref a1), .val (.ref xx)] [(.int 1), (.ref a1)]))
 refine og_putfield X11 hx hZ (ty := .int) (host := "") hown (Or.inl (ow119 hw)) (Via.of (ow120 hw)) e11 F_modCount_a1 E_a1 (Or.inl (ow85 hw)) (ow66 hw) (by decide) rfl rfl (hb hby d16_7) rfl (fun T12 h12 X12 e12 W12 => ?_)
 have F_modCount_a1_ := F_modCount_a1.same W12
 have E_a1 := E_a1.wr W12; have F_elementData_a1 := F_elementData_a1.other W12 (Or.inr (slot_ne (Or.inl (ow88 hw)) (Or.inl (ow85 hw)) (by decide) (t := (.array (.object "java/lang/Object"))) (t' := .int) (by decide) (by decide))); have F_size_a1 := F_size_a1.other W12 (Or.inr (slot_ne (Or.inl (ow122 hw)) (Or.inl (ow85 hw)) (by decide) (t := .int) (t' := .int) (by decide) (by decide))); have E_xx := E_xx.wr W12; have O := O.wr W12 g_a1; have K := K.wr W12 (Or.inl (List.mem_of_getElem? (i := 0) rfl))
 have N := Fr.snoc X12 N g_a1; have F_modCount_a1 := F_modCount_a1_
 refine og_aloadN X12 hx rfl rfl (hb hby d16_10) rfl ?_
 refine og_aloadN X12 hx rfl rfl (hb hby d16_11) rfl ?_
 refine og_aloadN X12 hx rfl rfl (hb hby d16_12) rfl ?_
 refine og_getfield X12 hx hZ (host := "") hown (Or.inl (ow87 hw)) Via.refl e12 F_elementData_a1 (hb hby d16_13) rfl (fun T13 X13 e13 => ?_)
 refine og_aloadN X13 hx rfl rfl (hb hby d16_16) rfl ?_
 refine og_getfield X13 hx hZ (host := "") hown (Or.inl (ow121 hw)) Via.refl e13 F_size_a1 (hb hby d16_17) rfl (fun T14 X14 e14 => ?_)
 refine og_private (pc' := 23) (cells' := 1) (slots' := 10) (W := 0) X14 hx hZ (rm_ad_0S l Z a0 hw a1 xx de kde (1 : Int32) h12 n0 O E_a1 F_modCount_a1 F_elementData_a1 F_size_a1 E_xx S_DE V_de g_a1) hown (ow123 hw) (ow124 hw) (ow126 hw) (ow125 hw) (ow67 hw) (ow127 hw) (by decide) (by rw [hml]; rfl) e14 opd_8 [(.ref xx), (.ref de), (.int 0)] [] rfl rfl rfl rfl (by decide) (by decide) rfl rfl (by decide) (by decide) E_a1 (hb hby d16_20) rfl (fun v15 T15 h15 L15 X15 e15 z15 => ?_)
 obtain ⟨nb15, k15, rfl, Nq15, K15, sb15, E_a1', F_modCount_a1', F_elementData_a1', F_size_a1', V_nb15, Ov_nb15⟩ := z15; have N := Fr.app N Nq15
 have s_nb15 : h12.size ≤ nb15 := sb15; have sz_nb15 : h0.size ≤ nb15 := Nat.le_trans K.1 s_nb15
 have K := K.trans K15 (allS (Or.inl (List.mem_of_getElem? (i := 0) rfl)) all0)
 have E_a1 := E_a1'; have F_modCount_a1 := F_modCount_a1'; have F_elementData_a1 := F_elementData_a1'; have F_size_a1 := F_size_a1'
 refine og_iconst (v := 1) X15 hx rfl (hb hby d16_23) rfl ?_
 refine og_retN X15 hx hlk hret (by simp) (hb hby d16_24) (by decide) (by decide) ?_
 rw [e15]; exact ⟨_, _, rfl, N, K, sz_nb15, E_a1, F_modCount_a1, F_elementData_a1, F_size_a1, V_nb15, Ov_nb15⟩
theorem rm_ad_1E (l : Launch) (Z : State) (a0 : Array Value) (hw : HW a0 Z) (a1 xx bb x0 : Addr) (kb : ClassId) (Ov_bb : Ovr Z kb "java/lang/Object") (mc : Int32) (h0 : Heap) (n0 : Nat) (O : Old Z n0 h0) (E_a1 : Exa Z h0 a1 "java/util/ArrayList") (F_modCount_a1 : Fld Z h0 a1 "java/util/AbstractList" "modCount" "I" (.int mc)) (F_elementData_a1 : Fld Z h0 a1 "java/util/ArrayList" "elementData" "[Ljava/lang/Object;" (.ref bb)) (F_size_a1 : Fld Z h0 a1 "java/util/ArrayList" "size" "I" (.int 1)) (E_xx : Exa Z h0 xx "com/example/marsh_tit/marshtit/stanza/Element") (V_bb : Arv Z h0 bb kb (.object "java/lang/Object") (10 : Int32) [(.ref x0), .null, .null, .null, .null, .null, .null, .null, .null, .null] .null) (g_a1 : n0 ≤ a1) (g_bb : n0 ≤ bb) (ne_a1_bb : a1 ≠ bb) :
  Con l Z (⟨"java/util/ArrayList", "add", "(Ljava/lang/Object;[Ljava/lang/Object;I)V"⟩ : MethodName) jdk_38_method_24_code 4 none ({ frames := 0, cells := 0, slots := 0, locals := 0 } : Room) #[(.ref a1), (.ref xx), (.ref bb), (.int 1)] h0 (fun v h L => v = none ∧ Fr n0 L ∧ Keep h0 h [a1, bb] ∧ Exa Z h a1 "java/util/ArrayList" ∧ Fld Z h a1 "java/util/AbstractList" "modCount" "I" (.int mc) ∧ Fld Z h a1 "java/util/ArrayList" "elementData" "[Ljava/lang/Object;" (.ref bb) ∧ Fld Z h a1 "java/util/ArrayList" "size" "I" (.int 2) ∧ Arv Z h bb kb (.object "java/lang/Object") (10 : Int32) [(.ref x0), (.ref xx), .null, .null, .null, .null, .null, .null, .null, .null] .null) := by
 refine own_startC opn_17 ?_
 intro p e s m below meth c T0 X0 hx hby hml hZ hown hnm hret hlk e0
 have N := Fr.nil n0; have K := Keep.refl h0 [a1, bb]
 refine OG.cast (oef7 m a1 xx bb (1 : Int32)) ?_
 refine og_iloadN X0 hx rfl (hb hby d17_0) rfl ?_
 refine og_aloadN X0 hx rfl rfl (hb hby d17_1) rfl ?_
 refine og_arraylength X0 hx hZ e0 V_bb (hb hby d17_2) rfl ?_
 refine og_icmp_ne (pc1 := 11) (pc2 := 6) X0 hx (hb hby d17_3) (by decide) (by decide) rfl (fun _ => ?_) (fun q => absurd q (by decide))
 refine og_aloadN X0 hx rfl rfl (hb hby d17_11) rfl ?_
 refine og_iloadN X0 hx rfl (hb hby d17_12) rfl ?_
 refine og_aloadN X0 hx rfl rfl (hb hby d17_13) rfl ?_
 refine og_aastore X0 hx hZ e0 V_bb rfl ⟨by decide, by decide⟩ 1 (by decide) (Nat.le_of_ble_eq_true rfl) rfl (own_sto V_bb Ov_bb (Ins.of_exa E_xx (ow144 hw))) (hb hby d17_14) rfl (fun T11 h11 X11 e11 W11 V11 => ?_)
 have E_a1 := E_a1.wr W11; have F_modCount_a1 := F_modCount_a1.other W11 (Or.inl ne_a1_bb); have F_elementData_a1 := F_elementData_a1.other W11 (Or.inl ne_a1_bb); have F_size_a1 := F_size_a1.other W11 (Or.inl ne_a1_bb)
 have K := K.wr W11 (Or.inl (List.mem_of_getElem? (i := 1) rfl))
 have N := Fr.snoc X11 N g_bb
 have V_bb : Arv Z h11 bb kb (.object "java/lang/Object") (10 : Int32) [(.ref x0), (.ref xx), .null, .null, .null, .null, .null, .null, .null, .null] .null := V11
 refine og_aloadN X11 hx rfl rfl (hb hby d17_15) rfl ?_
 refine og_iloadN X11 hx rfl (hb hby d17_16) rfl ?_
 refine og_iconst (v := 1) X11 hx rfl (hb hby d17_17) rfl ?_
 refine og_iadd X11 hx (hb hby d17_18) rfl ?_
 show OG p e below _ (T11.setTop (mkF m 19 #[.val (.ref a1), .val (.ref xx), .val (.ref bb), .val (.int 1)] [(.int 2), (.ref a1)]))
 refine og_putfield X11 hx hZ (ty := .int) (host := "") hown (Or.inl (ow121 hw)) Via.refl e11 F_size_a1 E_a1 (Or.inl (ow122 hw)) (ow66 hw) (by decide) rfl rfl (hb hby d17_19) rfl (fun T12 h12 X12 e12 W12 => ?_)
 have F_size_a1_ := F_size_a1.same W12
 have E_a1 := E_a1.wr W12; have F_modCount_a1 := F_modCount_a1.other W12 (Or.inr (slot_ne (Or.inl (ow85 hw)) (Or.inl (ow122 hw)) (by decide) (t := .int) (t' := .int) (by decide) (by decide))); have F_elementData_a1 := F_elementData_a1.other W12 (Or.inr (slot_ne (Or.inl (ow88 hw)) (Or.inl (ow122 hw)) (by decide) (t := (.array (.object "java/lang/Object"))) (t' := .int) (by decide) (by decide))); have V_bb := V_bb.other W12 (Ne.symm ne_a1_bb)
 have K := K.wr W12 (Or.inl (List.mem_of_getElem? (i := 0) rfl))
 have N := Fr.snoc X12 N g_a1; have F_size_a1 := F_size_a1_
 refine og_retV X12 hx hlk hret (hb hby d17_22) (by decide) (by decide) ?_
 rw [e12]; exact ⟨rfl, N, K, E_a1, F_modCount_a1, F_elementData_a1, F_size_a1, V_bb⟩
theorem rm_la_1E (l : Launch) (Z : State) (a0 : Array Value) (hw : HW a0 Z) (a1 xx bb x0 : Addr) (kb : ClassId) (Ov_bb : Ovr Z kb "java/lang/Object") (h0 : Heap) (n0 : Nat) (O : Old Z n0 h0) (E_a1 : Exa Z h0 a1 "java/util/ArrayList") (F_modCount_a1 : Fld Z h0 a1 "java/util/AbstractList" "modCount" "I" (.int 1)) (F_elementData_a1 : Fld Z h0 a1 "java/util/ArrayList" "elementData" "[Ljava/lang/Object;" (.ref bb)) (F_size_a1 : Fld Z h0 a1 "java/util/ArrayList" "size" "I" (.int 1)) (E_xx : Exa Z h0 xx "com/example/marsh_tit/marshtit/stanza/Element") (V_bb : Arv Z h0 bb kb (.object "java/lang/Object") (10 : Int32) [(.ref x0), .null, .null, .null, .null, .null, .null, .null, .null, .null] .null) (g_a1 : n0 ≤ a1) (g_bb : n0 ≤ bb) (ne_a1_bb : a1 ≠ bb) :
  Con l Z (⟨"java/util/ArrayList", "add", "(Ljava/lang/Object;)Z"⟩ : MethodName) jdk_38_method_25_code 2 (some .boolean) ({ frames := 1, cells := 0, slots := 0, locals := 15 } : Room) #[(.ref a1), (.ref xx)] h0 (fun v h L => v = some (.int 1) ∧ Fr n0 L ∧ Keep h0 h [a1, bb] ∧ Exa Z h a1 "java/util/ArrayList" ∧ Fld Z h a1 "java/util/AbstractList" "modCount" "I" (.int 2) ∧ Fld Z h a1 "java/util/ArrayList" "elementData" "[Ljava/lang/Object;" (.ref bb) ∧ Fld Z h a1 "java/util/ArrayList" "size" "I" (.int 2) ∧ Arv Z h bb kb (.object "java/lang/Object") (10 : Int32) [(.ref x0), (.ref xx), .null, .null, .null, .null, .null, .null, .null, .null] .null) := by
 refine own_startC opn_16 ?_
 intro p e s m below meth c T0 X0 hx hby hml hZ hown hnm hret hlk e0
 have N := Fr.nil n0; have K := Keep.refl h0 [a1, bb]
 refine OG.cast (oef1 m a1 xx) ?_
 refine og_aloadN X0 hx rfl rfl (hb hby d16_0) rfl ?_
 refine og_dup X0 hx rfl (hb hby d16_1) rfl ?_
 refine og_getfield X0 hx hZ (host := "") hown (Or.inl (ow119 hw)) (Via.of (ow120 hw)) e0 F_modCount_a1 (hb hby d16_2) rfl (fun T11 X11 e11 => ?_)
 refine og_iconst (v := 1) X11 hx rfl (hb hby d16_5) rfl ?_
 refine og_iadd X11 hx (hb hby d16_6) rfl ?_
 show OG p e below _ (T11.setTop (mkF m 7 #[.val (.ref a1), .val (.ref xx)] [(.int 2), (.ref a1)]))
 refine og_putfield X11 hx hZ (ty := .int) (host := "") hown (Or.inl (ow119 hw)) (Via.of (ow120 hw)) e11 F_modCount_a1 E_a1 (Or.inl (ow85 hw)) (ow66 hw) (by decide) rfl rfl (hb hby d16_7) rfl (fun T12 h12 X12 e12 W12 => ?_)
 have F_modCount_a1_ := F_modCount_a1.same W12
 have E_a1 := E_a1.wr W12; have F_elementData_a1 := F_elementData_a1.other W12 (Or.inr (slot_ne (Or.inl (ow88 hw)) (Or.inl (ow85 hw)) (by decide) (t := (.array (.object "java/lang/Object"))) (t' := .int) (by decide) (by decide))); have F_size_a1 := F_size_a1.other W12 (Or.inr (slot_ne (Or.inl (ow122 hw)) (Or.inl (ow85 hw)) (by decide) (t := .int) (t' := .int) (by decide) (by decide))); have E_xx := E_xx.wr W12; have V_bb := V_bb.other W12 (Ne.symm ne_a1_bb); have O := O.wr W12 g_a1
 have K := K.wr W12 (Or.inl (List.mem_of_getElem? (i := 0) rfl))
 have N := Fr.snoc X12 N g_a1; have F_modCount_a1 := F_modCount_a1_
 refine og_aloadN X12 hx rfl rfl (hb hby d16_10) rfl ?_
 refine og_aloadN X12 hx rfl rfl (hb hby d16_11) rfl ?_
 refine og_aloadN X12 hx rfl rfl (hb hby d16_12) rfl ?_
 refine og_getfield X12 hx hZ (host := "") hown (Or.inl (ow87 hw)) Via.refl e12 F_elementData_a1 (hb hby d16_13) rfl (fun T13 X13 e13 => ?_)
 refine og_aloadN X13 hx rfl rfl (hb hby d16_16) rfl ?_
 refine og_getfield X13 hx hZ (host := "") hown (Or.inl (ow121 hw)) Via.refl e13 F_size_a1 (hb hby d16_17) rfl (fun T14 X14 e14 => ?_)
 refine og_private (pc' := 23) (cells' := 0) (slots' := 0) (W := 0) X14 hx hZ (rm_ad_1E l Z a0 hw a1 xx bb x0 kb Ov_bb (2 : Int32) h12 n0 O E_a1 F_modCount_a1 F_elementData_a1 F_size_a1 E_xx V_bb g_a1 g_bb ne_a1_bb) hown (ow123 hw) (ow124 hw) (ow126 hw) (ow125 hw) (ow67 hw) (ow127 hw) (by decide) (by rw [hml]; rfl) e14 opd_8 [(.ref xx), (.ref bb), (.int 1)] [] rfl rfl rfl rfl (by decide) (by decide) rfl rfl (by decide) (by decide) E_a1 (hb hby d16_20) rfl (fun v15 T15 h15 L15 X15 e15 z15 => ?_)
 obtain ⟨rfl, Nq15, K15, E_a1', F_modCount_a1', F_elementData_a1', F_size_a1', V_bb'⟩ := z15; have N := Fr.app N Nq15
 have K := K.trans K15 (allS (Or.inl (List.mem_of_getElem? (i := 0) rfl)) (allS (Or.inl (List.mem_of_getElem? (i := 1) rfl)) all0))
 have V_bb := V_bb'
 have E_a1 := E_a1'; have F_modCount_a1 := F_modCount_a1'; have F_elementData_a1 := F_elementData_a1'; have F_size_a1 := F_size_a1'
 refine og_iconst (v := 1) X15 hx rfl (hb hby d16_23) rfl ?_
 refine og_retN X15 hx hlk hret (by simp) (hb hby d16_24) (by decide) (by decide) ?_
 rw [e15]; exact ⟨rfl, N, K, E_a1, F_modCount_a1, F_elementData_a1, F_size_a1, V_bb⟩
theorem rm_ad_1S (l : Launch) (Z : State) (a0 : Array Value) (hw : HW a0 Z) (a1 xx bb x0 : Addr) (kb : ClassId) (Ov_bb : Ovr Z kb "java/lang/Object") (mc : Int32) (h0 : Heap) (n0 : Nat) (O : Old Z n0 h0) (E_a1 : Exa Z h0 a1 "java/util/ArrayList") (F_modCount_a1 : Fld Z h0 a1 "java/util/AbstractList" "modCount" "I" (.int mc)) (F_elementData_a1 : Fld Z h0 a1 "java/util/ArrayList" "elementData" "[Ljava/lang/Object;" (.ref bb)) (F_size_a1 : Fld Z h0 a1 "java/util/ArrayList" "size" "I" (.int 1)) (E_xx : Exa Z h0 xx "java/lang/String") (V_bb : Arv Z h0 bb kb (.object "java/lang/Object") (10 : Int32) [(.ref x0), .null, .null, .null, .null, .null, .null, .null, .null, .null] .null) (g_a1 : n0 ≤ a1) (g_bb : n0 ≤ bb) (ne_a1_bb : a1 ≠ bb) :
  Con l Z (⟨"java/util/ArrayList", "add", "(Ljava/lang/Object;[Ljava/lang/Object;I)V"⟩ : MethodName) jdk_38_method_24_code 4 none ({ frames := 0, cells := 0, slots := 0, locals := 0 } : Room) #[(.ref a1), (.ref xx), (.ref bb), (.int 1)] h0 (fun v h L => v = none ∧ Fr n0 L ∧ Keep h0 h [a1, bb] ∧ Exa Z h a1 "java/util/ArrayList" ∧ Fld Z h a1 "java/util/AbstractList" "modCount" "I" (.int mc) ∧ Fld Z h a1 "java/util/ArrayList" "elementData" "[Ljava/lang/Object;" (.ref bb) ∧ Fld Z h a1 "java/util/ArrayList" "size" "I" (.int 2) ∧ Arv Z h bb kb (.object "java/lang/Object") (10 : Int32) [(.ref x0), (.ref xx), .null, .null, .null, .null, .null, .null, .null, .null] .null) := by
 refine own_startC opn_17 ?_
 intro p e s m below meth c T0 X0 hx hby hml hZ hown hnm hret hlk e0
 have N := Fr.nil n0; have K := Keep.refl h0 [a1, bb]
 refine OG.cast (oef7 m a1 xx bb (1 : Int32)) ?_
 refine og_iloadN X0 hx rfl (hb hby d17_0) rfl ?_
 refine og_aloadN X0 hx rfl rfl (hb hby d17_1) rfl ?_
 refine og_arraylength X0 hx hZ e0 V_bb (hb hby d17_2) rfl ?_
 refine og_icmp_ne (pc1 := 11) (pc2 := 6) X0 hx (hb hby d17_3) (by decide) (by decide) rfl (fun _ => ?_) (fun q => absurd q (by decide))
 refine og_aloadN X0 hx rfl rfl (hb hby d17_11) rfl ?_
 refine og_iloadN X0 hx rfl (hb hby d17_12) rfl ?_
 refine og_aloadN X0 hx rfl rfl (hb hby d17_13) rfl ?_
 refine og_aastore X0 hx hZ e0 V_bb rfl ⟨by decide, by decide⟩ 1 (by decide) (Nat.le_of_ble_eq_true rfl) rfl (own_sto V_bb Ov_bb (Ins.of_exa E_xx (ow384 hw))) (hb hby d17_14) rfl (fun T11 h11 X11 e11 W11 V11 => ?_)
 have E_a1 := E_a1.wr W11; have F_modCount_a1 := F_modCount_a1.other W11 (Or.inl ne_a1_bb); have F_elementData_a1 := F_elementData_a1.other W11 (Or.inl ne_a1_bb); have F_size_a1 := F_size_a1.other W11 (Or.inl ne_a1_bb)
 have K := K.wr W11 (Or.inl (List.mem_of_getElem? (i := 1) rfl))
 have N := Fr.snoc X11 N g_bb
 have V_bb : Arv Z h11 bb kb (.object "java/lang/Object") (10 : Int32) [(.ref x0), (.ref xx), .null, .null, .null, .null, .null, .null, .null, .null] .null := V11
 refine og_aloadN X11 hx rfl rfl (hb hby d17_15) rfl ?_
 refine og_iloadN X11 hx rfl (hb hby d17_16) rfl ?_
 refine og_iconst (v := 1) X11 hx rfl (hb hby d17_17) rfl ?_
 refine og_iadd X11 hx (hb hby d17_18) rfl ?_
 show OG p e below _ (T11.setTop (mkF m 19 #[.val (.ref a1), .val (.ref xx), .val (.ref bb), .val (.int 1)] [(.int 2), (.ref a1)]))
 refine og_putfield X11 hx hZ (ty := .int) (host := "") hown (Or.inl (ow121 hw)) Via.refl e11 F_size_a1 E_a1 (Or.inl (ow122 hw)) (ow66 hw) (by decide) rfl rfl (hb hby d17_19) rfl (fun T12 h12 X12 e12 W12 => ?_)
 have F_size_a1_ := F_size_a1.same W12
 have E_a1 := E_a1.wr W12; have F_modCount_a1 := F_modCount_a1.other W12 (Or.inr (slot_ne (Or.inl (ow85 hw)) (Or.inl (ow122 hw)) (by decide) (t := .int) (t' := .int) (by decide) (by decide))); have F_elementData_a1 := F_elementData_a1.other W12 (Or.inr (slot_ne (Or.inl (ow88 hw)) (Or.inl (ow122 hw)) (by decide) (t := (.array (.object "java/lang/Object"))) (t' := .int) (by decide) (by decide))); have V_bb := V_bb.other W12 (Ne.symm ne_a1_bb)
 have K := K.wr W12 (Or.inl (List.mem_of_getElem? (i := 0) rfl))
 have N := Fr.snoc X12 N g_a1; have F_size_a1 := F_size_a1_
 refine og_retV X12 hx hlk hret (hb hby d17_22) (by decide) (by decide) ?_
 rw [e12]; exact ⟨rfl, N, K, E_a1, F_modCount_a1, F_elementData_a1, F_size_a1, V_bb⟩
theorem rm_la_1S (l : Launch) (Z : State) (a0 : Array Value) (hw : HW a0 Z) (a1 xx bb x0 : Addr) (kb : ClassId) (Ov_bb : Ovr Z kb "java/lang/Object") (h0 : Heap) (n0 : Nat) (O : Old Z n0 h0) (E_a1 : Exa Z h0 a1 "java/util/ArrayList") (F_modCount_a1 : Fld Z h0 a1 "java/util/AbstractList" "modCount" "I" (.int 1)) (F_elementData_a1 : Fld Z h0 a1 "java/util/ArrayList" "elementData" "[Ljava/lang/Object;" (.ref bb)) (F_size_a1 : Fld Z h0 a1 "java/util/ArrayList" "size" "I" (.int 1)) (E_xx : Exa Z h0 xx "java/lang/String") (V_bb : Arv Z h0 bb kb (.object "java/lang/Object") (10 : Int32) [(.ref x0), .null, .null, .null, .null, .null, .null, .null, .null, .null] .null) (g_a1 : n0 ≤ a1) (g_bb : n0 ≤ bb) (ne_a1_bb : a1 ≠ bb) :
  Con l Z (⟨"java/util/ArrayList", "add", "(Ljava/lang/Object;)Z"⟩ : MethodName) jdk_38_method_25_code 2 (some .boolean) ({ frames := 1, cells := 0, slots := 0, locals := 15 } : Room) #[(.ref a1), (.ref xx)] h0 (fun v h L => v = some (.int 1) ∧ Fr n0 L ∧ Keep h0 h [a1, bb] ∧ Exa Z h a1 "java/util/ArrayList" ∧ Fld Z h a1 "java/util/AbstractList" "modCount" "I" (.int 2) ∧ Fld Z h a1 "java/util/ArrayList" "elementData" "[Ljava/lang/Object;" (.ref bb) ∧ Fld Z h a1 "java/util/ArrayList" "size" "I" (.int 2) ∧ Arv Z h bb kb (.object "java/lang/Object") (10 : Int32) [(.ref x0), (.ref xx), .null, .null, .null, .null, .null, .null, .null, .null] .null) := by
 refine own_startC opn_16 ?_
 intro p e s m below meth c T0 X0 hx hby hml hZ hown hnm hret hlk e0
 have N := Fr.nil n0; have K := Keep.refl h0 [a1, bb]
 refine OG.cast (oef1 m a1 xx) ?_
 refine og_aloadN X0 hx rfl rfl (hb hby d16_0) rfl ?_
 refine og_dup X0 hx rfl (hb hby d16_1) rfl ?_
 refine og_getfield X0 hx hZ (host := "") hown (Or.inl (ow119 hw)) (Via.of (ow120 hw)) e0 F_modCount_a1 (hb hby d16_2) rfl (fun T11 X11 e11 => ?_)
 refine og_iconst (v := 1) X11 hx rfl (hb hby d16_5) rfl ?_
 refine og_iadd X11 hx (hb hby d16_6) rfl ?_
 show OG p e below _ (T11.setTop (mkF m 7 #[.val (.ref a1), .val (.ref xx)] [(.int 2), (.ref a1)]))
 refine og_putfield X11 hx hZ (ty := .int) (host := "") hown (Or.inl (ow119 hw)) (Via.of (ow120 hw)) e11 F_modCount_a1 E_a1 (Or.inl (ow85 hw)) (ow66 hw) (by decide) rfl rfl (hb hby d16_7) rfl (fun T12 h12 X12 e12 W12 => ?_)
 have F_modCount_a1_ := F_modCount_a1.same W12
 have E_a1 := E_a1.wr W12; have F_elementData_a1 := F_elementData_a1.other W12 (Or.inr (slot_ne (Or.inl (ow88 hw)) (Or.inl (ow85 hw)) (by decide) (t := (.array (.object "java/lang/Object"))) (t' := .int) (by decide) (by decide))); have F_size_a1 := F_size_a1.other W12 (Or.inr (slot_ne (Or.inl (ow122 hw)) (Or.inl (ow85 hw)) (by decide) (t := .int) (t' := .int) (by decide) (by decide))); have E_xx := E_xx.wr W12; have V_bb := V_bb.other W12 (Ne.symm ne_a1_bb); have O := O.wr W12 g_a1
 have K := K.wr W12 (Or.inl (List.mem_of_getElem? (i := 0) rfl))
 have N := Fr.snoc X12 N g_a1; have F_modCount_a1 := F_modCount_a1_
 refine og_aloadN X12 hx rfl rfl (hb hby d16_10) rfl ?_
 refine og_aloadN X12 hx rfl rfl (hb hby d16_11) rfl ?_
 refine og_aloadN X12 hx rfl rfl (hb hby d16_12) rfl ?_
 refine og_getfield X12 hx hZ (host := "") hown (Or.inl (ow87 hw)) Via.refl e12 F_elementData_a1 (hb hby d16_13) rfl (fun T13 X13 e13 => ?_)
 refine og_aloadN X13 hx rfl rfl (hb hby d16_16) rfl ?_
 refine og_getfield X13 hx hZ (host := "") hown (Or.inl (ow121 hw)) Via.refl e13 F_size_a1 (hb hby d16_17) rfl (fun T14 X14 e14 => ?_)
 refine og_private (pc' := 23) (cells' := 0) (slots' := 0) (W := 0) X14 hx hZ (rm_ad_1S l Z a0 hw a1 xx bb x0 kb Ov_bb (2 : Int32) h12 n0 O E_a1 F_modCount_a1 F_elementData_a1 F_size_a1 E_xx V_bb g_a1 g_bb ne_a1_bb) hown (ow123 hw) (ow124 hw) (ow126 hw) (ow125 hw) (ow67 hw) (ow127 hw) (by decide) (by rw [hml]; rfl) e14 opd_8 [(.ref xx), (.ref bb), (.int 1)] [] rfl rfl rfl rfl (by decide) (by decide) rfl rfl (by decide) (by decide) E_a1 (hb hby d16_20) rfl (fun v15 T15 h15 L15 X15 e15 z15 => ?_)
 obtain ⟨rfl, Nq15, K15, E_a1', F_modCount_a1', F_elementData_a1', F_size_a1', V_bb'⟩ := z15; have N := Fr.app N Nq15
 have K := K.trans K15 (allS (Or.inl (List.mem_of_getElem? (i := 0) rfl)) (allS (Or.inl (List.mem_of_getElem? (i := 1) rfl)) all0))
 have V_bb := V_bb'
 have E_a1 := E_a1'; have F_modCount_a1 := F_modCount_a1'; have F_elementData_a1 := F_elementData_a1'; have F_size_a1 := F_size_a1'
 refine og_iconst (v := 1) X15 hx rfl (hb hby d16_23) rfl ?_
 refine og_retN X15 hx hlk hret (by simp) (hb hby d16_24) (by decide) (by decide) ?_
 rw [e15]; exact ⟨rfl, N, K, E_a1, F_modCount_a1, F_elementData_a1, F_size_a1, V_bb⟩
theorem rm_ad_2E (l : Launch) (Z : State) (a0 : Array Value) (hw : HW a0 Z) (a1 xx bb x0 x1 : Addr) (kb : ClassId) (Ov_bb : Ovr Z kb "java/lang/Object") (mc : Int32) (h0 : Heap) (n0 : Nat) (O : Old Z n0 h0) (E_a1 : Exa Z h0 a1 "java/util/ArrayList") (F_modCount_a1 : Fld Z h0 a1 "java/util/AbstractList" "modCount" "I" (.int mc)) (F_elementData_a1 : Fld Z h0 a1 "java/util/ArrayList" "elementData" "[Ljava/lang/Object;" (.ref bb)) (F_size_a1 : Fld Z h0 a1 "java/util/ArrayList" "size" "I" (.int 2)) (E_xx : Exa Z h0 xx "com/example/marsh_tit/marshtit/stanza/Element") (V_bb : Arv Z h0 bb kb (.object "java/lang/Object") (10 : Int32) [(.ref x0), (.ref x1), .null, .null, .null, .null, .null, .null, .null, .null] .null) (g_a1 : n0 ≤ a1) (g_bb : n0 ≤ bb) (ne_a1_bb : a1 ≠ bb) :
  Con l Z (⟨"java/util/ArrayList", "add", "(Ljava/lang/Object;[Ljava/lang/Object;I)V"⟩ : MethodName) jdk_38_method_24_code 4 none ({ frames := 0, cells := 0, slots := 0, locals := 0 } : Room) #[(.ref a1), (.ref xx), (.ref bb), (.int 2)] h0 (fun v h L => v = none ∧ Fr n0 L ∧ Keep h0 h [a1, bb] ∧ Exa Z h a1 "java/util/ArrayList" ∧ Fld Z h a1 "java/util/AbstractList" "modCount" "I" (.int mc) ∧ Fld Z h a1 "java/util/ArrayList" "elementData" "[Ljava/lang/Object;" (.ref bb) ∧ Fld Z h a1 "java/util/ArrayList" "size" "I" (.int 3) ∧ Arv Z h bb kb (.object "java/lang/Object") (10 : Int32) [(.ref x0), (.ref x1), (.ref xx), .null, .null, .null, .null, .null, .null, .null] .null) := by
 refine own_startC opn_17 ?_
 intro p e s m below meth c T0 X0 hx hby hml hZ hown hnm hret hlk e0
 have N := Fr.nil n0; have K := Keep.refl h0 [a1, bb]
 refine OG.cast (oef7 m a1 xx bb (2 : Int32)) ?_
 refine og_iloadN X0 hx rfl (hb hby d17_0) rfl ?_
 refine og_aloadN X0 hx rfl rfl (hb hby d17_1) rfl ?_
 refine og_arraylength X0 hx hZ e0 V_bb (hb hby d17_2) rfl ?_
 refine og_icmp_ne (pc1 := 11) (pc2 := 6) X0 hx (hb hby d17_3) (by decide) (by decide) rfl (fun _ => ?_) (fun q => absurd q (by decide))
 refine og_aloadN X0 hx rfl rfl (hb hby d17_11) rfl ?_
 refine og_iloadN X0 hx rfl (hb hby d17_12) rfl ?_
 refine og_aloadN X0 hx rfl rfl (hb hby d17_13) rfl ?_
 refine og_aastore X0 hx hZ e0 V_bb rfl ⟨by decide, by decide⟩ 2 (by decide) (Nat.le_of_ble_eq_true rfl) rfl (own_sto V_bb Ov_bb (Ins.of_exa E_xx (ow144 hw))) (hb hby d17_14) rfl (fun T11 h11 X11 e11 W11 V11 => ?_)
 have E_a1 := E_a1.wr W11; have F_modCount_a1 := F_modCount_a1.other W11 (Or.inl ne_a1_bb); have F_elementData_a1 := F_elementData_a1.other W11 (Or.inl ne_a1_bb); have F_size_a1 := F_size_a1.other W11 (Or.inl ne_a1_bb)
 have K := K.wr W11 (Or.inl (List.mem_of_getElem? (i := 1) rfl))
 have N := Fr.snoc X11 N g_bb
 have V_bb : Arv Z h11 bb kb (.object "java/lang/Object") (10 : Int32) [(.ref x0), (.ref x1), (.ref xx), .null, .null, .null, .null, .null, .null, .null] .null := V11
 refine og_aloadN X11 hx rfl rfl (hb hby d17_15) rfl ?_
 refine og_iloadN X11 hx rfl (hb hby d17_16) rfl ?_
 refine og_iconst (v := 1) X11 hx rfl (hb hby d17_17) rfl ?_
 refine og_iadd X11 hx (hb hby d17_18) rfl ?_
 show OG p e below _ (T11.setTop (mkF m 19 #[.val (.ref a1), .val (.ref xx), .val (.ref bb), .val (.int 2)] [(.int 3), (.ref a1)]))
 refine og_putfield X11 hx hZ (ty := .int) (host := "") hown (Or.inl (ow121 hw)) Via.refl e11 F_size_a1 E_a1 (Or.inl (ow122 hw)) (ow66 hw) (by decide) rfl rfl (hb hby d17_19) rfl (fun T12 h12 X12 e12 W12 => ?_)
 have F_size_a1_ := F_size_a1.same W12
 have E_a1 := E_a1.wr W12; have F_modCount_a1 := F_modCount_a1.other W12 (Or.inr (slot_ne (Or.inl (ow85 hw)) (Or.inl (ow122 hw)) (by decide) (t := .int) (t' := .int) (by decide) (by decide))); have F_elementData_a1 := F_elementData_a1.other W12 (Or.inr (slot_ne (Or.inl (ow88 hw)) (Or.inl (ow122 hw)) (by decide) (t := (.array (.object "java/lang/Object"))) (t' := .int) (by decide) (by decide))); have V_bb := V_bb.other W12 (Ne.symm ne_a1_bb)
 have K := K.wr W12 (Or.inl (List.mem_of_getElem? (i := 0) rfl))
 have N := Fr.snoc X12 N g_a1; have F_size_a1 := F_size_a1_
 refine og_retV X12 hx hlk hret (hb hby d17_22) (by decide) (by decide) ?_
 rw [e12]; exact ⟨rfl, N, K, E_a1, F_modCount_a1, F_elementData_a1, F_size_a1, V_bb⟩
theorem rm_la_2E (l : Launch) (Z : State) (a0 : Array Value) (hw : HW a0 Z) (a1 xx bb x0 x1 : Addr) (kb : ClassId) (Ov_bb : Ovr Z kb "java/lang/Object") (h0 : Heap) (n0 : Nat) (O : Old Z n0 h0) (E_a1 : Exa Z h0 a1 "java/util/ArrayList") (F_modCount_a1 : Fld Z h0 a1 "java/util/AbstractList" "modCount" "I" (.int 2)) (F_elementData_a1 : Fld Z h0 a1 "java/util/ArrayList" "elementData" "[Ljava/lang/Object;" (.ref bb)) (F_size_a1 : Fld Z h0 a1 "java/util/ArrayList" "size" "I" (.int 2)) (E_xx : Exa Z h0 xx "com/example/marsh_tit/marshtit/stanza/Element") (V_bb : Arv Z h0 bb kb (.object "java/lang/Object") (10 : Int32) [(.ref x0), (.ref x1), .null, .null, .null, .null, .null, .null, .null, .null] .null) (g_a1 : n0 ≤ a1) (g_bb : n0 ≤ bb) (ne_a1_bb : a1 ≠ bb) :
  Con l Z (⟨"java/util/ArrayList", "add", "(Ljava/lang/Object;)Z"⟩ : MethodName) jdk_38_method_25_code 2 (some .boolean) ({ frames := 1, cells := 0, slots := 0, locals := 15 } : Room) #[(.ref a1), (.ref xx)] h0 (fun v h L => v = some (.int 1) ∧ Fr n0 L ∧ Keep h0 h [a1, bb] ∧ Exa Z h a1 "java/util/ArrayList" ∧ Fld Z h a1 "java/util/AbstractList" "modCount" "I" (.int 3) ∧ Fld Z h a1 "java/util/ArrayList" "elementData" "[Ljava/lang/Object;" (.ref bb) ∧ Fld Z h a1 "java/util/ArrayList" "size" "I" (.int 3) ∧ Arv Z h bb kb (.object "java/lang/Object") (10 : Int32) [(.ref x0), (.ref x1), (.ref xx), .null, .null, .null, .null, .null, .null, .null] .null) := by
 refine own_startC opn_16 ?_
 intro p e s m below meth c T0 X0 hx hby hml hZ hown hnm hret hlk e0
 have N := Fr.nil n0; have K := Keep.refl h0 [a1, bb]
 refine OG.cast (oef1 m a1 xx) ?_
 refine og_aloadN X0 hx rfl rfl (hb hby d16_0) rfl ?_
 refine og_dup X0 hx rfl (hb hby d16_1) rfl ?_
 refine og_getfield X0 hx hZ (host := "") hown (Or.inl (ow119 hw)) (Via.of (ow120 hw)) e0 F_modCount_a1 (hb hby d16_2) rfl (fun T11 X11 e11 => ?_)
 refine og_iconst (v := 1) X11 hx rfl (hb hby d16_5) rfl ?_
 refine og_iadd X11 hx (hb hby d16_6) rfl ?_
 show OG p e below _ (T11.setTop (mkF m 7 #[.val (.ref a1), .val (.ref xx)] [(.int 3), (.ref a1)]))
 refine og_putfield X11 hx hZ (ty := .int) (host := "") hown (Or.inl (ow119 hw)) (Via.of (ow120 hw)) e11 F_modCount_a1 E_a1 (Or.inl (ow85 hw)) (ow66 hw) (by decide) rfl rfl (hb hby d16_7) rfl (fun T12 h12 X12 e12 W12 => ?_)
 have F_modCount_a1_ := F_modCount_a1.same W12
 have E_a1 := E_a1.wr W12; have F_elementData_a1 := F_elementData_a1.other W12 (Or.inr (slot_ne (Or.inl (ow88 hw)) (Or.inl (ow85 hw)) (by decide) (t := (.array (.object "java/lang/Object"))) (t' := .int) (by decide) (by decide))); have F_size_a1 := F_size_a1.other W12 (Or.inr (slot_ne (Or.inl (ow122 hw)) (Or.inl (ow85 hw)) (by decide) (t := .int) (t' := .int) (by decide) (by decide))); have E_xx := E_xx.wr W12; have V_bb := V_bb.other W12 (Ne.symm ne_a1_bb); have O := O.wr W12 g_a1
 have K := K.wr W12 (Or.inl (List.mem_of_getElem? (i := 0) rfl))
 have N := Fr.snoc X12 N g_a1; have F_modCount_a1 := F_modCount_a1_
 refine og_aloadN X12 hx rfl rfl (hb hby d16_10) rfl ?_
 refine og_aloadN X12 hx rfl rfl (hb hby d16_11) rfl ?_
 refine og_aloadN X12 hx rfl rfl (hb hby d16_12) rfl ?_
 refine og_getfield X12 hx hZ (host := "") hown (Or.inl (ow87 hw)) Via.refl e12 F_elementData_a1 (hb hby d16_13) rfl (fun T13 X13 e13 => ?_)
 refine og_aloadN X13 hx rfl rfl (hb hby d16_16) rfl ?_
 refine og_getfield X13 hx hZ (host := "") hown (Or.inl (ow121 hw)) Via.refl e13 F_size_a1 (hb hby d16_17) rfl (fun T14 X14 e14 => ?_)
 refine og_private (pc' := 23) (cells' := 0) (slots' := 0) (W := 0) X14 hx hZ (rm_ad_2E l Z a0 hw a1 xx bb x0 x1 kb Ov_bb (3 : Int32) h12 n0 O E_a1 F_modCount_a1 F_elementData_a1 F_size_a1 E_xx V_bb g_a1 g_bb ne_a1_bb) hown (ow123 hw) (ow124 hw) (ow126 hw) (ow125 hw) (ow67 hw) (ow127 hw) (by decide) (by rw [hml]; rfl) e14 opd_8 [(.ref xx), (.ref bb), (.int 2)] [] rfl rfl rfl rfl (by decide) (by decide) rfl rfl (by decide) (by decide) E_a1 (hb hby d16_20) rfl (fun v15 T15 h15 L15 X15 e15 z15 => ?_)
 obtain ⟨rfl, Nq15, K15, E_a1', F_modCount_a1', F_elementData_a1', F_size_a1', V_bb'⟩ := z15; have N := Fr.app N Nq15
 have K := K.trans K15 (allS (Or.inl (List.mem_of_getElem? (i := 0) rfl)) (allS (Or.inl (List.mem_of_getElem? (i := 1) rfl)) all0))
 have V_bb := V_bb'
 have E_a1 := E_a1'; have F_modCount_a1 := F_modCount_a1'; have F_elementData_a1 := F_elementData_a1'; have F_size_a1 := F_size_a1'
 refine og_iconst (v := 1) X15 hx rfl (hb hby d16_23) rfl ?_
 refine og_retN X15 hx hlk hret (by simp) (hb hby d16_24) (by decide) (by decide) ?_
 rw [e15]; exact ⟨rfl, N, K, E_a1, F_modCount_a1, F_elementData_a1, F_size_a1, V_bb⟩
theorem rm_sz (l : Launch) (Z : State) (a0 : Array Value) (hw : HW a0 Z) (a1 : Addr) (nn : Int32) (h0 : Heap) (n0 : Nat) (O : Old Z n0 h0) (F_size_a1 : Fld Z h0 a1 "java/util/ArrayList" "size" "I" (.int nn)) :
  Con l Z (⟨"java/util/ArrayList", "size", "()I"⟩ : MethodName) jdk_38_method_8_code 1 (some .int) ({ frames := 0, cells := 0, slots := 0, locals := 0 } : Room) #[(.ref a1)] h0 (fun v h L => v = some (.int nn) ∧ Fr n0 L ∧ h = h0) := by
 refine own_startC opn_32 ?_
 intro p e s m below meth c T0 X0 hx hby hml hZ hown hnm hret hlk e0
 have N := Fr.nil n0
 refine OG.cast (oef0 m a1) ?_
 refine og_aloadN X0 hx rfl rfl (hb hby d32_0) rfl ?_
 refine og_getfield X0 hx hZ (host := "") hown (Or.inl (ow121 hw)) Via.refl e0 F_size_a1 (hb hby d32_1) rfl (fun T11 X11 e11 => ?_)
 refine og_retI X11 hx hlk hret (hb hby d32_4) (by decide) (by decide) ?_
 rw [e11]; exact ⟨rfl, N, rfl⟩
theorem rm_pc_0_1 (l : Launch) (Z : State) (a0 : Array Value) (hw : HW a0 Z)  (h0 : Heap) (n0 : Nat) (O : Old Z n0 h0) :
  Con l Z (⟨"jdk/internal/util/Preconditions", "checkIndex", "(IILjava/util/function/BiFunction;)I"⟩ : MethodName) jdk_41_method_11_code 3 (some .int) ({ frames := 0, cells := 0, slots := 0, locals := 0 } : Room) #[(.int 0), (.int 1), .null] h0 (fun v h L => v = some (.int 0) ∧ Fr n0 L ∧ h = h0) := by
 refine own_startC opn_36 ?_
 intro p e s m below meth c T0 X0 hx hby hml hZ hown hnm hret hlk e0
 have N := Fr.nil n0
 refine OG.cast (oef8 m (0 : Int32) (1 : Int32)) ?_
 refine og_iloadN X0 hx rfl (hb hby d36_0) rfl ?_
 refine og_if_lt (pc1 := 9) (pc2 := 4) X0 hx (hb hby d36_1) (by decide) (by decide) rfl (fun q => absurd q (by decide)) (fun _ => ?_)
 refine og_iloadN X0 hx rfl (hb hby d36_4) rfl ?_
 refine og_iloadN X0 hx rfl (hb hby d36_5) rfl ?_
 refine og_icmp_lt (pc1 := 16) (pc2 := 9) X0 hx (hb hby d36_6) (by decide) (by decide) rfl (fun _ => ?_) (fun q => absurd q (by decide))
 refine og_iloadN X0 hx rfl (hb hby d36_16) rfl ?_
 refine og_retI X0 hx hlk hret (hb hby d36_17) (by decide) (by decide) ?_
 rw [e0]; exact ⟨rfl, N, rfl⟩
theorem rm_oc_0_1 (l : Launch) (Z : State) (a0 : Array Value) (hw : HW a0 Z)  (h0 : Heap) (n0 : Nat) (O : Old Z n0 h0) :
  Con l Z (⟨"java/util/Objects", "checkIndex", "(II)I"⟩ : MethodName) jdk_31_method_17_code 2 (some .int) ({ frames := 1, cells := 0, slots := 0, locals := 14 } : Room) #[(.int 0), (.int 1)] h0 (fun v h L => v = some (.int 0) ∧ Fr n0 L ∧ h = h0) := by
 refine own_startC opn_35 ?_
 intro p e s m below meth c T0 X0 hx hby hml hZ hown hnm hret hlk e0
 have N := Fr.nil n0
 refine OG.cast (oef5 m (0 : Int32) (1 : Int32)) ?_
 refine og_iloadN X0 hx rfl (hb hby d35_0) rfl ?_
 refine og_iloadN X0 hx rfl (hb hby d35_1) rfl ?_
 refine og_aconst_null X0 hx (hb hby d35_2) rfl ?_
 refine og_static (pc' := 6) (cells' := 0) (slots' := 0) (W := 0) X0 hx hZ (rm_pc_0_1 l Z a0 hw h0 n0 O) hown (ow278 hw) (ow279 hw) (ow280 hw) (ow281 hw) (by decide) (by rw [hml]; rfl) e0 opd_9 [(.int 0), (.int 1), .null] [] rfl rfl rfl rfl (by decide) (by decide) rfl rfl (by decide) (by decide) (hb hby d35_3) rfl (fun v11 T11 h11 L11 X11 e11 z11 => ?_)
 obtain ⟨rfl, Nq11, hq11⟩ := z11; replace e11 := e11.trans hq11; have N := Fr.app N Nq11
 refine og_retI X11 hx hlk hret (hb hby d35_6) (by decide) (by decide) ?_
 rw [e11]; exact ⟨rfl, N, rfl⟩
theorem rm_ed_0_1 (l : Launch) (Z : State) (a0 : Array Value) (hw : HW a0 Z) (a1 bb x0 : Addr) (kb : ClassId) (h0 : Heap) (n0 : Nat) (O : Old Z n0 h0) (F_elementData_a1 : Fld Z h0 a1 "java/util/ArrayList" "elementData" "[Ljava/lang/Object;" (.ref bb)) (V_bb : Arv Z h0 bb kb (.object "java/lang/Object") (10 : Int32) [(.ref x0), .null, .null, .null, .null, .null, .null, .null, .null, .null] .null) :
  Con l Z (⟨"java/util/ArrayList", "elementData", "(I)Ljava/lang/Object;"⟩ : MethodName) jdk_38_method_18_code 2 (some (.object "java/lang/Object")) ({ frames := 0, cells := 0, slots := 0, locals := 0 } : Room) #[(.ref a1), (.int 0)] h0 (fun v h L => v = some (.ref x0) ∧ Fr n0 L ∧ h = h0) := by
 refine own_startC opn_37 ?_
 intro p e s m below meth c T0 X0 hx hby hml hZ hown hnm hret hlk e0
 have N := Fr.nil n0
 refine OG.cast (oef9 m a1 (0 : Int32)) ?_
 refine og_aloadN X0 hx rfl rfl (hb hby d37_0) rfl ?_
 refine og_getfield X0 hx hZ (host := "") hown (Or.inl (ow87 hw)) Via.refl e0 F_elementData_a1 (hb hby d37_1) rfl (fun T11 X11 e11 => ?_)
 refine og_iloadN X11 hx rfl (hb hby d37_4) rfl ?_
 refine og_aaload (v := (.ref x0)) X11 hx hZ e11 rfl V_bb ⟨by decide, by decide⟩ rfl (hb hby d37_5) rfl ?_
 refine og_retR X11 hx hlk hret rfl rfl rfl (hb hby d37_6) (by decide) (by decide) ?_
 rw [e11]; exact ⟨rfl, N, rfl⟩
theorem rm_get_0_1 (l : Launch) (Z : State) (a0 : Array Value) (hw : HW a0 Z) (a1 bb x0 : Addr) (kb : ClassId) (h0 : Heap) (n0 : Nat) (O : Old Z n0 h0) (E_a1 : Exa Z h0 a1 "java/util/ArrayList") (F_elementData_a1 : Fld Z h0 a1 "java/util/ArrayList" "elementData" "[Ljava/lang/Object;" (.ref bb)) (F_size_a1 : Fld Z h0 a1 "java/util/ArrayList" "size" "I" (.int 1)) (V_bb : Arv Z h0 bb kb (.object "java/lang/Object") (10 : Int32) [(.ref x0), .null, .null, .null, .null, .null, .null, .null, .null, .null] .null) :
  Con l Z (⟨"java/util/ArrayList", "get", "(I)Ljava/lang/Object;"⟩ : MethodName) jdk_38_method_20_code 2 (some (.object "java/lang/Object")) ({ frames := 2, cells := 0, slots := 0, locals := 27 } : Room) #[(.ref a1), (.int 0)] h0 (fun v h L => v = some (.ref x0) ∧ Fr n0 L ∧ h = h0) := by
 refine own_startC opn_34 ?_
 intro p e s m below meth c T0 X0 hx hby hml hZ hown hnm hret hlk e0
 have N := Fr.nil n0
 refine OG.cast (oef9 m a1 (0 : Int32)) ?_
 refine og_iloadN X0 hx rfl (hb hby d34_0) rfl ?_
 refine og_aloadN X0 hx rfl rfl (hb hby d34_1) rfl ?_
 refine og_getfield X0 hx hZ (host := "") hown (Or.inl (ow121 hw)) Via.refl e0 F_size_a1 (hb hby d34_2) rfl (fun T11 X11 e11 => ?_)
 refine og_static (pc' := 8) (cells' := 0) (slots' := 0) (W := 0) X11 hx hZ (rm_oc_0_1 l Z a0 hw h0 n0 O) hown (ow275 hw) (ow276 hw) (ow96 hw) (ow277 hw) (by decide) (by rw [hml]; rfl) e11 opd_5 [(.int 0), (.int 1)] [] rfl rfl rfl rfl (by decide) (by decide) rfl rfl (by decide) (by decide) (hb hby d34_5) rfl (fun v12 T12 h12 L12 X12 e12 z12 => ?_)
 obtain ⟨rfl, Nq12, hq12⟩ := z12; replace e12 := e12.trans hq12; have N := Fr.app N Nq12
 refine og_pop X12 hx rfl (hb hby d34_8) rfl ?_
 refine og_aloadN X12 hx rfl rfl (hb hby d34_9) rfl ?_
 refine og_iloadN X12 hx rfl (hb hby d34_10) rfl ?_
 refine og_virtual (pc' := 14) (cells' := 0) (slots' := 0) (W := 0) X12 hx hZ (rm_ed_0_1 l Z a0 hw a1 bb x0 kb h0 n0 O F_elementData_a1 V_bb) hown (ow282 hw) (ow283 hw) (own_nf hZ (ow285 hw)) (ow285 hw) (ow284 hw) (ow67 hw) (ow286 hw) (by decide) (by rw [hml]; rfl) e12 opd_10 [(.int 0)] [] rfl rfl rfl rfl (by decide) (by decide) rfl rfl (by decide) (by decide) E_a1 (hb hby d34_11) rfl (fun v13 T13 h13 L13 X13 e13 z13 => ?_)
 obtain ⟨rfl, Nq13, hq13⟩ := z13; replace e13 := e13.trans hq13; have N := Fr.app N Nq13
 refine og_retR X13 hx hlk hret rfl rfl rfl (hb hby d34_14) (by decide) (by decide) ?_
 rw [e13]; exact ⟨rfl, N, rfl⟩
theorem rm_pc_1_2 (l : Launch) (Z : State) (a0 : Array Value) (hw : HW a0 Z)  (h0 : Heap) (n0 : Nat) (O : Old Z n0 h0) :
  Con l Z (⟨"jdk/internal/util/Preconditions", "checkIndex", "(IILjava/util/function/BiFunction;)I"⟩ : MethodName) jdk_41_method_11_code 3 (some .int) ({ frames := 0, cells := 0, slots := 0, locals := 0 } : Room) #[(.int 1), (.int 2), .null] h0 (fun v h L => v = some (.int 1) ∧ Fr n0 L ∧ h = h0) := by
 refine own_startC opn_36 ?_
 intro p e s m below meth c T0 X0 hx hby hml hZ hown hnm hret hlk e0
 have N := Fr.nil n0
 refine OG.cast (oef8 m (1 : Int32) (2 : Int32)) ?_
 refine og_iloadN X0 hx rfl (hb hby d36_0) rfl ?_
 refine og_if_lt (pc1 := 9) (pc2 := 4) X0 hx (hb hby d36_1) (by decide) (by decide) rfl (fun q => absurd q (by decide)) (fun _ => ?_)
 refine og_iloadN X0 hx rfl (hb hby d36_4) rfl ?_
 refine og_iloadN X0 hx rfl (hb hby d36_5) rfl ?_
 refine og_icmp_lt (pc1 := 16) (pc2 := 9) X0 hx (hb hby d36_6) (by decide) (by decide) rfl (fun _ => ?_) (fun q => absurd q (by decide))
 refine og_iloadN X0 hx rfl (hb hby d36_16) rfl ?_
 refine og_retI X0 hx hlk hret (hb hby d36_17) (by decide) (by decide) ?_
 rw [e0]; exact ⟨rfl, N, rfl⟩
theorem rm_oc_1_2 (l : Launch) (Z : State) (a0 : Array Value) (hw : HW a0 Z)  (h0 : Heap) (n0 : Nat) (O : Old Z n0 h0) :
  Con l Z (⟨"java/util/Objects", "checkIndex", "(II)I"⟩ : MethodName) jdk_31_method_17_code 2 (some .int) ({ frames := 1, cells := 0, slots := 0, locals := 14 } : Room) #[(.int 1), (.int 2)] h0 (fun v h L => v = some (.int 1) ∧ Fr n0 L ∧ h = h0) := by
 refine own_startC opn_35 ?_
 intro p e s m below meth c T0 X0 hx hby hml hZ hown hnm hret hlk e0
 have N := Fr.nil n0
 refine OG.cast (oef5 m (1 : Int32) (2 : Int32)) ?_
 refine og_iloadN X0 hx rfl (hb hby d35_0) rfl ?_
 refine og_iloadN X0 hx rfl (hb hby d35_1) rfl ?_
 refine og_aconst_null X0 hx (hb hby d35_2) rfl ?_
 refine og_static (pc' := 6) (cells' := 0) (slots' := 0) (W := 0) X0 hx hZ (rm_pc_1_2 l Z a0 hw h0 n0 O) hown (ow278 hw) (ow279 hw) (ow280 hw) (ow281 hw) (by decide) (by rw [hml]; rfl) e0 opd_9 [(.int 1), (.int 2), .null] [] rfl rfl rfl rfl (by decide) (by decide) rfl rfl (by decide) (by decide) (hb hby d35_3) rfl (fun v11 T11 h11 L11 X11 e11 z11 => ?_)
 obtain ⟨rfl, Nq11, hq11⟩ := z11; replace e11 := e11.trans hq11; have N := Fr.app N Nq11
 refine og_retI X11 hx hlk hret (hb hby d35_6) (by decide) (by decide) ?_
 rw [e11]; exact ⟨rfl, N, rfl⟩
theorem rm_ed_1_2 (l : Launch) (Z : State) (a0 : Array Value) (hw : HW a0 Z) (a1 bb x0 x1 : Addr) (kb : ClassId) (h0 : Heap) (n0 : Nat) (O : Old Z n0 h0) (F_elementData_a1 : Fld Z h0 a1 "java/util/ArrayList" "elementData" "[Ljava/lang/Object;" (.ref bb)) (V_bb : Arv Z h0 bb kb (.object "java/lang/Object") (10 : Int32) [(.ref x0), (.ref x1), .null, .null, .null, .null, .null, .null, .null, .null] .null) :
  Con l Z (⟨"java/util/ArrayList", "elementData", "(I)Ljava/lang/Object;"⟩ : MethodName) jdk_38_method_18_code 2 (some (.object "java/lang/Object")) ({ frames := 0, cells := 0, slots := 0, locals := 0 } : Room) #[(.ref a1), (.int 1)] h0 (fun v h L => v = some (.ref x1) ∧ Fr n0 L ∧ h = h0) := by
 refine own_startC opn_37 ?_
 intro p e s m below meth c T0 X0 hx hby hml hZ hown hnm hret hlk e0
 have N := Fr.nil n0
 refine OG.cast (oef9 m a1 (1 : Int32)) ?_
 refine og_aloadN X0 hx rfl rfl (hb hby d37_0) rfl ?_
 refine og_getfield X0 hx hZ (host := "") hown (Or.inl (ow87 hw)) Via.refl e0 F_elementData_a1 (hb hby d37_1) rfl (fun T11 X11 e11 => ?_)
 refine og_iloadN X11 hx rfl (hb hby d37_4) rfl ?_
 refine og_aaload (v := (.ref x1)) X11 hx hZ e11 rfl V_bb ⟨by decide, by decide⟩ rfl (hb hby d37_5) rfl ?_
 refine og_retR X11 hx hlk hret rfl rfl rfl (hb hby d37_6) (by decide) (by decide) ?_
 rw [e11]; exact ⟨rfl, N, rfl⟩
theorem rm_get_1_2 (l : Launch) (Z : State) (a0 : Array Value) (hw : HW a0 Z) (a1 bb x0 x1 : Addr) (kb : ClassId) (h0 : Heap) (n0 : Nat) (O : Old Z n0 h0) (E_a1 : Exa Z h0 a1 "java/util/ArrayList") (F_elementData_a1 : Fld Z h0 a1 "java/util/ArrayList" "elementData" "[Ljava/lang/Object;" (.ref bb)) (F_size_a1 : Fld Z h0 a1 "java/util/ArrayList" "size" "I" (.int 2)) (V_bb : Arv Z h0 bb kb (.object "java/lang/Object") (10 : Int32) [(.ref x0), (.ref x1), .null, .null, .null, .null, .null, .null, .null, .null] .null) :
  Con l Z (⟨"java/util/ArrayList", "get", "(I)Ljava/lang/Object;"⟩ : MethodName) jdk_38_method_20_code 2 (some (.object "java/lang/Object")) ({ frames := 2, cells := 0, slots := 0, locals := 27 } : Room) #[(.ref a1), (.int 1)] h0 (fun v h L => v = some (.ref x1) ∧ Fr n0 L ∧ h = h0) := by
 refine own_startC opn_34 ?_
 intro p e s m below meth c T0 X0 hx hby hml hZ hown hnm hret hlk e0
 have N := Fr.nil n0
 refine OG.cast (oef9 m a1 (1 : Int32)) ?_
 refine og_iloadN X0 hx rfl (hb hby d34_0) rfl ?_
 refine og_aloadN X0 hx rfl rfl (hb hby d34_1) rfl ?_
 refine og_getfield X0 hx hZ (host := "") hown (Or.inl (ow121 hw)) Via.refl e0 F_size_a1 (hb hby d34_2) rfl (fun T11 X11 e11 => ?_)
 refine og_static (pc' := 8) (cells' := 0) (slots' := 0) (W := 0) X11 hx hZ (rm_oc_1_2 l Z a0 hw h0 n0 O) hown (ow275 hw) (ow276 hw) (ow96 hw) (ow277 hw) (by decide) (by rw [hml]; rfl) e11 opd_5 [(.int 1), (.int 2)] [] rfl rfl rfl rfl (by decide) (by decide) rfl rfl (by decide) (by decide) (hb hby d34_5) rfl (fun v12 T12 h12 L12 X12 e12 z12 => ?_)
 obtain ⟨rfl, Nq12, hq12⟩ := z12; replace e12 := e12.trans hq12; have N := Fr.app N Nq12
 refine og_pop X12 hx rfl (hb hby d34_8) rfl ?_
 refine og_aloadN X12 hx rfl rfl (hb hby d34_9) rfl ?_
 refine og_iloadN X12 hx rfl (hb hby d34_10) rfl ?_
 refine og_virtual (pc' := 14) (cells' := 0) (slots' := 0) (W := 0) X12 hx hZ (rm_ed_1_2 l Z a0 hw a1 bb x0 x1 kb h0 n0 O F_elementData_a1 V_bb) hown (ow282 hw) (ow283 hw) (own_nf hZ (ow285 hw)) (ow285 hw) (ow284 hw) (ow67 hw) (ow286 hw) (by decide) (by rw [hml]; rfl) e12 opd_10 [(.int 1)] [] rfl rfl rfl rfl (by decide) (by decide) rfl rfl (by decide) (by decide) E_a1 (hb hby d34_11) rfl (fun v13 T13 h13 L13 X13 e13 z13 => ?_)
 obtain ⟨rfl, Nq13, hq13⟩ := z13; replace e13 := e13.trans hq13; have N := Fr.app N Nq13
 refine og_retR X13 hx hlk hret rfl rfl rfl (hb hby d34_14) (by decide) (by decide) ?_
 rw [e13]; exact ⟨rfl, N, rfl⟩
theorem rm_pc_0_2 (l : Launch) (Z : State) (a0 : Array Value) (hw : HW a0 Z)  (h0 : Heap) (n0 : Nat) (O : Old Z n0 h0) :
  Con l Z (⟨"jdk/internal/util/Preconditions", "checkIndex", "(IILjava/util/function/BiFunction;)I"⟩ : MethodName) jdk_41_method_11_code 3 (some .int) ({ frames := 0, cells := 0, slots := 0, locals := 0 } : Room) #[(.int 0), (.int 2), .null] h0 (fun v h L => v = some (.int 0) ∧ Fr n0 L ∧ h = h0) := by
 refine own_startC opn_36 ?_
 intro p e s m below meth c T0 X0 hx hby hml hZ hown hnm hret hlk e0
 have N := Fr.nil n0
 refine OG.cast (oef8 m (0 : Int32) (2 : Int32)) ?_
 refine og_iloadN X0 hx rfl (hb hby d36_0) rfl ?_
 refine og_if_lt (pc1 := 9) (pc2 := 4) X0 hx (hb hby d36_1) (by decide) (by decide) rfl (fun q => absurd q (by decide)) (fun _ => ?_)
 refine og_iloadN X0 hx rfl (hb hby d36_4) rfl ?_
 refine og_iloadN X0 hx rfl (hb hby d36_5) rfl ?_
 refine og_icmp_lt (pc1 := 16) (pc2 := 9) X0 hx (hb hby d36_6) (by decide) (by decide) rfl (fun _ => ?_) (fun q => absurd q (by decide))
 refine og_iloadN X0 hx rfl (hb hby d36_16) rfl ?_
 refine og_retI X0 hx hlk hret (hb hby d36_17) (by decide) (by decide) ?_
 rw [e0]; exact ⟨rfl, N, rfl⟩
theorem rm_oc_0_2 (l : Launch) (Z : State) (a0 : Array Value) (hw : HW a0 Z)  (h0 : Heap) (n0 : Nat) (O : Old Z n0 h0) :
  Con l Z (⟨"java/util/Objects", "checkIndex", "(II)I"⟩ : MethodName) jdk_31_method_17_code 2 (some .int) ({ frames := 1, cells := 0, slots := 0, locals := 14 } : Room) #[(.int 0), (.int 2)] h0 (fun v h L => v = some (.int 0) ∧ Fr n0 L ∧ h = h0) := by
 refine own_startC opn_35 ?_
 intro p e s m below meth c T0 X0 hx hby hml hZ hown hnm hret hlk e0
 have N := Fr.nil n0
 refine OG.cast (oef5 m (0 : Int32) (2 : Int32)) ?_
 refine og_iloadN X0 hx rfl (hb hby d35_0) rfl ?_
 refine og_iloadN X0 hx rfl (hb hby d35_1) rfl ?_
 refine og_aconst_null X0 hx (hb hby d35_2) rfl ?_
 refine og_static (pc' := 6) (cells' := 0) (slots' := 0) (W := 0) X0 hx hZ (rm_pc_0_2 l Z a0 hw h0 n0 O) hown (ow278 hw) (ow279 hw) (ow280 hw) (ow281 hw) (by decide) (by rw [hml]; rfl) e0 opd_9 [(.int 0), (.int 2), .null] [] rfl rfl rfl rfl (by decide) (by decide) rfl rfl (by decide) (by decide) (hb hby d35_3) rfl (fun v11 T11 h11 L11 X11 e11 z11 => ?_)
 obtain ⟨rfl, Nq11, hq11⟩ := z11; replace e11 := e11.trans hq11; have N := Fr.app N Nq11
 refine og_retI X11 hx hlk hret (hb hby d35_6) (by decide) (by decide) ?_
 rw [e11]; exact ⟨rfl, N, rfl⟩
theorem rm_ed_0_2 (l : Launch) (Z : State) (a0 : Array Value) (hw : HW a0 Z) (a1 bb x0 x1 : Addr) (kb : ClassId) (h0 : Heap) (n0 : Nat) (O : Old Z n0 h0) (F_elementData_a1 : Fld Z h0 a1 "java/util/ArrayList" "elementData" "[Ljava/lang/Object;" (.ref bb)) (V_bb : Arv Z h0 bb kb (.object "java/lang/Object") (10 : Int32) [(.ref x0), (.ref x1), .null, .null, .null, .null, .null, .null, .null, .null] .null) :
  Con l Z (⟨"java/util/ArrayList", "elementData", "(I)Ljava/lang/Object;"⟩ : MethodName) jdk_38_method_18_code 2 (some (.object "java/lang/Object")) ({ frames := 0, cells := 0, slots := 0, locals := 0 } : Room) #[(.ref a1), (.int 0)] h0 (fun v h L => v = some (.ref x0) ∧ Fr n0 L ∧ h = h0) := by
 refine own_startC opn_37 ?_
 intro p e s m below meth c T0 X0 hx hby hml hZ hown hnm hret hlk e0
 have N := Fr.nil n0
 refine OG.cast (oef9 m a1 (0 : Int32)) ?_
 refine og_aloadN X0 hx rfl rfl (hb hby d37_0) rfl ?_
 refine og_getfield X0 hx hZ (host := "") hown (Or.inl (ow87 hw)) Via.refl e0 F_elementData_a1 (hb hby d37_1) rfl (fun T11 X11 e11 => ?_)
 refine og_iloadN X11 hx rfl (hb hby d37_4) rfl ?_
 refine og_aaload (v := (.ref x0)) X11 hx hZ e11 rfl V_bb ⟨by decide, by decide⟩ rfl (hb hby d37_5) rfl ?_
 refine og_retR X11 hx hlk hret rfl rfl rfl (hb hby d37_6) (by decide) (by decide) ?_
 rw [e11]; exact ⟨rfl, N, rfl⟩
theorem rm_get_0_2 (l : Launch) (Z : State) (a0 : Array Value) (hw : HW a0 Z) (a1 bb x0 x1 : Addr) (kb : ClassId) (h0 : Heap) (n0 : Nat) (O : Old Z n0 h0) (E_a1 : Exa Z h0 a1 "java/util/ArrayList") (F_elementData_a1 : Fld Z h0 a1 "java/util/ArrayList" "elementData" "[Ljava/lang/Object;" (.ref bb)) (F_size_a1 : Fld Z h0 a1 "java/util/ArrayList" "size" "I" (.int 2)) (V_bb : Arv Z h0 bb kb (.object "java/lang/Object") (10 : Int32) [(.ref x0), (.ref x1), .null, .null, .null, .null, .null, .null, .null, .null] .null) :
  Con l Z (⟨"java/util/ArrayList", "get", "(I)Ljava/lang/Object;"⟩ : MethodName) jdk_38_method_20_code 2 (some (.object "java/lang/Object")) ({ frames := 2, cells := 0, slots := 0, locals := 27 } : Room) #[(.ref a1), (.int 0)] h0 (fun v h L => v = some (.ref x0) ∧ Fr n0 L ∧ h = h0) := by
 refine own_startC opn_34 ?_
 intro p e s m below meth c T0 X0 hx hby hml hZ hown hnm hret hlk e0
 have N := Fr.nil n0
 refine OG.cast (oef9 m a1 (0 : Int32)) ?_
 refine og_iloadN X0 hx rfl (hb hby d34_0) rfl ?_
 refine og_aloadN X0 hx rfl rfl (hb hby d34_1) rfl ?_
 refine og_getfield X0 hx hZ (host := "") hown (Or.inl (ow121 hw)) Via.refl e0 F_size_a1 (hb hby d34_2) rfl (fun T11 X11 e11 => ?_)
 refine og_static (pc' := 8) (cells' := 0) (slots' := 0) (W := 0) X11 hx hZ (rm_oc_0_2 l Z a0 hw h0 n0 O) hown (ow275 hw) (ow276 hw) (ow96 hw) (ow277 hw) (by decide) (by rw [hml]; rfl) e11 opd_5 [(.int 0), (.int 2)] [] rfl rfl rfl rfl (by decide) (by decide) rfl rfl (by decide) (by decide) (hb hby d34_5) rfl (fun v12 T12 h12 L12 X12 e12 z12 => ?_)
 obtain ⟨rfl, Nq12, hq12⟩ := z12; replace e12 := e12.trans hq12; have N := Fr.app N Nq12
 refine og_pop X12 hx rfl (hb hby d34_8) rfl ?_
 refine og_aloadN X12 hx rfl rfl (hb hby d34_9) rfl ?_
 refine og_iloadN X12 hx rfl (hb hby d34_10) rfl ?_
 refine og_virtual (pc' := 14) (cells' := 0) (slots' := 0) (W := 0) X12 hx hZ (rm_ed_0_2 l Z a0 hw a1 bb x0 x1 kb h0 n0 O F_elementData_a1 V_bb) hown (ow282 hw) (ow283 hw) (own_nf hZ (ow285 hw)) (ow285 hw) (ow284 hw) (ow67 hw) (ow286 hw) (by decide) (by rw [hml]; rfl) e12 opd_10 [(.int 0)] [] rfl rfl rfl rfl (by decide) (by decide) rfl rfl (by decide) (by decide) E_a1 (hb hby d34_11) rfl (fun v13 T13 h13 L13 X13 e13 z13 => ?_)
 obtain ⟨rfl, Nq13, hq13⟩ := z13; replace e13 := e13.trans hq13; have N := Fr.app N Nq13
 refine og_retR X13 hx hlk hret rfl rfl rfl (hb hby d34_14) (by decide) (by decide) ?_
 rw [e13]; exact ⟨rfl, N, rfl⟩
theorem rm_ii (l : Launch) (Z : State) (a0 : Array Value) (hw : HW a0 Z) (i1 ll : Addr) (mc : Int32) (h0 : Heap) (n0 : Nat) (O : Old Z n0 h0) (E_i1 : Exa Z h0 i1 "java/util/ArrayList$Itr") (F_this_0_i1 : Fld Z h0 i1 "java/util/ArrayList$Itr" "this$0" "Ljava/util/ArrayList;" .null) (F_cursor_i1 : Fld Z h0 i1 "java/util/ArrayList$Itr" "cursor" "I" (.int 0)) (F_lastRet_i1 : Fld Z h0 i1 "java/util/ArrayList$Itr" "lastRet" "I" (.int 0)) (F_expectedModCount_i1 : Fld Z h0 i1 "java/util/ArrayList$Itr" "expectedModCount" "I" (.int 0)) (F_modCount_ll : Fld Z h0 ll "java/util/AbstractList" "modCount" "I" (.int mc)) (g_i1 : n0 ≤ i1) (ne_ll_i1 : ll ≠ i1) :
  Con l Z (⟨"java/util/ArrayList$Itr", "<init>", "(Ljava/util/ArrayList;)V"⟩ : MethodName) jdk_49_method_1_code 2 none ({ frames := 1, cells := 0, slots := 0, locals := 12 } : Room) #[(.ref i1), (.ref ll)] h0 (fun v h L => v = none ∧ Fr n0 L ∧ Keep h0 h [i1] ∧ Exa Z h i1 "java/util/ArrayList$Itr" ∧ Fld Z h i1 "java/util/ArrayList$Itr" "this$0" "Ljava/util/ArrayList;" (.ref ll) ∧ Fld Z h i1 "java/util/ArrayList$Itr" "cursor" "I" (.int 0) ∧ Fld Z h i1 "java/util/ArrayList$Itr" "lastRet" "I" (.int (-1)) ∧ Fld Z h i1 "java/util/ArrayList$Itr" "expectedModCount" "I" (.int mc)) := by
 refine own_startC opn_23 ?_
 intro p e s m below meth c T0 X0 hx hby hml hZ hown hnm hret hlk e0
 have N := Fr.nil n0; have K := Keep.refl h0 [i1]
 refine OG.cast (oef1 m i1 ll) ?_
 refine og_aloadN X0 hx rfl rfl (hb hby d23_0) rfl ?_
 refine og_aloadN X0 hx rfl rfl (hb hby d23_1) rfl ?_
 refine og_putfield X0 hx hZ (ty := (.object "java/util/ArrayList")) (host := "") hown (Or.inl (ow165 hw)) Via.refl e0 F_this_0_i1 E_i1 (Or.inr ⟨(ow166 hw), rfl, hnm⟩) (ow159 hw) (by decide) rfl rfl (hb hby d23_2) rfl (fun T11 h11 X11 e11 W11 => ?_)
 have F_this_0_i1_ := F_this_0_i1.same W11
 have E_i1 := E_i1.wr W11; have F_cursor_i1 := F_cursor_i1.other W11 (Or.inr (slot_ne (Or.inl (ow183 hw)) (Or.inr (ow166 hw)) (by decide) (t := .int) (t' := (.object "java/util/ArrayList")) (by decide) (by decide))); have F_lastRet_i1 := F_lastRet_i1.other W11 (Or.inr (slot_ne (Or.inl (ow169 hw)) (Or.inr (ow166 hw)) (by decide) (t := .int) (t' := (.object "java/util/ArrayList")) (by decide) (by decide))); have F_expectedModCount_i1 := F_expectedModCount_i1.other W11 (Or.inr (slot_ne (Or.inl (ow172 hw)) (Or.inr (ow166 hw)) (by decide) (t := .int) (t' := (.object "java/util/ArrayList")) (by decide) (by decide))); have F_modCount_ll := F_modCount_ll.other W11 (Or.inl ne_ll_i1)
 have K := K.wr W11 (Or.inl (List.mem_of_getElem? (i := 0) rfl))
 have N := Fr.snoc X11 N g_i1; have F_this_0_i1 := F_this_0_i1_
 refine og_aloadN X11 hx rfl rfl (hb hby d23_5) rfl ?_
 refine og_initO (pc' := 9) X11 hx hZ (W := 0) (by rw [hml]; rfl) hown (ow167 hw) (ow27 hw) (ow28 hw) e11 rfl (by decide) (by decide) (hb hby d23_6) rfl (fun T12 X12 e12 => ?_)
 refine og_aloadN X12 hx rfl rfl (hb hby d23_9) rfl ?_
 refine og_iconst (v := -1) X12 hx rfl (hb hby d23_10) rfl ?_
 refine og_putfield X12 hx hZ (ty := .int) (host := "") hown (Or.inl (ow168 hw)) Via.refl e12 F_lastRet_i1 E_i1 (Or.inl (ow169 hw)) (ow159 hw) (by decide) rfl rfl (hb hby d23_11) rfl (fun T13 h13 X13 e13 W13 => ?_)
 have F_lastRet_i1_ := F_lastRet_i1.same W13
 have E_i1 := E_i1.wr W13; have F_cursor_i1 := F_cursor_i1.other W13 (Or.inr (slot_ne (Or.inl (ow183 hw)) (Or.inl (ow169 hw)) (by decide) (t := .int) (t' := .int) (by decide) (by decide))); have F_expectedModCount_i1 := F_expectedModCount_i1.other W13 (Or.inr (slot_ne (Or.inl (ow172 hw)) (Or.inl (ow169 hw)) (by decide) (t := .int) (t' := .int) (by decide) (by decide))); have F_modCount_ll := F_modCount_ll.other W13 (Or.inl ne_ll_i1); have F_this_0_i1 := F_this_0_i1.other W13 (Or.inr (slot_ne (Or.inr (ow166 hw)) (Or.inl (ow169 hw)) (by decide) (t := (.object "java/util/ArrayList")) (t' := .int) (by decide) (by decide)))
 have K := K.wr W13 (Or.inl (List.mem_of_getElem? (i := 0) rfl))
 have N := Fr.snoc X13 N g_i1; have F_lastRet_i1 := F_lastRet_i1_
 refine og_aloadN X13 hx rfl rfl (hb hby d23_14) rfl ?_
 refine og_aloadN X13 hx rfl rfl (hb hby d23_15) rfl ?_
 refine og_getfield X13 hx hZ (host := "") hown (Or.inl (ow165 hw)) Via.refl e13 F_this_0_i1 (hb hby d23_16) rfl (fun T14 X14 e14 => ?_)
 refine og_getfield X14 hx hZ (host := "") hown (Or.inl (ow170 hw)) (Via.of (ow120 hw)) e14 F_modCount_ll (hb hby d23_19) rfl (fun T15 X15 e15 => ?_)
 refine og_putfield X15 hx hZ (ty := .int) (host := "") hown (Or.inl (ow171 hw)) Via.refl e15 F_expectedModCount_i1 E_i1 (Or.inl (ow172 hw)) (ow159 hw) (by decide) rfl rfl (hb hby d23_22) rfl (fun T16 h16 X16 e16 W16 => ?_)
 have F_expectedModCount_i1_ := F_expectedModCount_i1.same W16
 have E_i1 := E_i1.wr W16; have F_cursor_i1 := F_cursor_i1.other W16 (Or.inr (slot_ne (Or.inl (ow183 hw)) (Or.inl (ow172 hw)) (by decide) (t := .int) (t' := .int) (by decide) (by decide))); have F_this_0_i1 := F_this_0_i1.other W16 (Or.inr (slot_ne (Or.inr (ow166 hw)) (Or.inl (ow172 hw)) (by decide) (t := (.object "java/util/ArrayList")) (t' := .int) (by decide) (by decide))); have F_lastRet_i1 := F_lastRet_i1.other W16 (Or.inr (slot_ne (Or.inl (ow169 hw)) (Or.inl (ow172 hw)) (by decide) (t := .int) (t' := .int) (by decide) (by decide)))
 have K := K.wr W16 (Or.inl (List.mem_of_getElem? (i := 0) rfl))
 have N := Fr.snoc X16 N g_i1; have F_expectedModCount_i1 := F_expectedModCount_i1_
 refine og_retV X16 hx hlk hret (hb hby d23_25) (by decide) (by decide) ?_
 rw [e16]; exact ⟨rfl, N, K, E_i1, F_this_0_i1, F_cursor_i1, F_lastRet_i1, F_expectedModCount_i1⟩
theorem rm_it (l : Launch) (Z : State) (a0 : Array Value) (hw : HW a0 Z) (ll : Addr) (mc : Int32) (h0 : Heap) (n0 : Nat) (O : Old Z n0 h0) (F_modCount_ll : Fld Z h0 ll "java/util/AbstractList" "modCount" "I" (.int mc)) :
  Con l Z (⟨"java/util/ArrayList", "iterator", "()Ljava/util/Iterator;"⟩ : MethodName) jdk_38_method_55_code 1 (some (.object "java/util/Iterator")) ({ frames := 2, cells := 1, slots := 4, locals := 26 } : Room) #[(.ref ll)] h0 (fun v h L => ∃ i1, v = some (.ref i1) ∧ Fr n0 L ∧ Keep h0 h [] ∧ h0.size ≤ i1 ∧ Exa Z h i1 "java/util/ArrayList$Itr" ∧ Fld Z h i1 "java/util/ArrayList$Itr" "this$0" "Ljava/util/ArrayList;" (.ref ll) ∧ Fld Z h i1 "java/util/ArrayList$Itr" "cursor" "I" (.int 0) ∧ Fld Z h i1 "java/util/ArrayList$Itr" "lastRet" "I" (.int (-1)) ∧ Fld Z h i1 "java/util/ArrayList$Itr" "expectedModCount" "I" (.int mc)) := by
 refine own_startC opn_22 ?_
 intro p e s m below meth c T0 X0 hx hby hml hZ hown hnm hret hlk e0
 have N := Fr.nil n0; have K := Keep.refl h0 []
 refine OG.cast (oef0 m ll) ?_
 refine og_new (pc' := 3) (cells' := 1) (slots' := 4) X0 hx hZ hown (ow158 hw) (ow159 hw) (ow160 hw) e0 (hb hby d22_0) rfl rfl rfl (by decide) (by decide) (fun T11 h11 nb11 X11 e11 E11 q11 E_nb11 D11 B11 => ?_)
 have s_nb11 : h0.size ≤ nb11 := Nat.le_of_eq q11.symm; have g_nb11 : n0 ≤ nb11 := Nat.le_trans (own_n0 O) s_nb11; have sz_nb11 : h0.size ≤ nb11 := Nat.le_trans K.1 s_nb11; have ne_ll_nb11 : ll ≠ nb11 := Nat.ne_of_lt (Nat.lt_of_lt_of_le F_modCount_ll.lt s_nb11)
 have F_modCount_ll := F_modCount_ll.ext E11; have O := O.ext E11; have K := K.ext E11
 have F_this_0_nb11 : Fld Z h11 nb11 "java/util/ArrayList$Itr" "this$0" "Ljava/util/ArrayList;" .null := D11 (Or.inr (ow166 hw)) (ty := (.object "java/util/ArrayList")) (by decide)
 have F_lastRet_nb11 : Fld Z h11 nb11 "java/util/ArrayList$Itr" "lastRet" "I" (.int 0) := D11 (Or.inl (ow169 hw)) (ty := .int) (by decide)
 have F_expectedModCount_nb11 : Fld Z h11 nb11 "java/util/ArrayList$Itr" "expectedModCount" "I" (.int 0) := D11 (Or.inl (ow172 hw)) (ty := .int) (by decide)
 have F_cursor_nb11 : Fld Z h11 nb11 "java/util/ArrayList$Itr" "cursor" "I" (.int 0) := D11 (Or.inl (ow183 hw)) (ty := .int) (by decide)
 refine og_dup X11 hx rfl (hb hby d22_3) rfl ?_
 refine og_aloadN X11 hx rfl rfl (hb hby d22_4) rfl ?_
 refine og_special (pc' := 8) (cells' := 1) (slots' := 4) (W := 1) X11 hx hZ (rm_ii l Z a0 hw nb11 ll mc h11 n0 O E_nb11 F_this_0_nb11 F_cursor_nb11 F_lastRet_nb11 F_expectedModCount_nb11 F_modCount_ll g_nb11 ne_ll_nb11) rfl hown (ow161 hw) (ow162 hw) (ow160 hw) (ow164 hw) (by decide) (by rw [hml]; rfl) e11 opd_11 [(.ref ll)] [(.ref nb11)] rfl rfl rfl rfl (by decide) (by decide) rfl rfl (by decide) (by decide) (hb hby d22_5) rfl (fun v12 T12 h12 L12 X12 e12 z12 => ?_)
 obtain ⟨rfl, Nq12, K12, E_nb11', F_this_0_nb11', F_cursor_nb11', F_lastRet_nb11', F_expectedModCount_nb11'⟩ := z12; have N := Fr.app N Nq12
 have K := K.trans K12 (allS (Or.inr sz_nb11) all0)
 have E_nb11 := E_nb11'; have F_this_0_nb11 := F_this_0_nb11'; have F_cursor_nb11 := F_cursor_nb11'; have F_lastRet_nb11 := F_lastRet_nb11'; have F_expectedModCount_nb11 := F_expectedModCount_nb11'
 refine og_retR X12 hx hlk hret rfl rfl rfl (hb hby d22_8) (by decide) (by decide) ?_
 rw [e12]; exact ⟨_, rfl, N, K, sz_nb11, E_nb11, F_this_0_nb11, F_cursor_nb11, F_lastRet_nb11, F_expectedModCount_nb11⟩
theorem rm_hn (l : Launch) (Z : State) (a0 : Array Value) (hw : HW a0 Z) (i1 ll : Addr) (cu sz r : Int32) (hr : r = if cu = sz then 0 else 1) (h0 : Heap) (n0 : Nat) (O : Old Z n0 h0) (F_this_0_i1 : Fld Z h0 i1 "java/util/ArrayList$Itr" "this$0" "Ljava/util/ArrayList;" (.ref ll)) (F_cursor_i1 : Fld Z h0 i1 "java/util/ArrayList$Itr" "cursor" "I" (.int cu)) (F_size_ll : Fld Z h0 ll "java/util/ArrayList" "size" "I" (.int sz)) :
  Con l Z (⟨"java/util/ArrayList$Itr", "hasNext", "()Z"⟩ : MethodName) jdk_49_method_2_code 1 (some .boolean) ({ frames := 0, cells := 0, slots := 0, locals := 0 } : Room) #[(.ref i1)] h0 (fun v h L => v = some (.int r) ∧ Fr n0 L ∧ h = h0) := by
 refine own_startC opn_24 ?_
 intro p e s m below meth c T0 X0 hx hby hml hZ hown hnm hret hlk e0
 have N := Fr.nil n0
 refine OG.cast (oef0 m i1) ?_
 refine og_aloadN X0 hx rfl rfl (hb hby d24_0) rfl ?_
 refine og_getfield X0 hx hZ (host := "") hown (Or.inl (ow182 hw)) Via.refl e0 F_cursor_i1 (hb hby d24_1) rfl (fun T11 X11 e11 => ?_)
 refine og_aloadN X11 hx rfl rfl (hb hby d24_4) rfl ?_
 refine og_getfield X11 hx hZ (host := "") hown (Or.inl (ow165 hw)) Via.refl e11 F_this_0_i1 (hb hby d24_5) rfl (fun T12 X12 e12 => ?_)
 refine og_getfield X12 hx hZ hown (Or.inr (ow184 hw)) Via.refl e12 F_size_ll (hb hby d24_8) rfl (fun T13 X13 e13 => ?_)
 refine og_icmp_eq (pc1 := 18) (pc2 := 14) X13 hx (hb hby d24_11) (by decide) (by decide) rfl (fun hc11 => ?_) (fun hc11 => ?_)
 ·
  refine og_iconst (v := 0) X13 hx rfl (hb hby d24_18) rfl ?_
  refine og_retN X13 hx hlk hret (by simp) (hb hby d24_19) (by decide) (by decide) ?_
  rw [e13]; refine ⟨?_, N, rfl⟩
  show some (Value.int 0) = _
  rw [hr, if_pos hc11]
 ·
  refine og_iconst (v := 1) X13 hx rfl (hb hby d24_14) rfl ?_
  refine og_goto (pc' := 19) X13 hx (hb hby d24_15) (by decide) (by decide) ?_
  refine og_retN X13 hx hlk hret (by simp) (hb hby d24_19) (by decide) (by decide) ?_
  rw [e13]; refine ⟨?_, N, rfl⟩
  show some (Value.int 1) = _
  rw [hr, if_neg hc11]
theorem rm_cm (l : Launch) (Z : State) (a0 : Array Value) (hw : HW a0 Z) (i1 ll : Addr) (mc : Int32) (h0 : Heap) (n0 : Nat) (O : Old Z n0 h0) (F_this_0_i1 : Fld Z h0 i1 "java/util/ArrayList$Itr" "this$0" "Ljava/util/ArrayList;" (.ref ll)) (F_expectedModCount_i1 : Fld Z h0 i1 "java/util/ArrayList$Itr" "expectedModCount" "I" (.int mc)) (F_modCount_ll : Fld Z h0 ll "java/util/AbstractList" "modCount" "I" (.int mc)) :
  Con l Z (⟨"java/util/ArrayList$Itr", "checkForComodification", "()V"⟩ : MethodName) jdk_49_method_6_code 1 none ({ frames := 0, cells := 0, slots := 0, locals := 0 } : Room) #[(.ref i1)] h0 (fun v h L => v = none ∧ Fr n0 L ∧ h = h0) := by
 refine own_startC opn_26 ?_
 intro p e s m below meth c T0 X0 hx hby hml hZ hown hnm hret hlk e0
 have N := Fr.nil n0
 refine OG.cast (oef0 m i1) ?_
 refine og_aloadN X0 hx rfl rfl (hb hby d26_0) rfl ?_
 refine og_getfield X0 hx hZ (host := "") hown (Or.inl (ow165 hw)) Via.refl e0 F_this_0_i1 (hb hby d26_1) rfl (fun T11 X11 e11 => ?_)
 refine og_getfield X11 hx hZ (host := "") hown (Or.inl (ow170 hw)) (Via.of (ow120 hw)) e11 F_modCount_ll (hb hby d26_4) rfl (fun T12 X12 e12 => ?_)
 refine og_aloadN X12 hx rfl rfl (hb hby d26_7) rfl ?_
 refine og_getfield X12 hx hZ (host := "") hown (Or.inl (ow171 hw)) Via.refl e12 F_expectedModCount_i1 (hb hby d26_8) rfl (fun T13 X13 e13 => ?_)
 refine og_icmp_eq (pc1 := 22) (pc2 := 14) X13 hx (hb hby d26_11) (by decide) (by decide) rfl (fun _ => ?_) (fun q => absurd rfl q)
 refine og_retV X13 hx hlk hret (hb hby d26_22) (by decide) (by decide) ?_
 rw [e13]; exact ⟨rfl, N, rfl⟩
theorem rm_nx_0_1 (l : Launch) (Z : State) (a0 : Array Value) (hw : HW a0 Z) (i1 ll bb x0 : Addr) (kb : ClassId) (lr : Int32) (h0 : Heap) (n0 : Nat) (O : Old Z n0 h0) (E_i1 : Exa Z h0 i1 "java/util/ArrayList$Itr") (F_this_0_i1 : Fld Z h0 i1 "java/util/ArrayList$Itr" "this$0" "Ljava/util/ArrayList;" (.ref ll)) (F_cursor_i1 : Fld Z h0 i1 "java/util/ArrayList$Itr" "cursor" "I" (.int 0)) (F_lastRet_i1 : Fld Z h0 i1 "java/util/ArrayList$Itr" "lastRet" "I" (.int lr)) (F_expectedModCount_i1 : Fld Z h0 i1 "java/util/ArrayList$Itr" "expectedModCount" "I" (.int 1)) (F_modCount_ll : Fld Z h0 ll "java/util/AbstractList" "modCount" "I" (.int 1)) (F_elementData_ll : Fld Z h0 ll "java/util/ArrayList" "elementData" "[Ljava/lang/Object;" (.ref bb)) (F_size_ll : Fld Z h0 ll "java/util/ArrayList" "size" "I" (.int 1)) (V_bb : Arv Z h0 bb kb (.object "java/lang/Object") (10 : Int32) [(.ref x0), .null, .null, .null, .null, .null, .null, .null, .null, .null] .null) (g_i1 : n0 ≤ i1) (ne_ll_i1 : ll ≠ i1) (ne_bb_i1 : bb ≠ i1) :
  Con l Z (⟨"java/util/ArrayList$Itr", "next", "()Ljava/lang/Object;"⟩ : MethodName) jdk_49_method_3_code 3 (some (.object "java/lang/Object")) ({ frames := 1, cells := 0, slots := 0, locals := 12 } : Room) #[(.ref i1)] h0 (fun v h L => v = some (.ref x0) ∧ Fr n0 L ∧ Keep h0 h [i1] ∧ Exa Z h i1 "java/util/ArrayList$Itr" ∧ Fld Z h i1 "java/util/ArrayList$Itr" "this$0" "Ljava/util/ArrayList;" (.ref ll) ∧ Fld Z h i1 "java/util/ArrayList$Itr" "cursor" "I" (.int 1) ∧ Fld Z h i1 "java/util/ArrayList$Itr" "lastRet" "I" (.int 0) ∧ Fld Z h i1 "java/util/ArrayList$Itr" "expectedModCount" "I" (.int 1)) := by
 refine own_startC opn_25 ?_
 intro p e s m below meth c T0 X0 hx hby hml hZ hown hnm hret hlk e0
 have N := Fr.nil n0; have K := Keep.refl h0 [i1]
 refine OG.cast (oef10 m i1) ?_
 refine og_aloadN X0 hx rfl rfl (hb hby d25_0) rfl ?_
 refine og_virtual (pc' := 4) (cells' := 0) (slots' := 0) (W := 0) X0 hx hZ (rm_cm l Z a0 hw i1 ll (1 : Int32) h0 n0 O F_this_0_i1 F_expectedModCount_i1 F_modCount_ll) hown (ow193 hw) (ow194 hw) (own_nf hZ (ow196 hw)) (ow196 hw) (ow195 hw) (ow160 hw) (ow197 hw) (by decide) (by rw [hml]; rfl) e0 opd_0 [] [] rfl rfl rfl rfl (by decide) (by decide) rfl rfl (by decide) (by decide) E_i1 (hb hby d25_1) rfl (fun v11 T11 h11 L11 X11 e11 z11 => ?_)
 obtain ⟨rfl, Nq11, hq11⟩ := z11; replace e11 := e11.trans hq11; have N := Fr.app N Nq11
 refine og_aloadN X11 hx rfl rfl (hb hby d25_4) rfl ?_
 refine og_getfield X11 hx hZ (host := "") hown (Or.inl (ow182 hw)) Via.refl e11 F_cursor_i1 (hb hby d25_5) rfl (fun T12 X12 e12 => ?_)
 refine og_istoreN (L' := #[.val (.ref i1), .val (.int 0), .unset]) X12 hx rfl (hb hby d25_8) rfl ?_
 refine og_iloadN X12 hx rfl (hb hby d25_9) rfl ?_
 refine og_aloadN X12 hx rfl rfl (hb hby d25_10) rfl ?_
 refine og_getfield X12 hx hZ (host := "") hown (Or.inl (ow165 hw)) Via.refl e12 F_this_0_i1 (hb hby d25_11) rfl (fun T13 X13 e13 => ?_)
 refine og_getfield X13 hx hZ hown (Or.inr (ow184 hw)) Via.refl e13 F_size_ll (hb hby d25_14) rfl (fun T14 X14 e14 => ?_)
 refine og_icmp_lt (pc1 := 28) (pc2 := 20) X14 hx (hb hby d25_17) (by decide) (by decide) rfl (fun _ => ?_) (fun q => absurd q (by decide))
 refine og_aloadN X14 hx rfl rfl (hb hby d25_28) rfl ?_
 refine og_getfield X14 hx hZ (host := "") hown (Or.inl (ow165 hw)) Via.refl e14 F_this_0_i1 (hb hby d25_29) rfl (fun T15 X15 e15 => ?_)
 refine og_getfield X15 hx hZ (host := "") hown (Or.inl (ow198 hw)) Via.refl e15 F_elementData_ll (hb hby d25_32) rfl (fun T16 X16 e16 => ?_)
 refine og_astoreN (L' := #[.val (.ref i1), .val (.int 0), .val (.ref bb)]) X16 hx rfl rfl (hb hby d25_35) rfl ?_
 refine og_iloadN X16 hx rfl (hb hby d25_36) rfl ?_
 refine og_aloadN X16 hx rfl rfl (hb hby d25_37) rfl ?_
 refine og_arraylength X16 hx hZ e16 V_bb (hb hby d25_38) rfl ?_
 refine og_icmp_lt (pc1 := 50) (pc2 := 42) X16 hx (hb hby d25_39) (by decide) (by decide) rfl (fun _ => ?_) (fun q => absurd q (by decide))
 refine og_aloadN X16 hx rfl rfl (hb hby d25_50) rfl ?_
 refine og_iloadN X16 hx rfl (hb hby d25_51) rfl ?_
 refine og_iconst (v := 1) X16 hx rfl (hb hby d25_52) rfl ?_
 refine og_iadd X16 hx (hb hby d25_53) rfl ?_
 show OG p e below _ (T16.setTop (mkF m 54 #[.val (.ref i1), .val (.int 0), .val (.ref bb)] [(.int 1), (.ref i1)]))
 refine og_putfield X16 hx hZ (ty := .int) (host := "") hown (Or.inl (ow182 hw)) Via.refl e16 F_cursor_i1 E_i1 (Or.inl (ow183 hw)) (ow159 hw) (by decide) rfl rfl (hb hby d25_54) rfl (fun T17 h17 X17 e17 W17 => ?_)
 have F_cursor_i1_ := F_cursor_i1.same W17
 have E_i1 := E_i1.wr W17; have F_this_0_i1 := F_this_0_i1.other W17 (Or.inr (slot_ne (Or.inr (ow166 hw)) (Or.inl (ow183 hw)) (by decide) (t := (.object "java/util/ArrayList")) (t' := .int) (by decide) (by decide))); have F_lastRet_i1 := F_lastRet_i1.other W17 (Or.inr (slot_ne (Or.inl (ow169 hw)) (Or.inl (ow183 hw)) (by decide) (t := .int) (t' := .int) (by decide) (by decide))); have F_expectedModCount_i1 := F_expectedModCount_i1.other W17 (Or.inr (slot_ne (Or.inl (ow172 hw)) (Or.inl (ow183 hw)) (by decide) (t := .int) (t' := .int) (by decide) (by decide)))
 have V_bb := V_bb.other W17 ne_bb_i1; have K := K.wr W17 (Or.inl (List.mem_of_getElem? (i := 0) rfl))
 have N := Fr.snoc X17 N g_i1; have F_cursor_i1 := F_cursor_i1_
 refine og_aloadN X17 hx rfl rfl (hb hby d25_57) rfl ?_
 refine og_aloadN X17 hx rfl rfl (hb hby d25_58) rfl ?_
 refine og_iloadN X17 hx rfl (hb hby d25_59) rfl ?_
 refine og_dup_x1 X17 hx rfl rfl (hb hby d25_60) rfl ?_
 refine og_putfield X17 hx hZ (ty := .int) (host := "") hown (Or.inl (ow168 hw)) Via.refl e17 F_lastRet_i1 E_i1 (Or.inl (ow169 hw)) (ow159 hw) (by decide) rfl rfl (hb hby d25_61) rfl (fun T18 h18 X18 e18 W18 => ?_)
 have F_lastRet_i1_ := F_lastRet_i1.same W18
 have E_i1 := E_i1.wr W18; have F_this_0_i1 := F_this_0_i1.other W18 (Or.inr (slot_ne (Or.inr (ow166 hw)) (Or.inl (ow169 hw)) (by decide) (t := (.object "java/util/ArrayList")) (t' := .int) (by decide) (by decide))); have F_expectedModCount_i1 := F_expectedModCount_i1.other W18 (Or.inr (slot_ne (Or.inl (ow172 hw)) (Or.inl (ow169 hw)) (by decide) (t := .int) (t' := .int) (by decide) (by decide)))
 have V_bb := V_bb.other W18 ne_bb_i1; have F_cursor_i1 := F_cursor_i1.other W18 (Or.inr (slot_ne (Or.inl (ow183 hw)) (Or.inl (ow169 hw)) (by decide) (t := .int) (t' := .int) (by decide) (by decide))); have K := K.wr W18 (Or.inl (List.mem_of_getElem? (i := 0) rfl))
 have N := Fr.snoc X18 N g_i1; have F_lastRet_i1 := F_lastRet_i1_
 refine og_aaload (v := (.ref x0)) X18 hx hZ e18 rfl V_bb ⟨by decide, by decide⟩ rfl (hb hby d25_64) rfl ?_
 refine og_retR X18 hx hlk hret rfl rfl rfl (hb hby d25_65) (by decide) (by decide) ?_
 rw [e18]; exact ⟨rfl, N, K, E_i1, F_this_0_i1, F_cursor_i1, F_lastRet_i1, F_expectedModCount_i1⟩
theorem rm_nx_0_2 (l : Launch) (Z : State) (a0 : Array Value) (hw : HW a0 Z) (i1 ll bb x0 x1 : Addr) (kb : ClassId) (lr : Int32) (h0 : Heap) (n0 : Nat) (O : Old Z n0 h0) (E_i1 : Exa Z h0 i1 "java/util/ArrayList$Itr") (F_this_0_i1 : Fld Z h0 i1 "java/util/ArrayList$Itr" "this$0" "Ljava/util/ArrayList;" (.ref ll)) (F_cursor_i1 : Fld Z h0 i1 "java/util/ArrayList$Itr" "cursor" "I" (.int 0)) (F_lastRet_i1 : Fld Z h0 i1 "java/util/ArrayList$Itr" "lastRet" "I" (.int lr)) (F_expectedModCount_i1 : Fld Z h0 i1 "java/util/ArrayList$Itr" "expectedModCount" "I" (.int 2)) (F_modCount_ll : Fld Z h0 ll "java/util/AbstractList" "modCount" "I" (.int 2)) (F_elementData_ll : Fld Z h0 ll "java/util/ArrayList" "elementData" "[Ljava/lang/Object;" (.ref bb)) (F_size_ll : Fld Z h0 ll "java/util/ArrayList" "size" "I" (.int 2)) (V_bb : Arv Z h0 bb kb (.object "java/lang/Object") (10 : Int32) [(.ref x0), (.ref x1), .null, .null, .null, .null, .null, .null, .null, .null] .null) (g_i1 : n0 ≤ i1) (ne_ll_i1 : ll ≠ i1) (ne_bb_i1 : bb ≠ i1) :
  Con l Z (⟨"java/util/ArrayList$Itr", "next", "()Ljava/lang/Object;"⟩ : MethodName) jdk_49_method_3_code 3 (some (.object "java/lang/Object")) ({ frames := 1, cells := 0, slots := 0, locals := 12 } : Room) #[(.ref i1)] h0 (fun v h L => v = some (.ref x0) ∧ Fr n0 L ∧ Keep h0 h [i1] ∧ Exa Z h i1 "java/util/ArrayList$Itr" ∧ Fld Z h i1 "java/util/ArrayList$Itr" "this$0" "Ljava/util/ArrayList;" (.ref ll) ∧ Fld Z h i1 "java/util/ArrayList$Itr" "cursor" "I" (.int 1) ∧ Fld Z h i1 "java/util/ArrayList$Itr" "lastRet" "I" (.int 0) ∧ Fld Z h i1 "java/util/ArrayList$Itr" "expectedModCount" "I" (.int 2)) := by
 refine own_startC opn_25 ?_
 intro p e s m below meth c T0 X0 hx hby hml hZ hown hnm hret hlk e0
 have N := Fr.nil n0; have K := Keep.refl h0 [i1]
 refine OG.cast (oef10 m i1) ?_
 refine og_aloadN X0 hx rfl rfl (hb hby d25_0) rfl ?_
 refine og_virtual (pc' := 4) (cells' := 0) (slots' := 0) (W := 0) X0 hx hZ (rm_cm l Z a0 hw i1 ll (2 : Int32) h0 n0 O F_this_0_i1 F_expectedModCount_i1 F_modCount_ll) hown (ow193 hw) (ow194 hw) (own_nf hZ (ow196 hw)) (ow196 hw) (ow195 hw) (ow160 hw) (ow197 hw) (by decide) (by rw [hml]; rfl) e0 opd_0 [] [] rfl rfl rfl rfl (by decide) (by decide) rfl rfl (by decide) (by decide) E_i1 (hb hby d25_1) rfl (fun v11 T11 h11 L11 X11 e11 z11 => ?_)
 obtain ⟨rfl, Nq11, hq11⟩ := z11; replace e11 := e11.trans hq11; have N := Fr.app N Nq11
 refine og_aloadN X11 hx rfl rfl (hb hby d25_4) rfl ?_
 refine og_getfield X11 hx hZ (host := "") hown (Or.inl (ow182 hw)) Via.refl e11 F_cursor_i1 (hb hby d25_5) rfl (fun T12 X12 e12 => ?_)
 refine og_istoreN (L' := #[.val (.ref i1), .val (.int 0), .unset]) X12 hx rfl (hb hby d25_8) rfl ?_
 refine og_iloadN X12 hx rfl (hb hby d25_9) rfl ?_
 refine og_aloadN X12 hx rfl rfl (hb hby d25_10) rfl ?_
 refine og_getfield X12 hx hZ (host := "") hown (Or.inl (ow165 hw)) Via.refl e12 F_this_0_i1 (hb hby d25_11) rfl (fun T13 X13 e13 => ?_)
 refine og_getfield X13 hx hZ hown (Or.inr (ow184 hw)) Via.refl e13 F_size_ll (hb hby d25_14) rfl (fun T14 X14 e14 => ?_)
 refine og_icmp_lt (pc1 := 28) (pc2 := 20) X14 hx (hb hby d25_17) (by decide) (by decide) rfl (fun _ => ?_) (fun q => absurd q (by decide))
 refine og_aloadN X14 hx rfl rfl (hb hby d25_28) rfl ?_
 refine og_getfield X14 hx hZ (host := "") hown (Or.inl (ow165 hw)) Via.refl e14 F_this_0_i1 (hb hby d25_29) rfl (fun T15 X15 e15 => ?_)
 refine og_getfield X15 hx hZ (host := "") hown (Or.inl (ow198 hw)) Via.refl e15 F_elementData_ll (hb hby d25_32) rfl (fun T16 X16 e16 => ?_)
 refine og_astoreN (L' := #[.val (.ref i1), .val (.int 0), .val (.ref bb)]) X16 hx rfl rfl (hb hby d25_35) rfl ?_
 refine og_iloadN X16 hx rfl (hb hby d25_36) rfl ?_
 refine og_aloadN X16 hx rfl rfl (hb hby d25_37) rfl ?_
 refine og_arraylength X16 hx hZ e16 V_bb (hb hby d25_38) rfl ?_
 refine og_icmp_lt (pc1 := 50) (pc2 := 42) X16 hx (hb hby d25_39) (by decide) (by decide) rfl (fun _ => ?_) (fun q => absurd q (by decide))
 refine og_aloadN X16 hx rfl rfl (hb hby d25_50) rfl ?_
 refine og_iloadN X16 hx rfl (hb hby d25_51) rfl ?_
 refine og_iconst (v := 1) X16 hx rfl (hb hby d25_52) rfl ?_
 refine og_iadd X16 hx (hb hby d25_53) rfl ?_
 show OG p e below _ (T16.setTop (mkF m 54 #[.val (.ref i1), .val (.int 0), .val (.ref bb)] [(.int 1), (.ref i1)]))
 refine og_putfield X16 hx hZ (ty := .int) (host := "") hown (Or.inl (ow182 hw)) Via.refl e16 F_cursor_i1 E_i1 (Or.inl (ow183 hw)) (ow159 hw) (by decide) rfl rfl (hb hby d25_54) rfl (fun T17 h17 X17 e17 W17 => ?_)
 have F_cursor_i1_ := F_cursor_i1.same W17
 have E_i1 := E_i1.wr W17; have F_this_0_i1 := F_this_0_i1.other W17 (Or.inr (slot_ne (Or.inr (ow166 hw)) (Or.inl (ow183 hw)) (by decide) (t := (.object "java/util/ArrayList")) (t' := .int) (by decide) (by decide))); have F_lastRet_i1 := F_lastRet_i1.other W17 (Or.inr (slot_ne (Or.inl (ow169 hw)) (Or.inl (ow183 hw)) (by decide) (t := .int) (t' := .int) (by decide) (by decide))); have F_expectedModCount_i1 := F_expectedModCount_i1.other W17 (Or.inr (slot_ne (Or.inl (ow172 hw)) (Or.inl (ow183 hw)) (by decide) (t := .int) (t' := .int) (by decide) (by decide)))
 have V_bb := V_bb.other W17 ne_bb_i1; have K := K.wr W17 (Or.inl (List.mem_of_getElem? (i := 0) rfl))
 have N := Fr.snoc X17 N g_i1; have F_cursor_i1 := F_cursor_i1_
 refine og_aloadN X17 hx rfl rfl (hb hby d25_57) rfl ?_
 refine og_aloadN X17 hx rfl rfl (hb hby d25_58) rfl ?_
 refine og_iloadN X17 hx rfl (hb hby d25_59) rfl ?_
 refine og_dup_x1 X17 hx rfl rfl (hb hby d25_60) rfl ?_
 refine og_putfield X17 hx hZ (ty := .int) (host := "") hown (Or.inl (ow168 hw)) Via.refl e17 F_lastRet_i1 E_i1 (Or.inl (ow169 hw)) (ow159 hw) (by decide) rfl rfl (hb hby d25_61) rfl (fun T18 h18 X18 e18 W18 => ?_)
 have F_lastRet_i1_ := F_lastRet_i1.same W18
 have E_i1 := E_i1.wr W18; have F_this_0_i1 := F_this_0_i1.other W18 (Or.inr (slot_ne (Or.inr (ow166 hw)) (Or.inl (ow169 hw)) (by decide) (t := (.object "java/util/ArrayList")) (t' := .int) (by decide) (by decide))); have F_expectedModCount_i1 := F_expectedModCount_i1.other W18 (Or.inr (slot_ne (Or.inl (ow172 hw)) (Or.inl (ow169 hw)) (by decide) (t := .int) (t' := .int) (by decide) (by decide)))
 have V_bb := V_bb.other W18 ne_bb_i1; have F_cursor_i1 := F_cursor_i1.other W18 (Or.inr (slot_ne (Or.inl (ow183 hw)) (Or.inl (ow169 hw)) (by decide) (t := .int) (t' := .int) (by decide) (by decide))); have K := K.wr W18 (Or.inl (List.mem_of_getElem? (i := 0) rfl))
 have N := Fr.snoc X18 N g_i1; have F_lastRet_i1 := F_lastRet_i1_
 refine og_aaload (v := (.ref x0)) X18 hx hZ e18 rfl V_bb ⟨by decide, by decide⟩ rfl (hb hby d25_64) rfl ?_
 refine og_retR X18 hx hlk hret rfl rfl rfl (hb hby d25_65) (by decide) (by decide) ?_
 rw [e18]; exact ⟨rfl, N, K, E_i1, F_this_0_i1, F_cursor_i1, F_lastRet_i1, F_expectedModCount_i1⟩
theorem rm_nx_1_2 (l : Launch) (Z : State) (a0 : Array Value) (hw : HW a0 Z) (i1 ll bb x0 x1 : Addr) (kb : ClassId) (lr : Int32) (h0 : Heap) (n0 : Nat) (O : Old Z n0 h0) (E_i1 : Exa Z h0 i1 "java/util/ArrayList$Itr") (F_this_0_i1 : Fld Z h0 i1 "java/util/ArrayList$Itr" "this$0" "Ljava/util/ArrayList;" (.ref ll)) (F_cursor_i1 : Fld Z h0 i1 "java/util/ArrayList$Itr" "cursor" "I" (.int 1)) (F_lastRet_i1 : Fld Z h0 i1 "java/util/ArrayList$Itr" "lastRet" "I" (.int lr)) (F_expectedModCount_i1 : Fld Z h0 i1 "java/util/ArrayList$Itr" "expectedModCount" "I" (.int 2)) (F_modCount_ll : Fld Z h0 ll "java/util/AbstractList" "modCount" "I" (.int 2)) (F_elementData_ll : Fld Z h0 ll "java/util/ArrayList" "elementData" "[Ljava/lang/Object;" (.ref bb)) (F_size_ll : Fld Z h0 ll "java/util/ArrayList" "size" "I" (.int 2)) (V_bb : Arv Z h0 bb kb (.object "java/lang/Object") (10 : Int32) [(.ref x0), (.ref x1), .null, .null, .null, .null, .null, .null, .null, .null] .null) (g_i1 : n0 ≤ i1) (ne_ll_i1 : ll ≠ i1) (ne_bb_i1 : bb ≠ i1) :
  Con l Z (⟨"java/util/ArrayList$Itr", "next", "()Ljava/lang/Object;"⟩ : MethodName) jdk_49_method_3_code 3 (some (.object "java/lang/Object")) ({ frames := 1, cells := 0, slots := 0, locals := 12 } : Room) #[(.ref i1)] h0 (fun v h L => v = some (.ref x1) ∧ Fr n0 L ∧ Keep h0 h [i1] ∧ Exa Z h i1 "java/util/ArrayList$Itr" ∧ Fld Z h i1 "java/util/ArrayList$Itr" "this$0" "Ljava/util/ArrayList;" (.ref ll) ∧ Fld Z h i1 "java/util/ArrayList$Itr" "cursor" "I" (.int 2) ∧ Fld Z h i1 "java/util/ArrayList$Itr" "lastRet" "I" (.int 1) ∧ Fld Z h i1 "java/util/ArrayList$Itr" "expectedModCount" "I" (.int 2)) := by
 refine own_startC opn_25 ?_
 intro p e s m below meth c T0 X0 hx hby hml hZ hown hnm hret hlk e0
 have N := Fr.nil n0; have K := Keep.refl h0 [i1]
 refine OG.cast (oef10 m i1) ?_
 refine og_aloadN X0 hx rfl rfl (hb hby d25_0) rfl ?_
 refine og_virtual (pc' := 4) (cells' := 0) (slots' := 0) (W := 0) X0 hx hZ (rm_cm l Z a0 hw i1 ll (2 : Int32) h0 n0 O F_this_0_i1 F_expectedModCount_i1 F_modCount_ll) hown (ow193 hw) (ow194 hw) (own_nf hZ (ow196 hw)) (ow196 hw) (ow195 hw) (ow160 hw) (ow197 hw) (by decide) (by rw [hml]; rfl) e0 opd_0 [] [] rfl rfl rfl rfl (by decide) (by decide) rfl rfl (by decide) (by decide) E_i1 (hb hby d25_1) rfl (fun v11 T11 h11 L11 X11 e11 z11 => ?_)
 obtain ⟨rfl, Nq11, hq11⟩ := z11; replace e11 := e11.trans hq11; have N := Fr.app N Nq11
 refine og_aloadN X11 hx rfl rfl (hb hby d25_4) rfl ?_
 refine og_getfield X11 hx hZ (host := "") hown (Or.inl (ow182 hw)) Via.refl e11 F_cursor_i1 (hb hby d25_5) rfl (fun T12 X12 e12 => ?_)
 refine og_istoreN (L' := #[.val (.ref i1), .val (.int 1), .unset]) X12 hx rfl (hb hby d25_8) rfl ?_
 refine og_iloadN X12 hx rfl (hb hby d25_9) rfl ?_
 refine og_aloadN X12 hx rfl rfl (hb hby d25_10) rfl ?_
 refine og_getfield X12 hx hZ (host := "") hown (Or.inl (ow165 hw)) Via.refl e12 F_this_0_i1 (hb hby d25_11) rfl (fun T13 X13 e13 => ?_)
 refine og_getfield X13 hx hZ hown (Or.inr (ow184 hw)) Via.refl e13 F_size_ll (hb hby d25_14) rfl (fun T14 X14 e14 => ?_)
 refine og_icmp_lt (pc1 := 28) (pc2 := 20) X14 hx (hb hby d25_17) (by decide) (by decide) rfl (fun _ => ?_) (fun q => absurd q (by decide))
 refine og_aloadN X14 hx rfl rfl (hb hby d25_28) rfl ?_
 refine og_getfield X14 hx hZ (host := "") hown (Or.inl (ow165 hw)) Via.refl e14 F_this_0_i1 (hb hby d25_29) rfl (fun T15 X15 e15 => ?_)
 refine og_getfield X15 hx hZ (host := "") hown (Or.inl (ow198 hw)) Via.refl e15 F_elementData_ll (hb hby d25_32) rfl (fun T16 X16 e16 => ?_)
 refine og_astoreN (L' := #[.val (.ref i1), .val (.int 1), .val (.ref bb)]) X16 hx rfl rfl (hb hby d25_35) rfl ?_
 refine og_iloadN X16 hx rfl (hb hby d25_36) rfl ?_
 refine og_aloadN X16 hx rfl rfl (hb hby d25_37) rfl ?_
 refine og_arraylength X16 hx hZ e16 V_bb (hb hby d25_38) rfl ?_
 refine og_icmp_lt (pc1 := 50) (pc2 := 42) X16 hx (hb hby d25_39) (by decide) (by decide) rfl (fun _ => ?_) (fun q => absurd q (by decide))
 refine og_aloadN X16 hx rfl rfl (hb hby d25_50) rfl ?_
 refine og_iloadN X16 hx rfl (hb hby d25_51) rfl ?_
 refine og_iconst (v := 1) X16 hx rfl (hb hby d25_52) rfl ?_
 refine og_iadd X16 hx (hb hby d25_53) rfl ?_
 show OG p e below _ (T16.setTop (mkF m 54 #[.val (.ref i1), .val (.int 1), .val (.ref bb)] [(.int 2), (.ref i1)]))
 refine og_putfield X16 hx hZ (ty := .int) (host := "") hown (Or.inl (ow182 hw)) Via.refl e16 F_cursor_i1 E_i1 (Or.inl (ow183 hw)) (ow159 hw) (by decide) rfl rfl (hb hby d25_54) rfl (fun T17 h17 X17 e17 W17 => ?_)
 have F_cursor_i1_ := F_cursor_i1.same W17
 have E_i1 := E_i1.wr W17; have F_this_0_i1 := F_this_0_i1.other W17 (Or.inr (slot_ne (Or.inr (ow166 hw)) (Or.inl (ow183 hw)) (by decide) (t := (.object "java/util/ArrayList")) (t' := .int) (by decide) (by decide))); have F_lastRet_i1 := F_lastRet_i1.other W17 (Or.inr (slot_ne (Or.inl (ow169 hw)) (Or.inl (ow183 hw)) (by decide) (t := .int) (t' := .int) (by decide) (by decide))); have F_expectedModCount_i1 := F_expectedModCount_i1.other W17 (Or.inr (slot_ne (Or.inl (ow172 hw)) (Or.inl (ow183 hw)) (by decide) (t := .int) (t' := .int) (by decide) (by decide)))
 have V_bb := V_bb.other W17 ne_bb_i1; have K := K.wr W17 (Or.inl (List.mem_of_getElem? (i := 0) rfl))
 have N := Fr.snoc X17 N g_i1; have F_cursor_i1 := F_cursor_i1_
 refine og_aloadN X17 hx rfl rfl (hb hby d25_57) rfl ?_
 refine og_aloadN X17 hx rfl rfl (hb hby d25_58) rfl ?_
 refine og_iloadN X17 hx rfl (hb hby d25_59) rfl ?_
 refine og_dup_x1 X17 hx rfl rfl (hb hby d25_60) rfl ?_
 refine og_putfield X17 hx hZ (ty := .int) (host := "") hown (Or.inl (ow168 hw)) Via.refl e17 F_lastRet_i1 E_i1 (Or.inl (ow169 hw)) (ow159 hw) (by decide) rfl rfl (hb hby d25_61) rfl (fun T18 h18 X18 e18 W18 => ?_)
 have F_lastRet_i1_ := F_lastRet_i1.same W18
 have E_i1 := E_i1.wr W18; have F_this_0_i1 := F_this_0_i1.other W18 (Or.inr (slot_ne (Or.inr (ow166 hw)) (Or.inl (ow169 hw)) (by decide) (t := (.object "java/util/ArrayList")) (t' := .int) (by decide) (by decide))); have F_expectedModCount_i1 := F_expectedModCount_i1.other W18 (Or.inr (slot_ne (Or.inl (ow172 hw)) (Or.inl (ow169 hw)) (by decide) (t := .int) (t' := .int) (by decide) (by decide)))
 have V_bb := V_bb.other W18 ne_bb_i1; have F_cursor_i1 := F_cursor_i1.other W18 (Or.inr (slot_ne (Or.inl (ow183 hw)) (Or.inl (ow169 hw)) (by decide) (t := .int) (t' := .int) (by decide) (by decide))); have K := K.wr W18 (Or.inl (List.mem_of_getElem? (i := 0) rfl))
 have N := Fr.snoc X18 N g_i1; have F_lastRet_i1 := F_lastRet_i1_
 refine og_aaload (v := (.ref x1)) X18 hx hZ e18 rfl V_bb ⟨by decide, by decide⟩ rfl (hb hby d25_64) rfl ?_
 refine og_retR X18 hx hlk hret rfl rfl rfl (hb hby d25_65) (by decide) (by decide) ?_
 rw [e18]; exact ⟨rfl, N, K, E_i1, F_this_0_i1, F_cursor_i1, F_lastRet_i1, F_expectedModCount_i1⟩
theorem rm_nx_0_3 (l : Launch) (Z : State) (a0 : Array Value) (hw : HW a0 Z) (i1 ll bb x0 x1 x2 : Addr) (kb : ClassId) (lr : Int32) (h0 : Heap) (n0 : Nat) (O : Old Z n0 h0) (E_i1 : Exa Z h0 i1 "java/util/ArrayList$Itr") (F_this_0_i1 : Fld Z h0 i1 "java/util/ArrayList$Itr" "this$0" "Ljava/util/ArrayList;" (.ref ll)) (F_cursor_i1 : Fld Z h0 i1 "java/util/ArrayList$Itr" "cursor" "I" (.int 0)) (F_lastRet_i1 : Fld Z h0 i1 "java/util/ArrayList$Itr" "lastRet" "I" (.int lr)) (F_expectedModCount_i1 : Fld Z h0 i1 "java/util/ArrayList$Itr" "expectedModCount" "I" (.int 3)) (F_modCount_ll : Fld Z h0 ll "java/util/AbstractList" "modCount" "I" (.int 3)) (F_elementData_ll : Fld Z h0 ll "java/util/ArrayList" "elementData" "[Ljava/lang/Object;" (.ref bb)) (F_size_ll : Fld Z h0 ll "java/util/ArrayList" "size" "I" (.int 3)) (V_bb : Arv Z h0 bb kb (.object "java/lang/Object") (10 : Int32) [(.ref x0), (.ref x1), (.ref x2), .null, .null, .null, .null, .null, .null, .null] .null) (g_i1 : n0 ≤ i1) (ne_ll_i1 : ll ≠ i1) (ne_bb_i1 : bb ≠ i1) :
  Con l Z (⟨"java/util/ArrayList$Itr", "next", "()Ljava/lang/Object;"⟩ : MethodName) jdk_49_method_3_code 3 (some (.object "java/lang/Object")) ({ frames := 1, cells := 0, slots := 0, locals := 12 } : Room) #[(.ref i1)] h0 (fun v h L => v = some (.ref x0) ∧ Fr n0 L ∧ Keep h0 h [i1] ∧ Exa Z h i1 "java/util/ArrayList$Itr" ∧ Fld Z h i1 "java/util/ArrayList$Itr" "this$0" "Ljava/util/ArrayList;" (.ref ll) ∧ Fld Z h i1 "java/util/ArrayList$Itr" "cursor" "I" (.int 1) ∧ Fld Z h i1 "java/util/ArrayList$Itr" "lastRet" "I" (.int 0) ∧ Fld Z h i1 "java/util/ArrayList$Itr" "expectedModCount" "I" (.int 3)) := by
 refine own_startC opn_25 ?_
 intro p e s m below meth c T0 X0 hx hby hml hZ hown hnm hret hlk e0
 have N := Fr.nil n0; have K := Keep.refl h0 [i1]
 refine OG.cast (oef10 m i1) ?_
 refine og_aloadN X0 hx rfl rfl (hb hby d25_0) rfl ?_
 refine og_virtual (pc' := 4) (cells' := 0) (slots' := 0) (W := 0) X0 hx hZ (rm_cm l Z a0 hw i1 ll (3 : Int32) h0 n0 O F_this_0_i1 F_expectedModCount_i1 F_modCount_ll) hown (ow193 hw) (ow194 hw) (own_nf hZ (ow196 hw)) (ow196 hw) (ow195 hw) (ow160 hw) (ow197 hw) (by decide) (by rw [hml]; rfl) e0 opd_0 [] [] rfl rfl rfl rfl (by decide) (by decide) rfl rfl (by decide) (by decide) E_i1 (hb hby d25_1) rfl (fun v11 T11 h11 L11 X11 e11 z11 => ?_)
 obtain ⟨rfl, Nq11, hq11⟩ := z11; replace e11 := e11.trans hq11; have N := Fr.app N Nq11
 refine og_aloadN X11 hx rfl rfl (hb hby d25_4) rfl ?_
 refine og_getfield X11 hx hZ (host := "") hown (Or.inl (ow182 hw)) Via.refl e11 F_cursor_i1 (hb hby d25_5) rfl (fun T12 X12 e12 => ?_)
 refine og_istoreN (L' := #[.val (.ref i1), .val (.int 0), .unset]) X12 hx rfl (hb hby d25_8) rfl ?_
 refine og_iloadN X12 hx rfl (hb hby d25_9) rfl ?_
 refine og_aloadN X12 hx rfl rfl (hb hby d25_10) rfl ?_
 refine og_getfield X12 hx hZ (host := "") hown (Or.inl (ow165 hw)) Via.refl e12 F_this_0_i1 (hb hby d25_11) rfl (fun T13 X13 e13 => ?_)
 refine og_getfield X13 hx hZ hown (Or.inr (ow184 hw)) Via.refl e13 F_size_ll (hb hby d25_14) rfl (fun T14 X14 e14 => ?_)
 refine og_icmp_lt (pc1 := 28) (pc2 := 20) X14 hx (hb hby d25_17) (by decide) (by decide) rfl (fun _ => ?_) (fun q => absurd q (by decide))
 refine og_aloadN X14 hx rfl rfl (hb hby d25_28) rfl ?_
 refine og_getfield X14 hx hZ (host := "") hown (Or.inl (ow165 hw)) Via.refl e14 F_this_0_i1 (hb hby d25_29) rfl (fun T15 X15 e15 => ?_)
 refine og_getfield X15 hx hZ (host := "") hown (Or.inl (ow198 hw)) Via.refl e15 F_elementData_ll (hb hby d25_32) rfl (fun T16 X16 e16 => ?_)
 refine og_astoreN (L' := #[.val (.ref i1), .val (.int 0), .val (.ref bb)]) X16 hx rfl rfl (hb hby d25_35) rfl ?_
 refine og_iloadN X16 hx rfl (hb hby d25_36) rfl ?_
 refine og_aloadN X16 hx rfl rfl (hb hby d25_37) rfl ?_
 refine og_arraylength X16 hx hZ e16 V_bb (hb hby d25_38) rfl ?_
 refine og_icmp_lt (pc1 := 50) (pc2 := 42) X16 hx (hb hby d25_39) (by decide) (by decide) rfl (fun _ => ?_) (fun q => absurd q (by decide))
 refine og_aloadN X16 hx rfl rfl (hb hby d25_50) rfl ?_
 refine og_iloadN X16 hx rfl (hb hby d25_51) rfl ?_
 refine og_iconst (v := 1) X16 hx rfl (hb hby d25_52) rfl ?_
 refine og_iadd X16 hx (hb hby d25_53) rfl ?_
 show OG p e below _ (T16.setTop (mkF m 54 #[.val (.ref i1), .val (.int 0), .val (.ref bb)] [(.int 1), (.ref i1)]))
 refine og_putfield X16 hx hZ (ty := .int) (host := "") hown (Or.inl (ow182 hw)) Via.refl e16 F_cursor_i1 E_i1 (Or.inl (ow183 hw)) (ow159 hw) (by decide) rfl rfl (hb hby d25_54) rfl (fun T17 h17 X17 e17 W17 => ?_)
 have F_cursor_i1_ := F_cursor_i1.same W17
 have E_i1 := E_i1.wr W17; have F_this_0_i1 := F_this_0_i1.other W17 (Or.inr (slot_ne (Or.inr (ow166 hw)) (Or.inl (ow183 hw)) (by decide) (t := (.object "java/util/ArrayList")) (t' := .int) (by decide) (by decide))); have F_lastRet_i1 := F_lastRet_i1.other W17 (Or.inr (slot_ne (Or.inl (ow169 hw)) (Or.inl (ow183 hw)) (by decide) (t := .int) (t' := .int) (by decide) (by decide))); have F_expectedModCount_i1 := F_expectedModCount_i1.other W17 (Or.inr (slot_ne (Or.inl (ow172 hw)) (Or.inl (ow183 hw)) (by decide) (t := .int) (t' := .int) (by decide) (by decide)))
 have V_bb := V_bb.other W17 ne_bb_i1; have K := K.wr W17 (Or.inl (List.mem_of_getElem? (i := 0) rfl))
 have N := Fr.snoc X17 N g_i1; have F_cursor_i1 := F_cursor_i1_
 refine og_aloadN X17 hx rfl rfl (hb hby d25_57) rfl ?_
 refine og_aloadN X17 hx rfl rfl (hb hby d25_58) rfl ?_
 refine og_iloadN X17 hx rfl (hb hby d25_59) rfl ?_
 refine og_dup_x1 X17 hx rfl rfl (hb hby d25_60) rfl ?_
 refine og_putfield X17 hx hZ (ty := .int) (host := "") hown (Or.inl (ow168 hw)) Via.refl e17 F_lastRet_i1 E_i1 (Or.inl (ow169 hw)) (ow159 hw) (by decide) rfl rfl (hb hby d25_61) rfl (fun T18 h18 X18 e18 W18 => ?_)
 have F_lastRet_i1_ := F_lastRet_i1.same W18
 have E_i1 := E_i1.wr W18; have F_this_0_i1 := F_this_0_i1.other W18 (Or.inr (slot_ne (Or.inr (ow166 hw)) (Or.inl (ow169 hw)) (by decide) (t := (.object "java/util/ArrayList")) (t' := .int) (by decide) (by decide))); have F_expectedModCount_i1 := F_expectedModCount_i1.other W18 (Or.inr (slot_ne (Or.inl (ow172 hw)) (Or.inl (ow169 hw)) (by decide) (t := .int) (t' := .int) (by decide) (by decide)))
 have V_bb := V_bb.other W18 ne_bb_i1; have F_cursor_i1 := F_cursor_i1.other W18 (Or.inr (slot_ne (Or.inl (ow183 hw)) (Or.inl (ow169 hw)) (by decide) (t := .int) (t' := .int) (by decide) (by decide))); have K := K.wr W18 (Or.inl (List.mem_of_getElem? (i := 0) rfl))
 have N := Fr.snoc X18 N g_i1; have F_lastRet_i1 := F_lastRet_i1_
 refine og_aaload (v := (.ref x0)) X18 hx hZ e18 rfl V_bb ⟨by decide, by decide⟩ rfl (hb hby d25_64) rfl ?_
 refine og_retR X18 hx hlk hret rfl rfl rfl (hb hby d25_65) (by decide) (by decide) ?_
 rw [e18]; exact ⟨rfl, N, K, E_i1, F_this_0_i1, F_cursor_i1, F_lastRet_i1, F_expectedModCount_i1⟩
theorem rm_nx_1_3 (l : Launch) (Z : State) (a0 : Array Value) (hw : HW a0 Z) (i1 ll bb x0 x1 x2 : Addr) (kb : ClassId) (lr : Int32) (h0 : Heap) (n0 : Nat) (O : Old Z n0 h0) (E_i1 : Exa Z h0 i1 "java/util/ArrayList$Itr") (F_this_0_i1 : Fld Z h0 i1 "java/util/ArrayList$Itr" "this$0" "Ljava/util/ArrayList;" (.ref ll)) (F_cursor_i1 : Fld Z h0 i1 "java/util/ArrayList$Itr" "cursor" "I" (.int 1)) (F_lastRet_i1 : Fld Z h0 i1 "java/util/ArrayList$Itr" "lastRet" "I" (.int lr)) (F_expectedModCount_i1 : Fld Z h0 i1 "java/util/ArrayList$Itr" "expectedModCount" "I" (.int 3)) (F_modCount_ll : Fld Z h0 ll "java/util/AbstractList" "modCount" "I" (.int 3)) (F_elementData_ll : Fld Z h0 ll "java/util/ArrayList" "elementData" "[Ljava/lang/Object;" (.ref bb)) (F_size_ll : Fld Z h0 ll "java/util/ArrayList" "size" "I" (.int 3)) (V_bb : Arv Z h0 bb kb (.object "java/lang/Object") (10 : Int32) [(.ref x0), (.ref x1), (.ref x2), .null, .null, .null, .null, .null, .null, .null] .null) (g_i1 : n0 ≤ i1) (ne_ll_i1 : ll ≠ i1) (ne_bb_i1 : bb ≠ i1) :
  Con l Z (⟨"java/util/ArrayList$Itr", "next", "()Ljava/lang/Object;"⟩ : MethodName) jdk_49_method_3_code 3 (some (.object "java/lang/Object")) ({ frames := 1, cells := 0, slots := 0, locals := 12 } : Room) #[(.ref i1)] h0 (fun v h L => v = some (.ref x1) ∧ Fr n0 L ∧ Keep h0 h [i1] ∧ Exa Z h i1 "java/util/ArrayList$Itr" ∧ Fld Z h i1 "java/util/ArrayList$Itr" "this$0" "Ljava/util/ArrayList;" (.ref ll) ∧ Fld Z h i1 "java/util/ArrayList$Itr" "cursor" "I" (.int 2) ∧ Fld Z h i1 "java/util/ArrayList$Itr" "lastRet" "I" (.int 1) ∧ Fld Z h i1 "java/util/ArrayList$Itr" "expectedModCount" "I" (.int 3)) := by
 refine own_startC opn_25 ?_
 intro p e s m below meth c T0 X0 hx hby hml hZ hown hnm hret hlk e0
 have N := Fr.nil n0; have K := Keep.refl h0 [i1]
 refine OG.cast (oef10 m i1) ?_
 refine og_aloadN X0 hx rfl rfl (hb hby d25_0) rfl ?_
 refine og_virtual (pc' := 4) (cells' := 0) (slots' := 0) (W := 0) X0 hx hZ (rm_cm l Z a0 hw i1 ll (3 : Int32) h0 n0 O F_this_0_i1 F_expectedModCount_i1 F_modCount_ll) hown (ow193 hw) (ow194 hw) (own_nf hZ (ow196 hw)) (ow196 hw) (ow195 hw) (ow160 hw) (ow197 hw) (by decide) (by rw [hml]; rfl) e0 opd_0 [] [] rfl rfl rfl rfl (by decide) (by decide) rfl rfl (by decide) (by decide) E_i1 (hb hby d25_1) rfl (fun v11 T11 h11 L11 X11 e11 z11 => ?_)
 obtain ⟨rfl, Nq11, hq11⟩ := z11; replace e11 := e11.trans hq11; have N := Fr.app N Nq11
 refine og_aloadN X11 hx rfl rfl (hb hby d25_4) rfl ?_
 refine og_getfield X11 hx hZ (host := "") hown (Or.inl (ow182 hw)) Via.refl e11 F_cursor_i1 (hb hby d25_5) rfl (fun T12 X12 e12 => ?_)
 refine og_istoreN (L' := #[.val (.ref i1), .val (.int 1), .unset]) X12 hx rfl (hb hby d25_8) rfl ?_
 refine og_iloadN X12 hx rfl (hb hby d25_9) rfl ?_
 refine og_aloadN X12 hx rfl rfl (hb hby d25_10) rfl ?_
 refine og_getfield X12 hx hZ (host := "") hown (Or.inl (ow165 hw)) Via.refl e12 F_this_0_i1 (hb hby d25_11) rfl (fun T13 X13 e13 => ?_)
 refine og_getfield X13 hx hZ hown (Or.inr (ow184 hw)) Via.refl e13 F_size_ll (hb hby d25_14) rfl (fun T14 X14 e14 => ?_)
 refine og_icmp_lt (pc1 := 28) (pc2 := 20) X14 hx (hb hby d25_17) (by decide) (by decide) rfl (fun _ => ?_) (fun q => absurd q (by decide))
 refine og_aloadN X14 hx rfl rfl (hb hby d25_28) rfl ?_
 refine og_getfield X14 hx hZ (host := "") hown (Or.inl (ow165 hw)) Via.refl e14 F_this_0_i1 (hb hby d25_29) rfl (fun T15 X15 e15 => ?_)
 refine og_getfield X15 hx hZ (host := "") hown (Or.inl (ow198 hw)) Via.refl e15 F_elementData_ll (hb hby d25_32) rfl (fun T16 X16 e16 => ?_)
 refine og_astoreN (L' := #[.val (.ref i1), .val (.int 1), .val (.ref bb)]) X16 hx rfl rfl (hb hby d25_35) rfl ?_
 refine og_iloadN X16 hx rfl (hb hby d25_36) rfl ?_
 refine og_aloadN X16 hx rfl rfl (hb hby d25_37) rfl ?_
 refine og_arraylength X16 hx hZ e16 V_bb (hb hby d25_38) rfl ?_
 refine og_icmp_lt (pc1 := 50) (pc2 := 42) X16 hx (hb hby d25_39) (by decide) (by decide) rfl (fun _ => ?_) (fun q => absurd q (by decide))
 refine og_aloadN X16 hx rfl rfl (hb hby d25_50) rfl ?_
 refine og_iloadN X16 hx rfl (hb hby d25_51) rfl ?_
 refine og_iconst (v := 1) X16 hx rfl (hb hby d25_52) rfl ?_
 refine og_iadd X16 hx (hb hby d25_53) rfl ?_
 show OG p e below _ (T16.setTop (mkF m 54 #[.val (.ref i1), .val (.int 1), .val (.ref bb)] [(.int 2), (.ref i1)]))
 refine og_putfield X16 hx hZ (ty := .int) (host := "") hown (Or.inl (ow182 hw)) Via.refl e16 F_cursor_i1 E_i1 (Or.inl (ow183 hw)) (ow159 hw) (by decide) rfl rfl (hb hby d25_54) rfl (fun T17 h17 X17 e17 W17 => ?_)
 have F_cursor_i1_ := F_cursor_i1.same W17
 have E_i1 := E_i1.wr W17; have F_this_0_i1 := F_this_0_i1.other W17 (Or.inr (slot_ne (Or.inr (ow166 hw)) (Or.inl (ow183 hw)) (by decide) (t := (.object "java/util/ArrayList")) (t' := .int) (by decide) (by decide))); have F_lastRet_i1 := F_lastRet_i1.other W17 (Or.inr (slot_ne (Or.inl (ow169 hw)) (Or.inl (ow183 hw)) (by decide) (t := .int) (t' := .int) (by decide) (by decide))); have F_expectedModCount_i1 := F_expectedModCount_i1.other W17 (Or.inr (slot_ne (Or.inl (ow172 hw)) (Or.inl (ow183 hw)) (by decide) (t := .int) (t' := .int) (by decide) (by decide)))
 have V_bb := V_bb.other W17 ne_bb_i1; have K := K.wr W17 (Or.inl (List.mem_of_getElem? (i := 0) rfl))
 have N := Fr.snoc X17 N g_i1; have F_cursor_i1 := F_cursor_i1_
 refine og_aloadN X17 hx rfl rfl (hb hby d25_57) rfl ?_
 refine og_aloadN X17 hx rfl rfl (hb hby d25_58) rfl ?_
 refine og_iloadN X17 hx rfl (hb hby d25_59) rfl ?_
 refine og_dup_x1 X17 hx rfl rfl (hb hby d25_60) rfl ?_
 refine og_putfield X17 hx hZ (ty := .int) (host := "") hown (Or.inl (ow168 hw)) Via.refl e17 F_lastRet_i1 E_i1 (Or.inl (ow169 hw)) (ow159 hw) (by decide) rfl rfl (hb hby d25_61) rfl (fun T18 h18 X18 e18 W18 => ?_)
 have F_lastRet_i1_ := F_lastRet_i1.same W18
 have E_i1 := E_i1.wr W18; have F_this_0_i1 := F_this_0_i1.other W18 (Or.inr (slot_ne (Or.inr (ow166 hw)) (Or.inl (ow169 hw)) (by decide) (t := (.object "java/util/ArrayList")) (t' := .int) (by decide) (by decide))); have F_expectedModCount_i1 := F_expectedModCount_i1.other W18 (Or.inr (slot_ne (Or.inl (ow172 hw)) (Or.inl (ow169 hw)) (by decide) (t := .int) (t' := .int) (by decide) (by decide)))
 have V_bb := V_bb.other W18 ne_bb_i1; have F_cursor_i1 := F_cursor_i1.other W18 (Or.inr (slot_ne (Or.inl (ow183 hw)) (Or.inl (ow169 hw)) (by decide) (t := .int) (t' := .int) (by decide) (by decide))); have K := K.wr W18 (Or.inl (List.mem_of_getElem? (i := 0) rfl))
 have N := Fr.snoc X18 N g_i1; have F_lastRet_i1 := F_lastRet_i1_
 refine og_aaload (v := (.ref x1)) X18 hx hZ e18 rfl V_bb ⟨by decide, by decide⟩ rfl (hb hby d25_64) rfl ?_
 refine og_retR X18 hx hlk hret rfl rfl rfl (hb hby d25_65) (by decide) (by decide) ?_
 rw [e18]; exact ⟨rfl, N, K, E_i1, F_this_0_i1, F_cursor_i1, F_lastRet_i1, F_expectedModCount_i1⟩
theorem rm_nx_2_3 (l : Launch) (Z : State) (a0 : Array Value) (hw : HW a0 Z) (i1 ll bb x0 x1 x2 : Addr) (kb : ClassId) (lr : Int32) (h0 : Heap) (n0 : Nat) (O : Old Z n0 h0) (E_i1 : Exa Z h0 i1 "java/util/ArrayList$Itr") (F_this_0_i1 : Fld Z h0 i1 "java/util/ArrayList$Itr" "this$0" "Ljava/util/ArrayList;" (.ref ll)) (F_cursor_i1 : Fld Z h0 i1 "java/util/ArrayList$Itr" "cursor" "I" (.int 2)) (F_lastRet_i1 : Fld Z h0 i1 "java/util/ArrayList$Itr" "lastRet" "I" (.int lr)) (F_expectedModCount_i1 : Fld Z h0 i1 "java/util/ArrayList$Itr" "expectedModCount" "I" (.int 3)) (F_modCount_ll : Fld Z h0 ll "java/util/AbstractList" "modCount" "I" (.int 3)) (F_elementData_ll : Fld Z h0 ll "java/util/ArrayList" "elementData" "[Ljava/lang/Object;" (.ref bb)) (F_size_ll : Fld Z h0 ll "java/util/ArrayList" "size" "I" (.int 3)) (V_bb : Arv Z h0 bb kb (.object "java/lang/Object") (10 : Int32) [(.ref x0), (.ref x1), (.ref x2), .null, .null, .null, .null, .null, .null, .null] .null) (g_i1 : n0 ≤ i1) (ne_ll_i1 : ll ≠ i1) (ne_bb_i1 : bb ≠ i1) :
  Con l Z (⟨"java/util/ArrayList$Itr", "next", "()Ljava/lang/Object;"⟩ : MethodName) jdk_49_method_3_code 3 (some (.object "java/lang/Object")) ({ frames := 1, cells := 0, slots := 0, locals := 12 } : Room) #[(.ref i1)] h0 (fun v h L => v = some (.ref x2) ∧ Fr n0 L ∧ Keep h0 h [i1] ∧ Exa Z h i1 "java/util/ArrayList$Itr" ∧ Fld Z h i1 "java/util/ArrayList$Itr" "this$0" "Ljava/util/ArrayList;" (.ref ll) ∧ Fld Z h i1 "java/util/ArrayList$Itr" "cursor" "I" (.int 3) ∧ Fld Z h i1 "java/util/ArrayList$Itr" "lastRet" "I" (.int 2) ∧ Fld Z h i1 "java/util/ArrayList$Itr" "expectedModCount" "I" (.int 3)) := by
 refine own_startC opn_25 ?_
 intro p e s m below meth c T0 X0 hx hby hml hZ hown hnm hret hlk e0
 have N := Fr.nil n0; have K := Keep.refl h0 [i1]
 refine OG.cast (oef10 m i1) ?_
 refine og_aloadN X0 hx rfl rfl (hb hby d25_0) rfl ?_
 refine og_virtual (pc' := 4) (cells' := 0) (slots' := 0) (W := 0) X0 hx hZ (rm_cm l Z a0 hw i1 ll (3 : Int32) h0 n0 O F_this_0_i1 F_expectedModCount_i1 F_modCount_ll) hown (ow193 hw) (ow194 hw) (own_nf hZ (ow196 hw)) (ow196 hw) (ow195 hw) (ow160 hw) (ow197 hw) (by decide) (by rw [hml]; rfl) e0 opd_0 [] [] rfl rfl rfl rfl (by decide) (by decide) rfl rfl (by decide) (by decide) E_i1 (hb hby d25_1) rfl (fun v11 T11 h11 L11 X11 e11 z11 => ?_)
 obtain ⟨rfl, Nq11, hq11⟩ := z11; replace e11 := e11.trans hq11; have N := Fr.app N Nq11
 refine og_aloadN X11 hx rfl rfl (hb hby d25_4) rfl ?_
 refine og_getfield X11 hx hZ (host := "") hown (Or.inl (ow182 hw)) Via.refl e11 F_cursor_i1 (hb hby d25_5) rfl (fun T12 X12 e12 => ?_)
 refine og_istoreN (L' := #[.val (.ref i1), .val (.int 2), .unset]) X12 hx rfl (hb hby d25_8) rfl ?_
 refine og_iloadN X12 hx rfl (hb hby d25_9) rfl ?_
 refine og_aloadN X12 hx rfl rfl (hb hby d25_10) rfl ?_
 refine og_getfield X12 hx hZ (host := "") hown (Or.inl (ow165 hw)) Via.refl e12 F_this_0_i1 (hb hby d25_11) rfl (fun T13 X13 e13 => ?_)
 refine og_getfield X13 hx hZ hown (Or.inr (ow184 hw)) Via.refl e13 F_size_ll (hb hby d25_14) rfl (fun T14 X14 e14 => ?_)
 refine og_icmp_lt (pc1 := 28) (pc2 := 20) X14 hx (hb hby d25_17) (by decide) (by decide) rfl (fun _ => ?_) (fun q => absurd q (by decide))
 refine og_aloadN X14 hx rfl rfl (hb hby d25_28) rfl ?_
 refine og_getfield X14 hx hZ (host := "") hown (Or.inl (ow165 hw)) Via.refl e14 F_this_0_i1 (hb hby d25_29) rfl (fun T15 X15 e15 => ?_)
 refine og_getfield X15 hx hZ (host := "") hown (Or.inl (ow198 hw)) Via.refl e15 F_elementData_ll (hb hby d25_32) rfl (fun T16 X16 e16 => ?_)
 refine og_astoreN (L' := #[.val (.ref i1), .val (.int 2), .val (.ref bb)]) X16 hx rfl rfl (hb hby d25_35) rfl ?_
 refine og_iloadN X16 hx rfl (hb hby d25_36) rfl ?_
 refine og_aloadN X16 hx rfl rfl (hb hby d25_37) rfl ?_
 refine og_arraylength X16 hx hZ e16 V_bb (hb hby d25_38) rfl ?_
 refine og_icmp_lt (pc1 := 50) (pc2 := 42) X16 hx (hb hby d25_39) (by decide) (by decide) rfl (fun _ => ?_) (fun q => absurd q (by decide))
 refine og_aloadN X16 hx rfl rfl (hb hby d25_50) rfl ?_
 refine og_iloadN X16 hx rfl (hb hby d25_51) rfl ?_
 refine og_iconst (v := 1) X16 hx rfl (hb hby d25_52) rfl ?_
 refine og_iadd X16 hx (hb hby d25_53) rfl ?_
 show OG p e below _ (T16.setTop (mkF m 54 #[.val (.ref i1), .val (.int 2), .val (.ref bb)] [(.int 3), (.ref i1)]))
 refine og_putfield X16 hx hZ (ty := .int) (host := "") hown (Or.inl (ow182 hw)) Via.refl e16 F_cursor_i1 E_i1 (Or.inl (ow183 hw)) (ow159 hw) (by decide) rfl rfl (hb hby d25_54) rfl (fun T17 h17 X17 e17 W17 => ?_)
 have F_cursor_i1_ := F_cursor_i1.same W17
 have E_i1 := E_i1.wr W17; have F_this_0_i1 := F_this_0_i1.other W17 (Or.inr (slot_ne (Or.inr (ow166 hw)) (Or.inl (ow183 hw)) (by decide) (t := (.object "java/util/ArrayList")) (t' := .int) (by decide) (by decide))); have F_lastRet_i1 := F_lastRet_i1.other W17 (Or.inr (slot_ne (Or.inl (ow169 hw)) (Or.inl (ow183 hw)) (by decide) (t := .int) (t' := .int) (by decide) (by decide))); have F_expectedModCount_i1 := F_expectedModCount_i1.other W17 (Or.inr (slot_ne (Or.inl (ow172 hw)) (Or.inl (ow183 hw)) (by decide) (t := .int) (t' := .int) (by decide) (by decide)))
 have V_bb := V_bb.other W17 ne_bb_i1; have K := K.wr W17 (Or.inl (List.mem_of_getElem? (i := 0) rfl))
 have N := Fr.snoc X17 N g_i1; have F_cursor_i1 := F_cursor_i1_
 refine og_aloadN X17 hx rfl rfl (hb hby d25_57) rfl ?_
 refine og_aloadN X17 hx rfl rfl (hb hby d25_58) rfl ?_
 refine og_iloadN X17 hx rfl (hb hby d25_59) rfl ?_
 refine og_dup_x1 X17 hx rfl rfl (hb hby d25_60) rfl ?_
 refine og_putfield X17 hx hZ (ty := .int) (host := "") hown (Or.inl (ow168 hw)) Via.refl e17 F_lastRet_i1 E_i1 (Or.inl (ow169 hw)) (ow159 hw) (by decide) rfl rfl (hb hby d25_61) rfl (fun T18 h18 X18 e18 W18 => ?_)
 have F_lastRet_i1_ := F_lastRet_i1.same W18
 have E_i1 := E_i1.wr W18; have F_this_0_i1 := F_this_0_i1.other W18 (Or.inr (slot_ne (Or.inr (ow166 hw)) (Or.inl (ow169 hw)) (by decide) (t := (.object "java/util/ArrayList")) (t' := .int) (by decide) (by decide))); have F_expectedModCount_i1 := F_expectedModCount_i1.other W18 (Or.inr (slot_ne (Or.inl (ow172 hw)) (Or.inl (ow169 hw)) (by decide) (t := .int) (t' := .int) (by decide) (by decide)))
 have V_bb := V_bb.other W18 ne_bb_i1; have F_cursor_i1 := F_cursor_i1.other W18 (Or.inr (slot_ne (Or.inl (ow183 hw)) (Or.inl (ow169 hw)) (by decide) (t := .int) (t' := .int) (by decide) (by decide))); have K := K.wr W18 (Or.inl (List.mem_of_getElem? (i := 0) rfl))
 have N := Fr.snoc X18 N g_i1; have F_lastRet_i1 := F_lastRet_i1_
 refine og_aaload (v := (.ref x2)) X18 hx hZ e18 rfl V_bb ⟨by decide, by decide⟩ rfl (hb hby d25_64) rfl ?_
 refine og_retR X18 hx hlk hret rfl rfl rfl (hb hby d25_65) (by decide) (by decide) ?_
 rw [e18]; exact ⟨rfl, N, K, E_i1, F_this_0_i1, F_cursor_i1, F_lastRet_i1, F_expectedModCount_i1⟩
theorem rm_uci (l : Launch) (Z : State) (a0 : Array Value) (hw : HW a0 Z) (u1 ll : Addr) (h0 : Heap) (n0 : Nat) (O : Old Z n0 h0) (E_u1 : Exa Z h0 u1 "java/util/Collections$UnmodifiableRandomAccessList") (F_c_u1 : Fld Z h0 u1 "java/util/Collections$UnmodifiableCollection" "c" "Ljava/util/Collection;" .null) (F_list_u1 : Fld Z h0 u1 "java/util/Collections$UnmodifiableList" "list" "Ljava/util/List;" .null) (g_u1 : n0 ≤ u1) :
  Con l Z (⟨"java/util/Collections$UnmodifiableCollection", "<init>", "(Ljava/util/Collection;)V"⟩ : MethodName) jdk_119_method_1_code 2 none ({ frames := 1, cells := 0, slots := 0, locals := 12 } : Room) #[(.ref u1), (.ref ll)] h0 (fun v h L => v = none ∧ Fr n0 L ∧ Keep h0 h [u1] ∧ Exa Z h u1 "java/util/Collections$UnmodifiableRandomAccessList" ∧ Fld Z h u1 "java/util/Collections$UnmodifiableCollection" "c" "Ljava/util/Collection;" (.ref ll) ∧ Fld Z h u1 "java/util/Collections$UnmodifiableList" "list" "Ljava/util/List;" .null) := by
 refine own_startC opn_30 ?_
 intro p e s m below meth c T0 X0 hx hby hml hZ hown hnm hret hlk e0
 have N := Fr.nil n0; have K := Keep.refl h0 [u1]
 refine OG.cast (oef1 m u1 ll) ?_
 refine og_aloadN X0 hx rfl rfl (hb hby d30_0) rfl ?_
 refine og_initO (pc' := 4) X0 hx hZ (W := 0) (by rw [hml]; rfl) hown (ow238 hw) (ow27 hw) (ow28 hw) e0 rfl (by decide) (by decide) (hb hby d30_1) rfl (fun T11 X11 e11 => ?_)
 refine og_aloadN X11 hx rfl rfl (hb hby d30_4) rfl ?_
 refine og_ifnonnull (pc1 := 16) (pc2 := 8) X11 hx rfl (hb hby d30_5) (by decide) (by decide) rfl (fun _ => ?_) (fun q => absurd q nofun)
 refine og_aloadN X11 hx rfl rfl (hb hby d30_16) rfl ?_
 refine og_aloadN X11 hx rfl rfl (hb hby d30_17) rfl ?_
 refine og_putfield X11 hx hZ (ty := (.object "java/util/Collection")) (host := "") hown (Or.inl (ow239 hw)) Via.refl e11 F_c_u1 E_u1 (Or.inr ⟨(ow240 hw), rfl, hnm⟩) (ow221 hw) (by decide) rfl rfl (hb hby d30_18) rfl (fun T12 h12 X12 e12 W12 => ?_)
 have F_c_u1_ := F_c_u1.same W12
 have E_u1 := E_u1.wr W12; have F_list_u1 := F_list_u1.other W12 (Or.inr (slot_ne (Or.inr (ow242 hw)) (Or.inr (ow240 hw)) (by decide) (t := (.object "java/util/List")) (t' := (.object "java/util/Collection")) (by decide) (by decide))); have K := K.wr W12 (Or.inl (List.mem_of_getElem? (i := 0) rfl))
 have N := Fr.snoc X12 N g_u1; have F_c_u1 := F_c_u1_
 refine og_retV X12 hx hlk hret (hb hby d30_21) (by decide) (by decide) ?_
 rw [e12]; exact ⟨rfl, N, K, E_u1, F_c_u1, F_list_u1⟩
theorem rm_uli (l : Launch) (Z : State) (a0 : Array Value) (hw : HW a0 Z) (u1 ll : Addr) (h0 : Heap) (n0 : Nat) (O : Old Z n0 h0) (E_u1 : Exa Z h0 u1 "java/util/Collections$UnmodifiableRandomAccessList") (F_c_u1 : Fld Z h0 u1 "java/util/Collections$UnmodifiableCollection" "c" "Ljava/util/Collection;" .null) (F_list_u1 : Fld Z h0 u1 "java/util/Collections$UnmodifiableList" "list" "Ljava/util/List;" .null) (g_u1 : n0 ≤ u1) :
  Con l Z (⟨"java/util/Collections$UnmodifiableList", "<init>", "(Ljava/util/List;)V"⟩ : MethodName) jdk_120_method_1_code 2 none ({ frames := 2, cells := 0, slots := 0, locals := 25 } : Room) #[(.ref u1), (.ref ll)] h0 (fun v h L => v = none ∧ Fr n0 L ∧ Keep h0 h [u1] ∧ Exa Z h u1 "java/util/Collections$UnmodifiableRandomAccessList" ∧ Fld Z h u1 "java/util/Collections$UnmodifiableCollection" "c" "Ljava/util/Collection;" (.ref ll) ∧ Fld Z h u1 "java/util/Collections$UnmodifiableList" "list" "Ljava/util/List;" (.ref ll)) := by
 refine own_startC opn_29 ?_
 intro p e s m below meth c T0 X0 hx hby hml hZ hown hnm hret hlk e0
 have N := Fr.nil n0; have K := Keep.refl h0 [u1]
 refine OG.cast (oef1 m u1 ll) ?_
 refine og_aloadN X0 hx rfl rfl (hb hby d29_0) rfl ?_
 refine og_aloadN X0 hx rfl rfl (hb hby d29_1) rfl ?_
 refine og_special (pc' := 5) (cells' := 0) (slots' := 0) (W := 0) X0 hx hZ (rm_uci l Z a0 hw u1 ll h0 n0 O E_u1 F_c_u1 F_list_u1 g_u1) rfl hown (ow232 hw) (ow233 hw) (ow236 hw) (ow237 hw) (by decide) (by rw [hml]; rfl) e0 opd_12 [(.ref ll)] [] rfl rfl rfl rfl (by decide) (by decide) rfl rfl (by decide) (by decide) (hb hby d29_2) rfl (fun v11 T11 h11 L11 X11 e11 z11 => ?_)
 obtain ⟨rfl, Nq11, K11, E_u1', F_c_u1', F_list_u1'⟩ := z11; have N := Fr.app N Nq11
 have K := K.trans K11 (allS (Or.inl (List.mem_of_getElem? (i := 0) rfl)) all0)
 have E_u1 := E_u1'; have F_c_u1 := F_c_u1'; have F_list_u1 := F_list_u1'
 refine og_aloadN X11 hx rfl rfl (hb hby d29_5) rfl ?_
 refine og_aloadN X11 hx rfl rfl (hb hby d29_6) rfl ?_
 refine og_putfield X11 hx hZ (ty := (.object "java/util/List")) (host := "") hown (Or.inl (ow241 hw)) Via.refl e11 F_list_u1 E_u1 (Or.inr ⟨(ow242 hw), rfl, hnm⟩) (ow221 hw) (by decide) rfl rfl (hb hby d29_7) rfl (fun T12 h12 X12 e12 W12 => ?_)
 have F_list_u1_ := F_list_u1.same W12
 have E_u1 := E_u1.wr W12; have F_c_u1 := F_c_u1.other W12 (Or.inr (slot_ne (Or.inr (ow240 hw)) (Or.inr (ow242 hw)) (by decide) (t := (.object "java/util/Collection")) (t' := (.object "java/util/List")) (by decide) (by decide))); have K := K.wr W12 (Or.inl (List.mem_of_getElem? (i := 0) rfl))
 have N := Fr.snoc X12 N g_u1; have F_list_u1 := F_list_u1_
 refine og_retV X12 hx hlk hret (hb hby d29_10) (by decide) (by decide) ?_
 rw [e12]; exact ⟨rfl, N, K, E_u1, F_c_u1, F_list_u1⟩
theorem rm_uri (l : Launch) (Z : State) (a0 : Array Value) (hw : HW a0 Z) (u1 ll : Addr) (h0 : Heap) (n0 : Nat) (O : Old Z n0 h0) (E_u1 : Exa Z h0 u1 "java/util/Collections$UnmodifiableRandomAccessList") (F_c_u1 : Fld Z h0 u1 "java/util/Collections$UnmodifiableCollection" "c" "Ljava/util/Collection;" .null) (F_list_u1 : Fld Z h0 u1 "java/util/Collections$UnmodifiableList" "list" "Ljava/util/List;" .null) (g_u1 : n0 ≤ u1) :
  Con l Z (⟨"java/util/Collections$UnmodifiableRandomAccessList", "<init>", "(Ljava/util/List;)V"⟩ : MethodName) jdk_121_method_1_code 2 none ({ frames := 3, cells := 0, slots := 0, locals := 38 } : Room) #[(.ref u1), (.ref ll)] h0 (fun v h L => v = none ∧ Fr n0 L ∧ Keep h0 h [u1] ∧ Exa Z h u1 "java/util/Collections$UnmodifiableRandomAccessList" ∧ Fld Z h u1 "java/util/Collections$UnmodifiableCollection" "c" "Ljava/util/Collection;" (.ref ll) ∧ Fld Z h u1 "java/util/Collections$UnmodifiableList" "list" "Ljava/util/List;" (.ref ll)) := by
 refine own_startC opn_28 ?_
 intro p e s m below meth c T0 X0 hx hby hml hZ hown hnm hret hlk e0
 have N := Fr.nil n0; have K := Keep.refl h0 [u1]
 refine OG.cast (oef1 m u1 ll) ?_
 refine og_aloadN X0 hx rfl rfl (hb hby d28_0) rfl ?_
 refine og_aloadN X0 hx rfl rfl (hb hby d28_1) rfl ?_
 refine og_special (pc' := 5) (cells' := 0) (slots' := 0) (W := 0) X0 hx hZ (rm_uli l Z a0 hw u1 ll h0 n0 O E_u1 F_c_u1 F_list_u1 g_u1) rfl hown (ow226 hw) (ow227 hw) (ow230 hw) (ow231 hw) (by decide) (by rw [hml]; rfl) e0 opd_13 [(.ref ll)] [] rfl rfl rfl rfl (by decide) (by decide) rfl rfl (by decide) (by decide) (hb hby d28_2) rfl (fun v11 T11 h11 L11 X11 e11 z11 => ?_)
 obtain ⟨rfl, Nq11, K11, E_u1', F_c_u1', F_list_u1'⟩ := z11; have N := Fr.app N Nq11
 have K := K.trans K11 (allS (Or.inl (List.mem_of_getElem? (i := 0) rfl)) all0)
 have E_u1 := E_u1'; have F_c_u1 := F_c_u1'; have F_list_u1 := F_list_u1'
 refine og_retV X11 hx hlk hret (hb hby d28_5) (by decide) (by decide) ?_
 rw [e11]; exact ⟨rfl, N, K, E_u1, F_c_u1, F_list_u1⟩
theorem rm_un (l : Launch) (Z : State) (a0 : Array Value) (hw : HW a0 Z) (ll mA mL mR : Addr) (h0 : Heap) (n0 : Nat) (O : Old Z n0 h0) (E_ll : Exa Z h0 ll "java/util/ArrayList") (M_mA : (Term.mirror "java/util/ArrayList").eval #[] Z none [] Z = some (.ref mA)) (M_mL : (Term.mirror "java/util/Collections$UnmodifiableList").eval #[] Z none [] Z = some (.ref mL)) (M_mR : (Term.mirror "java/util/Collections$UnmodifiableRandomAccessList").eval #[] Z none [] Z = some (.ref mR)) (ne_mA_mL : mA ≠ mL) (ne_mA_mR : mA ≠ mR) :
  Con l Z (⟨"java/util/Collections", "unmodifiableList", "(Ljava/util/List;)Ljava/util/List;"⟩ : MethodName) jdk_79_method_35_code 1 (some (.object "java/util/List")) ({ frames := 4, cells := 1, slots := 2, locals := 52 } : Room) #[(.ref ll)] h0 (fun v h L => ∃ u1, v = some (.ref u1) ∧ Fr n0 L ∧ Keep h0 h [] ∧ Exa Z h u1 "java/util/Collections$UnmodifiableRandomAccessList" ∧ Fld Z h u1 "java/util/Collections$UnmodifiableCollection" "c" "Ljava/util/Collection;" (.ref ll) ∧ Fld Z h u1 "java/util/Collections$UnmodifiableList" "list" "Ljava/util/List;" (.ref ll)) := by
 refine own_startC opn_27 ?_
 intro p e s m below meth c T0 X0 hx hby hml hZ hown hnm hret hlk e0
 have N := Fr.nil n0; have K := Keep.refl h0 []
 refine OG.cast (oef0 m ll) ?_
 refine og_aloadN X0 hx rfl rfl (hb hby d27_0) rfl ?_
 refine og_getClassI (pc' := 6) (W := 0) X0 hx hZ (by rw [hml]; rfl) hown (ow205 hw) (ow206 hw) (ow207 hw) (ow208 hw) (ow209 hw) (ow210 hw) (ow211 hw) (ow117 hw) (ow212 hw) (by decide) (by decide) e0 E_ll M_mA rfl (by decide) (by decide) (hb hby d27_1) rfl (fun T11 X11 e11 => ?_)
 refine og_ldcMirror (pc' := 8) X11 hx hZ hown (ow214 hw) M_mL e11 (hb hby d27_6) rfl (fun T12 X12 e12 => ?_)
 refine og_acmp_eq (pc1 := 22) (pc2 := 11) X12 hx rfl rfl (hb hby d27_8) (by decide) (by decide) rfl (fun q => absurd q (fun q => ne_mA_mL (Value.ref.inj q))) (fun _ => ?_)
 refine og_aloadN X12 hx rfl rfl (hb hby d27_11) rfl ?_
 refine og_getClassI (pc' := 17) (W := 0) X12 hx hZ (by rw [hml]; rfl) hown (ow216 hw) (ow206 hw) (ow207 hw) (ow208 hw) (ow209 hw) (ow210 hw) (ow211 hw) (ow117 hw) (ow212 hw) (by decide) (by decide) e12 E_ll M_mA rfl (by decide) (by decide) (hb hby d27_12) rfl (fun T13 X13 e13 => ?_)
 refine og_ldcMirror (pc' := 19) X13 hx hZ hown (ow217 hw) M_mR e13 (hb hby d27_17) rfl (fun T14 X14 e14 => ?_)
 refine og_acmp_ne (pc1 := 24) (pc2 := 22) X14 hx rfl rfl (hb hby d27_19) (by decide) (by decide) rfl (fun _ => ?_) (fun q => absurd q (fun q => ne_mA_mR (Value.ref.inj q)))
 refine og_aloadN X14 hx rfl rfl (hb hby d27_24) rfl ?_
 obtain ⟨T15, X15, e15, st15⟩ := instY X14 hx hZ hown (ow219 hw) e14 (Ins.of_exa E_ll (ow220 hw)) (g := (mkF m 25 #[.val (.ref ll)] [(.ref ll)])) rfl rfl (hb hby d27_25)
 refine OG.of st15 ?_
 show OG p e below _ (T15.setTop (mkF m 28 #[.val (.ref ll)] [(.int 1)]))
 refine og_if_eq (pc1 := 42) (pc2 := 31) X15 hx (hb hby d27_28) (by decide) (by decide) rfl (fun q => absurd q (by decide)) (fun _ => ?_)
 refine og_new (pc' := 34) (cells' := 1) (slots' := 2) X15 hx hZ hown (ow217 hw) (ow221 hw) (ow222 hw) e15 (hb hby d27_31) rfl rfl rfl (by decide) (by decide) (fun T16 h16 nb16 X16 e16 E16 q16 E_nb16 D16 B16 => ?_)
 have s_nb16 : h0.size ≤ nb16 := Nat.le_of_eq q16.symm; have g_nb16 : n0 ≤ nb16 := Nat.le_trans (own_n0 O) s_nb16; have sz_nb16 : h0.size ≤ nb16 := Nat.le_trans K.1 s_nb16
 have O := O.ext E16; have K := K.ext E16
 have F_c_nb16 : Fld Z h16 nb16 "java/util/Collections$UnmodifiableCollection" "c" "Ljava/util/Collection;" .null := D16 (Or.inr (ow240 hw)) (ty := (.object "java/util/Collection")) (by decide)
 have F_list_nb16 : Fld Z h16 nb16 "java/util/Collections$UnmodifiableList" "list" "Ljava/util/List;" .null := D16 (Or.inr (ow242 hw)) (ty := (.object "java/util/List")) (by decide)
 refine og_dup X16 hx rfl (hb hby d27_34) rfl ?_
 refine og_aloadN X16 hx rfl rfl (hb hby d27_35) rfl ?_
 refine og_special (pc' := 39) (cells' := 1) (slots' := 2) (W := 1) X16 hx hZ (rm_uri l Z a0 hw nb16 ll h16 n0 O E_nb16 F_c_nb16 F_list_nb16 g_nb16) rfl hown (ow223 hw) (ow224 hw) (ow222 hw) (ow225 hw) (by decide) (by rw [hml]; rfl) e16 opd_13 [(.ref ll)] [(.ref nb16)] rfl rfl rfl rfl (by decide) (by decide) rfl rfl (by decide) (by decide) (hb hby d27_36) rfl (fun v17 T17 h17 L17 X17 e17 z17 => ?_)
 obtain ⟨rfl, Nq17, K17, E_nb16', F_c_nb16', F_list_nb16'⟩ := z17; have N := Fr.app N Nq17
 have K := K.trans K17 (allS (Or.inr sz_nb16) all0)
 have E_nb16 := E_nb16'; have F_c_nb16 := F_c_nb16'; have F_list_nb16 := F_list_nb16'
 refine og_goto (pc' := 50) X17 hx (hb hby d27_39) (by decide) (by decide) ?_
 refine og_retR X17 hx hlk hret rfl rfl rfl (hb hby d27_50) (by decide) (by decide) ?_
 rw [e17]; exact ⟨_, rfl, N, K, E_nb16, F_c_nb16, F_list_nb16⟩
theorem rm_usz (l : Launch) (Z : State) (a0 : Array Value) (hw : HW a0 Z) (u1 ll : Addr) (nn : Int32) (h0 : Heap) (n0 : Nat) (O : Old Z n0 h0) (E_u1 : Exa Z h0 u1 "java/util/Collections$UnmodifiableRandomAccessList") (F_c_u1 : Fld Z h0 u1 "java/util/Collections$UnmodifiableCollection" "c" "Ljava/util/Collection;" (.ref ll)) (E_ll : Exa Z h0 ll "java/util/ArrayList") (F_size_ll : Fld Z h0 ll "java/util/ArrayList" "size" "I" (.int nn)) :
  Con l Z (⟨"java/util/Collections$UnmodifiableCollection", "size", "()I"⟩ : MethodName) jdk_119_method_2_code 1 (some .int) ({ frames := 1, cells := 0, slots := 0, locals := 12 } : Room) #[(.ref u1)] h0 (fun v h L => v = some (.int nn) ∧ Fr n0 L ∧ h = h0) := by
 refine own_startC opn_31 ?_
 intro p e s m below meth c T0 X0 hx hby hml hZ hown hnm hret hlk e0
 have N := Fr.nil n0
 refine OG.cast (oef0 m u1) ?_
 refine og_aloadN X0 hx rfl rfl (hb hby d31_0) rfl ?_
 refine og_getfield X0 hx hZ (host := "") hown (Or.inl (ow239 hw)) Via.refl e0 F_c_u1 (hb hby d31_1) rfl (fun T11 X11 e11 => ?_)
 refine og_interface (pc' := 9) (cells' := 0) (slots' := 0) (W := 0) X11 hx hZ (rm_sz l Z a0 hw ll nn h0 n0 O F_size_ll) hown (ow252 hw) (ow253 hw) (ow254 hw) (ow255 hw) (ow256 hw) (ow257 hw) (ow258 hw) (ow259 hw) (ow67 hw) (ow260 hw) (by decide) (by rw [hml]; rfl) e11 opd_14 [] [] rfl rfl rfl rfl (by decide) (by decide) rfl rfl (by decide) (by decide) E_ll (hb hby d31_4) rfl (fun v12 T12 h12 L12 X12 e12 z12 => ?_)
 obtain ⟨rfl, Nq12, hq12⟩ := z12; replace e12 := e12.trans hq12; have N := Fr.app N Nq12
 refine og_retI X12 hx hlk hret (hb hby d31_9) (by decide) (by decide) ?_
 rw [e12]; exact ⟨rfl, N, rfl⟩
theorem rm_ug_0_1 (l : Launch) (Z : State) (a0 : Array Value) (hw : HW a0 Z) (u1 ll bb x0 : Addr) (kb : ClassId) (h0 : Heap) (n0 : Nat) (O : Old Z n0 h0) (F_list_u1 : Fld Z h0 u1 "java/util/Collections$UnmodifiableList" "list" "Ljava/util/List;" (.ref ll)) (E_ll : Exa Z h0 ll "java/util/ArrayList") (F_elementData_ll : Fld Z h0 ll "java/util/ArrayList" "elementData" "[Ljava/lang/Object;" (.ref bb)) (F_size_ll : Fld Z h0 ll "java/util/ArrayList" "size" "I" (.int 1)) (V_bb : Arv Z h0 bb kb (.object "java/lang/Object") (10 : Int32) [(.ref x0), .null, .null, .null, .null, .null, .null, .null, .null, .null] .null) :
  Con l Z (⟨"java/util/Collections$UnmodifiableList", "get", "(I)Ljava/lang/Object;"⟩ : MethodName) jdk_120_method_4_code 2 (some (.object "java/lang/Object")) ({ frames := 3, cells := 0, slots := 0, locals := 40 } : Room) #[(.ref u1), (.int 0)] h0 (fun v h L => v = some (.ref x0) ∧ Fr n0 L ∧ h = h0) := by
 refine own_startC opn_33 ?_
 intro p e s m below meth c T0 X0 hx hby hml hZ hown hnm hret hlk e0
 have N := Fr.nil n0
 refine OG.cast (oef9 m u1 (0 : Int32)) ?_
 refine og_aloadN X0 hx rfl rfl (hb hby d33_0) rfl ?_
 refine og_getfield X0 hx hZ (host := "") hown (Or.inl (ow241 hw)) Via.refl e0 F_list_u1 (hb hby d33_1) rfl (fun T11 X11 e11 => ?_)
 refine og_iloadN X11 hx rfl (hb hby d33_4) rfl ?_
 refine og_interface (pc' := 10) (cells' := 0) (slots' := 0) (W := 0) X11 hx hZ (rm_get_0_1 l Z a0 hw ll bb x0 kb h0 n0 O E_ll F_elementData_ll F_size_ll V_bb) hown (ow269 hw) (ow262 hw) (ow263 hw) (ow270 hw) (ow271 hw) (ow272 hw) (ow273 hw) (ow117 hw) (ow67 hw) (ow274 hw) (by decide) (by rw [hml]; rfl) e11 opd_10 [(.int 0)] [] rfl rfl rfl rfl (by decide) (by decide) rfl rfl (by decide) (by decide) E_ll (hb hby d33_5) rfl (fun v12 T12 h12 L12 X12 e12 z12 => ?_)
 obtain ⟨rfl, Nq12, hq12⟩ := z12; replace e12 := e12.trans hq12; have N := Fr.app N Nq12
 refine og_retR X12 hx hlk hret rfl rfl rfl (hb hby d33_10) (by decide) (by decide) ?_
 rw [e12]; exact ⟨rfl, N, rfl⟩
theorem rm_ug_1_2 (l : Launch) (Z : State) (a0 : Array Value) (hw : HW a0 Z) (u1 ll bb x0 x1 : Addr) (kb : ClassId) (h0 : Heap) (n0 : Nat) (O : Old Z n0 h0) (F_list_u1 : Fld Z h0 u1 "java/util/Collections$UnmodifiableList" "list" "Ljava/util/List;" (.ref ll)) (E_ll : Exa Z h0 ll "java/util/ArrayList") (F_elementData_ll : Fld Z h0 ll "java/util/ArrayList" "elementData" "[Ljava/lang/Object;" (.ref bb)) (F_size_ll : Fld Z h0 ll "java/util/ArrayList" "size" "I" (.int 2)) (V_bb : Arv Z h0 bb kb (.object "java/lang/Object") (10 : Int32) [(.ref x0), (.ref x1), .null, .null, .null, .null, .null, .null, .null, .null] .null) :
  Con l Z (⟨"java/util/Collections$UnmodifiableList", "get", "(I)Ljava/lang/Object;"⟩ : MethodName) jdk_120_method_4_code 2 (some (.object "java/lang/Object")) ({ frames := 3, cells := 0, slots := 0, locals := 40 } : Room) #[(.ref u1), (.int 1)] h0 (fun v h L => v = some (.ref x1) ∧ Fr n0 L ∧ h = h0) := by
 refine own_startC opn_33 ?_
 intro p e s m below meth c T0 X0 hx hby hml hZ hown hnm hret hlk e0
 have N := Fr.nil n0
 refine OG.cast (oef9 m u1 (1 : Int32)) ?_
 refine og_aloadN X0 hx rfl rfl (hb hby d33_0) rfl ?_
 refine og_getfield X0 hx hZ (host := "") hown (Or.inl (ow241 hw)) Via.refl e0 F_list_u1 (hb hby d33_1) rfl (fun T11 X11 e11 => ?_)
 refine og_iloadN X11 hx rfl (hb hby d33_4) rfl ?_
 refine og_interface (pc' := 10) (cells' := 0) (slots' := 0) (W := 0) X11 hx hZ (rm_get_1_2 l Z a0 hw ll bb x0 x1 kb h0 n0 O E_ll F_elementData_ll F_size_ll V_bb) hown (ow269 hw) (ow262 hw) (ow263 hw) (ow270 hw) (ow271 hw) (ow272 hw) (ow273 hw) (ow117 hw) (ow67 hw) (ow274 hw) (by decide) (by rw [hml]; rfl) e11 opd_10 [(.int 1)] [] rfl rfl rfl rfl (by decide) (by decide) rfl rfl (by decide) (by decide) E_ll (hb hby d33_5) rfl (fun v12 T12 h12 L12 X12 e12 z12 => ?_)
 obtain ⟨rfl, Nq12, hq12⟩ := z12; replace e12 := e12.trans hq12; have N := Fr.app N Nq12
 refine og_retR X12 hx hlk hret rfl rfl rfl (hb hby d33_10) (by decide) (by decide) ?_
 rw [e12]; exact ⟨rfl, N, rfl⟩
theorem rm_ug_0_2 (l : Launch) (Z : State) (a0 : Array Value) (hw : HW a0 Z) (u1 ll bb x0 x1 : Addr) (kb : ClassId) (h0 : Heap) (n0 : Nat) (O : Old Z n0 h0) (F_list_u1 : Fld Z h0 u1 "java/util/Collections$UnmodifiableList" "list" "Ljava/util/List;" (.ref ll)) (E_ll : Exa Z h0 ll "java/util/ArrayList") (F_elementData_ll : Fld Z h0 ll "java/util/ArrayList" "elementData" "[Ljava/lang/Object;" (.ref bb)) (F_size_ll : Fld Z h0 ll "java/util/ArrayList" "size" "I" (.int 2)) (V_bb : Arv Z h0 bb kb (.object "java/lang/Object") (10 : Int32) [(.ref x0), (.ref x1), .null, .null, .null, .null, .null, .null, .null, .null] .null) :
  Con l Z (⟨"java/util/Collections$UnmodifiableList", "get", "(I)Ljava/lang/Object;"⟩ : MethodName) jdk_120_method_4_code 2 (some (.object "java/lang/Object")) ({ frames := 3, cells := 0, slots := 0, locals := 40 } : Room) #[(.ref u1), (.int 0)] h0 (fun v h L => v = some (.ref x0) ∧ Fr n0 L ∧ h = h0) := by
 refine own_startC opn_33 ?_
 intro p e s m below meth c T0 X0 hx hby hml hZ hown hnm hret hlk e0
 have N := Fr.nil n0
 refine OG.cast (oef9 m u1 (0 : Int32)) ?_
 refine og_aloadN X0 hx rfl rfl (hb hby d33_0) rfl ?_
 refine og_getfield X0 hx hZ (host := "") hown (Or.inl (ow241 hw)) Via.refl e0 F_list_u1 (hb hby d33_1) rfl (fun T11 X11 e11 => ?_)
 refine og_iloadN X11 hx rfl (hb hby d33_4) rfl ?_
 refine og_interface (pc' := 10) (cells' := 0) (slots' := 0) (W := 0) X11 hx hZ (rm_get_0_2 l Z a0 hw ll bb x0 x1 kb h0 n0 O E_ll F_elementData_ll F_size_ll V_bb) hown (ow269 hw) (ow262 hw) (ow263 hw) (ow270 hw) (ow271 hw) (ow272 hw) (ow273 hw) (ow117 hw) (ow67 hw) (ow274 hw) (by decide) (by rw [hml]; rfl) e11 opd_10 [(.int 0)] [] rfl rfl rfl rfl (by decide) (by decide) rfl rfl (by decide) (by decide) E_ll (hb hby d33_5) rfl (fun v12 T12 h12 L12 X12 e12 z12 => ?_)
 obtain ⟨rfl, Nq12, hq12⟩ := z12; replace e12 := e12.trans hq12; have N := Fr.app N Nq12
 refine og_retR X12 hx hlk hret rfl rfl rfl (hb hby d33_10) (by decide) (by decide) ?_
 rw [e12]; exact ⟨rfl, N, rfl⟩
theorem rm_asi (l : Launch) (Z : State) (a0 : Array Value) (hw : HW a0 Z) (a1 : Addr) (cs : Int32) (hcs : ¬ cs = 0) (h0 : Heap) (n0 : Nat) (O : Old Z n0 h0) (E_a1 : Exa Z h0 a1 "java/lang/StringBuilder") (F_value_a1 : Fld Z h0 a1 "java/lang/AbstractStringBuilder" "value" "[B" .null) (F_coder_a1 : Fld Z h0 a1 "java/lang/AbstractStringBuilder" "coder" "B" (.int 0)) (F_count_a1 : Fld Z h0 a1 "java/lang/AbstractStringBuilder" "count" "I" (.int 0)) (S_CS : Sta Z Z.heap "java/lang/String" "COMPACT_STRINGS" "Z" (.int cs)) (g_a1 : n0 ≤ a1) :
  Con l Z (⟨"java/lang/AbstractStringBuilder", "<init>", "(I)V"⟩ : MethodName) jdk_68_method_2_code 2 none ({ frames := 1, cells := 1, slots := 16, locals := 12 } : Room) #[(.ref a1), (.int 16)] h0 (fun v h L => ∃ b k, v = none ∧ Fr n0 L ∧ Keep h0 h [a1] ∧ h0.size ≤ b ∧ Exa Z h a1 "java/lang/StringBuilder" ∧ Fld Z h a1 "java/lang/AbstractStringBuilder" "value" "[B" (.ref b) ∧ Fld Z h a1 "java/lang/AbstractStringBuilder" "coder" "B" (.int 0) ∧ Fld Z h a1 "java/lang/AbstractStringBuilder" "count" "I" (.int 0) ∧ Arv Z h b k .byte (16 : Int32) [(.int 0), (.int 0), (.int 0), (.int 0), (.int 0), (.int 0), (.int 0), (.int 0), (.int 0), (.int 0), (.int 0), (.int 0), (.int 0), (.int 0), (.int 0), (.int 0)] (.int 0) ∧ Exa Z h b "[B") := by
 refine own_startC opn_40 ?_
 intro p e s m below meth c T0 X0 hx hby hml hZ hown hnm hret hlk e0
 have N := Fr.nil n0; have K := Keep.refl h0 [a1]
 refine OG.cast (oef9 m a1 (16 : Int32)) ?_
 refine og_aloadN X0 hx rfl rfl (hb hby d40_0) rfl ?_
 refine og_initO (pc' := 4) X0 hx hZ (W := 0) (by rw [hml]; rfl) hown (ow305 hw) (ow27 hw) (ow28 hw) e0 rfl (by decide) (by decide) (hb hby d40_1) rfl (fun T11 X11 e11 => ?_)
 refine og_getstatic X11 hx hZ (host := "") hown (Or.inl (ow306 hw)) Via.refl e11 (S_CS.ext O.2) (hb hby d40_4) rfl (fun T12 X12 e12 => ?_)
 refine og_if_eq (pc1 := 25) (pc2 := 10) X12 hx (hb hby d40_7) (by decide) (by decide) rfl (fun q => absurd q hcs) (fun _ => ?_)
 refine og_aloadN X12 hx rfl rfl (hb hby d40_10) rfl ?_
 refine og_iloadN X12 hx rfl (hb hby d40_11) rfl ?_
 refine og_newarrayE (pc' := 14) (cells' := 1) (slots' := 16) (cap := 16) (ty := .byte) X12 hx hZ rfl (ow21 hw) e12 (by decide) (by decide) (by decide) rfl (hb hby d40_12) rfl rfl rfl (by decide) (by decide) (fun T13 h13 nb13 kA13 X13 e13 E13 q13 V_nb13 E_nb13 => ?_)
 have s_nb13 : h0.size ≤ nb13 := Nat.le_of_eq q13.symm; have sz_nb13 : h0.size ≤ nb13 := Nat.le_trans K.1 s_nb13; have ne_a1_nb13 : a1 ≠ nb13 := Nat.ne_of_lt (Nat.lt_of_lt_of_le E_a1.lt s_nb13)
 have E_a1 := E_a1.ext E13; have F_value_a1 := F_value_a1.ext E13; have F_coder_a1 := F_coder_a1.ext E13; have F_count_a1 := F_count_a1.ext E13; have K := K.ext E13
 have V_nb13 : Arv Z h13 nb13 kA13 .byte (16 : Int32) [(.int 0), (.int 0), (.int 0), (.int 0), (.int 0), (.int 0), (.int 0), (.int 0), (.int 0), (.int 0), (.int 0), (.int 0), (.int 0), (.int 0), (.int 0), (.int 0)] (.int 0) := V_nb13.pad (pad_rep [] (.int 0) 16)
 refine og_putfield X13 hx hZ (ty := (.array .byte)) (host := "") hown (Or.inl (ow307 hw)) Via.refl e13 F_value_a1 E_a1 (Or.inl (ow308 hw)) (ow294 hw) (by decide) rfl rfl (hb hby d40_14) rfl (fun T14 h14 X14 e14 W14 => ?_)
 have F_value_a1_ := F_value_a1.same W14
 have E_a1 := E_a1.wr W14; have F_coder_a1 := F_coder_a1.other W14 (Or.inr (slot_ne (Or.inl (ow310 hw)) (Or.inl (ow308 hw)) (by decide) (t := .byte) (t' := (.array .byte)) (by decide) (by decide))); have F_count_a1 := F_count_a1.other W14 (Or.inr (slot_ne (Or.inl (ow340 hw)) (Or.inl (ow308 hw)) (by decide) (t := .int) (t' := (.array .byte)) (by decide) (by decide))); have V_nb13 := V_nb13.other W14 (Ne.symm ne_a1_nb13); have E_nb13 := E_nb13.wr W14
 have K := K.wr W14 (Or.inl (List.mem_of_getElem? (i := 0) rfl))
 have N := Fr.snoc X14 N g_a1; have F_value_a1 := F_value_a1_
 refine og_aloadN X14 hx rfl rfl (hb hby d40_17) rfl ?_
 refine og_iconst (v := 0) X14 hx rfl (hb hby d40_18) rfl ?_
 refine og_putfield X14 hx hZ (ty := .byte) (host := "") hown (Or.inl (ow309 hw)) Via.refl e14 F_coder_a1 E_a1 (Or.inl (ow310 hw)) (ow294 hw) (by decide) rfl rfl (hb hby d40_19) rfl (fun T15 h15 X15 e15 W15 => ?_)
 have F_coder_a1_ := F_coder_a1.same W15
 have E_a1 := E_a1.wr W15; have F_count_a1 := F_count_a1.other W15 (Or.inr (slot_ne (Or.inl (ow340 hw)) (Or.inl (ow310 hw)) (by decide) (t := .int) (t' := .byte) (by decide) (by decide))); have V_nb13 := V_nb13.other W15 (Ne.symm ne_a1_nb13); have E_nb13 := E_nb13.wr W15; have F_value_a1 := F_value_a1.other W15 (Or.inr (slot_ne (Or.inl (ow308 hw)) (Or.inl (ow310 hw)) (by decide) (t := (.array .byte)) (t' := .byte) (by decide) (by decide)))
 have K := K.wr W15 (Or.inl (List.mem_of_getElem? (i := 0) rfl))
 have N := Fr.snoc X15 N g_a1; have F_coder_a1 := F_coder_a1_
 refine og_goto (pc' := 38) X15 hx (hb hby d40_22) (by decide) (by decide) ?_
 refine og_retV X15 hx hlk hret (hb hby d40_38) (by decide) (by decide) ?_
 rw [e15]; exact ⟨_, _, rfl, N, K, sz_nb13, E_a1, F_value_a1, F_coder_a1, F_count_a1, V_nb13, E_nb13⟩
theorem rm_sb0 (l : Launch) (Z : State) (a0 : Array Value) (hw : HW a0 Z) (a1 : Addr) (cs : Int32) (hcs : ¬ cs = 0) (h0 : Heap) (n0 : Nat) (O : Old Z n0 h0) (E_a1 : Exa Z h0 a1 "java/lang/StringBuilder") (F_value_a1 : Fld Z h0 a1 "java/lang/AbstractStringBuilder" "value" "[B" .null) (F_coder_a1 : Fld Z h0 a1 "java/lang/AbstractStringBuilder" "coder" "B" (.int 0)) (F_count_a1 : Fld Z h0 a1 "java/lang/AbstractStringBuilder" "count" "I" (.int 0)) (S_CS : Sta Z Z.heap "java/lang/String" "COMPACT_STRINGS" "Z" (.int cs)) (g_a1 : n0 ≤ a1) :
  Con l Z (⟨"java/lang/StringBuilder", "<init>", "()V"⟩ : MethodName) jdk_67_method_1_code 1 none ({ frames := 2, cells := 1, slots := 16, locals := 25 } : Room) #[(.ref a1)] h0 (fun v h L => ∃ b k, v = none ∧ Fr n0 L ∧ Keep h0 h [a1] ∧ h0.size ≤ b ∧ Exa Z h a1 "java/lang/StringBuilder" ∧ Fld Z h a1 "java/lang/AbstractStringBuilder" "value" "[B" (.ref b) ∧ Fld Z h a1 "java/lang/AbstractStringBuilder" "coder" "B" (.int 0) ∧ Fld Z h a1 "java/lang/AbstractStringBuilder" "count" "I" (.int 0) ∧ Arv Z h b k .byte (16 : Int32) [(.int 0), (.int 0), (.int 0), (.int 0), (.int 0), (.int 0), (.int 0), (.int 0), (.int 0), (.int 0), (.int 0), (.int 0), (.int 0), (.int 0), (.int 0), (.int 0)] (.int 0) ∧ Exa Z h b "[B") := by
 refine own_startC opn_39 ?_
 intro p e s m below meth c T0 X0 hx hby hml hZ hown hnm hret hlk e0
 have N := Fr.nil n0; have K := Keep.refl h0 [a1]
 refine OG.cast (oef0 m a1) ?_
 refine og_aloadN X0 hx rfl rfl (hb hby d39_0) rfl ?_
 refine og_bipush (v := 16) X0 hx rfl (hb hby d39_1) rfl ?_
 refine og_special (pc' := 6) (cells' := 1) (slots' := 16) (W := 0) X0 hx hZ (rm_asi l Z a0 hw a1 cs hcs h0 n0 O E_a1 F_value_a1 F_coder_a1 F_count_a1 S_CS g_a1) rfl hown (ow299 hw) (ow300 hw) (ow303 hw) (ow304 hw) (by decide) (by rw [hml]; rfl) e0 opd_15 [(.int 16)] [] rfl rfl rfl rfl (by decide) (by decide) rfl rfl (by decide) (by decide) (hb hby d39_3) rfl (fun v11 T11 h11 L11 X11 e11 z11 => ?_)
 obtain ⟨nb11, k11, rfl, Nq11, K11, sb11, E_a1', F_value_a1', F_coder_a1', F_count_a1', V_nb11, E_nb11⟩ := z11; have N := Fr.app N Nq11
 have s_nb11 : h0.size ≤ nb11 := sb11; have sz_nb11 : h0.size ≤ nb11 := Nat.le_trans K.1 s_nb11
 have K := K.trans K11 (allS (Or.inl (List.mem_of_getElem? (i := 0) rfl)) all0)
 have E_a1 := E_a1'; have F_value_a1 := F_value_a1'; have F_coder_a1 := F_coder_a1'; have F_count_a1 := F_count_a1'
 refine og_retV X11 hx hlk hret (hb hby d39_6) (by decide) (by decide) ?_
 rw [e11]; exact ⟨_, _, rfl, N, K, sz_nb11, E_a1, F_value_a1, F_coder_a1, F_count_a1, V_nb11, E_nb11⟩
theorem rm_cod (l : Launch) (Z : State) (a0 : Array Value) (hw : HW a0 Z) (a1 : Addr) (cs : Int32) (hcs : ¬ cs = 0) (h0 : Heap) (n0 : Nat) (O : Old Z n0 h0) (F_coder_a1 : Fld Z h0 a1 "java/lang/String" "coder" "B" (.int 0)) (S_CS : Sta Z Z.heap "java/lang/String" "COMPACT_STRINGS" "Z" (.int cs)) :
  Con l Z (⟨"java/lang/String", "coder", "()B"⟩ : MethodName) jdk_42_method_152_code 1 (some .byte) ({ frames := 0, cells := 0, slots := 0, locals := 0 } : Room) #[(.ref a1)] h0 (fun v h L => v = some (.int 0) ∧ Fr n0 L ∧ h = h0) := by
 refine own_startC opn_59 ?_
 intro p e s m below meth c T0 X0 hx hby hml hZ hown hnm hret hlk e0
 have N := Fr.nil n0
 refine OG.cast (oef0 m a1) ?_
 refine og_getstatic X0 hx hZ (host := "") hown (Or.inl (ow11 hw)) Via.refl e0 (S_CS.ext O.2) (hb hby d59_0) rfl (fun T11 X11 e11 => ?_)
 refine og_if_eq (pc1 := 13) (pc2 := 6) X11 hx (hb hby d59_3) (by decide) (by decide) rfl (fun q => absurd q hcs) (fun _ => ?_)
 refine og_aloadN X11 hx rfl rfl (hb hby d59_6) rfl ?_
 refine og_getfield X11 hx hZ (host := "") hown (Or.inl (ow31 hw)) Via.refl e11 F_coder_a1 (hb hby d59_7) rfl (fun T12 X12 e12 => ?_)
 refine og_goto (pc' := 14) X12 hx (hb hby d59_10) (by decide) (by decide) ?_
 refine og_retN X12 hx hlk hret (by simp) (hb hby d59_14) (by decide) (by decide) ?_
 rw [e12]; exact ⟨rfl, N, rfl⟩
theorem rm_len (l : Launch) (Z : State) (a0 : Array Value) (hw : HW a0 Z) (a1 ba : Addr) (kb : ClassId) (nn : Int32) (vs : List Value) (cs : Int32) (hcs : ¬ cs = 0) (h0 : Heap) (n0 : Nat) (O : Old Z n0 h0) (E_a1 : Exa Z h0 a1 "java/lang/String") (F_value_a1 : Fld Z h0 a1 "java/lang/String" "value" "[B" (.ref ba)) (F_coder_a1 : Fld Z h0 a1 "java/lang/String" "coder" "B" (.int 0)) (V_ba : Arv Z h0 ba kb .byte nn vs (.int 0)) (S_CS : Sta Z Z.heap "java/lang/String" "COMPACT_STRINGS" "Z" (.int cs)) :
  Con l Z (⟨"java/lang/String", "length", "()I"⟩ : MethodName) jdk_42_method_54_code 1 (some .int) ({ frames := 1, cells := 0, slots := 0, locals := 13 } : Room) #[(.ref a1)] h0 (fun v h L => v = some (.int nn) ∧ Fr n0 L ∧ h = h0) := by
 refine own_startC opn_58 ?_
 intro p e s m below meth c T0 X0 hx hby hml hZ hown hnm hret hlk e0
 have N := Fr.nil n0
 refine OG.cast (oef0 m a1) ?_
 refine og_aloadN X0 hx rfl rfl (hb hby d58_0) rfl ?_
 refine og_getfield X0 hx hZ (host := "") hown (Or.inl (ow29 hw)) Via.refl e0 F_value_a1 (hb hby d58_1) rfl (fun T11 X11 e11 => ?_)
 refine og_arraylength X11 hx hZ e11 V_ba (hb hby d58_4) rfl ?_
 refine og_aloadN X11 hx rfl rfl (hb hby d58_5) rfl ?_
 refine og_virtual (pc' := 9) (cells' := 0) (slots' := 0) (W := 1) X11 hx hZ (rm_cod l Z a0 hw a1 cs hcs h0 n0 O F_coder_a1 S_CS) hown (ow400 hw) (ow401 hw) (own_nf hZ (ow403 hw)) (ow403 hw) (ow402 hw) (ow9 hw) (ow404 hw) (by decide) (by rw [hml]; rfl) e11 opd_16 [] [(.int nn)] rfl rfl rfl rfl (by decide) (by decide) rfl rfl (by decide) (by decide) E_a1 (hb hby d58_6) rfl (fun v12 T12 h12 L12 X12 e12 z12 => ?_)
 obtain ⟨rfl, Nq12, hq12⟩ := z12; replace e12 := e12.trans hq12; have N := Fr.app N Nq12
 refine og_ishr X12 hx (hb hby d58_9) rfl ?_
 refine og_retI X12 hx hlk hret (hb hby d58_10) (by decide) (by decide) ?_
 rw [e12, own_shr0]; exact ⟨rfl, N, rfl⟩
theorem rm_ecN (l : Launch) (Z : State) (a0 : Array Value) (hw : HW a0 Z) (a1 bv : Addr) (kb : ClassId) (nn tt : Int32) (vs : List Value) (ht : ¬ 0 < tt - nn) (h0 : Heap) (n0 : Nat) (O : Old Z n0 h0) (F_value_a1 : Fld Z h0 a1 "java/lang/AbstractStringBuilder" "value" "[B" (.ref bv)) (F_coder_a1 : Fld Z h0 a1 "java/lang/AbstractStringBuilder" "coder" "B" (.int 0)) (V_bv : Arv Z h0 bv kb .byte nn vs (.int 0)) :
  Con l Z (⟨"java/lang/AbstractStringBuilder", "ensureCapacityInternal", "(I)V"⟩ : MethodName) jdk_68_method_9_code 3 none ({ frames := 0, cells := 0, slots := 0, locals := 0 } : Room) #[(.ref a1), (.int tt)] h0 (fun v h L => v = none ∧ Fr n0 L ∧ h = h0) := by
 refine own_startC opn_60 ?_
 intro p e s m below meth c T0 X0 hx hby hml hZ hown hnm hret hlk e0
 have N := Fr.nil n0
 refine OG.cast (oef11 m a1 tt) ?_
 refine og_aloadN X0 hx rfl rfl (hb hby d60_0) rfl ?_
 refine og_getfield X0 hx hZ (host := "") hown (Or.inl (ow307 hw)) Via.refl e0 F_value_a1 (hb hby d60_1) rfl (fun T11 X11 e11 => ?_)
 refine og_arraylength X11 hx hZ e11 V_bv (hb hby d60_4) rfl ?_
 refine og_aloadN X11 hx rfl rfl (hb hby d60_5) rfl ?_
 refine og_getfield X11 hx hZ (host := "") hown (Or.inl (ow309 hw)) Via.refl e11 F_coder_a1 (hb hby d60_6) rfl (fun T12 X12 e12 => ?_)
 refine og_ishr X12 hx (hb hby d60_9) rfl ?_
 rw [own_shr0]
 refine og_istoreN (L' := #[.val (.ref a1), .val (.int tt), .val (.int nn)]) X12 hx rfl (hb hby d60_10) rfl ?_
 refine og_iloadN X12 hx rfl (hb hby d60_11) rfl ?_
 refine og_iloadN X12 hx rfl (hb hby d60_12) rfl ?_
 refine og_isub X12 hx (hb hby d60_13) rfl ?_
 refine og_if_le (pc1 := 38) (pc2 := 17) X12 hx (hb hby d60_14) (by decide) (by decide) rfl (fun _ => ?_) (fun q => absurd q ht)
 refine og_retV X12 hx hlk hret (hb hby d60_38) (by decide) (by decide) ?_
 rw [e12]; exact ⟨rfl, N, rfl⟩
theorem rm_ail (l : Launch) (Z : State) (a0 : Array Value) (hw : HW a0 Z) (a1 : Addr) (cs : Int32) (hcs : ¬ cs = 0) (h0 : Heap) (n0 : Nat) (O : Old Z n0 h0) (F_coder_a1 : Fld Z h0 a1 "java/lang/AbstractStringBuilder" "coder" "B" (.int 0)) (S_CS : Sta Z Z.heap "java/lang/String" "COMPACT_STRINGS" "Z" (.int cs)) :
  Con l Z (⟨"java/lang/AbstractStringBuilder", "isLatin1", "()Z"⟩ : MethodName) jdk_68_method_68_code 1 (some .boolean) ({ frames := 0, cells := 0, slots := 0, locals := 0 } : Room) #[(.ref a1)] h0 (fun v h L => v = some (.int 1) ∧ Fr n0 L ∧ h = h0) := by
 refine own_startC opn_47 ?_
 intro p e s m below meth c T0 X0 hx hby hml hZ hown hnm hret hlk e0
 have N := Fr.nil n0
 refine OG.cast (oef0 m a1) ?_
 refine og_getstatic X0 hx hZ (host := "") hown (Or.inl (ow306 hw)) Via.refl e0 (S_CS.ext O.2) (hb hby d47_0) rfl (fun T11 X11 e11 => ?_)
 refine og_if_eq (pc1 := 17) (pc2 := 6) X11 hx (hb hby d47_3) (by decide) (by decide) rfl (fun q => absurd q hcs) (fun _ => ?_)
 refine og_aloadN X11 hx rfl rfl (hb hby d47_6) rfl ?_
 refine og_getfield X11 hx hZ (host := "") hown (Or.inl (ow309 hw)) Via.refl e11 F_coder_a1 (hb hby d47_7) rfl (fun T12 X12 e12 => ?_)
 refine og_if_ne (pc1 := 17) (pc2 := 13) X12 hx (hb hby d47_10) (by decide) (by decide) rfl (fun q => absurd q (by decide)) (fun _ => ?_)
 refine og_iconst (v := 1) X12 hx rfl (hb hby d47_13) rfl ?_
 refine og_goto (pc' := 18) X12 hx (hb hby d47_14) (by decide) (by decide) ?_
 refine og_retN X12 hx hlk hret (by simp) (hb hby d47_18) (by decide) (by decide) ?_
 rw [e12]; exact ⟨rfl, N, rfl⟩
theorem rm_gb (l : Launch) (Z : State) (a0 : Array Value) (hw : HW a0 Z) (a1 ba bv : Addr) (kb kv : ClassId) (dp nn zz : Int32) (vs vd us vd' : List Value) (h2 : ¬ dp < 0) (h3 : ¬ nn < 0) (h4 : (0 : Int32).toNatClampNeg + nn.toNatClampNeg ≤ nn.toNatClampNeg) (h5 : dp.toNatClampNeg + nn.toNatClampNeg ≤ zz.toNatClampNeg) (hus : us = (List.range nn.toNatClampNeg).map fun i => vs.getD ((0 : Int32).toNatClampNeg + i) (.int 0)) (hl : dp.toNatClampNeg + nn.toNatClampNeg ≤ vd.length) (hvd : vd.take dp.toNatClampNeg ++ us ++ vd.drop (dp.toNatClampNeg + nn.toNatClampNeg) = vd') (cs : Int32) (hcs : ¬ cs = 0) (h0 : Heap) (n0 : Nat) (O : Old Z n0 h0) (E_a1 : Exa Z h0 a1 "java/lang/String") (F_value_a1 : Fld Z h0 a1 "java/lang/String" "value" "[B" (.ref ba)) (F_coder_a1 : Fld Z h0 a1 "java/lang/String" "coder" "B" (.int 0)) (V_ba : Arv Z h0 ba kb .byte nn vs (.int 0)) (V_bv : Arv Z h0 bv kv .byte zz vd (.int 0)) (S_CS : Sta Z Z.heap "java/lang/String" "COMPACT_STRINGS" "Z" (.int cs)) (g_bv : n0 ≤ bv) (ne_a1_bv : a1 ≠ bv) (ne_ba_bv : ba ≠ bv) :
  Con l Z (⟨"java/lang/String", "getBytes", "([BIB)V"⟩ : MethodName) jdk_42_method_147_code 4 none ({ frames := 1, cells := 0, slots := 0, locals := 18 } : Room) #[(.ref a1), (.ref bv), (.int dp), (.int 0)] h0 (fun v h L => v = none ∧ Fr n0 L ∧ Keep h0 h [bv] ∧ Arv Z h bv kv .byte zz vd' (.int 0)) := by
 refine own_startC opn_63 ?_
 intro p e s m below meth c T0 X0 hx hby hml hZ hown hnm hret hlk e0
 have N := Fr.nil n0; have K := Keep.refl h0 [bv]
 refine OG.cast (oef12 m a1 bv dp (0 : Int32)) ?_
 refine og_aloadN X0 hx rfl rfl (hb hby d63_0) rfl ?_
 refine og_virtual (pc' := 4) (cells' := 0) (slots' := 0) (W := 0) X0 hx hZ (rm_cod l Z a0 hw a1 cs hcs h0 n0 O F_coder_a1 S_CS) hown (ow400 hw) (ow401 hw) (own_nf hZ (ow403 hw)) (ow403 hw) (ow402 hw) (ow9 hw) (ow404 hw) (by decide) (by rw [hml]; rfl) e0 opd_16 [] [] rfl rfl rfl rfl (by decide) (by decide) rfl rfl (by decide) (by decide) E_a1 (hb hby d63_1) rfl (fun v11 T11 h11 L11 X11 e11 z11 => ?_)
 obtain ⟨rfl, Nq11, hq11⟩ := z11; replace e11 := e11.trans hq11; have N := Fr.app N Nq11
 refine og_iloadN X11 hx rfl (hb hby d63_4) rfl ?_
 refine og_icmp_ne (pc1 := 28) (pc2 := 8) X11 hx (hb hby d63_5) (by decide) (by decide) rfl (fun q => absurd q (by decide)) (fun _ => ?_)
 refine og_aloadN X11 hx rfl rfl (hb hby d63_8) rfl ?_
 refine og_getfield X11 hx hZ (host := "") hown (Or.inl (ow29 hw)) Via.refl e11 F_value_a1 (hb hby d63_9) rfl (fun T12 X12 e12 => ?_)
 refine og_iconst (v := 0) X12 hx rfl (hb hby d63_12) rfl ?_
 refine og_aloadN X12 hx rfl rfl (hb hby d63_13) rfl ?_
 refine og_iloadN X12 hx rfl (hb hby d63_14) rfl ?_
 refine og_iloadN X12 hx rfl (hb hby d63_15) rfl ?_
 refine og_ishl X12 hx (hb hby d63_16) rfl ?_
 rw [own_shl0]
 refine og_aloadN X12 hx rfl rfl (hb hby d63_17) rfl ?_
 refine og_getfield X12 hx hZ (host := "") hown (Or.inl (ow29 hw)) Via.refl e12 F_value_a1 (hb hby d63_18) rfl (fun T13 X13 e13 => ?_)
 refine og_arraylength X13 hx hZ e13 V_ba (hb hby d63_21) rfl ?_
 refine og_arraycopy (pc' := 25) (W := 0) (us := us) X13 hx hZ (by rw [hml]; rfl) hown (ow426 hw) (ow362 hw) (ow360 hw) (ow361 hw) e13 V_ba V_bv rfl (by decide) h2 h3 h4 h5 hus hl N g_bv rfl (by decide) (by decide) (hb hby d63_22) rfl (fun T14 h14 l14 X14 e14 N K14 V14 => ?_)
 have K := K.trans K14 (allS (Or.inl (List.mem_of_getElem? (i := 0) rfl)) all0)
 rw [hvd] at V14; have V_bv := V14
 refine og_goto (pc' := 43) X14 hx (hb hby d63_25) (by decide) (by decide) ?_
 refine og_retV X14 hx hlk hret (hb hby d63_43) (by decide) (by decide) ?_
 rw [e14]; exact ⟨rfl, N, K, V_bv⟩
theorem rm_inf (l : Launch) (Z : State) (a0 : Array Value) (hw : HW a0 Z) (a1 a2 : Addr) (cs : Int32) (hcs : ¬ cs = 0) (h0 : Heap) (n0 : Nat) (O : Old Z n0 h0) (F_coder_a1 : Fld Z h0 a1 "java/lang/AbstractStringBuilder" "coder" "B" (.int 0)) (E_a2 : Exa Z h0 a2 "java/lang/String") (F_coder_a2 : Fld Z h0 a2 "java/lang/String" "coder" "B" (.int 0)) (S_CS : Sta Z Z.heap "java/lang/String" "COMPACT_STRINGS" "Z" (.int cs)) :
  Con l Z (⟨"java/lang/AbstractStringBuilder", "inflateIfNeededFor", "(Ljava/lang/String;)V"⟩ : MethodName) jdk_68_method_71_code 2 none ({ frames := 1, cells := 0, slots := 0, locals := 13 } : Room) #[(.ref a1), (.ref a2)] h0 (fun v h L => v = none ∧ Fr n0 L ∧ h = h0) := by
 refine own_startC opn_62 ?_
 intro p e s m below meth c T0 X0 hx hby hml hZ hown hnm hret hlk e0
 have N := Fr.nil n0
 refine OG.cast (oef1 m a1 a2) ?_
 refine og_getstatic X0 hx hZ (host := "") hown (Or.inl (ow306 hw)) Via.refl e0 (S_CS.ext O.2) (hb hby d62_0) rfl (fun T11 X11 e11 => ?_)
 refine og_if_eq (pc1 := 21) (pc2 := 6) X11 hx (hb hby d62_3) (by decide) (by decide) rfl (fun q => absurd q hcs) (fun _ => ?_)
 refine og_aloadN X11 hx rfl rfl (hb hby d62_6) rfl ?_
 refine og_getfield X11 hx hZ (host := "") hown (Or.inl (ow309 hw)) Via.refl e11 F_coder_a1 (hb hby d62_7) rfl (fun T12 X12 e12 => ?_)
 refine og_aloadN X12 hx rfl rfl (hb hby d62_10) rfl ?_
 refine og_virtual (pc' := 14) (cells' := 0) (slots' := 0) (W := 1) X12 hx hZ (rm_cod l Z a0 hw a2 cs hcs h0 n0 O F_coder_a2 S_CS) hown (ow420 hw) (ow401 hw) (own_nf hZ (ow403 hw)) (ow403 hw) (ow402 hw) (ow9 hw) (ow404 hw) (by decide) (by rw [hml]; rfl) e12 opd_16 [] [(.int 0)] rfl rfl rfl rfl (by decide) (by decide) rfl rfl (by decide) (by decide) E_a2 (hb hby d62_11) rfl (fun v13 T13 h13 L13 X13 e13 z13 => ?_)
 obtain ⟨rfl, Nq13, hq13⟩ := z13; replace e13 := e13.trans hq13; have N := Fr.app N Nq13
 refine og_icmp_eq (pc1 := 21) (pc2 := 17) X13 hx (hb hby d62_14) (by decide) (by decide) rfl (fun _ => ?_) (fun q => absurd q (by decide))
 refine og_retV X13 hx hlk hret (hb hby d62_21) (by decide) (by decide) ?_
 rw [e13]; exact ⟨rfl, N, rfl⟩
theorem rm_psa (l : Launch) (Z : State) (a0 : Array Value) (hw : HW a0 Z) (a1 a2 ba bv : Addr) (kb kv : ClassId) (dp nn zz : Int32) (vs vd us vd' : List Value) (h2 : ¬ dp < 0) (h3 : ¬ nn < 0) (h4 : (0 : Int32).toNatClampNeg + nn.toNatClampNeg ≤ nn.toNatClampNeg) (h5 : dp.toNatClampNeg + nn.toNatClampNeg ≤ zz.toNatClampNeg) (hus : us = (List.range nn.toNatClampNeg).map fun i => vs.getD ((0 : Int32).toNatClampNeg + i) (.int 0)) (hl : dp.toNatClampNeg + nn.toNatClampNeg ≤ vd.length) (hvd : vd.take dp.toNatClampNeg ++ us ++ vd.drop (dp.toNatClampNeg + nn.toNatClampNeg) = vd') (cs : Int32) (hcs : ¬ cs = 0) (h0 : Heap) (n0 : Nat) (O : Old Z n0 h0) (E_a1 : Exa Z h0 a1 "java/lang/StringBuilder") (F_value_a1 : Fld Z h0 a1 "java/lang/AbstractStringBuilder" "value" "[B" (.ref bv)) (F_coder_a1 : Fld Z h0 a1 "java/lang/AbstractStringBuilder" "coder" "B" (.int 0)) (E_a2 : Exa Z h0 a2 "java/lang/String") (F_value_a2 : Fld Z h0 a2 "java/lang/String" "value" "[B" (.ref ba)) (F_coder_a2 : Fld Z h0 a2 "java/lang/String" "coder" "B" (.int 0)) (V_ba : Arv Z h0 ba kb .byte nn vs (.int 0)) (V_bv : Arv Z h0 bv kv .byte zz vd (.int 0)) (S_CS : Sta Z Z.heap "java/lang/String" "COMPACT_STRINGS" "Z" (.int cs)) (g_bv : n0 ≤ bv) (ne_a1_bv : a1 ≠ bv) (ne_a2_bv : a2 ≠ bv) (ne_ba_bv : ba ≠ bv) :
  Con l Z (⟨"java/lang/AbstractStringBuilder", "putStringAt", "(ILjava/lang/String;)V"⟩ : MethodName) jdk_68_method_73_code 3 none ({ frames := 2, cells := 0, slots := 0, locals := 33 } : Room) #[(.ref a1), (.int dp), (.ref a2)] h0 (fun v h L => v = none ∧ Fr n0 L ∧ Keep h0 h [bv] ∧ Arv Z h bv kv .byte zz vd' (.int 0)) := by
 refine own_startC opn_61 ?_
 intro p e s m below meth c T0 X0 hx hby hml hZ hown hnm hret hlk e0
 have N := Fr.nil n0; have K := Keep.refl h0 [bv]
 refine OG.cast (oef13 m a1 dp a2) ?_
 refine og_aloadN X0 hx rfl rfl (hb hby d61_0) rfl ?_
 refine og_aloadN X0 hx rfl rfl (hb hby d61_1) rfl ?_
 refine og_private (pc' := 5) (cells' := 0) (slots' := 0) (W := 0) X0 hx hZ (rm_inf l Z a0 hw a1 a2 cs hcs h0 n0 O F_coder_a1 E_a2 F_coder_a2 S_CS) hown (ow415 hw) (ow416 hw) (own_selfp (ow418 hw) (ow416 hw) (ow417 hw) (by decide)) (ow417 hw) (ow303 hw) (ow419 hw) (by decide) (by rw [hml]; rfl) e0 opd_17 [(.ref a2)] [] rfl rfl rfl rfl (by decide) (by decide) rfl rfl (by decide) (by decide) E_a1 (hb hby d61_2) rfl (fun v11 T11 h11 L11 X11 e11 z11 => ?_)
 obtain ⟨rfl, Nq11, hq11⟩ := z11; replace e11 := e11.trans hq11; have N := Fr.app N Nq11
 refine og_aloadN X11 hx rfl rfl (hb hby d61_5) rfl ?_
 refine og_aloadN X11 hx rfl rfl (hb hby d61_6) rfl ?_
 refine og_getfield X11 hx hZ (host := "") hown (Or.inl (ow307 hw)) Via.refl e11 F_value_a1 (hb hby d61_7) rfl (fun T12 X12 e12 => ?_)
 refine og_iloadN X12 hx rfl (hb hby d61_10) rfl ?_
 refine og_aloadN X12 hx rfl rfl (hb hby d61_11) rfl ?_
 refine og_getfield X12 hx hZ (host := "") hown (Or.inl (ow309 hw)) Via.refl e12 F_coder_a1 (hb hby d61_12) rfl (fun T13 X13 e13 => ?_)
 refine og_virtual (pc' := 18) (cells' := 0) (slots' := 0) (W := 0) X13 hx hZ (rm_gb l Z a0 hw a2 ba bv kb kv dp nn zz vs vd us vd' h2 h3 h4 h5 hus hl hvd cs hcs h0 n0 O E_a2 F_value_a2 F_coder_a2 V_ba V_bv S_CS g_bv ne_a2_bv ne_ba_bv) hown (ow421 hw) (ow422 hw) (own_nf hZ (ow424 hw)) (ow424 hw) (ow423 hw) (ow9 hw) (ow425 hw) (by decide) (by rw [hml]; rfl) e13 opd_18 [(.ref bv), (.int dp), (.int 0)] [] rfl rfl rfl rfl (by decide) (by decide) rfl rfl (by decide) (by decide) E_a2 (hb hby d61_15) rfl (fun v14 T14 h14 L14 X14 e14 z14 => ?_)
 obtain ⟨rfl, Nq14, K14, V_bv'⟩ := z14; have N := Fr.app N Nq14
 have K := K.trans K14 (allS (Or.inl (List.mem_of_getElem? (i := 0) rfl)) all0)
 have V_bv := V_bv'
 refine og_retV X14 hx hlk hret (hb hby d61_18) (by decide) (by decide) ?_
 rw [e14]; exact ⟨rfl, N, K, V_bv⟩
theorem rm_aas_t (l : Launch) (Z : State) (a0 : Array Value) (hw : HW a0 Z) (a1 a2 bv b2 : Addr) (kb k2 : ClassId) (gg : Int32) (cs : Int32) (hcs : ¬ cs = 0) (h0 : Heap) (n0 : Nat) (O : Old Z n0 h0) (E_a1 : Exa Z h0 a1 "java/lang/StringBuilder") (F_value_a1 : Fld Z h0 a1 "java/lang/AbstractStringBuilder" "value" "[B" (.ref bv)) (F_coder_a1 : Fld Z h0 a1 "java/lang/AbstractStringBuilder" "coder" "B" (.int 0)) (F_count_a1 : Fld Z h0 a1 "java/lang/AbstractStringBuilder" "count" "I" (.int 0)) (E_bv : Exa Z h0 bv "[B") (V_bv : Arv Z h0 bv kb .byte (16 : Int32) [(.int 0), (.int 0), (.int 0), (.int 0), (.int 0), (.int 0), (.int 0), (.int 0), (.int 0), (.int 0), (.int 0), (.int 0), (.int 0), (.int 0), (.int 0), (.int 0)] (.int 0)) (E_a2 : Exa Z h0 a2 "java/lang/String") (F_value_a2 : Fld Z h0 a2 "java/lang/String" "value" "[B" (.ref b2)) (F_coder_a2 : Fld Z h0 a2 "java/lang/String" "coder" "B" (.int 0)) (V_b2 : Arv Z h0 b2 k2 .byte (1 : Int32) [(.int gg)] (.int 0)) (S_CS : Sta Z Z.heap "java/lang/String" "COMPACT_STRINGS" "Z" (.int cs)) (g_a1 : n0 ≤ a1) (g_bv : n0 ≤ bv) (ne_a1_bv : a1 ≠ bv) (ne_a2_bv : a2 ≠ bv) (ne_b2_bv : b2 ≠ bv) (ne_a2_a1 : a2 ≠ a1) (ne_b2_a1 : b2 ≠ a1) :
  Con l Z (⟨"java/lang/AbstractStringBuilder", "append", "(Ljava/lang/String;)Ljava/lang/AbstractStringBuilder;"⟩ : MethodName) jdk_68_method_22_code 3 (some (.object "java/lang/AbstractStringBuilder")) ({ frames := 3, cells := 0, slots := 0, locals := 47 } : Room) #[(.ref a1), (.ref a2)] h0 (fun v h L => v = some (.ref a1) ∧ Fr n0 L ∧ Keep h0 h [a1, bv] ∧ Exa Z h a1 "java/lang/StringBuilder" ∧ Fld Z h a1 "java/lang/AbstractStringBuilder" "value" "[B" (.ref bv) ∧ Fld Z h a1 "java/lang/AbstractStringBuilder" "coder" "B" (.int 0) ∧ Fld Z h a1 "java/lang/AbstractStringBuilder" "count" "I" (.int 1) ∧ Arv Z h bv kb .byte (16 : Int32) [(.int gg), (.int 0), (.int 0), (.int 0), (.int 0), (.int 0), (.int 0), (.int 0), (.int 0), (.int 0), (.int 0), (.int 0), (.int 0), (.int 0), (.int 0), (.int 0)] (.int 0)) := by
 refine own_startC opn_57 ?_
 intro p e s m below meth c T0 X0 hx hby hml hZ hown hnm hret hlk e0
 have N := Fr.nil n0; have K := Keep.refl h0 [a1, bv]
 refine OG.cast (oef14 m a1 a2) ?_
 refine og_aloadN X0 hx rfl rfl (hb hby d57_0) rfl ?_
 refine og_ifnonnull (pc1 := 9) (pc2 := 4) X0 hx rfl (hb hby d57_1) (by decide) (by decide) rfl (fun _ => ?_) (fun q => absurd q nofun)
 refine og_aloadN X0 hx rfl rfl (hb hby d57_9) rfl ?_
 refine og_virtual (pc' := 13) (cells' := 0) (slots' := 0) (W := 0) X0 hx hZ (rm_len l Z a0 hw a2 b2 k2 (1 : Int32) _ cs hcs h0 n0 O E_a2 F_value_a2 F_coder_a2 V_b2 S_CS) hown (ow395 hw) (ow396 hw) (own_nf hZ (ow398 hw)) (ow398 hw) (ow397 hw) (ow9 hw) (ow399 hw) (by decide) (by rw [hml]; rfl) e0 opd_14 [] [] rfl rfl rfl rfl (by decide) (by decide) rfl rfl (by decide) (by decide) E_a2 (hb hby d57_10) rfl (fun v11 T11 h11 L11 X11 e11 z11 => ?_)
 obtain ⟨rfl, Nq11, hq11⟩ := z11; replace e11 := e11.trans hq11; have N := Fr.app N Nq11
 refine og_istoreN (L' := #[.val (.ref a1), .val (.ref a2), .val (.int 1)]) X11 hx rfl (hb hby d57_13) rfl ?_
 refine og_aloadN X11 hx rfl rfl (hb hby d57_14) rfl ?_
 refine og_aloadN X11 hx rfl rfl (hb hby d57_15) rfl ?_
 refine og_getfield X11 hx hZ (host := "") hown (Or.inl (ow339 hw)) Via.refl e11 F_count_a1 (hb hby d57_16) rfl (fun T12 X12 e12 => ?_)
 refine og_iloadN X12 hx rfl (hb hby d57_19) rfl ?_
 refine og_iadd X12 hx (hb hby d57_20) rfl ?_
 show OG p e below _ (T12.setTop (mkF m 21 #[.val (.ref a1), .val (.ref a2), .val (.int 1)] [(.int 1), (.ref a1)]))
 refine og_private (pc' := 24) (cells' := 0) (slots' := 0) (W := 0) X12 hx hZ (rm_ecN l Z a0 hw a1 bv kb (16 : Int32) (1 : Int32) _ (by decide) h0 n0 O F_value_a1 F_coder_a1 V_bv) hown (ow405 hw) (ow406 hw) (own_selfp (ow408 hw) (ow406 hw) (ow407 hw) (by decide)) (ow407 hw) (ow303 hw) (ow409 hw) (by decide) (by rw [hml]; rfl) e12 opd_15 [(.int 1)] [] rfl rfl rfl rfl (by decide) (by decide) rfl rfl (by decide) (by decide) E_a1 (hb hby d57_21) rfl (fun v13 T13 h13 L13 X13 e13 z13 => ?_)
 obtain ⟨rfl, Nq13, hq13⟩ := z13; replace e13 := e13.trans hq13; have N := Fr.app N Nq13
 refine og_aloadN X13 hx rfl rfl (hb hby d57_24) rfl ?_
 refine og_aloadN X13 hx rfl rfl (hb hby d57_25) rfl ?_
 refine og_getfield X13 hx hZ (host := "") hown (Or.inl (ow339 hw)) Via.refl e13 F_count_a1 (hb hby d57_26) rfl (fun T14 X14 e14 => ?_)
 refine og_aloadN X14 hx rfl rfl (hb hby d57_29) rfl ?_
 refine og_private (pc' := 33) (cells' := 0) (slots' := 0) (W := 0) X14 hx hZ (rm_psa l Z a0 hw a1 a2 b2 bv k2 kb (0 : Int32) (1 : Int32) (16 : Int32) [(.int gg)] [(.int 0), (.int 0), (.int 0), (.int 0), (.int 0), (.int 0), (.int 0), (.int 0), (.int 0), (.int 0), (.int 0), (.int 0), (.int 0), (.int 0), (.int 0), (.int 0)] [(.int gg)] [(.int gg), (.int 0), (.int 0), (.int 0), (.int 0), (.int 0), (.int 0), (.int 0), (.int 0), (.int 0), (.int 0), (.int 0), (.int 0), (.int 0), (.int 0), (.int 0)] (by decide) (by decide) (by decide) (by decide) rfl (Nat.le_of_ble_eq_true rfl) rfl cs hcs h0 n0 O E_a1 F_value_a1 F_coder_a1 E_a2 F_value_a2 F_coder_a2 V_b2 V_bv S_CS g_bv ne_a1_bv ne_a2_bv ne_b2_bv) hown (ow410 hw) (ow411 hw) (own_selfp (ow413 hw) (ow411 hw) (ow412 hw) (by decide)) (ow412 hw) (ow303 hw) (ow414 hw) (by decide) (by rw [hml]; rfl) e14 opd_19 [(.int 0), (.ref a2)] [] rfl rfl rfl rfl (by decide) (by decide) rfl rfl (by decide) (by decide) E_a1 (hb hby d57_30) rfl (fun v15 T15 h15 L15 X15 e15 z15 => ?_)
 obtain ⟨rfl, Nq15, K15, V_bv'⟩ := z15; have N := Fr.app N Nq15
 have E_a1 := E_a1.keep K15; have F_value_a1 := F_value_a1.keep K15 (ninS ne_a1_bv nin0); have F_coder_a1 := F_coder_a1.keep K15 (ninS ne_a1_bv nin0); have F_count_a1 := F_count_a1.keep K15 (ninS ne_a1_bv nin0)
 have K := K.trans K15 (allS (Or.inl (List.mem_of_getElem? (i := 1) rfl)) all0)
 have V_bv := V_bv'
 refine og_aloadN X15 hx rfl rfl (hb hby d57_33) rfl ?_
 refine og_dup X15 hx rfl (hb hby d57_34) rfl ?_
 refine og_getfield X15 hx hZ (host := "") hown (Or.inl (ow339 hw)) Via.refl e15 F_count_a1 (hb hby d57_35) rfl (fun T16 X16 e16 => ?_)
 refine og_iloadN X16 hx rfl (hb hby d57_38) rfl ?_
 refine og_iadd X16 hx (hb hby d57_39) rfl ?_
 show OG p e below _ (T16.setTop (mkF m 40 #[.val (.ref a1), .val (.ref a2), .val (.int 1)] [(.int 1), (.ref a1)]))
 refine og_putfield X16 hx hZ (ty := .int) (host := "") hown (Or.inl (ow339 hw)) Via.refl e16 F_count_a1 E_a1 (Or.inl (ow340 hw)) (ow294 hw) (by decide) rfl rfl (hb hby d57_40) rfl (fun T17 h17 X17 e17 W17 => ?_)
 have F_count_a1_ := F_count_a1.same W17
 have E_a1 := E_a1.wr W17; have F_value_a1 := F_value_a1.other W17 (Or.inr (slot_ne (Or.inl (ow308 hw)) (Or.inl (ow340 hw)) (by decide) (t := (.array .byte)) (t' := .int) (by decide) (by decide))); have F_coder_a1 := F_coder_a1.other W17 (Or.inr (slot_ne (Or.inl (ow310 hw)) (Or.inl (ow340 hw)) (by decide) (t := .byte) (t' := .int) (by decide) (by decide)))
 have V_bv := V_bv.other W17 (Ne.symm ne_a1_bv); have K := K.wr W17 (Or.inl (List.mem_of_getElem? (i := 0) rfl))
 have N := Fr.snoc X17 N g_a1; have F_count_a1 := F_count_a1_
 refine og_aloadN X17 hx rfl rfl (hb hby d57_43) rfl ?_
 refine og_retR X17 hx hlk hret rfl rfl rfl (hb hby d57_44) (by decide) (by decide) ?_
 rw [e17]; exact ⟨rfl, N, K, E_a1, F_value_a1, F_coder_a1, F_count_a1, V_bv⟩
theorem rm_sas_t (l : Launch) (Z : State) (a0 : Array Value) (hw : HW a0 Z) (a1 a2 bv b2 : Addr) (kb k2 : ClassId) (gg : Int32) (cs : Int32) (hcs : ¬ cs = 0) (h0 : Heap) (n0 : Nat) (O : Old Z n0 h0) (E_a1 : Exa Z h0 a1 "java/lang/StringBuilder") (F_value_a1 : Fld Z h0 a1 "java/lang/AbstractStringBuilder" "value" "[B" (.ref bv)) (F_coder_a1 : Fld Z h0 a1 "java/lang/AbstractStringBuilder" "coder" "B" (.int 0)) (F_count_a1 : Fld Z h0 a1 "java/lang/AbstractStringBuilder" "count" "I" (.int 0)) (E_bv : Exa Z h0 bv "[B") (V_bv : Arv Z h0 bv kb .byte (16 : Int32) [(.int 0), (.int 0), (.int 0), (.int 0), (.int 0), (.int 0), (.int 0), (.int 0), (.int 0), (.int 0), (.int 0), (.int 0), (.int 0), (.int 0), (.int 0), (.int 0)] (.int 0)) (E_a2 : Exa Z h0 a2 "java/lang/String") (F_value_a2 : Fld Z h0 a2 "java/lang/String" "value" "[B" (.ref b2)) (F_coder_a2 : Fld Z h0 a2 "java/lang/String" "coder" "B" (.int 0)) (V_b2 : Arv Z h0 b2 k2 .byte (1 : Int32) [(.int gg)] (.int 0)) (S_CS : Sta Z Z.heap "java/lang/String" "COMPACT_STRINGS" "Z" (.int cs)) (g_a1 : n0 ≤ a1) (g_bv : n0 ≤ bv) (ne_a1_bv : a1 ≠ bv) (ne_a2_bv : a2 ≠ bv) (ne_b2_bv : b2 ≠ bv) (ne_a2_a1 : a2 ≠ a1) (ne_b2_a1 : b2 ≠ a1) :
  Con l Z (⟨"java/lang/StringBuilder", "append", "(Ljava/lang/String;)Ljava/lang/StringBuilder;"⟩ : MethodName) jdk_67_method_7_code 2 (some (.object "java/lang/StringBuilder")) ({ frames := 4, cells := 0, slots := 0, locals := 61 } : Room) #[(.ref a1), (.ref a2)] h0 (fun v h L => v = some (.ref a1) ∧ Fr n0 L ∧ Keep h0 h [a1, bv] ∧ Exa Z h a1 "java/lang/StringBuilder" ∧ Fld Z h a1 "java/lang/AbstractStringBuilder" "value" "[B" (.ref bv) ∧ Fld Z h a1 "java/lang/AbstractStringBuilder" "coder" "B" (.int 0) ∧ Fld Z h a1 "java/lang/AbstractStringBuilder" "count" "I" (.int 1) ∧ Arv Z h bv kb .byte (16 : Int32) [(.int gg), (.int 0), (.int 0), (.int 0), (.int 0), (.int 0), (.int 0), (.int 0), (.int 0), (.int 0), (.int 0), (.int 0), (.int 0), (.int 0), (.int 0), (.int 0)] (.int 0)) := by
 refine own_startC opn_56 ?_
 intro p e s m below meth c T0 X0 hx hby hml hZ hown hnm hret hlk e0
 have N := Fr.nil n0; have K := Keep.refl h0 [a1, bv]
 refine OG.cast (oef1 m a1 a2) ?_
 refine og_aloadN X0 hx rfl rfl (hb hby d56_0) rfl ?_
 refine og_aloadN X0 hx rfl rfl (hb hby d56_1) rfl ?_
 refine og_super (pc' := 5) (cells' := 0) (slots' := 0) (W := 0) X0 hx hZ (y := (⟨"java/lang/AbstractStringBuilder", "append", "(Ljava/lang/String;)Ljava/lang/AbstractStringBuilder;"⟩ : MethodName)) (rm_aas_t l Z a0 hw a1 a2 bv b2 kb k2 gg cs hcs h0 n0 O E_a1 F_value_a1 F_coder_a1 F_count_a1 E_bv V_bv E_a2 F_value_a2 F_coder_a2 V_b2 S_CS g_a1 g_bv ne_a1_bv ne_a2_bv ne_b2_bv ne_a2_a1 ne_b2_a1) hown (ow391 hw) (own_sameM (ow393 hw) (own_nfc (ow326 hw) (ow328 hw) rfl) (by decide)) (ow392 hw) (ow337 hw) (by decide) (ow303 hw) (ow394 hw) (by decide) (by rw [hml]; rfl) e0 opd_20 [(.ref a2)] [] rfl rfl rfl rfl (by decide) (by decide) rfl rfl (by decide) (by decide) E_a1 (hb hby d56_2) rfl (fun v11 T11 h11 L11 X11 e11 z11 => ?_)
 obtain ⟨rfl, Nq11, K11, E_a1', F_value_a1', F_coder_a1', F_count_a1', V_bv'⟩ := z11; have N := Fr.app N Nq11
 have K := K.trans K11 (allS (Or.inl (List.mem_of_getElem? (i := 0) rfl)) (allS (Or.inl (List.mem_of_getElem? (i := 1) rfl)) all0))
 have V_bv := V_bv'
 have E_a1 := E_a1'; have F_value_a1 := F_value_a1'; have F_coder_a1 := F_coder_a1'; have F_count_a1 := F_count_a1'
 refine og_pop X11 hx rfl (hb hby d56_5) rfl ?_
 refine og_aloadN X11 hx rfl rfl (hb hby d56_6) rfl ?_
 refine og_retR X11 hx hlk hret rfl rfl rfl (hb hby d56_7) (by decide) (by decide) ?_
 rw [e11]; exact ⟨rfl, N, K, E_a1, F_value_a1, F_coder_a1, F_count_a1, V_bv⟩
theorem rm_gv (l : Launch) (Z : State) (a0 : Array Value) (hw : HW a0 Z) (a1 bv : Addr) (h0 : Heap) (n0 : Nat) (O : Old Z n0 h0) (F_value_a1 : Fld Z h0 a1 "java/lang/AbstractStringBuilder" "value" "[B" (.ref bv)) :
  Con l Z (⟨"java/lang/AbstractStringBuilder", "getValue", "()[B"⟩ : MethodName) jdk_68_method_64_code 1 (some (.array .byte)) ({ frames := 0, cells := 0, slots := 0, locals := 0 } : Room) #[(.ref a1)] h0 (fun v h L => v = some (.ref bv) ∧ Fr n0 L ∧ h = h0) := by
 refine own_startC opn_44 ?_
 intro p e s m below meth c T0 X0 hx hby hml hZ hown hnm hret hlk e0
 have N := Fr.nil n0
 refine OG.cast (oef0 m a1) ?_
 refine og_aloadN X0 hx rfl rfl (hb hby d44_0) rfl ?_
 refine og_getfield X0 hx hZ (host := "") hown (Or.inl (ow307 hw)) Via.refl e0 F_value_a1 (hb hby d44_1) rfl (fun T11 X11 e11 => ?_)
 refine og_retR X11 hx hlk hret rfl rfl rfl (hb hby d44_4) (by decide) (by decide) ?_
 rw [e11]; exact ⟨rfl, N, rfl⟩
theorem rm_asl (l : Launch) (Z : State) (a0 : Array Value) (hw : HW a0 Z) (a1 : Addr) (cn : Int32) (h0 : Heap) (n0 : Nat) (O : Old Z n0 h0) (F_count_a1 : Fld Z h0 a1 "java/lang/AbstractStringBuilder" "count" "I" (.int cn)) :
  Con l Z (⟨"java/lang/AbstractStringBuilder", "length", "()I"⟩ : MethodName) jdk_68_method_6_code 1 (some .int) ({ frames := 0, cells := 0, slots := 0, locals := 0 } : Room) #[(.ref a1)] h0 (fun v h L => v = some (.int cn) ∧ Fr n0 L ∧ h = h0) := by
 refine own_startC opn_46 ?_
 intro p e s m below meth c T0 X0 hx hby hml hZ hown hnm hret hlk e0
 have N := Fr.nil n0
 refine OG.cast (oef0 m a1) ?_
 refine og_aloadN X0 hx rfl rfl (hb hby d46_0) rfl ?_
 refine og_getfield X0 hx hZ (host := "") hown (Or.inl (ow339 hw)) Via.refl e0 F_count_a1 (hb hby d46_1) rfl (fun T11 X11 e11 => ?_)
 refine og_retI X11 hx hlk hret (hb hby d46_4) (by decide) (by decide) ?_
 rw [e11]; exact ⟨rfl, N, rfl⟩
theorem rm_sl (l : Launch) (Z : State) (a0 : Array Value) (hw : HW a0 Z) (a1 : Addr) (cn : Int32) (h0 : Heap) (n0 : Nat) (O : Old Z n0 h0) (E_a1 : Exa Z h0 a1 "java/lang/StringBuilder") (F_count_a1 : Fld Z h0 a1 "java/lang/AbstractStringBuilder" "count" "I" (.int cn)) :
  Con l Z (⟨"java/lang/StringBuilder", "length", "()I"⟩ : MethodName) jdk_67_method_93_code 1 (some .int) ({ frames := 1, cells := 0, slots := 0, locals := 12 } : Room) #[(.ref a1)] h0 (fun v h L => v = some (.int cn) ∧ Fr n0 L ∧ h = h0) := by
 refine own_startC opn_45 ?_
 intro p e s m below meth c T0 X0 hx hby hml hZ hown hnm hret hlk e0
 have N := Fr.nil n0
 refine OG.cast (oef0 m a1) ?_
 refine og_aloadN X0 hx rfl rfl (hb hby d45_0) rfl ?_
 refine og_super (pc' := 4) (cells' := 0) (slots' := 0) (W := 0) X0 hx hZ (y := (⟨"java/lang/AbstractStringBuilder", "length", "()I"⟩ : MethodName)) (rm_asl l Z a0 hw a1 cn h0 n0 O F_count_a1) hown (ow336 hw) (own_sameM (ow331 hw) (own_nfc (ow326 hw) (ow328 hw) rfl) (by decide)) (ow332 hw) (ow337 hw) (by decide) (ow303 hw) (ow338 hw) (by decide) (by rw [hml]; rfl) e0 opd_14 [] [] rfl rfl rfl rfl (by decide) (by decide) rfl rfl (by decide) (by decide) E_a1 (hb hby d45_1) rfl (fun v11 T11 h11 L11 X11 e11 z11 => ?_)
 obtain ⟨rfl, Nq11, hq11⟩ := z11; replace e11 := e11.trans hq11; have N := Fr.app N Nq11
 refine og_retI X11 hx hlk hret (hb hby d45_4) (by decide) (by decide) ?_
 rw [e11]; exact ⟨rfl, N, rfl⟩
theorem rm_min_16_0 (l : Launch) (Z : State) (a0 : Array Value) (hw : HW a0 Z)  (h0 : Heap) (n0 : Nat) (O : Old Z n0 h0) :
  Con l Z (⟨"java/lang/Math", "min", "(II)I"⟩ : MethodName) jdk_29_method_69_code 2 (some .int) ({ frames := 0, cells := 0, slots := 0, locals := 0 } : Room) #[(.int 16), (.int 0)] h0 (fun v h L => v = some (.int 0) ∧ Fr n0 L ∧ h = h0) := by
 refine own_startC opn_51 ?_
 intro p e s m below meth c T0 X0 hx hby hml hZ hown hnm hret hlk e0
 have N := Fr.nil n0
 refine OG.cast (oef5 m (16 : Int32) (0 : Int32)) ?_
 refine og_iloadN X0 hx rfl (hb hby d51_0) rfl ?_
 refine og_iloadN X0 hx rfl (hb hby d51_1) rfl ?_
 refine og_icmp_gt (pc1 := 9) (pc2 := 5) X0 hx (hb hby d51_2) (by decide) (by decide) rfl (fun _ => ?_) (fun q => absurd q (by decide))
 refine og_iloadN X0 hx rfl (hb hby d51_9) rfl ?_
 refine og_retI X0 hx hlk hret (hb hby d51_10) (by decide) (by decide) ?_
 rw [e0]; exact ⟨rfl, N, rfl⟩
theorem rm_chl_0 (l : Launch) (Z : State) (a0 : Array Value) (hw : HW a0 Z)  (h0 : Heap) (n0 : Nat) (O : Old Z n0 h0) :
  Con l Z (⟨"java/util/Arrays", "checkLength", "(II)V"⟩ : MethodName) jdk_65_method_131_code 2 none ({ frames := 0, cells := 0, slots := 0, locals := 0 } : Room) #[(.int 0), (.int 0)] h0 (fun v h L => v = none ∧ Fr n0 L ∧ h = h0) := by
 refine own_startC opn_50 ?_
 intro p e s m below meth c T0 X0 hx hby hml hZ hown hnm hret hlk e0
 have N := Fr.nil n0
 refine OG.cast (oef5 m (0 : Int32) (0 : Int32)) ?_
 refine og_iloadN X0 hx rfl (hb hby d50_0) rfl ?_
 refine og_iloadN X0 hx rfl (hb hby d50_1) rfl ?_
 refine og_icmp_ge (pc1 := 37) (pc2 := 5) X0 hx (hb hby d50_2) (by decide) (by decide) rfl (fun _ => ?_) (fun q => absurd q (by decide))
 refine og_retV X0 hx hlk hret (hb hby d50_37) (by decide) (by decide) ?_
 rw [e0]; exact ⟨rfl, N, rfl⟩
theorem rm_crb_16_0 (l : Launch) (Z : State) (a0 : Array Value) (hw : HW a0 Z) (ba : Addr) (kb : ClassId) (v0 v1 v2 v3 v4 v5 v6 v7 v8 v9 v10 v11 v12 v13 v14 v15 : Int32) (h0 : Heap) (n0 : Nat) (O : Old Z n0 h0) (V_ba : Arv Z h0 ba kb .byte (16 : Int32) [(.int v0), (.int v1), (.int v2), (.int v3), (.int v4), (.int v5), (.int v6), (.int v7), (.int v8), (.int v9), (.int v10), (.int v11), (.int v12), (.int v13), (.int v14), (.int v15)] (.int 0)) :
  Con l Z (⟨"java/util/Arrays", "copyOfRangeByte", "([BII)[B"⟩ : MethodName) jdk_65_method_133_code 5 (some (.array .byte)) ({ frames := 1, cells := 1, slots := 0, locals := 18 } : Room) #[(.ref ba), (.int 0), (.int 0)] h0 (fun v h L => ∃ b k, v = some (.ref b) ∧ Fr n0 L ∧ Keep h0 h [] ∧ h0.size ≤ b ∧ Arv Z h b k .byte (0 : Int32) [] (.int 0) ∧ Exa Z h b "[B") := by
 refine own_startC opn_49 ?_
 intro p e s m below meth c T0 X0 hx hby hml hZ hown hnm hret hlk e0
 have N := Fr.nil n0; have K := Keep.refl h0 []
 refine OG.cast (oef15 m ba (0 : Int32) (0 : Int32)) ?_
 refine og_iloadN X0 hx rfl (hb hby d49_0) rfl ?_
 refine og_iloadN X0 hx rfl (hb hby d49_1) rfl ?_
 refine og_static (pc' := 5) (cells' := 0) (slots' := 0) (W := 0) X0 hx hZ (rm_chl_0 l Z a0 hw h0 n0 O) hown (ow353 hw) (ow354 hw) (ow348 hw) (ow355 hw) (by decide) (by rw [hml]; rfl) e0 opd_21 [(.int 0), (.int 0)] [] rfl rfl rfl rfl (by decide) (by decide) rfl rfl (by decide) (by decide) (hb hby d49_2) rfl (fun v11 T11 h11 L11 X11 e11 z11 => ?_)
 obtain ⟨rfl, Nq11, hq11⟩ := z11; replace e11 := e11.trans hq11; have N := Fr.app N Nq11
 refine og_iloadN X11 hx rfl (hb hby d49_5) rfl ?_
 refine og_iloadN X11 hx rfl (hb hby d49_6) rfl ?_
 refine og_isub X11 hx (hb hby d49_7) rfl ?_
 show OG p e below _ (T11.setTop (mkF m 8 #[.val (.ref ba), .val (.int 0), .val (.int 0), .unset, .unset] [(.int 0)]))
 refine og_istoreN (L' := #[.val (.ref ba), .val (.int 0), .val (.int 0), .val (.int 0), .unset]) X11 hx rfl (hb hby d49_8) rfl ?_
 refine og_iloadN X11 hx rfl (hb hby d49_9) rfl ?_
 refine og_newarrayE (pc' := 12) (cells' := 1) (slots' := 0) (cap := 0) (ty := .byte) X11 hx hZ rfl (ow21 hw) e11 (by decide) (by decide) (by decide) rfl (hb hby d49_10) rfl rfl rfl (by decide) (by decide) (fun T12 h12 nb12 kA12 X12 e12 E12 q12 V_nb12 E_nb12 => ?_)
 have s_nb12 : h0.size ≤ nb12 := Nat.le_of_eq q12.symm; have g_nb12 : n0 ≤ nb12 := Nat.le_trans (own_n0 O) s_nb12; have sz_nb12 : h0.size ≤ nb12 := Nat.le_trans K.1 s_nb12
 have V_ba := V_ba.ext E12; have O := O.ext E12; have K := K.ext E12
 refine og_astore (L' := #[.val (.ref ba), .val (.int 0), .val (.int 0), .val (.int 0), .val (.ref nb12)]) X12 hx rfl rfl (hb hby d49_12) rfl ?_
 refine og_aloadN X12 hx rfl rfl (hb hby d49_14) rfl ?_
 refine og_iloadN X12 hx rfl (hb hby d49_15) rfl ?_
 refine og_aload X12 hx rfl rfl (hb hby d49_16) rfl ?_
 refine og_iconst (v := 0) X12 hx rfl (hb hby d49_18) rfl ?_
 refine og_aloadN X12 hx rfl rfl (hb hby d49_19) rfl ?_
 refine og_arraylength X12 hx hZ e12 V_ba (hb hby d49_20) rfl ?_
 refine og_iloadN X12 hx rfl (hb hby d49_21) rfl ?_
 refine og_isub X12 hx (hb hby d49_22) rfl ?_
 show OG p e below _ (T12.setTop (mkF m 23 #[.val (.ref ba), .val (.int 0), .val (.int 0), .val (.int 0), .val (.ref nb12)] [(.int 16), (.int 0), (.ref nb12), (.int 0), (.ref ba)]))
 refine og_iloadN X12 hx rfl (hb hby d49_23) rfl ?_
 refine og_static (pc' := 27) (cells' := 1) (slots' := 0) (W := 4) X12 hx hZ (rm_min_16_0 l Z a0 hw h12 n0 O) hown (ow356 hw) (ow357 hw) (ow140 hw) (ow358 hw) (by decide) (by rw [hml]; rfl) e12 opd_5 [(.int 16), (.int 0)] [(.int 0), (.ref nb12), (.int 0), (.ref ba)] rfl rfl rfl rfl (by decide) (by decide) rfl rfl (by decide) (by decide) (hb hby d49_24) rfl (fun v13 T13 h13 L13 X13 e13 z13 => ?_)
 obtain ⟨rfl, Nq13, hq13⟩ := z13; replace e13 := e13.trans hq13; have N := Fr.app N Nq13
 refine og_arraycopy (pc' := 30) (W := 0) (us := []) X13 hx hZ (by rw [hml]; rfl) hown (ow359 hw) (ow362 hw) (ow360 hw) (ow361 hw) e13 V_ba V_nb12 rfl (by decide) (by decide) (by decide) (by decide) (by decide) rfl (Nat.le_of_ble_eq_true rfl) N g_nb12 rfl (by decide) (by decide) (hb hby d49_27) rfl (fun T14 h14 l14 X14 e14 N K14 V14 => ?_)
 have E_nb12 := E_nb12.keep K14; have K := K.trans K14 (allS (Or.inr sz_nb12) all0)
 have V_nb12 : Arv Z h14 nb12 kA12 .byte (0 : Int32) [] (.int 0) := V14
 refine og_aload X14 hx rfl rfl (hb hby d49_30) rfl ?_
 refine og_retR X14 hx hlk hret rfl rfl rfl (hb hby d49_32) (by decide) (by decide) ?_
 rw [e14]; exact ⟨_, _, rfl, N, K, sz_nb12, V_nb12, E_nb12⟩
theorem rm_cpr_16_0 (l : Launch) (Z : State) (a0 : Array Value) (hw : HW a0 Z) (ba : Addr) (kb : ClassId) (v0 v1 v2 v3 v4 v5 v6 v7 v8 v9 v10 v11 v12 v13 v14 v15 : Int32) (h0 : Heap) (n0 : Nat) (O : Old Z n0 h0) (V_ba : Arv Z h0 ba kb .byte (16 : Int32) [(.int v0), (.int v1), (.int v2), (.int v3), (.int v4), (.int v5), (.int v6), (.int v7), (.int v8), (.int v9), (.int v10), (.int v11), (.int v12), (.int v13), (.int v14), (.int v15)] (.int 0)) (E_ba : Exa Z h0 ba "[B") :
  Con l Z (⟨"java/util/Arrays", "copyOfRange", "([BII)[B"⟩ : MethodName) jdk_65_method_132_code 3 (some (.array .byte)) ({ frames := 2, cells := 1, slots := 0, locals := 34 } : Room) #[(.ref ba), (.int 0), (.int 0)] h0 (fun v h L => ∃ b k, v = some (.ref b) ∧ Fr n0 L ∧ Keep h0 h [] ∧ h0.size ≤ b ∧ Arv Z h b k .byte (0 : Int32) [] (.int 0) ∧ Exa Z h b "[B") := by
 refine own_startC opn_48 ?_
 intro p e s m below meth c T0 X0 hx hby hml hZ hown hnm hret hlk e0
 have N := Fr.nil n0; have K := Keep.refl h0 []
 refine OG.cast (oef16 m ba (0 : Int32) (0 : Int32)) ?_
 refine og_iloadN X0 hx rfl (hb hby d48_0) rfl ?_
 refine og_if_ne (pc1 := 10) (pc2 := 4) X0 hx (hb hby d48_1) (by decide) (by decide) rfl (fun q => absurd q (by decide)) (fun _ => ?_)
 refine og_iloadN X0 hx rfl (hb hby d48_4) rfl ?_
 refine og_aloadN X0 hx rfl rfl (hb hby d48_5) rfl ?_
 refine og_arraylength X0 hx hZ e0 V_ba (hb hby d48_6) rfl ?_
 refine og_icmp_eq (pc1 := 17) (pc2 := 10) X0 hx (hb hby d48_7) (by decide) (by decide) rfl (fun q => absurd q (by decide)) (fun _ => ?_)
 refine og_aloadN X0 hx rfl rfl (hb hby d48_10) rfl ?_
 refine og_iloadN X0 hx rfl (hb hby d48_11) rfl ?_
 refine og_iloadN X0 hx rfl (hb hby d48_12) rfl ?_
 refine og_static (pc' := 16) (cells' := 1) (slots' := 0) (W := 0) X0 hx hZ (rm_crb_16_0 l Z a0 hw ba kb v0 v1 v2 v3 v4 v5 v6 v7 v8 v9 v10 v11 v12 v13 v14 v15 h0 n0 O V_ba) hown (ow350 hw) (ow351 hw) (ow348 hw) (ow352 hw) (by decide) (by rw [hml]; rfl) e0 opd_22 [(.ref ba), (.int 0), (.int 0)] [] rfl rfl rfl rfl (by decide) (by decide) rfl rfl (by decide) (by decide) (hb hby d48_13) rfl (fun v11 T11 h11 L11 X11 e11 z11 => ?_)
 obtain ⟨nb11, k11, rfl, Nq11, K11, sb11, V_nb11, E_nb11⟩ := z11; have N := Fr.app N Nq11
 have s_nb11 : h0.size ≤ nb11 := sb11; have sz_nb11 : h0.size ≤ nb11 := Nat.le_trans K.1 s_nb11
 have K := K.trans K11 all0
 refine og_retR X11 hx hlk hret rfl rfl rfl (hb hby d48_16) (by decide) (by decide) ?_
 rw [e11]; exact ⟨_, _, rfl, N, K, sz_nb11, V_nb11, E_nb11⟩
theorem rm_sva_16_0 (l : Launch) (Z : State) (a0 : Array Value) (hw : HW a0 Z) (a1 a2 bv : Addr) (kb : ClassId) (v0 v1 v2 v3 v4 v5 v6 v7 v8 v9 v10 v11 v12 v13 v14 v15 : Int32) (cs : Int32) (hcs : ¬ cs = 0) (h0 : Heap) (n0 : Nat) (O : Old Z n0 h0) (E_a1 : Exa Z h0 a1 "java/lang/String") (F_value_a1 : Fld Z h0 a1 "java/lang/String" "value" "[B" .null) (F_coder_a1 : Fld Z h0 a1 "java/lang/String" "coder" "B" (.int 0)) (E_a2 : Exa Z h0 a2 "java/lang/StringBuilder") (F_value_a2 : Fld Z h0 a2 "java/lang/AbstractStringBuilder" "value" "[B" (.ref bv)) (F_coder_a2 : Fld Z h0 a2 "java/lang/AbstractStringBuilder" "coder" "B" (.int 0)) (F_count_a2 : Fld Z h0 a2 "java/lang/AbstractStringBuilder" "count" "I" (.int 0)) (E_bv : Exa Z h0 bv "[B") (V_bv : Arv Z h0 bv kb .byte (16 : Int32) [(.int v0), (.int v1), (.int v2), (.int v3), (.int v4), (.int v5), (.int v6), (.int v7), (.int v8), (.int v9), (.int v10), (.int v11), (.int v12), (.int v13), (.int v14), (.int v15)] (.int 0)) (S_CS : Sta Z Z.heap "java/lang/String" "COMPACT_STRINGS" "Z" (.int cs)) (g_a1 : n0 ≤ a1) (ne_a2_a1 : a2 ≠ a1) (ne_bv_a1 : bv ≠ a1) :
  Con l Z (⟨"java/lang/String", "<init>", "(Ljava/lang/AbstractStringBuilder;Ljava/lang/Void;)V"⟩ : MethodName) jdk_42_method_150_code 5 none ({ frames := 3, cells := 1, slots := 0, locals := 49 } : Room) #[(.ref a1), (.ref a2), .null] h0 (fun v h L => ∃ b k, v = none ∧ Fr n0 L ∧ Keep h0 h [a1] ∧ h0.size ≤ b ∧ Exa Z h a1 "java/lang/String" ∧ Fld Z h a1 "java/lang/String" "value" "[B" (.ref b) ∧ Fld Z h a1 "java/lang/String" "coder" "B" (.int 0) ∧ Arv Z h b k .byte (0 : Int32) [] (.int 0)) := by
 refine own_startC opn_43 ?_
 intro p e s m below meth c T0 X0 hx hby hml hZ hown hnm hret hlk e0
 have N := Fr.nil n0; have K := Keep.refl h0 [a1]
 refine OG.cast (oef17 m a1 a2) ?_
 refine og_aloadN X0 hx rfl rfl (hb hby d43_0) rfl ?_
 refine og_initO (pc' := 4) X0 hx hZ (W := 0) (by rw [hml]; rfl) hown (ow26 hw) (ow27 hw) (ow28 hw) e0 rfl (by decide) (by decide) (hb hby d43_1) rfl (fun T11 X11 e11 => ?_)
 refine og_aloadN X11 hx rfl rfl (hb hby d43_4) rfl ?_
 refine og_virtual (pc' := 8) (cells' := 0) (slots' := 0) (W := 0) X11 hx hZ (rm_gv l Z a0 hw a2 bv h0 n0 O F_value_a2) hown (ow325 hw) (ow326 hw) (own_nf hZ (ow328 hw)) (ow328 hw) (ow327 hw) (ow303 hw) (ow329 hw) (by decide) (by rw [hml]; rfl) e11 opd_23 [] [] rfl rfl rfl rfl (by decide) (by decide) rfl rfl (by decide) (by decide) E_a2 (hb hby d43_5) rfl (fun v12 T12 h12 L12 X12 e12 z12 => ?_)
 obtain ⟨rfl, Nq12, hq12⟩ := z12; replace e12 := e12.trans hq12; have N := Fr.app N Nq12
 refine og_astoreN (L' := #[.val (.ref a1), .val (.ref a2), .val .null, .val (.ref bv), .unset]) X12 hx rfl rfl (hb hby d43_8) rfl ?_
 refine og_aloadN X12 hx rfl rfl (hb hby d43_9) rfl ?_
 refine og_virtual (pc' := 13) (cells' := 0) (slots' := 0) (W := 0) X12 hx hZ (rm_sl l Z a0 hw a2 (0 : Int32) h0 n0 O E_a2 F_count_a2) hown (ow330 hw) (ow331 hw) (own_nfc (Z := s) (a0 := #[]) (mvT hZ (ow326 hw)) (mvT hZ (ow328 hw)) rfl) (ow333 hw) (ow334 hw) (ow295 hw) (ow335 hw) (by decide) (by rw [hml]; rfl) e12 opd_14 [] [] rfl rfl rfl rfl (by decide) (by decide) rfl rfl (by decide) (by decide) E_a2 (hb hby d43_10) rfl (fun v13 T13 h13 L13 X13 e13 z13 => ?_)
 obtain ⟨rfl, Nq13, hq13⟩ := z13; replace e13 := e13.trans hq13; have N := Fr.app N Nq13
 refine og_istore (L' := #[.val (.ref a1), .val (.ref a2), .val .null, .val (.ref bv), .val (.int 0)]) X13 hx rfl (hb hby d43_13) rfl ?_
 refine og_aloadN X13 hx rfl rfl (hb hby d43_15) rfl ?_
 refine og_virtual (pc' := 19) (cells' := 0) (slots' := 0) (W := 0) X13 hx hZ (rm_ail l Z a0 hw a2 cs hcs h0 n0 O F_coder_a2 S_CS) hown (ow341 hw) (ow342 hw) (own_nf hZ (ow344 hw)) (ow344 hw) (ow343 hw) (ow303 hw) (ow345 hw) (by decide) (by rw [hml]; rfl) e13 opd_24 [] [] rfl rfl rfl rfl (by decide) (by decide) rfl rfl (by decide) (by decide) E_a2 (hb hby d43_16) rfl (fun v14 T14 h14 L14 X14 e14 z14 => ?_)
 obtain ⟨rfl, Nq14, hq14⟩ := z14; replace e14 := e14.trans hq14; have N := Fr.app N Nq14
 refine og_if_eq (pc1 := 41) (pc2 := 22) X14 hx (hb hby d43_19) (by decide) (by decide) rfl (fun q => absurd q (by decide)) (fun _ => ?_)
 refine og_aloadN X14 hx rfl rfl (hb hby d43_22) rfl ?_
 refine og_iconst (v := 0) X14 hx rfl (hb hby d43_23) rfl ?_
 refine og_putfield X14 hx hZ (ty := .byte) (host := "") hown (Or.inl (ow31 hw)) Via.refl e14 F_coder_a1 E_a1 (Or.inr ⟨(ow32 hw), rfl, hnm⟩) (ow17 hw) (by decide) rfl rfl (hb hby d43_24) rfl (fun T15 h15 X15 e15 W15 => ?_)
 have F_coder_a1_ := F_coder_a1.same W15
 have E_a1 := E_a1.wr W15; have F_value_a1 := F_value_a1.other W15 (Or.inr (slot_ne (Or.inr (ow30 hw)) (Or.inr (ow32 hw)) (by decide) (t := (.array .byte)) (t' := .byte) (by decide) (by decide)))
 have E_bv := E_bv.wr W15; have V_bv := V_bv.other W15 ne_bv_a1; have O := O.wr W15 g_a1; have K := K.wr W15 (Or.inl (List.mem_of_getElem? (i := 0) rfl))
 have N := Fr.snoc X15 N g_a1; have F_coder_a1 := F_coder_a1_
 refine og_aloadN X15 hx rfl rfl (hb hby d43_27) rfl ?_
 refine og_aloadN X15 hx rfl rfl (hb hby d43_28) rfl ?_
 refine og_iconst (v := 0) X15 hx rfl (hb hby d43_29) rfl ?_
 refine og_iload X15 hx rfl (hb hby d43_30) rfl ?_
 refine og_static (pc' := 35) (cells' := 1) (slots' := 0) (W := 1) X15 hx hZ (rm_cpr_16_0 l Z a0 hw bv kb v0 v1 v2 v3 v4 v5 v6 v7 v8 v9 v10 v11 v12 v13 v14 v15 h15 n0 O V_bv E_bv) hown (ow346 hw) (ow347 hw) (ow348 hw) (ow349 hw) (by decide) (by rw [hml]; rfl) e15 opd_22 [(.ref bv), (.int 0), (.int 0)] [(.ref a1)] rfl rfl rfl rfl (by decide) (by decide) rfl rfl (by decide) (by decide) (hb hby d43_32) rfl (fun v16 T16 h16 L16 X16 e16 z16 => ?_)
 obtain ⟨nb16, k16, rfl, Nq16, K16, sb16, V_nb16, E_nb16⟩ := z16; have N := Fr.app N Nq16
 have s_nb16 : h15.size ≤ nb16 := sb16; have sz_nb16 : h0.size ≤ nb16 := Nat.le_trans K.1 s_nb16; have ne_a1_nb16 : a1 ≠ nb16 := Nat.ne_of_lt (Nat.lt_of_lt_of_le E_a1.lt s_nb16)
 have E_a1 := E_a1.keep K16; have F_value_a1 := F_value_a1.keep K16 nin0
 have F_coder_a1 := F_coder_a1.keep K16 nin0; have K := K.trans K16 all0
 refine og_putfield X16 hx hZ (ty := (.array .byte)) (host := "") hown (Or.inl (ow29 hw)) Via.refl e16 F_value_a1 E_a1 (Or.inr ⟨(ow30 hw), rfl, hnm⟩) (ow17 hw) (by decide) rfl rfl (hb hby d43_35) rfl (fun T17 h17 X17 e17 W17 => ?_)
 have F_value_a1_ := F_value_a1.same W17
 have E_a1 := E_a1.wr W17
 have F_coder_a1 := F_coder_a1.other W17 (Or.inr (slot_ne (Or.inr (ow32 hw)) (Or.inr (ow30 hw)) (by decide) (t := .byte) (t' := (.array .byte)) (by decide) (by decide))); have V_nb16 := V_nb16.other W17 (Ne.symm ne_a1_nb16); have K := K.wr W17 (Or.inl (List.mem_of_getElem? (i := 0) rfl))
 have N := Fr.snoc X17 N g_a1; have F_value_a1 := F_value_a1_
 refine og_goto (pc' := 97) X17 hx (hb hby d43_38) (by decide) (by decide) ?_
 refine og_retV X17 hx hlk hret (hb hby d43_97) (by decide) (by decide) ?_
 rw [e17]; exact ⟨_, _, rfl, N, K, sz_nb16, E_a1, F_value_a1, F_coder_a1, V_nb16⟩
theorem rm_svb_16_0 (l : Launch) (Z : State) (a0 : Array Value) (hw : HW a0 Z) (a1 a2 bv : Addr) (kb : ClassId) (v0 v1 v2 v3 v4 v5 v6 v7 v8 v9 v10 v11 v12 v13 v14 v15 : Int32) (cs : Int32) (hcs : ¬ cs = 0) (h0 : Heap) (n0 : Nat) (O : Old Z n0 h0) (E_a1 : Exa Z h0 a1 "java/lang/String") (F_value_a1 : Fld Z h0 a1 "java/lang/String" "value" "[B" .null) (F_coder_a1 : Fld Z h0 a1 "java/lang/String" "coder" "B" (.int 0)) (E_a2 : Exa Z h0 a2 "java/lang/StringBuilder") (F_value_a2 : Fld Z h0 a2 "java/lang/AbstractStringBuilder" "value" "[B" (.ref bv)) (F_coder_a2 : Fld Z h0 a2 "java/lang/AbstractStringBuilder" "coder" "B" (.int 0)) (F_count_a2 : Fld Z h0 a2 "java/lang/AbstractStringBuilder" "count" "I" (.int 0)) (E_bv : Exa Z h0 bv "[B") (V_bv : Arv Z h0 bv kb .byte (16 : Int32) [(.int v0), (.int v1), (.int v2), (.int v3), (.int v4), (.int v5), (.int v6), (.int v7), (.int v8), (.int v9), (.int v10), (.int v11), (.int v12), (.int v13), (.int v14), (.int v15)] (.int 0)) (S_CS : Sta Z Z.heap "java/lang/String" "COMPACT_STRINGS" "Z" (.int cs)) (g_a1 : n0 ≤ a1) (ne_a2_a1 : a2 ≠ a1) (ne_bv_a1 : bv ≠ a1) :
  Con l Z (⟨"java/lang/String", "<init>", "(Ljava/lang/StringBuilder;)V"⟩ : MethodName) jdk_42_method_53_code 2 none ({ frames := 4, cells := 1, slots := 0, locals := 65 } : Room) #[(.ref a1), (.ref a2)] h0 (fun v h L => ∃ b k, v = none ∧ Fr n0 L ∧ Keep h0 h [a1] ∧ h0.size ≤ b ∧ Exa Z h a1 "java/lang/String" ∧ Fld Z h a1 "java/lang/String" "value" "[B" (.ref b) ∧ Fld Z h a1 "java/lang/String" "coder" "B" (.int 0) ∧ Arv Z h b k .byte (0 : Int32) [] (.int 0)) := by
 refine own_startC opn_42 ?_
 intro p e s m below meth c T0 X0 hx hby hml hZ hown hnm hret hlk e0
 have N := Fr.nil n0; have K := Keep.refl h0 [a1]
 refine OG.cast (oef1 m a1 a2) ?_
 refine og_aloadN X0 hx rfl rfl (hb hby d42_0) rfl ?_
 refine og_aloadN X0 hx rfl rfl (hb hby d42_1) rfl ?_
 refine og_aconst_null X0 hx (hb hby d42_2) rfl ?_
 refine og_special (pc' := 6) (cells' := 1) (slots' := 0) (W := 0) X0 hx hZ (rm_sva_16_0 l Z a0 hw a1 a2 bv kb v0 v1 v2 v3 v4 v5 v6 v7 v8 v9 v10 v11 v12 v13 v14 v15 cs hcs h0 n0 O E_a1 F_value_a1 F_coder_a1 E_a2 F_value_a2 F_coder_a2 F_count_a2 E_bv V_bv S_CS g_a1 ne_a2_a1 ne_bv_a1) rfl hown (ow322 hw) (ow323 hw) (ow9 hw) (ow324 hw) (by decide) (by rw [hml]; rfl) e0 opd_25 [(.ref a2), .null] [] rfl rfl rfl rfl (by decide) (by decide) rfl rfl (by decide) (by decide) (hb hby d42_3) rfl (fun v11 T11 h11 L11 X11 e11 z11 => ?_)
 obtain ⟨nb11, k11, rfl, Nq11, K11, sb11, E_a1', F_value_a1', F_coder_a1', V_nb11⟩ := z11; have N := Fr.app N Nq11
 have s_nb11 : h0.size ≤ nb11 := sb11; have sz_nb11 : h0.size ≤ nb11 := Nat.le_trans K.1 s_nb11
 have K := K.trans K11 (allS (Or.inl (List.mem_of_getElem? (i := 0) rfl)) all0)
 have E_a1 := E_a1'; have F_value_a1 := F_value_a1'; have F_coder_a1 := F_coder_a1'
 refine og_retV X11 hx hlk hret (hb hby d42_6) (by decide) (by decide) ?_
 rw [e11]; exact ⟨_, _, rfl, N, K, sz_nb11, E_a1, F_value_a1, F_coder_a1, V_nb11⟩
theorem rm_tos_16_0 (l : Launch) (Z : State) (a0 : Array Value) (hw : HW a0 Z) (a1 bv : Addr) (kb : ClassId) (v0 v1 v2 v3 v4 v5 v6 v7 v8 v9 v10 v11 v12 v13 v14 v15 : Int32) (cs : Int32) (hcs : ¬ cs = 0) (h0 : Heap) (n0 : Nat) (O : Old Z n0 h0) (E_a1 : Exa Z h0 a1 "java/lang/StringBuilder") (F_value_a1 : Fld Z h0 a1 "java/lang/AbstractStringBuilder" "value" "[B" (.ref bv)) (F_coder_a1 : Fld Z h0 a1 "java/lang/AbstractStringBuilder" "coder" "B" (.int 0)) (F_count_a1 : Fld Z h0 a1 "java/lang/AbstractStringBuilder" "count" "I" (.int 0)) (E_bv : Exa Z h0 bv "[B") (V_bv : Arv Z h0 bv kb .byte (16 : Int32) [(.int v0), (.int v1), (.int v2), (.int v3), (.int v4), (.int v5), (.int v6), (.int v7), (.int v8), (.int v9), (.int v10), (.int v11), (.int v12), (.int v13), (.int v14), (.int v15)] (.int 0)) (S_CS : Sta Z Z.heap "java/lang/String" "COMPACT_STRINGS" "Z" (.int cs)) :
  Con l Z (⟨"java/lang/StringBuilder", "toString", "()Ljava/lang/String;"⟩ : MethodName) jdk_67_method_42_code 1 (some (.object "java/lang/String")) ({ frames := 5, cells := 2, slots := 4, locals := 79 } : Room) #[(.ref a1)] h0 (fun v h L => ∃ a b k, v = some (.ref a) ∧ Fr n0 L ∧ Keep h0 h [] ∧ h0.size ≤ a ∧ h0.size ≤ b ∧ Exa Z h a "java/lang/String" ∧ Fld Z h a "java/lang/String" "value" "[B" (.ref b) ∧ Fld Z h a "java/lang/String" "coder" "B" (.int 0) ∧ Arv Z h b k .byte (0 : Int32) [] (.int 0)) := by
 refine own_startC opn_41 ?_
 intro p e s m below meth c T0 X0 hx hby hml hZ hown hnm hret hlk e0
 have N := Fr.nil n0; have K := Keep.refl h0 []
 refine OG.cast (oef0 m a1) ?_
 refine og_new (pc' := 3) (cells' := 1) (slots' := 4) X0 hx hZ hown (ow318 hw) (ow17 hw) (ow9 hw) e0 (hb hby d41_0) rfl rfl rfl (by decide) (by decide) (fun T11 h11 nb11 X11 e11 E11 q11 E_nb11 D11 B11 => ?_)
 have s_nb11 : h0.size ≤ nb11 := Nat.le_of_eq q11.symm; have g_nb11 : n0 ≤ nb11 := Nat.le_trans (own_n0 O) s_nb11; have sz_nb11 : h0.size ≤ nb11 := Nat.le_trans K.1 s_nb11; have ne_a1_nb11 : a1 ≠ nb11 := Nat.ne_of_lt (Nat.lt_of_lt_of_le E_a1.lt s_nb11); have ne_bv_nb11 : bv ≠ nb11 := Nat.ne_of_lt (Nat.lt_of_lt_of_le E_bv.lt s_nb11)
 have E_a1 := E_a1.ext E11; have F_value_a1 := F_value_a1.ext E11; have F_coder_a1 := F_coder_a1.ext E11; have F_count_a1 := F_count_a1.ext E11; have E_bv := E_bv.ext E11; have V_bv := V_bv.ext E11
 have O := O.ext E11; have K := K.ext E11
 have F_value_nb11 : Fld Z h11 nb11 "java/lang/String" "value" "[B" .null := D11 (Or.inr (ow30 hw)) (ty := (.array .byte)) (by decide)
 have F_coder_nb11 : Fld Z h11 nb11 "java/lang/String" "coder" "B" (.int 0) := D11 (Or.inr (ow32 hw)) (ty := .byte) (by decide)
 refine og_dup X11 hx rfl (hb hby d41_3) rfl ?_
 refine og_aloadN X11 hx rfl rfl (hb hby d41_4) rfl ?_
 refine og_special (pc' := 8) (cells' := 2) (slots' := 4) (W := 1) X11 hx hZ (rm_svb_16_0 l Z a0 hw nb11 a1 bv kb v0 v1 v2 v3 v4 v5 v6 v7 v8 v9 v10 v11 v12 v13 v14 v15 cs hcs h11 n0 O E_nb11 F_value_nb11 F_coder_nb11 E_a1 F_value_a1 F_coder_a1 F_count_a1 E_bv V_bv S_CS g_nb11 ne_a1_nb11 ne_bv_nb11) rfl hown (ow319 hw) (ow320 hw) (ow9 hw) (ow321 hw) (by decide) (by rw [hml]; rfl) e11 opd_26 [(.ref a1)] [(.ref nb11)] rfl rfl rfl rfl (by decide) (by decide) rfl rfl (by decide) (by decide) (hb hby d41_5) rfl (fun v12 T12 h12 L12 X12 e12 z12 => ?_)
 obtain ⟨nb12, k12, rfl, Nq12, K12, sb12, E_nb11', F_value_nb11', F_coder_nb11', V_nb12⟩ := z12; have N := Fr.app N Nq12
 have s_nb12 : h11.size ≤ nb12 := sb12; have sz_nb12 : h0.size ≤ nb12 := Nat.le_trans K.1 s_nb12
 have K := K.trans K12 (allS (Or.inr sz_nb11) all0)
 have E_nb11 := E_nb11'; have F_value_nb11 := F_value_nb11'; have F_coder_nb11 := F_coder_nb11'
 refine og_retR X12 hx hlk hret rfl rfl rfl (hb hby d41_8) (by decide) (by decide) ?_
 rw [e12]; exact ⟨_, _, _, rfl, N, K, sz_nb11, sz_nb12, E_nb11, F_value_nb11, F_coder_nb11, V_nb12⟩
theorem rm_min_16_1 (l : Launch) (Z : State) (a0 : Array Value) (hw : HW a0 Z)  (h0 : Heap) (n0 : Nat) (O : Old Z n0 h0) :
  Con l Z (⟨"java/lang/Math", "min", "(II)I"⟩ : MethodName) jdk_29_method_69_code 2 (some .int) ({ frames := 0, cells := 0, slots := 0, locals := 0 } : Room) #[(.int 16), (.int 1)] h0 (fun v h L => v = some (.int 1) ∧ Fr n0 L ∧ h = h0) := by
 refine own_startC opn_51 ?_
 intro p e s m below meth c T0 X0 hx hby hml hZ hown hnm hret hlk e0
 have N := Fr.nil n0
 refine OG.cast (oef5 m (16 : Int32) (1 : Int32)) ?_
 refine og_iloadN X0 hx rfl (hb hby d51_0) rfl ?_
 refine og_iloadN X0 hx rfl (hb hby d51_1) rfl ?_
 refine og_icmp_gt (pc1 := 9) (pc2 := 5) X0 hx (hb hby d51_2) (by decide) (by decide) rfl (fun _ => ?_) (fun q => absurd q (by decide))
 refine og_iloadN X0 hx rfl (hb hby d51_9) rfl ?_
 refine og_retI X0 hx hlk hret (hb hby d51_10) (by decide) (by decide) ?_
 rw [e0]; exact ⟨rfl, N, rfl⟩
theorem rm_chl_1 (l : Launch) (Z : State) (a0 : Array Value) (hw : HW a0 Z)  (h0 : Heap) (n0 : Nat) (O : Old Z n0 h0) :
  Con l Z (⟨"java/util/Arrays", "checkLength", "(II)V"⟩ : MethodName) jdk_65_method_131_code 2 none ({ frames := 0, cells := 0, slots := 0, locals := 0 } : Room) #[(.int 0), (.int 1)] h0 (fun v h L => v = none ∧ Fr n0 L ∧ h = h0) := by
 refine own_startC opn_50 ?_
 intro p e s m below meth c T0 X0 hx hby hml hZ hown hnm hret hlk e0
 have N := Fr.nil n0
 refine OG.cast (oef5 m (0 : Int32) (1 : Int32)) ?_
 refine og_iloadN X0 hx rfl (hb hby d50_0) rfl ?_
 refine og_iloadN X0 hx rfl (hb hby d50_1) rfl ?_
 refine og_icmp_ge (pc1 := 37) (pc2 := 5) X0 hx (hb hby d50_2) (by decide) (by decide) rfl (fun _ => ?_) (fun q => absurd q (by decide))
 refine og_retV X0 hx hlk hret (hb hby d50_37) (by decide) (by decide) ?_
 rw [e0]; exact ⟨rfl, N, rfl⟩
theorem rm_crb_16_1 (l : Launch) (Z : State) (a0 : Array Value) (hw : HW a0 Z) (ba : Addr) (kb : ClassId) (v0 v1 v2 v3 v4 v5 v6 v7 v8 v9 v10 v11 v12 v13 v14 v15 : Int32) (h0 : Heap) (n0 : Nat) (O : Old Z n0 h0) (V_ba : Arv Z h0 ba kb .byte (16 : Int32) [(.int v0), (.int v1), (.int v2), (.int v3), (.int v4), (.int v5), (.int v6), (.int v7), (.int v8), (.int v9), (.int v10), (.int v11), (.int v12), (.int v13), (.int v14), (.int v15)] (.int 0)) :
  Con l Z (⟨"java/util/Arrays", "copyOfRangeByte", "([BII)[B"⟩ : MethodName) jdk_65_method_133_code 5 (some (.array .byte)) ({ frames := 1, cells := 1, slots := 1, locals := 18 } : Room) #[(.ref ba), (.int 0), (.int 1)] h0 (fun v h L => ∃ b k, v = some (.ref b) ∧ Fr n0 L ∧ Keep h0 h [] ∧ h0.size ≤ b ∧ Arv Z h b k .byte (1 : Int32) [(.int v0)] (.int 0) ∧ Exa Z h b "[B") := by
 refine own_startC opn_49 ?_
 intro p e s m below meth c T0 X0 hx hby hml hZ hown hnm hret hlk e0
 have N := Fr.nil n0; have K := Keep.refl h0 []
 refine OG.cast (oef15 m ba (0 : Int32) (1 : Int32)) ?_
 refine og_iloadN X0 hx rfl (hb hby d49_0) rfl ?_
 refine og_iloadN X0 hx rfl (hb hby d49_1) rfl ?_
 refine og_static (pc' := 5) (cells' := 0) (slots' := 0) (W := 0) X0 hx hZ (rm_chl_1 l Z a0 hw h0 n0 O) hown (ow353 hw) (ow354 hw) (ow348 hw) (ow355 hw) (by decide) (by rw [hml]; rfl) e0 opd_21 [(.int 0), (.int 1)] [] rfl rfl rfl rfl (by decide) (by decide) rfl rfl (by decide) (by decide) (hb hby d49_2) rfl (fun v11 T11 h11 L11 X11 e11 z11 => ?_)
 obtain ⟨rfl, Nq11, hq11⟩ := z11; replace e11 := e11.trans hq11; have N := Fr.app N Nq11
 refine og_iloadN X11 hx rfl (hb hby d49_5) rfl ?_
 refine og_iloadN X11 hx rfl (hb hby d49_6) rfl ?_
 refine og_isub X11 hx (hb hby d49_7) rfl ?_
 show OG p e below _ (T11.setTop (mkF m 8 #[.val (.ref ba), .val (.int 0), .val (.int 1), .unset, .unset] [(.int 1)]))
 refine og_istoreN (L' := #[.val (.ref ba), .val (.int 0), .val (.int 1), .val (.int 1), .unset]) X11 hx rfl (hb hby d49_8) rfl ?_
 refine og_iloadN X11 hx rfl (hb hby d49_9) rfl ?_
 refine og_newarrayE (pc' := 12) (cells' := 1) (slots' := 1) (cap := 1) (ty := .byte) X11 hx hZ rfl (ow21 hw) e11 (by decide) (by decide) (by decide) rfl (hb hby d49_10) rfl rfl rfl (by decide) (by decide) (fun T12 h12 nb12 kA12 X12 e12 E12 q12 V_nb12 E_nb12 => ?_)
 have s_nb12 : h0.size ≤ nb12 := Nat.le_of_eq q12.symm; have g_nb12 : n0 ≤ nb12 := Nat.le_trans (own_n0 O) s_nb12; have sz_nb12 : h0.size ≤ nb12 := Nat.le_trans K.1 s_nb12
 have V_ba := V_ba.ext E12; have O := O.ext E12; have K := K.ext E12
 have V_nb12 : Arv Z h12 nb12 kA12 .byte (1 : Int32) [(.int 0)] (.int 0) := V_nb12.pad (pad_rep [] (.int 0) 1)
 refine og_astore (L' := #[.val (.ref ba), .val (.int 0), .val (.int 1), .val (.int 1), .val (.ref nb12)]) X12 hx rfl rfl (hb hby d49_12) rfl ?_
 refine og_aloadN X12 hx rfl rfl (hb hby d49_14) rfl ?_
 refine og_iloadN X12 hx rfl (hb hby d49_15) rfl ?_
 refine og_aload X12 hx rfl rfl (hb hby d49_16) rfl ?_
 refine og_iconst (v := 0) X12 hx rfl (hb hby d49_18) rfl ?_
 refine og_aloadN X12 hx rfl rfl (hb hby d49_19) rfl ?_
 refine og_arraylength X12 hx hZ e12 V_ba (hb hby d49_20) rfl ?_
 refine og_iloadN X12 hx rfl (hb hby d49_21) rfl ?_
 refine og_isub X12 hx (hb hby d49_22) rfl ?_
 show OG p e below _ (T12.setTop (mkF m 23 #[.val (.ref ba), .val (.int 0), .val (.int 1), .val (.int 1), .val (.ref nb12)] [(.int 16), (.int 0), (.ref nb12), (.int 0), (.ref ba)]))
 refine og_iloadN X12 hx rfl (hb hby d49_23) rfl ?_
 refine og_static (pc' := 27) (cells' := 1) (slots' := 1) (W := 4) X12 hx hZ (rm_min_16_1 l Z a0 hw h12 n0 O) hown (ow356 hw) (ow357 hw) (ow140 hw) (ow358 hw) (by decide) (by rw [hml]; rfl) e12 opd_5 [(.int 16), (.int 1)] [(.int 0), (.ref nb12), (.int 0), (.ref ba)] rfl rfl rfl rfl (by decide) (by decide) rfl rfl (by decide) (by decide) (hb hby d49_24) rfl (fun v13 T13 h13 L13 X13 e13 z13 => ?_)
 obtain ⟨rfl, Nq13, hq13⟩ := z13; replace e13 := e13.trans hq13; have N := Fr.app N Nq13
 refine og_arraycopy (pc' := 30) (W := 0) (us := [(.int v0)]) X13 hx hZ (by rw [hml]; rfl) hown (ow359 hw) (ow362 hw) (ow360 hw) (ow361 hw) e13 V_ba V_nb12 rfl (by decide) (by decide) (by decide) (by decide) (by decide) rfl (Nat.le_of_ble_eq_true rfl) N g_nb12 rfl (by decide) (by decide) (hb hby d49_27) rfl (fun T14 h14 l14 X14 e14 N K14 V14 => ?_)
 have E_nb12 := E_nb12.keep K14; have K := K.trans K14 (allS (Or.inr sz_nb12) all0)
 have V_nb12 : Arv Z h14 nb12 kA12 .byte (1 : Int32) [(.int v0)] (.int 0) := V14
 refine og_aload X14 hx rfl rfl (hb hby d49_30) rfl ?_
 refine og_retR X14 hx hlk hret rfl rfl rfl (hb hby d49_32) (by decide) (by decide) ?_
 rw [e14]; exact ⟨_, _, rfl, N, K, sz_nb12, V_nb12, E_nb12⟩
theorem rm_cpr_16_1 (l : Launch) (Z : State) (a0 : Array Value) (hw : HW a0 Z) (ba : Addr) (kb : ClassId) (v0 v1 v2 v3 v4 v5 v6 v7 v8 v9 v10 v11 v12 v13 v14 v15 : Int32) (h0 : Heap) (n0 : Nat) (O : Old Z n0 h0) (V_ba : Arv Z h0 ba kb .byte (16 : Int32) [(.int v0), (.int v1), (.int v2), (.int v3), (.int v4), (.int v5), (.int v6), (.int v7), (.int v8), (.int v9), (.int v10), (.int v11), (.int v12), (.int v13), (.int v14), (.int v15)] (.int 0)) (E_ba : Exa Z h0 ba "[B") :
  Con l Z (⟨"java/util/Arrays", "copyOfRange", "([BII)[B"⟩ : MethodName) jdk_65_method_132_code 3 (some (.array .byte)) ({ frames := 2, cells := 1, slots := 1, locals := 34 } : Room) #[(.ref ba), (.int 0), (.int 1)] h0 (fun v h L => ∃ b k, v = some (.ref b) ∧ Fr n0 L ∧ Keep h0 h [] ∧ h0.size ≤ b ∧ Arv Z h b k .byte (1 : Int32) [(.int v0)] (.int 0) ∧ Exa Z h b "[B") := by
 refine own_startC opn_48 ?_
 intro p e s m below meth c T0 X0 hx hby hml hZ hown hnm hret hlk e0
 have N := Fr.nil n0; have K := Keep.refl h0 []
 refine OG.cast (oef16 m ba (0 : Int32) (1 : Int32)) ?_
 refine og_iloadN X0 hx rfl (hb hby d48_0) rfl ?_
 refine og_if_ne (pc1 := 10) (pc2 := 4) X0 hx (hb hby d48_1) (by decide) (by decide) rfl (fun q => absurd q (by decide)) (fun _ => ?_)
 refine og_iloadN X0 hx rfl (hb hby d48_4) rfl ?_
 refine og_aloadN X0 hx rfl rfl (hb hby d48_5) rfl ?_
 refine og_arraylength X0 hx hZ e0 V_ba (hb hby d48_6) rfl ?_
 refine og_icmp_eq (pc1 := 17) (pc2 := 10) X0 hx (hb hby d48_7) (by decide) (by decide) rfl (fun q => absurd q (by decide)) (fun _ => ?_)
 refine og_aloadN X0 hx rfl rfl (hb hby d48_10) rfl ?_
 refine og_iloadN X0 hx rfl (hb hby d48_11) rfl ?_
 refine og_iloadN X0 hx rfl (hb hby d48_12) rfl ?_
 refine og_static (pc' := 16) (cells' := 1) (slots' := 1) (W := 0) X0 hx hZ (rm_crb_16_1 l Z a0 hw ba kb v0 v1 v2 v3 v4 v5 v6 v7 v8 v9 v10 v11 v12 v13 v14 v15 h0 n0 O V_ba) hown (ow350 hw) (ow351 hw) (ow348 hw) (ow352 hw) (by decide) (by rw [hml]; rfl) e0 opd_22 [(.ref ba), (.int 0), (.int 1)] [] rfl rfl rfl rfl (by decide) (by decide) rfl rfl (by decide) (by decide) (hb hby d48_13) rfl (fun v11 T11 h11 L11 X11 e11 z11 => ?_)
 obtain ⟨nb11, k11, rfl, Nq11, K11, sb11, V_nb11, E_nb11⟩ := z11; have N := Fr.app N Nq11
 have s_nb11 : h0.size ≤ nb11 := sb11; have sz_nb11 : h0.size ≤ nb11 := Nat.le_trans K.1 s_nb11
 have K := K.trans K11 all0
 refine og_retR X11 hx hlk hret rfl rfl rfl (hb hby d48_16) (by decide) (by decide) ?_
 rw [e11]; exact ⟨_, _, rfl, N, K, sz_nb11, V_nb11, E_nb11⟩
theorem rm_sva_16_1 (l : Launch) (Z : State) (a0 : Array Value) (hw : HW a0 Z) (a1 a2 bv : Addr) (kb : ClassId) (v0 v1 v2 v3 v4 v5 v6 v7 v8 v9 v10 v11 v12 v13 v14 v15 : Int32) (cs : Int32) (hcs : ¬ cs = 0) (h0 : Heap) (n0 : Nat) (O : Old Z n0 h0) (E_a1 : Exa Z h0 a1 "java/lang/String") (F_value_a1 : Fld Z h0 a1 "java/lang/String" "value" "[B" .null) (F_coder_a1 : Fld Z h0 a1 "java/lang/String" "coder" "B" (.int 0)) (E_a2 : Exa Z h0 a2 "java/lang/StringBuilder") (F_value_a2 : Fld Z h0 a2 "java/lang/AbstractStringBuilder" "value" "[B" (.ref bv)) (F_coder_a2 : Fld Z h0 a2 "java/lang/AbstractStringBuilder" "coder" "B" (.int 0)) (F_count_a2 : Fld Z h0 a2 "java/lang/AbstractStringBuilder" "count" "I" (.int 1)) (E_bv : Exa Z h0 bv "[B") (V_bv : Arv Z h0 bv kb .byte (16 : Int32) [(.int v0), (.int v1), (.int v2), (.int v3), (.int v4), (.int v5), (.int v6), (.int v7), (.int v8), (.int v9), (.int v10), (.int v11), (.int v12), (.int v13), (.int v14), (.int v15)] (.int 0)) (S_CS : Sta Z Z.heap "java/lang/String" "COMPACT_STRINGS" "Z" (.int cs)) (g_a1 : n0 ≤ a1) (ne_a2_a1 : a2 ≠ a1) (ne_bv_a1 : bv ≠ a1) :
  Con l Z (⟨"java/lang/String", "<init>", "(Ljava/lang/AbstractStringBuilder;Ljava/lang/Void;)V"⟩ : MethodName) jdk_42_method_150_code 5 none ({ frames := 3, cells := 1, slots := 1, locals := 49 } : Room) #[(.ref a1), (.ref a2), .null] h0 (fun v h L => ∃ b k, v = none ∧ Fr n0 L ∧ Keep h0 h [a1] ∧ h0.size ≤ b ∧ Exa Z h a1 "java/lang/String" ∧ Fld Z h a1 "java/lang/String" "value" "[B" (.ref b) ∧ Fld Z h a1 "java/lang/String" "coder" "B" (.int 0) ∧ Arv Z h b k .byte (1 : Int32) [(.int v0)] (.int 0)) := by
 refine own_startC opn_43 ?_
 intro p e s m below meth c T0 X0 hx hby hml hZ hown hnm hret hlk e0
 have N := Fr.nil n0; have K := Keep.refl h0 [a1]
 refine OG.cast (oef17 m a1 a2) ?_
 refine og_aloadN X0 hx rfl rfl (hb hby d43_0) rfl ?_
 refine og_initO (pc' := 4) X0 hx hZ (W := 0) (by rw [hml]; rfl) hown (ow26 hw) (ow27 hw) (ow28 hw) e0 rfl (by decide) (by decide) (hb hby d43_1) rfl (fun T11 X11 e11 => ?_)
 refine og_aloadN X11 hx rfl rfl (hb hby d43_4) rfl ?_
 refine og_virtual (pc' := 8) (cells' := 0) (slots' := 0) (W := 0) X11 hx hZ (rm_gv l Z a0 hw a2 bv h0 n0 O F_value_a2) hown (ow325 hw) (ow326 hw) (own_nf hZ (ow328 hw)) (ow328 hw) (ow327 hw) (ow303 hw) (ow329 hw) (by decide) (by rw [hml]; rfl) e11 opd_23 [] [] rfl rfl rfl rfl (by decide) (by decide) rfl rfl (by decide) (by decide) E_a2 (hb hby d43_5) rfl (fun v12 T12 h12 L12 X12 e12 z12 => ?_)
 obtain ⟨rfl, Nq12, hq12⟩ := z12; replace e12 := e12.trans hq12; have N := Fr.app N Nq12
 refine og_astoreN (L' := #[.val (.ref a1), .val (.ref a2), .val .null, .val (.ref bv), .unset]) X12 hx rfl rfl (hb hby d43_8) rfl ?_
 refine og_aloadN X12 hx rfl rfl (hb hby d43_9) rfl ?_
 refine og_virtual (pc' := 13) (cells' := 0) (slots' := 0) (W := 0) X12 hx hZ (rm_sl l Z a0 hw a2 (1 : Int32) h0 n0 O E_a2 F_count_a2) hown (ow330 hw) (ow331 hw) (own_nfc (Z := s) (a0 := #[]) (mvT hZ (ow326 hw)) (mvT hZ (ow328 hw)) rfl) (ow333 hw) (ow334 hw) (ow295 hw) (ow335 hw) (by decide) (by rw [hml]; rfl) e12 opd_14 [] [] rfl rfl rfl rfl (by decide) (by decide) rfl rfl (by decide) (by decide) E_a2 (hb hby d43_10) rfl (fun v13 T13 h13 L13 X13 e13 z13 => ?_)
 obtain ⟨rfl, Nq13, hq13⟩ := z13; replace e13 := e13.trans hq13; have N := Fr.app N Nq13
 refine og_istore (L' := #[.val (.ref a1), .val (.ref a2), .val .null, .val (.ref bv), .val (.int 1)]) X13 hx rfl (hb hby d43_13) rfl ?_
 refine og_aloadN X13 hx rfl rfl (hb hby d43_15) rfl ?_
 refine og_virtual (pc' := 19) (cells' := 0) (slots' := 0) (W := 0) X13 hx hZ (rm_ail l Z a0 hw a2 cs hcs h0 n0 O F_coder_a2 S_CS) hown (ow341 hw) (ow342 hw) (own_nf hZ (ow344 hw)) (ow344 hw) (ow343 hw) (ow303 hw) (ow345 hw) (by decide) (by rw [hml]; rfl) e13 opd_24 [] [] rfl rfl rfl rfl (by decide) (by decide) rfl rfl (by decide) (by decide) E_a2 (hb hby d43_16) rfl (fun v14 T14 h14 L14 X14 e14 z14 => ?_)
 obtain ⟨rfl, Nq14, hq14⟩ := z14; replace e14 := e14.trans hq14; have N := Fr.app N Nq14
 refine og_if_eq (pc1 := 41) (pc2 := 22) X14 hx (hb hby d43_19) (by decide) (by decide) rfl (fun q => absurd q (by decide)) (fun _ => ?_)
 refine og_aloadN X14 hx rfl rfl (hb hby d43_22) rfl ?_
 refine og_iconst (v := 0) X14 hx rfl (hb hby d43_23) rfl ?_
 refine og_putfield X14 hx hZ (ty := .byte) (host := "") hown (Or.inl (ow31 hw)) Via.refl e14 F_coder_a1 E_a1 (Or.inr ⟨(ow32 hw), rfl, hnm⟩) (ow17 hw) (by decide) rfl rfl (hb hby d43_24) rfl (fun T15 h15 X15 e15 W15 => ?_)
 have F_coder_a1_ := F_coder_a1.same W15
 have E_a1 := E_a1.wr W15; have F_value_a1 := F_value_a1.other W15 (Or.inr (slot_ne (Or.inr (ow30 hw)) (Or.inr (ow32 hw)) (by decide) (t := (.array .byte)) (t' := .byte) (by decide) (by decide)))
 have E_bv := E_bv.wr W15; have V_bv := V_bv.other W15 ne_bv_a1; have O := O.wr W15 g_a1; have K := K.wr W15 (Or.inl (List.mem_of_getElem? (i := 0) rfl))
 have N := Fr.snoc X15 N g_a1; have F_coder_a1 := F_coder_a1_
 refine og_aloadN X15 hx rfl rfl (hb hby d43_27) rfl ?_
 refine og_aloadN X15 hx rfl rfl (hb hby d43_28) rfl ?_
 refine og_iconst (v := 0) X15 hx rfl (hb hby d43_29) rfl ?_
 refine og_iload X15 hx rfl (hb hby d43_30) rfl ?_
 refine og_static (pc' := 35) (cells' := 1) (slots' := 1) (W := 1) X15 hx hZ (rm_cpr_16_1 l Z a0 hw bv kb v0 v1 v2 v3 v4 v5 v6 v7 v8 v9 v10 v11 v12 v13 v14 v15 h15 n0 O V_bv E_bv) hown (ow346 hw) (ow347 hw) (ow348 hw) (ow349 hw) (by decide) (by rw [hml]; rfl) e15 opd_22 [(.ref bv), (.int 0), (.int 1)] [(.ref a1)] rfl rfl rfl rfl (by decide) (by decide) rfl rfl (by decide) (by decide) (hb hby d43_32) rfl (fun v16 T16 h16 L16 X16 e16 z16 => ?_)
 obtain ⟨nb16, k16, rfl, Nq16, K16, sb16, V_nb16, E_nb16⟩ := z16; have N := Fr.app N Nq16
 have s_nb16 : h15.size ≤ nb16 := sb16; have sz_nb16 : h0.size ≤ nb16 := Nat.le_trans K.1 s_nb16; have ne_a1_nb16 : a1 ≠ nb16 := Nat.ne_of_lt (Nat.lt_of_lt_of_le E_a1.lt s_nb16)
 have E_a1 := E_a1.keep K16; have F_value_a1 := F_value_a1.keep K16 nin0
 have F_coder_a1 := F_coder_a1.keep K16 nin0; have K := K.trans K16 all0
 refine og_putfield X16 hx hZ (ty := (.array .byte)) (host := "") hown (Or.inl (ow29 hw)) Via.refl e16 F_value_a1 E_a1 (Or.inr ⟨(ow30 hw), rfl, hnm⟩) (ow17 hw) (by decide) rfl rfl (hb hby d43_35) rfl (fun T17 h17 X17 e17 W17 => ?_)
 have F_value_a1_ := F_value_a1.same W17
 have E_a1 := E_a1.wr W17
 have F_coder_a1 := F_coder_a1.other W17 (Or.inr (slot_ne (Or.inr (ow32 hw)) (Or.inr (ow30 hw)) (by decide) (t := .byte) (t' := (.array .byte)) (by decide) (by decide))); have V_nb16 := V_nb16.other W17 (Ne.symm ne_a1_nb16); have K := K.wr W17 (Or.inl (List.mem_of_getElem? (i := 0) rfl))
 have N := Fr.snoc X17 N g_a1; have F_value_a1 := F_value_a1_
 refine og_goto (pc' := 97) X17 hx (hb hby d43_38) (by decide) (by decide) ?_
 refine og_retV X17 hx hlk hret (hb hby d43_97) (by decide) (by decide) ?_
 rw [e17]; exact ⟨_, _, rfl, N, K, sz_nb16, E_a1, F_value_a1, F_coder_a1, V_nb16⟩
theorem rm_svb_16_1 (l : Launch) (Z : State) (a0 : Array Value) (hw : HW a0 Z) (a1 a2 bv : Addr) (kb : ClassId) (v0 v1 v2 v3 v4 v5 v6 v7 v8 v9 v10 v11 v12 v13 v14 v15 : Int32) (cs : Int32) (hcs : ¬ cs = 0) (h0 : Heap) (n0 : Nat) (O : Old Z n0 h0) (E_a1 : Exa Z h0 a1 "java/lang/String") (F_value_a1 : Fld Z h0 a1 "java/lang/String" "value" "[B" .null) (F_coder_a1 : Fld Z h0 a1 "java/lang/String" "coder" "B" (.int 0)) (E_a2 : Exa Z h0 a2 "java/lang/StringBuilder") (F_value_a2 : Fld Z h0 a2 "java/lang/AbstractStringBuilder" "value" "[B" (.ref bv)) (F_coder_a2 : Fld Z h0 a2 "java/lang/AbstractStringBuilder" "coder" "B" (.int 0)) (F_count_a2 : Fld Z h0 a2 "java/lang/AbstractStringBuilder" "count" "I" (.int 1)) (E_bv : Exa Z h0 bv "[B") (V_bv : Arv Z h0 bv kb .byte (16 : Int32) [(.int v0), (.int v1), (.int v2), (.int v3), (.int v4), (.int v5), (.int v6), (.int v7), (.int v8), (.int v9), (.int v10), (.int v11), (.int v12), (.int v13), (.int v14), (.int v15)] (.int 0)) (S_CS : Sta Z Z.heap "java/lang/String" "COMPACT_STRINGS" "Z" (.int cs)) (g_a1 : n0 ≤ a1) (ne_a2_a1 : a2 ≠ a1) (ne_bv_a1 : bv ≠ a1) :
  Con l Z (⟨"java/lang/String", "<init>", "(Ljava/lang/StringBuilder;)V"⟩ : MethodName) jdk_42_method_53_code 2 none ({ frames := 4, cells := 1, slots := 1, locals := 65 } : Room) #[(.ref a1), (.ref a2)] h0 (fun v h L => ∃ b k, v = none ∧ Fr n0 L ∧ Keep h0 h [a1] ∧ h0.size ≤ b ∧ Exa Z h a1 "java/lang/String" ∧ Fld Z h a1 "java/lang/String" "value" "[B" (.ref b) ∧ Fld Z h a1 "java/lang/String" "coder" "B" (.int 0) ∧ Arv Z h b k .byte (1 : Int32) [(.int v0)] (.int 0)) := by
 refine own_startC opn_42 ?_
 intro p e s m below meth c T0 X0 hx hby hml hZ hown hnm hret hlk e0
 have N := Fr.nil n0; have K := Keep.refl h0 [a1]
 refine OG.cast (oef1 m a1 a2) ?_
 refine og_aloadN X0 hx rfl rfl (hb hby d42_0) rfl ?_
 refine og_aloadN X0 hx rfl rfl (hb hby d42_1) rfl ?_
 refine og_aconst_null X0 hx (hb hby d42_2) rfl ?_
 refine og_special (pc' := 6) (cells' := 1) (slots' := 1) (W := 0) X0 hx hZ (rm_sva_16_1 l Z a0 hw a1 a2 bv kb v0 v1 v2 v3 v4 v5 v6 v7 v8 v9 v10 v11 v12 v13 v14 v15 cs hcs h0 n0 O E_a1 F_value_a1 F_coder_a1 E_a2 F_value_a2 F_coder_a2 F_count_a2 E_bv V_bv S_CS g_a1 ne_a2_a1 ne_bv_a1) rfl hown (ow322 hw) (ow323 hw) (ow9 hw) (ow324 hw) (by decide) (by rw [hml]; rfl) e0 opd_25 [(.ref a2), .null] [] rfl rfl rfl rfl (by decide) (by decide) rfl rfl (by decide) (by decide) (hb hby d42_3) rfl (fun v11 T11 h11 L11 X11 e11 z11 => ?_)
 obtain ⟨nb11, k11, rfl, Nq11, K11, sb11, E_a1', F_value_a1', F_coder_a1', V_nb11⟩ := z11; have N := Fr.app N Nq11
 have s_nb11 : h0.size ≤ nb11 := sb11; have sz_nb11 : h0.size ≤ nb11 := Nat.le_trans K.1 s_nb11
 have K := K.trans K11 (allS (Or.inl (List.mem_of_getElem? (i := 0) rfl)) all0)
 have E_a1 := E_a1'; have F_value_a1 := F_value_a1'; have F_coder_a1 := F_coder_a1'
 refine og_retV X11 hx hlk hret (hb hby d42_6) (by decide) (by decide) ?_
 rw [e11]; exact ⟨_, _, rfl, N, K, sz_nb11, E_a1, F_value_a1, F_coder_a1, V_nb11⟩
theorem rm_tos_16_1 (l : Launch) (Z : State) (a0 : Array Value) (hw : HW a0 Z) (a1 bv : Addr) (kb : ClassId) (v0 v1 v2 v3 v4 v5 v6 v7 v8 v9 v10 v11 v12 v13 v14 v15 : Int32) (cs : Int32) (hcs : ¬ cs = 0) (h0 : Heap) (n0 : Nat) (O : Old Z n0 h0) (E_a1 : Exa Z h0 a1 "java/lang/StringBuilder") (F_value_a1 : Fld Z h0 a1 "java/lang/AbstractStringBuilder" "value" "[B" (.ref bv)) (F_coder_a1 : Fld Z h0 a1 "java/lang/AbstractStringBuilder" "coder" "B" (.int 0)) (F_count_a1 : Fld Z h0 a1 "java/lang/AbstractStringBuilder" "count" "I" (.int 1)) (E_bv : Exa Z h0 bv "[B") (V_bv : Arv Z h0 bv kb .byte (16 : Int32) [(.int v0), (.int v1), (.int v2), (.int v3), (.int v4), (.int v5), (.int v6), (.int v7), (.int v8), (.int v9), (.int v10), (.int v11), (.int v12), (.int v13), (.int v14), (.int v15)] (.int 0)) (S_CS : Sta Z Z.heap "java/lang/String" "COMPACT_STRINGS" "Z" (.int cs)) :
  Con l Z (⟨"java/lang/StringBuilder", "toString", "()Ljava/lang/String;"⟩ : MethodName) jdk_67_method_42_code 1 (some (.object "java/lang/String")) ({ frames := 5, cells := 2, slots := 5, locals := 79 } : Room) #[(.ref a1)] h0 (fun v h L => ∃ a b k, v = some (.ref a) ∧ Fr n0 L ∧ Keep h0 h [] ∧ h0.size ≤ a ∧ h0.size ≤ b ∧ Exa Z h a "java/lang/String" ∧ Fld Z h a "java/lang/String" "value" "[B" (.ref b) ∧ Fld Z h a "java/lang/String" "coder" "B" (.int 0) ∧ Arv Z h b k .byte (1 : Int32) [(.int v0)] (.int 0)) := by
 refine own_startC opn_41 ?_
 intro p e s m below meth c T0 X0 hx hby hml hZ hown hnm hret hlk e0
 have N := Fr.nil n0; have K := Keep.refl h0 []
 refine OG.cast (oef0 m a1) ?_
 refine og_new (pc' := 3) (cells' := 1) (slots' := 4) X0 hx hZ hown (ow318 hw) (ow17 hw) (ow9 hw) e0 (hb hby d41_0) rfl rfl rfl (by decide) (by decide) (fun T11 h11 nb11 X11 e11 E11 q11 E_nb11 D11 B11 => ?_)
 have s_nb11 : h0.size ≤ nb11 := Nat.le_of_eq q11.symm; have g_nb11 : n0 ≤ nb11 := Nat.le_trans (own_n0 O) s_nb11; have sz_nb11 : h0.size ≤ nb11 := Nat.le_trans K.1 s_nb11; have ne_a1_nb11 : a1 ≠ nb11 := Nat.ne_of_lt (Nat.lt_of_lt_of_le E_a1.lt s_nb11); have ne_bv_nb11 : bv ≠ nb11 := Nat.ne_of_lt (Nat.lt_of_lt_of_le E_bv.lt s_nb11)
 have E_a1 := E_a1.ext E11; have F_value_a1 := F_value_a1.ext E11; have F_coder_a1 := F_coder_a1.ext E11; have F_count_a1 := F_count_a1.ext E11; have E_bv := E_bv.ext E11; have V_bv := V_bv.ext E11
 have O := O.ext E11; have K := K.ext E11
 have F_value_nb11 : Fld Z h11 nb11 "java/lang/String" "value" "[B" .null := D11 (Or.inr (ow30 hw)) (ty := (.array .byte)) (by decide)
 have F_coder_nb11 : Fld Z h11 nb11 "java/lang/String" "coder" "B" (.int 0) := D11 (Or.inr (ow32 hw)) (ty := .byte) (by decide)
 refine og_dup X11 hx rfl (hb hby d41_3) rfl ?_
 refine og_aloadN X11 hx rfl rfl (hb hby d41_4) rfl ?_
 refine og_special (pc' := 8) (cells' := 2) (slots' := 5) (W := 1) X11 hx hZ (rm_svb_16_1 l Z a0 hw nb11 a1 bv kb v0 v1 v2 v3 v4 v5 v6 v7 v8 v9 v10 v11 v12 v13 v14 v15 cs hcs h11 n0 O E_nb11 F_value_nb11 F_coder_nb11 E_a1 F_value_a1 F_coder_a1 F_count_a1 E_bv V_bv S_CS g_nb11 ne_a1_nb11 ne_bv_nb11) rfl hown (ow319 hw) (ow320 hw) (ow9 hw) (ow321 hw) (by decide) (by rw [hml]; rfl) e11 opd_26 [(.ref a1)] [(.ref nb11)] rfl rfl rfl rfl (by decide) (by decide) rfl rfl (by decide) (by decide) (hb hby d41_5) rfl (fun v12 T12 h12 L12 X12 e12 z12 => ?_)
 obtain ⟨nb12, k12, rfl, Nq12, K12, sb12, E_nb11', F_value_nb11', F_coder_nb11', V_nb12⟩ := z12; have N := Fr.app N Nq12
 have s_nb12 : h11.size ≤ nb12 := sb12; have sz_nb12 : h0.size ≤ nb12 := Nat.le_trans K.1 s_nb12
 have K := K.trans K12 (allS (Or.inr sz_nb11) all0)
 have E_nb11 := E_nb11'; have F_value_nb11 := F_value_nb11'; have F_coder_nb11 := F_coder_nb11'
 refine og_retR X12 hx hlk hret rfl rfl rfl (hb hby d41_8) (by decide) (by decide) ?_
 rw [e12]; exact ⟨_, _, _, rfl, N, K, sz_nb11, sz_nb12, E_nb11, F_value_nb11, F_coder_nb11, V_nb12⟩
theorem rm_els_E (l : Launch) (Z : State) (a0 : Array Value) (hw : HW a0 Z) (t1 ll bb x0 mA mL mR : Addr) (kb : ClassId) (de : Addr) (kde : ClassId) (h0 : Heap) (n0 : Nat) (O : Old Z n0 h0) (F__children_t1 : Fld Z h0 t1 "com/example/marsh_tit/marshtit/stanza/Element" "_children" "Ljava/util/List;" (.ref ll)) (E_ll : Exa Z h0 ll "java/util/ArrayList") (F_modCount_ll : Fld Z h0 ll "java/util/AbstractList" "modCount" "I" (.int 1)) (F_elementData_ll : Fld Z h0 ll "java/util/ArrayList" "elementData" "[Ljava/lang/Object;" (.ref bb)) (F_size_ll : Fld Z h0 ll "java/util/ArrayList" "size" "I" (.int 1)) (V_bb : Arv Z h0 bb kb (.object "java/lang/Object") (10 : Int32) [(.ref x0), .null, .null, .null, .null, .null, .null, .null, .null, .null] .null) (E_x0 : Exa Z h0 x0 "com/example/marsh_tit/marshtit/stanza/Element") (S_DE : Sta Z Z.heap "java/util/ArrayList" "DEFAULTCAPACITY_EMPTY_ELEMENTDATA" "[Ljava/lang/Object;" (.ref de)) (V_de : Arv Z Z.heap de kde (.object "java/lang/Object") (0 : Int32) [] .null) (M_mA : (Term.mirror "java/util/ArrayList").eval #[] Z none [] Z = some (.ref mA)) (M_mL : (Term.mirror "java/util/Collections$UnmodifiableList").eval #[] Z none [] Z = some (.ref mL)) (M_mR : (Term.mirror "java/util/Collections$UnmodifiableRandomAccessList").eval #[] Z none [] Z = some (.ref mR)) (ne_mA_mL : mA ≠ mL) (ne_mA_mR : mA ≠ mR) :
  Con l Z (⟨"com/example/marsh_tit/marshtit/stanza/Element", "elements", "()Ljava/util/List;"⟩ : MethodName) prog_19_method_11_code 4 (some (.object "java/util/List")) ({ frames := 5, cells := 4, slots := 19, locals := 69 } : Room) #[(.ref t1)] h0 (fun v h L => ∃ u1 nl nb kn, v = some (.ref u1) ∧ Fr n0 L ∧ Keep h0 h [] ∧ Exa Z h u1 "java/util/Collections$UnmodifiableRandomAccessList" ∧ Fld Z h u1 "java/util/Collections$UnmodifiableCollection" "c" "Ljava/util/Collection;" (.ref nl) ∧ Fld Z h u1 "java/util/Collections$UnmodifiableList" "list" "Ljava/util/List;" (.ref nl) ∧ Exa Z h nl "java/util/ArrayList" ∧ Fld Z h nl "java/util/AbstractList" "modCount" "I" (.int 1) ∧ Fld Z h nl "java/util/ArrayList" "elementData" "[Ljava/lang/Object;" (.ref nb) ∧ Fld Z h nl "java/util/ArrayList" "size" "I" (.int 1) ∧ Arv Z h nb kn (.object "java/lang/Object") (10 : Int32) [(.ref x0), .null, .null, .null, .null, .null, .null, .null, .null, .null] .null) := by
 refine own_startC opn_21 ?_
 intro p e s m below meth c T0 X0 hx hby hml hZ hown hnm hret hlk e0
 have N := Fr.nil n0; have K := Keep.refl h0 []
 refine OG.cast (oef18 m t1) ?_
 refine og_new (pc' := 3) (cells' := 1) (slots' := 3) X0 hx hZ hown (ow65 hw) (ow66 hw) (ow67 hw) e0 (hb hby d21_0) rfl rfl rfl (by decide) (by decide) (fun T11 h11 nb11 X11 e11 E11 q11 E_nb11 D11 B11 => ?_)
 have s_nb11 : h0.size ≤ nb11 := Nat.le_of_eq q11.symm; have g_nb11 : n0 ≤ nb11 := Nat.le_trans (own_n0 O) s_nb11; have sz_nb11 : h0.size ≤ nb11 := Nat.le_trans K.1 s_nb11; have ne_t1_nb11 : t1 ≠ nb11 := Nat.ne_of_lt (Nat.lt_of_lt_of_le F__children_t1.lt s_nb11); have ne_ll_nb11 : ll ≠ nb11 := Nat.ne_of_lt (Nat.lt_of_lt_of_le E_ll.lt s_nb11); have ne_bb_nb11 : bb ≠ nb11 := Nat.ne_of_lt (Nat.lt_of_lt_of_le V_bb.lt s_nb11)
 have F__children_t1 := F__children_t1.ext E11; have E_ll := E_ll.ext E11; have F_modCount_ll := F_modCount_ll.ext E11; have F_elementData_ll := F_elementData_ll.ext E11; have F_size_ll := F_size_ll.ext E11; have V_bb := V_bb.ext E11
 have E_x0 := E_x0.ext E11; have O := O.ext E11; have K := K.ext E11
 have F_modCount_nb11 : Fld Z h11 nb11 "java/util/AbstractList" "modCount" "I" (.int 0) := D11 (Or.inl (ow85 hw)) (ty := .int) (by decide)
 have F_elementData_nb11 : Fld Z h11 nb11 "java/util/ArrayList" "elementData" "[Ljava/lang/Object;" .null := D11 (Or.inl (ow88 hw)) (ty := (.array (.object "java/lang/Object"))) (by decide)
 have F_size_nb11 : Fld Z h11 nb11 "java/util/ArrayList" "size" "I" (.int 0) := D11 (Or.inl (ow122 hw)) (ty := .int) (by decide)
 refine og_dup X11 hx rfl (hb hby d21_3) rfl ?_
 refine og_special (pc' := 7) (cells' := 1) (slots' := 3) (W := 1) X11 hx hZ (rm_al l Z a0 hw nb11 de h11 n0 O E_nb11 F_modCount_nb11 F_elementData_nb11 F_size_nb11 S_DE g_nb11) rfl hown (ow68 hw) (ow69 hw) (ow67 hw) (ow70 hw) (by decide) (by rw [hml]; rfl) e11 opd_0 [] [(.ref nb11)] rfl rfl rfl rfl (by decide) (by decide) rfl rfl (by decide) (by decide) (hb hby d21_4) rfl (fun v12 T12 h12 L12 X12 e12 z12 => ?_)
 obtain ⟨rfl, Nq12, K12, F_modCount_nb11', F_elementData_nb11', F_size_nb11'⟩ := z12; have N := Fr.app N Nq12
 have F__children_t1 := F__children_t1.keep K12 (ninS ne_t1_nb11 nin0); have E_ll := E_ll.keep K12; have F_modCount_ll := F_modCount_ll.keep K12 (ninS ne_ll_nb11 nin0); have F_elementData_ll := F_elementData_ll.keep K12 (ninS ne_ll_nb11 nin0); have F_size_ll := F_size_ll.keep K12 (ninS ne_ll_nb11 nin0); have V_bb := V_bb.keep K12 (ninS ne_bb_nb11 nin0)
 have E_x0 := E_x0.keep K12; have E_nb11 := E_nb11.keep K12; have O := O.keep K12 (allS g_nb11 all0); have K := K.trans K12 (allS (Or.inr sz_nb11) all0)
 have F_modCount_nb11 := F_modCount_nb11'; have F_elementData_nb11 := F_elementData_nb11'; have F_size_nb11 := F_size_nb11'
 refine og_astoreN (L' := #[.val (.ref t1), .val (.ref nb11), .unset, .unset]) X12 hx rfl rfl (hb hby d21_7) rfl ?_
 refine og_aloadN X12 hx rfl rfl (hb hby d21_8) rfl ?_
 refine og_getfield X12 hx hZ (host := "") hown (Or.inl (ow89 hw)) Via.refl e12 F__children_t1 (hb hby d21_9) rfl (fun T13 X13 e13 => ?_)
 refine og_interface (pc' := 17) (cells' := 2) (slots' := 7) (W := 0) X13 hx hZ (rm_it l Z a0 hw ll (1 : Int32) h12 n0 O F_modCount_ll) hown (ow150 hw) (ow151 hw) (ow152 hw) (ow153 hw) (ow154 hw) (ow155 hw) (ow156 hw) (ow117 hw) (ow67 hw) (ow157 hw) (by decide) (by rw [hml]; rfl) e13 opd_27 [] [] rfl rfl rfl rfl (by decide) (by decide) rfl rfl (by decide) (by decide) E_ll (hb hby d21_12) rfl (fun v14 T14 h14 L14 X14 e14 z14 => ?_)
 obtain ⟨ni14, rfl, Nq14, K14, si14, E_ni14, F_this_0_ni14, F_cursor_ni14, F_lastRet_ni14, F_expectedModCount_ni14⟩ := z14; have N := Fr.app N Nq14
 have s_ni14 : h12.size ≤ ni14 := si14; have g_ni14 : n0 ≤ ni14 := Nat.le_trans (own_n0 O) s_ni14; have sz_ni14 : h0.size ≤ ni14 := Nat.le_trans K.1 s_ni14; have ne_ll_ni14 : ll ≠ ni14 := Nat.ne_of_lt (Nat.lt_of_lt_of_le E_ll.lt s_ni14); have ne_bb_ni14 : bb ≠ ni14 := Nat.ne_of_lt (Nat.lt_of_lt_of_le V_bb.lt s_ni14)
 have ne_nb11_ni14 : nb11 ≠ ni14 := Nat.ne_of_lt (Nat.lt_of_lt_of_le E_nb11.lt s_ni14)
 have F_modCount_ll := F_modCount_ll.keep K14 nin0; have F_elementData_ll := F_elementData_ll.keep K14 nin0; have F_size_ll := F_size_ll.keep K14 nin0; have V_bb := V_bb.keep K14 nin0
 have E_x0 := E_x0.keep K14; have E_nb11 := E_nb11.keep K14; have F_modCount_nb11 := F_modCount_nb11.keep K14 nin0; have F_elementData_nb11 := F_elementData_nb11.keep K14 nin0; have F_size_nb11 := F_size_nb11.keep K14 nin0; have O := O.keep K14 all0
 have K := K.trans K14 all0
 refine og_astoreN (L' := #[.val (.ref t1), .val (.ref nb11), .val (.ref ni14), .unset]) X14 hx rfl rfl (hb hby d21_17) rfl ?_
 refine og_aloadN X14 hx rfl rfl (hb hby d21_18) rfl ?_
 refine og_interface (pc' := 24) (cells' := 2) (slots' := 7) (W := 0) X14 hx hZ (rm_hn l Z a0 hw ni14 ll (0 : Int32) (1 : Int32) 1 (by decide) h14 n0 O F_this_0_ni14 F_cursor_ni14 F_size_ll) hown (ow173 hw) (ow174 hw) (ow175 hw) (ow176 hw) (ow177 hw) (ow178 hw) (ow179 hw) (ow180 hw) (ow160 hw) (ow181 hw) (by decide) (by rw [hml]; rfl) e14 opd_24 [] [] rfl rfl rfl rfl (by decide) (by decide) rfl rfl (by decide) (by decide) E_ni14 (hb hby d21_19) rfl (fun v15 T15 h15 L15 X15 e15 z15 => ?_)
 obtain ⟨rfl, Nq15, hq15⟩ := z15; replace e15 := e15.trans hq15; have N := Fr.app N Nq15
 refine og_if_eq (pc1 := 55) (pc2 := 27) X15 hx (hb hby d21_24) (by decide) (by decide) rfl (fun q => absurd q (by decide)) (fun _ => ?_)
 refine og_aloadN X15 hx rfl rfl (hb hby d21_27) rfl ?_
 refine og_interface (pc' := 33) (cells' := 2) (slots' := 7) (W := 0) X15 hx hZ (rm_nx_0_1 l Z a0 hw ni14 ll bb x0 kb (-1 : Int32) h14 n0 O E_ni14 F_this_0_ni14 F_cursor_ni14 F_lastRet_ni14 F_expectedModCount_ni14 F_modCount_ll F_elementData_ll F_size_ll V_bb g_ni14 ne_ll_ni14 ne_bb_ni14) hown (ow185 hw) (ow186 hw) (ow187 hw) (ow188 hw) (ow189 hw) (ow190 hw) (ow191 hw) (ow180 hw) (ow160 hw) (ow192 hw) (by decide) (by rw [hml]; rfl) e15 opd_28 [] [] rfl rfl rfl rfl (by decide) (by decide) rfl rfl (by decide) (by decide) E_ni14 (hb hby d21_28) rfl (fun v16 T16 h16 L16 X16 e16 z16 => ?_)
 obtain ⟨rfl, Nq16, K16, E_ni14', F_this_0_ni14', F_cursor_ni14', F_lastRet_ni14', F_expectedModCount_ni14'⟩ := z16; have N := Fr.app N Nq16
 have F_size_ll := F_size_ll.keep K16 (ninS ne_ll_ni14 nin0)
 have E_x0 := E_x0.keep K16; have E_nb11 := E_nb11.keep K16; have F_modCount_nb11 := F_modCount_nb11.keep K16 (ninS ne_nb11_ni14 nin0); have F_elementData_nb11 := F_elementData_nb11.keep K16 (ninS ne_nb11_ni14 nin0); have F_size_nb11 := F_size_nb11.keep K16 (ninS ne_nb11_ni14 nin0)
 have O := O.keep K16 (allS g_ni14 all0); have K := K.trans K16 (allS (Or.inr sz_ni14) all0)
 have E_ni14 := E_ni14'; have F_this_0_ni14 := F_this_0_ni14'; have F_cursor_ni14 := F_cursor_ni14'
 refine og_astoreN (L' := #[.val (.ref t1), .val (.ref nb11), .val (.ref ni14), .val (.ref x0)]) X16 hx rfl rfl (hb hby d21_33) rfl ?_
 refine og_aloadN X16 hx rfl rfl (hb hby d21_34) rfl ?_
 obtain ⟨T17, X17, e17, st17⟩ := instY X16 hx hZ hown (ow199 hw) e16 (Ins.self E_x0) (g := (mkF m 35 #[.val (.ref t1), .val (.ref nb11), .val (.ref ni14), .val (.ref x0)] [(.ref x0)])) rfl rfl (hb hby d21_35)
 refine OG.of st17 ?_
 show OG p e below _ (T17.setTop (mkF m 38 #[.val (.ref t1), .val (.ref nb11), .val (.ref ni14), .val (.ref x0)] [(.int 1)]))
 refine og_if_eq (pc1 := 52) (pc2 := 41) X17 hx (hb hby d21_38) (by decide) (by decide) rfl (fun q => absurd q (by decide)) (fun _ => ?_)
 refine og_aloadN X17 hx rfl rfl (hb hby d21_41) rfl ?_
 refine og_aloadN X17 hx rfl rfl (hb hby d21_42) rfl ?_
 obtain ⟨T18, X18, e18, st18⟩ := castY X17 hx hZ hown (ow199 hw) e17 (Ins.self E_x0) (g := (mkF m 43 #[.val (.ref t1), .val (.ref nb11), .val (.ref ni14), .val (.ref x0)] [(.ref x0), (.ref nb11)])) rfl rfl (hb hby d21_43)
 refine OG.of st18 ?_
 show OG p e below _ (T18.setTop (mkF m 46 #[.val (.ref t1), .val (.ref nb11), .val (.ref ni14), .val (.ref x0)] [(.ref x0), (.ref nb11)]))
 refine og_interface (pc' := 51) (cells' := 3) (slots' := 17) (W := 0) X18 hx hZ (rm_la_0E l Z a0 hw nb11 x0 de kde h16 n0 O E_nb11 F_modCount_nb11 F_elementData_nb11 F_size_nb11 E_x0 S_DE V_de g_nb11) hown (ow110 hw) (ow111 hw) (ow112 hw) (ow113 hw) (ow114 hw) (ow115 hw) (ow116 hw) (ow117 hw) (ow67 hw) (ow118 hw) (by decide) (by rw [hml]; rfl) e18 opd_29 [(.ref x0)] [] rfl rfl rfl rfl (by decide) (by decide) rfl rfl (by decide) (by decide) E_nb11 (hb hby d21_46) rfl (fun v19 T19 h19 L19 X19 e19 z19 => ?_)
 obtain ⟨nb19, k19, rfl, Nq19, K19, sb19, E_nb11', F_modCount_nb11', F_elementData_nb11', F_size_nb11', V_nb19, Ov_nb19⟩ := z19; have N := Fr.app N Nq19
 have F_size_ll := F_size_ll.keep K19 (ninS ne_ll_nb11 nin0)
 have E_ni14 := E_ni14.keep K19; have F_this_0_ni14 := F_this_0_ni14.keep K19 (ninS (Ne.symm ne_nb11_ni14) nin0); have F_cursor_ni14 := F_cursor_ni14.keep K19 (ninS (Ne.symm ne_nb11_ni14) nin0)
 have O := O.keep K19 (allS g_nb11 all0); have K := K.trans K19 (allS (Or.inr sz_nb11) all0)
 have E_nb11 := E_nb11'; have F_modCount_nb11 := F_modCount_nb11'; have F_elementData_nb11 := F_elementData_nb11'; have F_size_nb11 := F_size_nb11'
 refine og_pop X19 hx rfl (hb hby d21_51) rfl ?_
 refine og_goto (pc' := 18) X19 hx (hb hby d21_52) (by decide) (by decide) ?_
 refine og_aloadN X19 hx rfl rfl (hb hby d21_18) rfl ?_
 refine og_interface (pc' := 24) (cells' := 3) (slots' := 17) (W := 0) X19 hx hZ (rm_hn l Z a0 hw ni14 ll (1 : Int32) (1 : Int32) 0 (by decide) h19 n0 O F_this_0_ni14 F_cursor_ni14 F_size_ll) hown (ow173 hw) (ow174 hw) (ow175 hw) (ow176 hw) (ow177 hw) (ow178 hw) (ow179 hw) (ow180 hw) (ow160 hw) (ow181 hw) (by decide) (by rw [hml]; rfl) e19 opd_24 [] [] rfl rfl rfl rfl (by decide) (by decide) rfl rfl (by decide) (by decide) E_ni14 (hb hby d21_19) rfl (fun v20 T20 h20 L20 X20 e20 z20 => ?_)
 obtain ⟨rfl, Nq20, hq20⟩ := z20; replace e20 := e20.trans hq20; have N := Fr.app N Nq20
 refine og_if_eq (pc1 := 55) (pc2 := 27) X20 hx (hb hby d21_24) (by decide) (by decide) rfl (fun _ => ?_) (fun q => absurd q (by decide))
 refine og_aloadN X20 hx rfl rfl (hb hby d21_55) rfl ?_
 refine og_static (pc' := 59) (cells' := 4) (slots' := 19) (W := 0) X20 hx hZ (rm_un l Z a0 hw nb11 mA mL mR h19 n0 O E_nb11 M_mA M_mL M_mR ne_mA_mL ne_mA_mR) hown (ow201 hw) (ow202 hw) (ow203 hw) (ow204 hw) (by decide) (by rw [hml]; rfl) e20 opd_30 [(.ref nb11)] [] rfl rfl rfl rfl (by decide) (by decide) rfl rfl (by decide) (by decide) (hb hby d21_56) rfl (fun v21 T21 h21 L21 X21 e21 z21 => ?_)
 obtain ⟨u1, rfl, Nq21, K21, E_u1, F_c_u1, F_list_u1⟩ := z21; have N := Fr.app N Nq21
 have E_nb11 := E_nb11.keep K21
 have F_modCount_nb11 := F_modCount_nb11.keep K21 nin0; have F_elementData_nb11 := F_elementData_nb11.keep K21 nin0; have F_size_nb11 := F_size_nb11.keep K21 nin0; have V_nb19 := V_nb19.keep K21 nin0
 have K := K.trans K21 all0
 refine og_retR X21 hx hlk hret rfl rfl rfl (hb hby d21_59) (by decide) (by decide) ?_
 rw [e21]; exact ⟨_, nb11, _, _, rfl, N, K, E_u1, F_c_u1, F_list_u1, E_nb11, F_modCount_nb11, F_elementData_nb11, F_size_nb11, V_nb19⟩
theorem rm_txt_E (l : Launch) (Z : State) (a0 : Array Value) (hw : HW a0 Z) (t1 ll bb x0 : Addr) (kb : ClassId)  (cs : Int32) (hcs : ¬ cs = 0) (h0 : Heap) (n0 : Nat) (O : Old Z n0 h0) (F__children_t1 : Fld Z h0 t1 "com/example/marsh_tit/marshtit/stanza/Element" "_children" "Ljava/util/List;" (.ref ll)) (E_ll : Exa Z h0 ll "java/util/ArrayList") (F_modCount_ll : Fld Z h0 ll "java/util/AbstractList" "modCount" "I" (.int 1)) (F_elementData_ll : Fld Z h0 ll "java/util/ArrayList" "elementData" "[Ljava/lang/Object;" (.ref bb)) (F_size_ll : Fld Z h0 ll "java/util/ArrayList" "size" "I" (.int 1)) (V_bb : Arv Z h0 bb kb (.object "java/lang/Object") (10 : Int32) [(.ref x0), .null, .null, .null, .null, .null, .null, .null, .null, .null] .null) (E_x0 : Exa Z h0 x0 "com/example/marsh_tit/marshtit/stanza/Element") (S_CS : Sta Z Z.heap "java/lang/String" "COMPACT_STRINGS" "Z" (.int cs)) :
  Con l Z (⟨"com/example/marsh_tit/marshtit/stanza/Element", "text", "()Ljava/lang/String;"⟩ : MethodName) prog_19_method_13_code 4 (some (.object "java/lang/String")) ({ frames := 6, cells := 5, slots := 28, locals := 91 } : Room) #[(.ref t1)] h0 (fun v h L => ∃ a b k, v = some (.ref a) ∧ Fr n0 L ∧ Keep h0 h [] ∧ h0.size ≤ a ∧ h0.size ≤ b ∧ Exa Z h a "java/lang/String" ∧ Fld Z h a "java/lang/String" "value" "[B" (.ref b) ∧ Fld Z h a "java/lang/String" "coder" "B" (.int 0) ∧ Arv Z h b k .byte (0 : Int32) [] (.int 0)) := by
 refine own_startC opn_38 ?_
 intro p e s m below meth c T0 X0 hx hby hml hZ hown hnm hret hlk e0
 have N := Fr.nil n0; have K := Keep.refl h0 []
 refine OG.cast (oef18 m t1) ?_
 refine og_new (pc' := 3) (cells' := 1) (slots' := 4) X0 hx hZ hown (ow293 hw) (ow294 hw) (ow295 hw) e0 (hb hby d38_0) rfl rfl rfl (by decide) (by decide) (fun T11 h11 nb11 X11 e11 E11 q11 E_nb11 D11 B11 => ?_)
 have s_nb11 : h0.size ≤ nb11 := Nat.le_of_eq q11.symm; have g_nb11 : n0 ≤ nb11 := Nat.le_trans (own_n0 O) s_nb11; have sz_nb11 : h0.size ≤ nb11 := Nat.le_trans K.1 s_nb11; have ne_t1_nb11 : t1 ≠ nb11 := Nat.ne_of_lt (Nat.lt_of_lt_of_le F__children_t1.lt s_nb11); have ne_ll_nb11 : ll ≠ nb11 := Nat.ne_of_lt (Nat.lt_of_lt_of_le E_ll.lt s_nb11); have ne_bb_nb11 : bb ≠ nb11 := Nat.ne_of_lt (Nat.lt_of_lt_of_le V_bb.lt s_nb11)
 have F__children_t1 := F__children_t1.ext E11; have E_ll := E_ll.ext E11; have F_modCount_ll := F_modCount_ll.ext E11; have F_elementData_ll := F_elementData_ll.ext E11; have F_size_ll := F_size_ll.ext E11; have V_bb := V_bb.ext E11
 have E_x0 := E_x0.ext E11; have O := O.ext E11; have K := K.ext E11
 have F_value_nb11 : Fld Z h11 nb11 "java/lang/AbstractStringBuilder" "value" "[B" .null := D11 (Or.inl (ow308 hw)) (ty := (.array .byte)) (by decide)
 have F_coder_nb11 : Fld Z h11 nb11 "java/lang/AbstractStringBuilder" "coder" "B" (.int 0) := D11 (Or.inl (ow310 hw)) (ty := .byte) (by decide)
 have F_count_nb11 : Fld Z h11 nb11 "java/lang/AbstractStringBuilder" "count" "I" (.int 0) := D11 (Or.inl (ow340 hw)) (ty := .int) (by decide)
 refine og_dup X11 hx rfl (hb hby d38_3) rfl ?_
 refine og_special (pc' := 7) (cells' := 2) (slots' := 20) (W := 1) X11 hx hZ (rm_sb0 l Z a0 hw nb11 cs hcs h11 n0 O E_nb11 F_value_nb11 F_coder_nb11 F_count_nb11 S_CS g_nb11) rfl hown (ow296 hw) (ow297 hw) (ow295 hw) (ow298 hw) (by decide) (by rw [hml]; rfl) e11 opd_0 [] [(.ref nb11)] rfl rfl rfl rfl (by decide) (by decide) rfl rfl (by decide) (by decide) (hb hby d38_4) rfl (fun v12 T12 h12 L12 X12 e12 z12 => ?_)
 obtain ⟨nb12, k12, rfl, Nq12, K12, sb12, E_nb11', F_value_nb11', F_coder_nb11', F_count_nb11', V_nb12, E_nb12⟩ := z12; have N := Fr.app N Nq12
 have F__children_t1 := F__children_t1.keep K12 (ninS ne_t1_nb11 nin0); have E_ll := E_ll.keep K12; have F_modCount_ll := F_modCount_ll.keep K12 (ninS ne_ll_nb11 nin0); have F_elementData_ll := F_elementData_ll.keep K12 (ninS ne_ll_nb11 nin0); have F_size_ll := F_size_ll.keep K12 (ninS ne_ll_nb11 nin0); have V_bb := V_bb.keep K12 (ninS ne_bb_nb11 nin0)
 have E_x0 := E_x0.keep K12; have O := O.keep K12 (allS g_nb11 all0); have K := K.trans K12 (allS (Or.inr sz_nb11) all0)
 have E_nb11 := E_nb11'; have F_value_nb11 := F_value_nb11'; have F_coder_nb11 := F_coder_nb11'; have F_count_nb11 := F_count_nb11'
 refine og_astoreN (L' := #[.val (.ref t1), .val (.ref nb11), .unset, .unset]) X12 hx rfl rfl (hb hby d38_7) rfl ?_
 refine og_aloadN X12 hx rfl rfl (hb hby d38_8) rfl ?_
 refine og_getfield X12 hx hZ (host := "") hown (Or.inl (ow89 hw)) Via.refl e12 F__children_t1 (hb hby d38_9) rfl (fun T13 X13 e13 => ?_)
 refine og_interface (pc' := 17) (cells' := 3) (slots' := 24) (W := 0) X13 hx hZ (rm_it l Z a0 hw ll (1 : Int32) h12 n0 O F_modCount_ll) hown (ow150 hw) (ow151 hw) (ow152 hw) (ow153 hw) (ow154 hw) (ow155 hw) (ow156 hw) (ow117 hw) (ow67 hw) (ow157 hw) (by decide) (by rw [hml]; rfl) e13 opd_27 [] [] rfl rfl rfl rfl (by decide) (by decide) rfl rfl (by decide) (by decide) E_ll (hb hby d38_12) rfl (fun v14 T14 h14 L14 X14 e14 z14 => ?_)
 obtain ⟨ni14, rfl, Nq14, K14, si14, E_ni14, F_this_0_ni14, F_cursor_ni14, F_lastRet_ni14, F_expectedModCount_ni14⟩ := z14; have N := Fr.app N Nq14
 have s_ni14 : h12.size ≤ ni14 := si14; have g_ni14 : n0 ≤ ni14 := Nat.le_trans (own_n0 O) s_ni14; have sz_ni14 : h0.size ≤ ni14 := Nat.le_trans K.1 s_ni14; have ne_ll_ni14 : ll ≠ ni14 := Nat.ne_of_lt (Nat.lt_of_lt_of_le E_ll.lt s_ni14); have ne_bb_ni14 : bb ≠ ni14 := Nat.ne_of_lt (Nat.lt_of_lt_of_le V_bb.lt s_ni14)
 have ne_nb11_ni14 : nb11 ≠ ni14 := Nat.ne_of_lt (Nat.lt_of_lt_of_le E_nb11.lt s_ni14); have ne_nb12_ni14 : nb12 ≠ ni14 := Nat.ne_of_lt (Nat.lt_of_lt_of_le V_nb12.lt s_ni14)
 have F_modCount_ll := F_modCount_ll.keep K14 nin0; have F_elementData_ll := F_elementData_ll.keep K14 nin0; have F_size_ll := F_size_ll.keep K14 nin0; have V_bb := V_bb.keep K14 nin0
 have E_x0 := E_x0.keep K14; have E_nb11 := E_nb11.keep K14; have F_value_nb11 := F_value_nb11.keep K14 nin0; have F_coder_nb11 := F_coder_nb11.keep K14 nin0; have F_count_nb11 := F_count_nb11.keep K14 nin0; have V_nb12 := V_nb12.keep K14 nin0
 have E_nb12 := E_nb12.keep K14; have O := O.keep K14 all0; have K := K.trans K14 all0
 refine og_astoreN (L' := #[.val (.ref t1), .val (.ref nb11), .val (.ref ni14), .unset]) X14 hx rfl rfl (hb hby d38_17) rfl ?_
 refine og_aloadN X14 hx rfl rfl (hb hby d38_18) rfl ?_
 refine og_interface (pc' := 24) (cells' := 3) (slots' := 24) (W := 0) X14 hx hZ (rm_hn l Z a0 hw ni14 ll (0 : Int32) (1 : Int32) 1 (by decide) h14 n0 O F_this_0_ni14 F_cursor_ni14 F_size_ll) hown (ow173 hw) (ow174 hw) (ow175 hw) (ow176 hw) (ow177 hw) (ow178 hw) (ow179 hw) (ow180 hw) (ow160 hw) (ow181 hw) (by decide) (by rw [hml]; rfl) e14 opd_24 [] [] rfl rfl rfl rfl (by decide) (by decide) rfl rfl (by decide) (by decide) E_ni14 (hb hby d38_19) rfl (fun v15 T15 h15 L15 X15 e15 z15 => ?_)
 obtain ⟨rfl, Nq15, hq15⟩ := z15; replace e15 := e15.trans hq15; have N := Fr.app N Nq15
 refine og_if_eq (pc1 := 53) (pc2 := 27) X15 hx (hb hby d38_24) (by decide) (by decide) rfl (fun q => absurd q (by decide)) (fun _ => ?_)
 refine og_aloadN X15 hx rfl rfl (hb hby d38_27) rfl ?_
 refine og_interface (pc' := 33) (cells' := 3) (slots' := 24) (W := 0) X15 hx hZ (rm_nx_0_1 l Z a0 hw ni14 ll bb x0 kb (-1 : Int32) h14 n0 O E_ni14 F_this_0_ni14 F_cursor_ni14 F_lastRet_ni14 F_expectedModCount_ni14 F_modCount_ll F_elementData_ll F_size_ll V_bb g_ni14 ne_ll_ni14 ne_bb_ni14) hown (ow185 hw) (ow186 hw) (ow187 hw) (ow188 hw) (ow189 hw) (ow190 hw) (ow191 hw) (ow180 hw) (ow160 hw) (ow192 hw) (by decide) (by rw [hml]; rfl) e15 opd_28 [] [] rfl rfl rfl rfl (by decide) (by decide) rfl rfl (by decide) (by decide) E_ni14 (hb hby d38_28) rfl (fun v16 T16 h16 L16 X16 e16 z16 => ?_)
 obtain ⟨rfl, Nq16, K16, E_ni14', F_this_0_ni14', F_cursor_ni14', F_lastRet_ni14', F_expectedModCount_ni14'⟩ := z16; have N := Fr.app N Nq16
 have F_size_ll := F_size_ll.keep K16 (ninS ne_ll_ni14 nin0)
 have E_x0 := E_x0.keep K16; have E_nb11 := E_nb11.keep K16; have F_value_nb11 := F_value_nb11.keep K16 (ninS ne_nb11_ni14 nin0); have F_coder_nb11 := F_coder_nb11.keep K16 (ninS ne_nb11_ni14 nin0); have F_count_nb11 := F_count_nb11.keep K16 (ninS ne_nb11_ni14 nin0); have V_nb12 := V_nb12.keep K16 (ninS ne_nb12_ni14 nin0)
 have E_nb12 := E_nb12.keep K16; have O := O.keep K16 (allS g_ni14 all0); have K := K.trans K16 (allS (Or.inr sz_ni14) all0)
 have E_ni14 := E_ni14'; have F_this_0_ni14 := F_this_0_ni14'; have F_cursor_ni14 := F_cursor_ni14'
 refine og_astoreN (L' := #[.val (.ref t1), .val (.ref nb11), .val (.ref ni14), .val (.ref x0)]) X16 hx rfl rfl (hb hby d38_33) rfl ?_
 refine og_aloadN X16 hx rfl rfl (hb hby d38_34) rfl ?_
 obtain ⟨T17, X17, e17, st17⟩ := instNo X16 hx hZ hown (ow98 hw) e16 E_x0 (NS.no (ow311 hw) (ow385 hw) (NS.step (ow311 hw) (NS.root (ow312 hw) (ow385 hw) (by decide)) (by decide)) (by decide)) (g := (mkF m 35 #[.val (.ref t1), .val (.ref nb11), .val (.ref ni14), .val (.ref x0)] [(.ref x0)])) rfl rfl (hb hby d38_35)
 refine OG.of st17 ?_
 show OG p e below _ (T17.setTop (mkF m 38 #[.val (.ref t1), .val (.ref nb11), .val (.ref ni14), .val (.ref x0)] [(.int 0)]))
 refine og_if_eq (pc1 := 50) (pc2 := 41) X17 hx (hb hby d38_38) (by decide) (by decide) rfl (fun _ => ?_) (fun q => absurd q (by decide))
 refine og_goto (pc' := 18) X17 hx (hb hby d38_50) (by decide) (by decide) ?_
 refine og_aloadN X17 hx rfl rfl (hb hby d38_18) rfl ?_
 refine og_interface (pc' := 24) (cells' := 3) (slots' := 24) (W := 0) X17 hx hZ (rm_hn l Z a0 hw ni14 ll (1 : Int32) (1 : Int32) 0 (by decide) h16 n0 O F_this_0_ni14 F_cursor_ni14 F_size_ll) hown (ow173 hw) (ow174 hw) (ow175 hw) (ow176 hw) (ow177 hw) (ow178 hw) (ow179 hw) (ow180 hw) (ow160 hw) (ow181 hw) (by decide) (by rw [hml]; rfl) e17 opd_24 [] [] rfl rfl rfl rfl (by decide) (by decide) rfl rfl (by decide) (by decide) E_ni14 (hb hby d38_19) rfl (fun v18 T18 h18 L18 X18 e18 z18 => ?_)
 obtain ⟨rfl, Nq18, hq18⟩ := z18; replace e18 := e18.trans hq18; have N := Fr.app N Nq18
 refine og_if_eq (pc1 := 53) (pc2 := 27) X18 hx (hb hby d38_24) (by decide) (by decide) rfl (fun _ => ?_) (fun q => absurd q (by decide))
 refine og_aloadN X18 hx rfl rfl (hb hby d38_53) rfl ?_
 refine og_virtual (pc' := 57) (cells' := 5) (slots' := 28) (W := 0) X18 hx hZ (rm_tos_16_0 l Z a0 hw nb11 nb12 k12 (0 : Int32) (0 : Int32) (0 : Int32) (0 : Int32) (0 : Int32) (0 : Int32) (0 : Int32) (0 : Int32) (0 : Int32) (0 : Int32) (0 : Int32) (0 : Int32) (0 : Int32) (0 : Int32) (0 : Int32) (0 : Int32) cs hcs h16 n0 O E_nb11 F_value_nb11 F_coder_nb11 F_count_nb11 E_nb12 V_nb12 S_CS) hown (ow313 hw) (ow314 hw) (own_nf hZ (ow316 hw)) (ow316 hw) (ow315 hw) (ow295 hw) (ow317 hw) (by decide) (by rw [hml]; rfl) e18 opd_31 [] [] rfl rfl rfl rfl (by decide) (by decide) rfl rfl (by decide) (by decide) E_nb11 (hb hby d38_54) rfl (fun v19 T19 h19 L19 X19 e19 z19 => ?_)
 obtain ⟨na19, nb19, k19, rfl, Nq19, K19, sa19, sb19, E_na19, F_value_na19, F_coder_na19, V_nb19⟩ := z19; have N := Fr.app N Nq19
 have s_na19 : h16.size ≤ na19 := sa19; have sz_na19 : h0.size ≤ na19 := Nat.le_trans K.1 s_na19
 have s_nb19 : h16.size ≤ nb19 := sb19; have sz_nb19 : h0.size ≤ nb19 := Nat.le_trans K.1 s_nb19
 have K := K.trans K19 all0
 refine og_retR X19 hx hlk hret rfl rfl rfl (hb hby d38_57) (by decide) (by decide) ?_
 rw [e19]; exact ⟨_, _, _, rfl, N, K, sz_na19, sz_nb19, E_na19, F_value_na19, F_coder_na19, V_nb19⟩
theorem rm_els_EE (l : Launch) (Z : State) (a0 : Array Value) (hw : HW a0 Z) (t1 ll bb x0 x1 mA mL mR : Addr) (kb : ClassId) (de : Addr) (kde : ClassId) (h0 : Heap) (n0 : Nat) (O : Old Z n0 h0) (F__children_t1 : Fld Z h0 t1 "com/example/marsh_tit/marshtit/stanza/Element" "_children" "Ljava/util/List;" (.ref ll)) (E_ll : Exa Z h0 ll "java/util/ArrayList") (F_modCount_ll : Fld Z h0 ll "java/util/AbstractList" "modCount" "I" (.int 2)) (F_elementData_ll : Fld Z h0 ll "java/util/ArrayList" "elementData" "[Ljava/lang/Object;" (.ref bb)) (F_size_ll : Fld Z h0 ll "java/util/ArrayList" "size" "I" (.int 2)) (V_bb : Arv Z h0 bb kb (.object "java/lang/Object") (10 : Int32) [(.ref x0), (.ref x1), .null, .null, .null, .null, .null, .null, .null, .null] .null) (E_x0 : Exa Z h0 x0 "com/example/marsh_tit/marshtit/stanza/Element") (E_x1 : Exa Z h0 x1 "com/example/marsh_tit/marshtit/stanza/Element") (S_DE : Sta Z Z.heap "java/util/ArrayList" "DEFAULTCAPACITY_EMPTY_ELEMENTDATA" "[Ljava/lang/Object;" (.ref de)) (V_de : Arv Z Z.heap de kde (.object "java/lang/Object") (0 : Int32) [] .null) (M_mA : (Term.mirror "java/util/ArrayList").eval #[] Z none [] Z = some (.ref mA)) (M_mL : (Term.mirror "java/util/Collections$UnmodifiableList").eval #[] Z none [] Z = some (.ref mL)) (M_mR : (Term.mirror "java/util/Collections$UnmodifiableRandomAccessList").eval #[] Z none [] Z = some (.ref mR)) (ne_mA_mL : mA ≠ mL) (ne_mA_mR : mA ≠ mR) :
  Con l Z (⟨"com/example/marsh_tit/marshtit/stanza/Element", "elements", "()Ljava/util/List;"⟩ : MethodName) prog_19_method_11_code 4 (some (.object "java/util/List")) ({ frames := 5, cells := 4, slots := 19, locals := 69 } : Room) #[(.ref t1)] h0 (fun v h L => ∃ u1 nl nb kn, v = some (.ref u1) ∧ Fr n0 L ∧ Keep h0 h [] ∧ Exa Z h u1 "java/util/Collections$UnmodifiableRandomAccessList" ∧ Fld Z h u1 "java/util/Collections$UnmodifiableCollection" "c" "Ljava/util/Collection;" (.ref nl) ∧ Fld Z h u1 "java/util/Collections$UnmodifiableList" "list" "Ljava/util/List;" (.ref nl) ∧ Exa Z h nl "java/util/ArrayList" ∧ Fld Z h nl "java/util/AbstractList" "modCount" "I" (.int 2) ∧ Fld Z h nl "java/util/ArrayList" "elementData" "[Ljava/lang/Object;" (.ref nb) ∧ Fld Z h nl "java/util/ArrayList" "size" "I" (.int 2) ∧ Arv Z h nb kn (.object "java/lang/Object") (10 : Int32) [(.ref x0), (.ref x1), .null, .null, .null, .null, .null, .null, .null, .null] .null) := by
 refine own_startC opn_21 ?_
 intro p e s m below meth c T0 X0 hx hby hml hZ hown hnm hret hlk e0
 have N := Fr.nil n0; have K := Keep.refl h0 []
 refine OG.cast (oef18 m t1) ?_
 refine og_new (pc' := 3) (cells' := 1) (slots' := 3) X0 hx hZ hown (ow65 hw) (ow66 hw) (ow67 hw) e0 (hb hby d21_0) rfl rfl rfl (by decide) (by decide) (fun T11 h11 nb11 X11 e11 E11 q11 E_nb11 D11 B11 => ?_)
 have s_nb11 : h0.size ≤ nb11 := Nat.le_of_eq q11.symm; have g_nb11 : n0 ≤ nb11 := Nat.le_trans (own_n0 O) s_nb11; have sz_nb11 : h0.size ≤ nb11 := Nat.le_trans K.1 s_nb11; have ne_t1_nb11 : t1 ≠ nb11 := Nat.ne_of_lt (Nat.lt_of_lt_of_le F__children_t1.lt s_nb11); have ne_ll_nb11 : ll ≠ nb11 := Nat.ne_of_lt (Nat.lt_of_lt_of_le E_ll.lt s_nb11); have ne_bb_nb11 : bb ≠ nb11 := Nat.ne_of_lt (Nat.lt_of_lt_of_le V_bb.lt s_nb11)
 have F__children_t1 := F__children_t1.ext E11; have E_ll := E_ll.ext E11; have F_modCount_ll := F_modCount_ll.ext E11; have F_elementData_ll := F_elementData_ll.ext E11; have F_size_ll := F_size_ll.ext E11; have V_bb := V_bb.ext E11
 have E_x0 := E_x0.ext E11; have E_x1 := E_x1.ext E11; have O := O.ext E11; have K := K.ext E11
 have F_modCount_nb11 : Fld Z h11 nb11 "java/util/AbstractList" "modCount" "I" (.int 0) := D11 (Or.inl (ow85 hw)) (ty := .int) (by decide)
 have F_elementData_nb11 : Fld Z h11 nb11 "java/util/ArrayList" "elementData" "[Ljava/lang/Object;" .null := D11 (Or.inl (ow88 hw)) (ty := (.array (.object "java/lang/Object"))) (by decide)
 have F_size_nb11 : Fld Z h11 nb11 "java/util/ArrayList" "size" "I" (.int 0) := D11 (Or.inl (ow122 hw)) (ty := .int) (by decide)
 refine og_dup X11 hx rfl (hb hby d21_3) rfl ?_
 refine og_special (pc' := 7) (cells' := 1) (slots' := 3) (W := 1) X11 hx hZ (rm_al l Z a0 hw nb11 de h11 n0 O E_nb11 F_modCount_nb11 F_elementData_nb11 F_size_nb11 S_DE g_nb11) rfl hown (ow68 hw) (ow69 hw) (ow67 hw) (ow70 hw) (by decide) (by rw [hml]; rfl) e11 opd_0 [] [(.ref nb11)] rfl rfl rfl rfl (by decide) (by decide) rfl rfl (by decide) (by decide) (hb hby d21_4) rfl (fun v12 T12 h12 L12 X12 e12 z12 => ?_)
 obtain ⟨rfl, Nq12, K12, F_modCount_nb11', F_elementData_nb11', F_size_nb11'⟩ := z12; have N := Fr.app N Nq12
 have F__children_t1 := F__children_t1.keep K12 (ninS ne_t1_nb11 nin0); have E_ll := E_ll.keep K12; have F_modCount_ll := F_modCount_ll.keep K12 (ninS ne_ll_nb11 nin0); have F_elementData_ll := F_elementData_ll.keep K12 (ninS ne_ll_nb11 nin0); have F_size_ll := F_size_ll.keep K12 (ninS ne_ll_nb11 nin0); have V_bb := V_bb.keep K12 (ninS ne_bb_nb11 nin0)
 have E_x0 := E_x0.keep K12; have E_x1 := E_x1.keep K12; have E_nb11 := E_nb11.keep K12; have O := O.keep K12 (allS g_nb11 all0); have K := K.trans K12 (allS (Or.inr sz_nb11) all0)
 have F_modCount_nb11 := F_modCount_nb11'; have F_elementData_nb11 := F_elementData_nb11'; have F_size_nb11 := F_size_nb11'
 refine og_astoreN (L' := #[.val (.ref t1), .val (.ref nb11), .unset, .unset]) X12 hx rfl rfl (hb hby d21_7) rfl ?_
 refine og_aloadN X12 hx rfl rfl (hb hby d21_8) rfl ?_
 refine og_getfield X12 hx hZ (host := "") hown (Or.inl (ow89 hw)) Via.refl e12 F__children_t1 (hb hby d21_9) rfl (fun T13 X13 e13 => ?_)
 refine og_interface (pc' := 17) (cells' := 2) (slots' := 7) (W := 0) X13 hx hZ (rm_it l Z a0 hw ll (2 : Int32) h12 n0 O F_modCount_ll) hown (ow150 hw) (ow151 hw) (ow152 hw) (ow153 hw) (ow154 hw) (ow155 hw) (ow156 hw) (ow117 hw) (ow67 hw) (ow157 hw) (by decide) (by rw [hml]; rfl) e13 opd_27 [] [] rfl rfl rfl rfl (by decide) (by decide) rfl rfl (by decide) (by decide) E_ll (hb hby d21_12) rfl (fun v14 T14 h14 L14 X14 e14 z14 => ?_)
 obtain ⟨ni14, rfl, Nq14, K14, si14, E_ni14, F_this_0_ni14, F_cursor_ni14, F_lastRet_ni14, F_expectedModCount_ni14⟩ := z14; have N := Fr.app N Nq14
 have s_ni14 : h12.size ≤ ni14 := si14; have g_ni14 : n0 ≤ ni14 := Nat.le_trans (own_n0 O) s_ni14; have sz_ni14 : h0.size ≤ ni14 := Nat.le_trans K.1 s_ni14; have ne_ll_ni14 : ll ≠ ni14 := Nat.ne_of_lt (Nat.lt_of_lt_of_le E_ll.lt s_ni14); have ne_bb_ni14 : bb ≠ ni14 := Nat.ne_of_lt (Nat.lt_of_lt_of_le V_bb.lt s_ni14)
 have ne_nb11_ni14 : nb11 ≠ ni14 := Nat.ne_of_lt (Nat.lt_of_lt_of_le E_nb11.lt s_ni14)
 have E_ll := E_ll.keep K14; have F_modCount_ll := F_modCount_ll.keep K14 nin0; have F_elementData_ll := F_elementData_ll.keep K14 nin0; have F_size_ll := F_size_ll.keep K14 nin0; have V_bb := V_bb.keep K14 nin0
 have E_x0 := E_x0.keep K14; have E_x1 := E_x1.keep K14; have E_nb11 := E_nb11.keep K14; have F_modCount_nb11 := F_modCount_nb11.keep K14 nin0; have F_elementData_nb11 := F_elementData_nb11.keep K14 nin0; have F_size_nb11 := F_size_nb11.keep K14 nin0
 have O := O.keep K14 all0; have K := K.trans K14 all0
 refine og_astoreN (L' := #[.val (.ref t1), .val (.ref nb11), .val (.ref ni14), .unset]) X14 hx rfl rfl (hb hby d21_17) rfl ?_
 refine og_aloadN X14 hx rfl rfl (hb hby d21_18) rfl ?_
 refine og_interface (pc' := 24) (cells' := 2) (slots' := 7) (W := 0) X14 hx hZ (rm_hn l Z a0 hw ni14 ll (0 : Int32) (2 : Int32) 1 (by decide) h14 n0 O F_this_0_ni14 F_cursor_ni14 F_size_ll) hown (ow173 hw) (ow174 hw) (ow175 hw) (ow176 hw) (ow177 hw) (ow178 hw) (ow179 hw) (ow180 hw) (ow160 hw) (ow181 hw) (by decide) (by rw [hml]; rfl) e14 opd_24 [] [] rfl rfl rfl rfl (by decide) (by decide) rfl rfl (by decide) (by decide) E_ni14 (hb hby d21_19) rfl (fun v15 T15 h15 L15 X15 e15 z15 => ?_)
 obtain ⟨rfl, Nq15, hq15⟩ := z15; replace e15 := e15.trans hq15; have N := Fr.app N Nq15
 refine og_if_eq (pc1 := 55) (pc2 := 27) X15 hx (hb hby d21_24) (by decide) (by decide) rfl (fun q => absurd q (by decide)) (fun _ => ?_)
 refine og_aloadN X15 hx rfl rfl (hb hby d21_27) rfl ?_
 refine og_interface (pc' := 33) (cells' := 2) (slots' := 7) (W := 0) X15 hx hZ (rm_nx_0_2 l Z a0 hw ni14 ll bb x0 x1 kb (-1 : Int32) h14 n0 O E_ni14 F_this_0_ni14 F_cursor_ni14 F_lastRet_ni14 F_expectedModCount_ni14 F_modCount_ll F_elementData_ll F_size_ll V_bb g_ni14 ne_ll_ni14 ne_bb_ni14) hown (ow185 hw) (ow186 hw) (ow187 hw) (ow188 hw) (ow189 hw) (ow190 hw) (ow191 hw) (ow180 hw) (ow160 hw) (ow192 hw) (by decide) (by rw [hml]; rfl) e15 opd_28 [] [] rfl rfl rfl rfl (by decide) (by decide) rfl rfl (by decide) (by decide) E_ni14 (hb hby d21_28) rfl (fun v16 T16 h16 L16 X16 e16 z16 => ?_)
 obtain ⟨rfl, Nq16, K16, E_ni14', F_this_0_ni14', F_cursor_ni14', F_lastRet_ni14', F_expectedModCount_ni14'⟩ := z16; have N := Fr.app N Nq16
 have E_ll := E_ll.keep K16; have F_modCount_ll := F_modCount_ll.keep K16 (ninS ne_ll_ni14 nin0); have F_elementData_ll := F_elementData_ll.keep K16 (ninS ne_ll_ni14 nin0); have F_size_ll := F_size_ll.keep K16 (ninS ne_ll_ni14 nin0); have V_bb := V_bb.keep K16 (ninS ne_bb_ni14 nin0)
 have E_x0 := E_x0.keep K16; have E_x1 := E_x1.keep K16; have E_nb11 := E_nb11.keep K16; have F_modCount_nb11 := F_modCount_nb11.keep K16 (ninS ne_nb11_ni14 nin0); have F_elementData_nb11 := F_elementData_nb11.keep K16 (ninS ne_nb11_ni14 nin0); have F_size_nb11 := F_size_nb11.keep K16 (ninS ne_nb11_ni14 nin0)
 have O := O.keep K16 (allS g_ni14 all0); have K := K.trans K16 (allS (Or.inr sz_ni14) all0)
 have E_ni14 := E_ni14'; have F_this_0_ni14 := F_this_0_ni14'; have F_cursor_ni14 := F_cursor_ni14'; have F_lastRet_ni14 := F_lastRet_ni14'; have F_expectedModCount_ni14 := F_expectedModCount_ni14'
 refine og_astoreN (L' := #[.val (.ref t1), .val (.ref nb11), .val (.ref ni14), .val (.ref x0)]) X16 hx rfl rfl (hb hby d21_33) rfl ?_
 refine og_aloadN X16 hx rfl rfl (hb hby d21_34) rfl ?_
 obtain ⟨T17, X17, e17, st17⟩ := instY X16 hx hZ hown (ow199 hw) e16 (Ins.self E_x0) (g := (mkF m 35 #[.val (.ref t1), .val (.ref nb11), .val (.ref ni14), .val (.ref x0)] [(.ref x0)])) rfl rfl (hb hby d21_35)
 refine OG.of st17 ?_
 show OG p e below _ (T17.setTop (mkF m 38 #[.val (.ref t1), .val (.ref nb11), .val (.ref ni14), .val (.ref x0)] [(.int 1)]))
 refine og_if_eq (pc1 := 52) (pc2 := 41) X17 hx (hb hby d21_38) (by decide) (by decide) rfl (fun q => absurd q (by decide)) (fun _ => ?_)
 refine og_aloadN X17 hx rfl rfl (hb hby d21_41) rfl ?_
 refine og_aloadN X17 hx rfl rfl (hb hby d21_42) rfl ?_
 obtain ⟨T18, X18, e18, st18⟩ := castY X17 hx hZ hown (ow199 hw) e17 (Ins.self E_x0) (g := (mkF m 43 #[.val (.ref t1), .val (.ref nb11), .val (.ref ni14), .val (.ref x0)] [(.ref x0), (.ref nb11)])) rfl rfl (hb hby d21_43)
 refine OG.of st18 ?_
 show OG p e below _ (T18.setTop (mkF m 46 #[.val (.ref t1), .val (.ref nb11), .val (.ref ni14), .val (.ref x0)] [(.ref x0), (.ref nb11)]))
 refine og_interface (pc' := 51) (cells' := 3) (slots' := 17) (W := 0) X18 hx hZ (rm_la_0E l Z a0 hw nb11 x0 de kde h16 n0 O E_nb11 F_modCount_nb11 F_elementData_nb11 F_size_nb11 E_x0 S_DE V_de g_nb11) hown (ow110 hw) (ow111 hw) (ow112 hw) (ow113 hw) (ow114 hw) (ow115 hw) (ow116 hw) (ow117 hw) (ow67 hw) (ow118 hw) (by decide) (by rw [hml]; rfl) e18 opd_29 [(.ref x0)] [] rfl rfl rfl rfl (by decide) (by decide) rfl rfl (by decide) (by decide) E_nb11 (hb hby d21_46) rfl (fun v19 T19 h19 L19 X19 e19 z19 => ?_)
 obtain ⟨nb19, k19, rfl, Nq19, K19, sb19, E_nb11', F_modCount_nb11', F_elementData_nb11', F_size_nb11', V_nb19, Ov_nb19⟩ := z19; have N := Fr.app N Nq19
 have s_nb19 : h16.size ≤ nb19 := sb19; have g_nb19 : n0 ≤ nb19 := Nat.le_trans (own_n0 O) s_nb19; have sz_nb19 : h0.size ≤ nb19 := Nat.le_trans K.1 s_nb19; have ne_ll_nb19 : ll ≠ nb19 := Nat.ne_of_lt (Nat.lt_of_lt_of_le E_ll.lt s_nb19)
 have ne_nb11_nb19 : nb11 ≠ nb19 := Nat.ne_of_lt (Nat.lt_of_lt_of_le E_nb11.lt s_nb19); have ne_ni14_nb19 : ni14 ≠ nb19 := Nat.ne_of_lt (Nat.lt_of_lt_of_le E_ni14.lt s_nb19)
 have F_modCount_ll := F_modCount_ll.keep K19 (ninS ne_ll_nb11 nin0); have F_elementData_ll := F_elementData_ll.keep K19 (ninS ne_ll_nb11 nin0); have F_size_ll := F_size_ll.keep K19 (ninS ne_ll_nb11 nin0); have V_bb := V_bb.keep K19 (ninS ne_bb_nb11 nin0)
 have E_x1 := E_x1.keep K19; have E_ni14 := E_ni14.keep K19; have F_this_0_ni14 := F_this_0_ni14.keep K19 (ninS (Ne.symm ne_nb11_ni14) nin0); have F_cursor_ni14 := F_cursor_ni14.keep K19 (ninS (Ne.symm ne_nb11_ni14) nin0)
 have F_lastRet_ni14 := F_lastRet_ni14.keep K19 (ninS (Ne.symm ne_nb11_ni14) nin0); have F_expectedModCount_ni14 := F_expectedModCount_ni14.keep K19 (ninS (Ne.symm ne_nb11_ni14) nin0); have O := O.keep K19 (allS g_nb11 all0); have K := K.trans K19 (allS (Or.inr sz_nb11) all0)
 have E_nb11 := E_nb11'; have F_modCount_nb11 := F_modCount_nb11'; have F_elementData_nb11 := F_elementData_nb11'; have F_size_nb11 := F_size_nb11'
 refine og_pop X19 hx rfl (hb hby d21_51) rfl ?_
 refine og_goto (pc' := 18) X19 hx (hb hby d21_52) (by decide) (by decide) ?_
 refine og_aloadN X19 hx rfl rfl (hb hby d21_18) rfl ?_
 refine og_interface (pc' := 24) (cells' := 3) (slots' := 17) (W := 0) X19 hx hZ (rm_hn l Z a0 hw ni14 ll (1 : Int32) (2 : Int32) 1 (by decide) h19 n0 O F_this_0_ni14 F_cursor_ni14 F_size_ll) hown (ow173 hw) (ow174 hw) (ow175 hw) (ow176 hw) (ow177 hw) (ow178 hw) (ow179 hw) (ow180 hw) (ow160 hw) (ow181 hw) (by decide) (by rw [hml]; rfl) e19 opd_24 [] [] rfl rfl rfl rfl (by decide) (by decide) rfl rfl (by decide) (by decide) E_ni14 (hb hby d21_19) rfl (fun v20 T20 h20 L20 X20 e20 z20 => ?_)
 obtain ⟨rfl, Nq20, hq20⟩ := z20; replace e20 := e20.trans hq20; have N := Fr.app N Nq20
 refine og_if_eq (pc1 := 55) (pc2 := 27) X20 hx (hb hby d21_24) (by decide) (by decide) rfl (fun q => absurd q (by decide)) (fun _ => ?_)
 refine og_aloadN X20 hx rfl rfl (hb hby d21_27) rfl ?_
 refine og_interface (pc' := 33) (cells' := 3) (slots' := 17) (W := 0) X20 hx hZ (rm_nx_1_2 l Z a0 hw ni14 ll bb x0 x1 kb (0 : Int32) h19 n0 O E_ni14 F_this_0_ni14 F_cursor_ni14 F_lastRet_ni14 F_expectedModCount_ni14 F_modCount_ll F_elementData_ll F_size_ll V_bb g_ni14 ne_ll_ni14 ne_bb_ni14) hown (ow185 hw) (ow186 hw) (ow187 hw) (ow188 hw) (ow189 hw) (ow190 hw) (ow191 hw) (ow180 hw) (ow160 hw) (ow192 hw) (by decide) (by rw [hml]; rfl) e20 opd_28 [] [] rfl rfl rfl rfl (by decide) (by decide) rfl rfl (by decide) (by decide) E_ni14 (hb hby d21_28) rfl (fun v21 T21 h21 L21 X21 e21 z21 => ?_)
 obtain ⟨rfl, Nq21, K21, E_ni14', F_this_0_ni14', F_cursor_ni14', F_lastRet_ni14', F_expectedModCount_ni14'⟩ := z21; have N := Fr.app N Nq21
 have F_size_ll := F_size_ll.keep K21 (ninS ne_ll_ni14 nin0)
 have E_x1 := E_x1.keep K21; have E_nb11 := E_nb11.keep K21; have F_modCount_nb11 := F_modCount_nb11.keep K21 (ninS ne_nb11_ni14 nin0); have F_elementData_nb11 := F_elementData_nb11.keep K21 (ninS ne_nb11_ni14 nin0)
 have F_size_nb11 := F_size_nb11.keep K21 (ninS ne_nb11_ni14 nin0); have V_nb19 := V_nb19.keep K21 (ninS (Ne.symm ne_ni14_nb19) nin0); have O := O.keep K21 (allS g_ni14 all0); have K := K.trans K21 (allS (Or.inr sz_ni14) all0)
 have E_ni14 := E_ni14'; have F_this_0_ni14 := F_this_0_ni14'; have F_cursor_ni14 := F_cursor_ni14'
 refine og_astoreN (L' := #[.val (.ref t1), .val (.ref nb11), .val (.ref ni14), .val (.ref x1)]) X21 hx rfl rfl (hb hby d21_33) rfl ?_
 refine og_aloadN X21 hx rfl rfl (hb hby d21_34) rfl ?_
 obtain ⟨T22, X22, e22, st22⟩ := instY X21 hx hZ hown (ow199 hw) e21 (Ins.self E_x1) (g := (mkF m 35 #[.val (.ref t1), .val (.ref nb11), .val (.ref ni14), .val (.ref x1)] [(.ref x1)])) rfl rfl (hb hby d21_35)
 refine OG.of st22 ?_
 show OG p e below _ (T22.setTop (mkF m 38 #[.val (.ref t1), .val (.ref nb11), .val (.ref ni14), .val (.ref x1)] [(.int 1)]))
 refine og_if_eq (pc1 := 52) (pc2 := 41) X22 hx (hb hby d21_38) (by decide) (by decide) rfl (fun q => absurd q (by decide)) (fun _ => ?_)
 refine og_aloadN X22 hx rfl rfl (hb hby d21_41) rfl ?_
 refine og_aloadN X22 hx rfl rfl (hb hby d21_42) rfl ?_
 obtain ⟨T23, X23, e23, st23⟩ := castY X22 hx hZ hown (ow199 hw) e22 (Ins.self E_x1) (g := (mkF m 43 #[.val (.ref t1), .val (.ref nb11), .val (.ref ni14), .val (.ref x1)] [(.ref x1), (.ref nb11)])) rfl rfl (hb hby d21_43)
 refine OG.of st23 ?_
 show OG p e below _ (T23.setTop (mkF m 46 #[.val (.ref t1), .val (.ref nb11), .val (.ref ni14), .val (.ref x1)] [(.ref x1), (.ref nb11)]))
 refine og_interface (pc' := 51) (cells' := 3) (slots' := 17) (W := 0) X23 hx hZ (rm_la_1E l Z a0 hw nb11 x1 nb19 x0 k19 Ov_nb19 h21 n0 O E_nb11 F_modCount_nb11 F_elementData_nb11 F_size_nb11 E_x1 V_nb19 g_nb11 g_nb19 ne_nb11_nb19) hown (ow110 hw) (ow111 hw) (ow112 hw) (ow113 hw) (ow114 hw) (ow115 hw) (ow116 hw) (ow117 hw) (ow67 hw) (ow118 hw) (by decide) (by rw [hml]; rfl) e23 opd_29 [(.ref x1)] [] rfl rfl rfl rfl (by decide) (by decide) rfl rfl (by decide) (by decide) E_nb11 (hb hby d21_46) rfl (fun v24 T24 h24 L24 X24 e24 z24 => ?_)
 obtain ⟨rfl, Nq24, K24, E_nb11', F_modCount_nb11', F_elementData_nb11', F_size_nb11', V_nb19'⟩ := z24; have N := Fr.app N Nq24
 have F_size_ll := F_size_ll.keep K24 (ninS ne_ll_nb11 (ninS ne_ll_nb19 nin0))
 have E_ni14 := E_ni14.keep K24; have F_this_0_ni14 := F_this_0_ni14.keep K24 (ninS (Ne.symm ne_nb11_ni14) (ninS ne_ni14_nb19 nin0)); have F_cursor_ni14 := F_cursor_ni14.keep K24 (ninS (Ne.symm ne_nb11_ni14) (ninS ne_ni14_nb19 nin0))
 have O := O.keep K24 (allS g_nb11 (allS g_nb19 all0)); have K := K.trans K24 (allS (Or.inr sz_nb11) (allS (Or.inr sz_nb19) all0))
 have V_nb19 := V_nb19'
 have E_nb11 := E_nb11'; have F_modCount_nb11 := F_modCount_nb11'; have F_elementData_nb11 := F_elementData_nb11'; have F_size_nb11 := F_size_nb11'
 refine og_pop X24 hx rfl (hb hby d21_51) rfl ?_
 refine og_goto (pc' := 18) X24 hx (hb hby d21_52) (by decide) (by decide) ?_
 refine og_aloadN X24 hx rfl rfl (hb hby d21_18) rfl ?_
 refine og_interface (pc' := 24) (cells' := 3) (slots' := 17) (W := 0) X24 hx hZ (rm_hn l Z a0 hw ni14 ll (2 : Int32) (2 : Int32) 0 (by decide) h24 n0 O F_this_0_ni14 F_cursor_ni14 F_size_ll) hown (ow173 hw) (ow174 hw) (ow175 hw) (ow176 hw) (ow177 hw) (ow178 hw) (ow179 hw) (ow180 hw) (ow160 hw) (ow181 hw) (by decide) (by rw [hml]; rfl) e24 opd_24 [] [] rfl rfl rfl rfl (by decide) (by decide) rfl rfl (by decide) (by decide) E_ni14 (hb hby d21_19) rfl (fun v25 T25 h25 L25 X25 e25 z25 => ?_)
 obtain ⟨rfl, Nq25, hq25⟩ := z25; replace e25 := e25.trans hq25; have N := Fr.app N Nq25
 refine og_if_eq (pc1 := 55) (pc2 := 27) X25 hx (hb hby d21_24) (by decide) (by decide) rfl (fun _ => ?_) (fun q => absurd q (by decide))
 refine og_aloadN X25 hx rfl rfl (hb hby d21_55) rfl ?_
 refine og_static (pc' := 59) (cells' := 4) (slots' := 19) (W := 0) X25 hx hZ (rm_un l Z a0 hw nb11 mA mL mR h24 n0 O E_nb11 M_mA M_mL M_mR ne_mA_mL ne_mA_mR) hown (ow201 hw) (ow202 hw) (ow203 hw) (ow204 hw) (by decide) (by rw [hml]; rfl) e25 opd_30 [(.ref nb11)] [] rfl rfl rfl rfl (by decide) (by decide) rfl rfl (by decide) (by decide) (hb hby d21_56) rfl (fun v26 T26 h26 L26 X26 e26 z26 => ?_)
 obtain ⟨u1, rfl, Nq26, K26, E_u1, F_c_u1, F_list_u1⟩ := z26; have N := Fr.app N Nq26
 have E_nb11 := E_nb11.keep K26
 have F_modCount_nb11 := F_modCount_nb11.keep K26 nin0; have F_elementData_nb11 := F_elementData_nb11.keep K26 nin0; have F_size_nb11 := F_size_nb11.keep K26 nin0; have V_nb19 := V_nb19.keep K26 nin0
 have K := K.trans K26 all0
 refine og_retR X26 hx hlk hret rfl rfl rfl (hb hby d21_59) (by decide) (by decide) ?_
 rw [e26]; exact ⟨_, nb11, _, _, rfl, N, K, E_u1, F_c_u1, F_list_u1, E_nb11, F_modCount_nb11, F_elementData_nb11, F_size_nb11, V_nb19⟩
theorem rm_txt_EE (l : Launch) (Z : State) (a0 : Array Value) (hw : HW a0 Z) (t1 ll bb x0 x1 : Addr) (kb : ClassId)  (cs : Int32) (hcs : ¬ cs = 0) (h0 : Heap) (n0 : Nat) (O : Old Z n0 h0) (F__children_t1 : Fld Z h0 t1 "com/example/marsh_tit/marshtit/stanza/Element" "_children" "Ljava/util/List;" (.ref ll)) (E_ll : Exa Z h0 ll "java/util/ArrayList") (F_modCount_ll : Fld Z h0 ll "java/util/AbstractList" "modCount" "I" (.int 2)) (F_elementData_ll : Fld Z h0 ll "java/util/ArrayList" "elementData" "[Ljava/lang/Object;" (.ref bb)) (F_size_ll : Fld Z h0 ll "java/util/ArrayList" "size" "I" (.int 2)) (V_bb : Arv Z h0 bb kb (.object "java/lang/Object") (10 : Int32) [(.ref x0), (.ref x1), .null, .null, .null, .null, .null, .null, .null, .null] .null) (E_x0 : Exa Z h0 x0 "com/example/marsh_tit/marshtit/stanza/Element") (E_x1 : Exa Z h0 x1 "com/example/marsh_tit/marshtit/stanza/Element") (S_CS : Sta Z Z.heap "java/lang/String" "COMPACT_STRINGS" "Z" (.int cs)) :
  Con l Z (⟨"com/example/marsh_tit/marshtit/stanza/Element", "text", "()Ljava/lang/String;"⟩ : MethodName) prog_19_method_13_code 4 (some (.object "java/lang/String")) ({ frames := 6, cells := 5, slots := 28, locals := 91 } : Room) #[(.ref t1)] h0 (fun v h L => ∃ a b k, v = some (.ref a) ∧ Fr n0 L ∧ Keep h0 h [] ∧ h0.size ≤ a ∧ h0.size ≤ b ∧ Exa Z h a "java/lang/String" ∧ Fld Z h a "java/lang/String" "value" "[B" (.ref b) ∧ Fld Z h a "java/lang/String" "coder" "B" (.int 0) ∧ Arv Z h b k .byte (0 : Int32) [] (.int 0)) := by
 refine own_startC opn_38 ?_
 intro p e s m below meth c T0 X0 hx hby hml hZ hown hnm hret hlk e0
 have N := Fr.nil n0; have K := Keep.refl h0 []
 refine OG.cast (oef18 m t1) ?_
 refine og_new (pc' := 3) (cells' := 1) (slots' := 4) X0 hx hZ hown (ow293 hw) (ow294 hw) (ow295 hw) e0 (hb hby d38_0) rfl rfl rfl (by decide) (by decide) (fun T11 h11 nb11 X11 e11 E11 q11 E_nb11 D11 B11 => ?_)
 have s_nb11 : h0.size ≤ nb11 := Nat.le_of_eq q11.symm; have g_nb11 : n0 ≤ nb11 := Nat.le_trans (own_n0 O) s_nb11; have sz_nb11 : h0.size ≤ nb11 := Nat.le_trans K.1 s_nb11; have ne_t1_nb11 : t1 ≠ nb11 := Nat.ne_of_lt (Nat.lt_of_lt_of_le F__children_t1.lt s_nb11); have ne_ll_nb11 : ll ≠ nb11 := Nat.ne_of_lt (Nat.lt_of_lt_of_le E_ll.lt s_nb11); have ne_bb_nb11 : bb ≠ nb11 := Nat.ne_of_lt (Nat.lt_of_lt_of_le V_bb.lt s_nb11)
 have F__children_t1 := F__children_t1.ext E11; have E_ll := E_ll.ext E11; have F_modCount_ll := F_modCount_ll.ext E11; have F_elementData_ll := F_elementData_ll.ext E11; have F_size_ll := F_size_ll.ext E11; have V_bb := V_bb.ext E11
 have E_x0 := E_x0.ext E11; have E_x1 := E_x1.ext E11; have O := O.ext E11; have K := K.ext E11
 have F_value_nb11 : Fld Z h11 nb11 "java/lang/AbstractStringBuilder" "value" "[B" .null := D11 (Or.inl (ow308 hw)) (ty := (.array .byte)) (by decide)
 have F_coder_nb11 : Fld Z h11 nb11 "java/lang/AbstractStringBuilder" "coder" "B" (.int 0) := D11 (Or.inl (ow310 hw)) (ty := .byte) (by decide)
 have F_count_nb11 : Fld Z h11 nb11 "java/lang/AbstractStringBuilder" "count" "I" (.int 0) := D11 (Or.inl (ow340 hw)) (ty := .int) (by decide)
 refine og_dup X11 hx rfl (hb hby d38_3) rfl ?_
 refine og_special (pc' := 7) (cells' := 2) (slots' := 20) (W := 1) X11 hx hZ (rm_sb0 l Z a0 hw nb11 cs hcs h11 n0 O E_nb11 F_value_nb11 F_coder_nb11 F_count_nb11 S_CS g_nb11) rfl hown (ow296 hw) (ow297 hw) (ow295 hw) (ow298 hw) (by decide) (by rw [hml]; rfl) e11 opd_0 [] [(.ref nb11)] rfl rfl rfl rfl (by decide) (by decide) rfl rfl (by decide) (by decide) (hb hby d38_4) rfl (fun v12 T12 h12 L12 X12 e12 z12 => ?_)
 obtain ⟨nb12, k12, rfl, Nq12, K12, sb12, E_nb11', F_value_nb11', F_coder_nb11', F_count_nb11', V_nb12, E_nb12⟩ := z12; have N := Fr.app N Nq12
 have F__children_t1 := F__children_t1.keep K12 (ninS ne_t1_nb11 nin0); have E_ll := E_ll.keep K12; have F_modCount_ll := F_modCount_ll.keep K12 (ninS ne_ll_nb11 nin0); have F_elementData_ll := F_elementData_ll.keep K12 (ninS ne_ll_nb11 nin0); have F_size_ll := F_size_ll.keep K12 (ninS ne_ll_nb11 nin0); have V_bb := V_bb.keep K12 (ninS ne_bb_nb11 nin0)
 have E_x0 := E_x0.keep K12; have E_x1 := E_x1.keep K12; have O := O.keep K12 (allS g_nb11 all0); have K := K.trans K12 (allS (Or.inr sz_nb11) all0)
 have E_nb11 := E_nb11'; have F_value_nb11 := F_value_nb11'; have F_coder_nb11 := F_coder_nb11'; have F_count_nb11 := F_count_nb11'
 refine og_astoreN (L' := #[.val (.ref t1), .val (.ref nb11), .unset, .unset]) X12 hx rfl rfl (hb hby d38_7) rfl ?_
 refine og_aloadN X12 hx rfl rfl (hb hby d38_8) rfl ?_
 refine og_getfield X12 hx hZ (host := "") hown (Or.inl (ow89 hw)) Via.refl e12 F__children_t1 (hb hby d38_9) rfl (fun T13 X13 e13 => ?_)
 refine og_interface (pc' := 17) (cells' := 3) (slots' := 24) (W := 0) X13 hx hZ (rm_it l Z a0 hw ll (2 : Int32) h12 n0 O F_modCount_ll) hown (ow150 hw) (ow151 hw) (ow152 hw) (ow153 hw) (ow154 hw) (ow155 hw) (ow156 hw) (ow117 hw) (ow67 hw) (ow157 hw) (by decide) (by rw [hml]; rfl) e13 opd_27 [] [] rfl rfl rfl rfl (by decide) (by decide) rfl rfl (by decide) (by decide) E_ll (hb hby d38_12) rfl (fun v14 T14 h14 L14 X14 e14 z14 => ?_)
 obtain ⟨ni14, rfl, Nq14, K14, si14, E_ni14, F_this_0_ni14, F_cursor_ni14, F_lastRet_ni14, F_expectedModCount_ni14⟩ := z14; have N := Fr.app N Nq14
 have s_ni14 : h12.size ≤ ni14 := si14; have g_ni14 : n0 ≤ ni14 := Nat.le_trans (own_n0 O) s_ni14; have sz_ni14 : h0.size ≤ ni14 := Nat.le_trans K.1 s_ni14; have ne_ll_ni14 : ll ≠ ni14 := Nat.ne_of_lt (Nat.lt_of_lt_of_le E_ll.lt s_ni14); have ne_bb_ni14 : bb ≠ ni14 := Nat.ne_of_lt (Nat.lt_of_lt_of_le V_bb.lt s_ni14)
 have ne_nb11_ni14 : nb11 ≠ ni14 := Nat.ne_of_lt (Nat.lt_of_lt_of_le E_nb11.lt s_ni14); have ne_nb12_ni14 : nb12 ≠ ni14 := Nat.ne_of_lt (Nat.lt_of_lt_of_le V_nb12.lt s_ni14)
 have F_modCount_ll := F_modCount_ll.keep K14 nin0; have F_elementData_ll := F_elementData_ll.keep K14 nin0; have F_size_ll := F_size_ll.keep K14 nin0; have V_bb := V_bb.keep K14 nin0
 have E_x0 := E_x0.keep K14; have E_x1 := E_x1.keep K14; have E_nb11 := E_nb11.keep K14; have F_value_nb11 := F_value_nb11.keep K14 nin0; have F_coder_nb11 := F_coder_nb11.keep K14 nin0; have F_count_nb11 := F_count_nb11.keep K14 nin0
 have V_nb12 := V_nb12.keep K14 nin0; have E_nb12 := E_nb12.keep K14; have O := O.keep K14 all0; have K := K.trans K14 all0
 refine og_astoreN (L' := #[.val (.ref t1), .val (.ref nb11), .val (.ref ni14), .unset]) X14 hx rfl rfl (hb hby d38_17) rfl ?_
 refine og_aloadN X14 hx rfl rfl (hb hby d38_18) rfl ?_
 refine og_interface (pc' := 24) (cells' := 3) (slots' := 24) (W := 0) X14 hx hZ (rm_hn l Z a0 hw ni14 ll (0 : Int32) (2 : Int32) 1 (by decide) h14 n0 O F_this_0_ni14 F_cursor_ni14 F_size_ll) hown (ow173 hw) (ow174 hw) (ow175 hw) (ow176 hw) (ow177 hw) (ow178 hw) (ow179 hw) (ow180 hw) (ow160 hw) (ow181 hw) (by decide) (by rw [hml]; rfl) e14 opd_24 [] [] rfl rfl rfl rfl (by decide) (by decide) rfl rfl (by decide) (by decide) E_ni14 (hb hby d38_19) rfl (fun v15 T15 h15 L15 X15 e15 z15 => ?_)
 obtain ⟨rfl, Nq15, hq15⟩ := z15; replace e15 := e15.trans hq15; have N := Fr.app N Nq15
 refine og_if_eq (pc1 := 53) (pc2 := 27) X15 hx (hb hby d38_24) (by decide) (by decide) rfl (fun q => absurd q (by decide)) (fun _ => ?_)
 refine og_aloadN X15 hx rfl rfl (hb hby d38_27) rfl ?_
 refine og_interface (pc' := 33) (cells' := 3) (slots' := 24) (W := 0) X15 hx hZ (rm_nx_0_2 l Z a0 hw ni14 ll bb x0 x1 kb (-1 : Int32) h14 n0 O E_ni14 F_this_0_ni14 F_cursor_ni14 F_lastRet_ni14 F_expectedModCount_ni14 F_modCount_ll F_elementData_ll F_size_ll V_bb g_ni14 ne_ll_ni14 ne_bb_ni14) hown (ow185 hw) (ow186 hw) (ow187 hw) (ow188 hw) (ow189 hw) (ow190 hw) (ow191 hw) (ow180 hw) (ow160 hw) (ow192 hw) (by decide) (by rw [hml]; rfl) e15 opd_28 [] [] rfl rfl rfl rfl (by decide) (by decide) rfl rfl (by decide) (by decide) E_ni14 (hb hby d38_28) rfl (fun v16 T16 h16 L16 X16 e16 z16 => ?_)
 obtain ⟨rfl, Nq16, K16, E_ni14', F_this_0_ni14', F_cursor_ni14', F_lastRet_ni14', F_expectedModCount_ni14'⟩ := z16; have N := Fr.app N Nq16
 have F_modCount_ll := F_modCount_ll.keep K16 (ninS ne_ll_ni14 nin0); have F_elementData_ll := F_elementData_ll.keep K16 (ninS ne_ll_ni14 nin0); have F_size_ll := F_size_ll.keep K16 (ninS ne_ll_ni14 nin0); have V_bb := V_bb.keep K16 (ninS ne_bb_ni14 nin0)
 have E_x0 := E_x0.keep K16; have E_x1 := E_x1.keep K16; have E_nb11 := E_nb11.keep K16; have F_value_nb11 := F_value_nb11.keep K16 (ninS ne_nb11_ni14 nin0); have F_coder_nb11 := F_coder_nb11.keep K16 (ninS ne_nb11_ni14 nin0); have F_count_nb11 := F_count_nb11.keep K16 (ninS ne_nb11_ni14 nin0)
 have V_nb12 := V_nb12.keep K16 (ninS ne_nb12_ni14 nin0); have E_nb12 := E_nb12.keep K16; have O := O.keep K16 (allS g_ni14 all0); have K := K.trans K16 (allS (Or.inr sz_ni14) all0)
 have E_ni14 := E_ni14'; have F_this_0_ni14 := F_this_0_ni14'; have F_cursor_ni14 := F_cursor_ni14'; have F_lastRet_ni14 := F_lastRet_ni14'; have F_expectedModCount_ni14 := F_expectedModCount_ni14'
 refine og_astoreN (L' := #[.val (.ref t1), .val (.ref nb11), .val (.ref ni14), .val (.ref x0)]) X16 hx rfl rfl (hb hby d38_33) rfl ?_
 refine og_aloadN X16 hx rfl rfl (hb hby d38_34) rfl ?_
 obtain ⟨T17, X17, e17, st17⟩ := instNo X16 hx hZ hown (ow98 hw) e16 E_x0 (NS.no (ow311 hw) (ow385 hw) (NS.step (ow311 hw) (NS.root (ow312 hw) (ow385 hw) (by decide)) (by decide)) (by decide)) (g := (mkF m 35 #[.val (.ref t1), .val (.ref nb11), .val (.ref ni14), .val (.ref x0)] [(.ref x0)])) rfl rfl (hb hby d38_35)
 refine OG.of st17 ?_
 show OG p e below _ (T17.setTop (mkF m 38 #[.val (.ref t1), .val (.ref nb11), .val (.ref ni14), .val (.ref x0)] [(.int 0)]))
 refine og_if_eq (pc1 := 50) (pc2 := 41) X17 hx (hb hby d38_38) (by decide) (by decide) rfl (fun _ => ?_) (fun q => absurd q (by decide))
 refine og_goto (pc' := 18) X17 hx (hb hby d38_50) (by decide) (by decide) ?_
 refine og_aloadN X17 hx rfl rfl (hb hby d38_18) rfl ?_
 refine og_interface (pc' := 24) (cells' := 3) (slots' := 24) (W := 0) X17 hx hZ (rm_hn l Z a0 hw ni14 ll (1 : Int32) (2 : Int32) 1 (by decide) h16 n0 O F_this_0_ni14 F_cursor_ni14 F_size_ll) hown (ow173 hw) (ow174 hw) (ow175 hw) (ow176 hw) (ow177 hw) (ow178 hw) (ow179 hw) (ow180 hw) (ow160 hw) (ow181 hw) (by decide) (by rw [hml]; rfl) e17 opd_24 [] [] rfl rfl rfl rfl (by decide) (by decide) rfl rfl (by decide) (by decide) E_ni14 (hb hby d38_19) rfl (fun v18 T18 h18 L18 X18 e18 z18 => ?_)
 obtain ⟨rfl, Nq18, hq18⟩ := z18; replace e18 := e18.trans hq18; have N := Fr.app N Nq18
 refine og_if_eq (pc1 := 53) (pc2 := 27) X18 hx (hb hby d38_24) (by decide) (by decide) rfl (fun q => absurd q (by decide)) (fun _ => ?_)
 refine og_aloadN X18 hx rfl rfl (hb hby d38_27) rfl ?_
 refine og_interface (pc' := 33) (cells' := 3) (slots' := 24) (W := 0) X18 hx hZ (rm_nx_1_2 l Z a0 hw ni14 ll bb x0 x1 kb (0 : Int32) h16 n0 O E_ni14 F_this_0_ni14 F_cursor_ni14 F_lastRet_ni14 F_expectedModCount_ni14 F_modCount_ll F_elementData_ll F_size_ll V_bb g_ni14 ne_ll_ni14 ne_bb_ni14) hown (ow185 hw) (ow186 hw) (ow187 hw) (ow188 hw) (ow189 hw) (ow190 hw) (ow191 hw) (ow180 hw) (ow160 hw) (ow192 hw) (by decide) (by rw [hml]; rfl) e18 opd_28 [] [] rfl rfl rfl rfl (by decide) (by decide) rfl rfl (by decide) (by decide) E_ni14 (hb hby d38_28) rfl (fun v19 T19 h19 L19 X19 e19 z19 => ?_)
 obtain ⟨rfl, Nq19, K19, E_ni14', F_this_0_ni14', F_cursor_ni14', F_lastRet_ni14', F_expectedModCount_ni14'⟩ := z19; have N := Fr.app N Nq19
 have F_size_ll := F_size_ll.keep K19 (ninS ne_ll_ni14 nin0)
 have E_x1 := E_x1.keep K19; have E_nb11 := E_nb11.keep K19; have F_value_nb11 := F_value_nb11.keep K19 (ninS ne_nb11_ni14 nin0); have F_coder_nb11 := F_coder_nb11.keep K19 (ninS ne_nb11_ni14 nin0); have F_count_nb11 := F_count_nb11.keep K19 (ninS ne_nb11_ni14 nin0)
 have V_nb12 := V_nb12.keep K19 (ninS ne_nb12_ni14 nin0); have E_nb12 := E_nb12.keep K19; have O := O.keep K19 (allS g_ni14 all0); have K := K.trans K19 (allS (Or.inr sz_ni14) all0)
 have E_ni14 := E_ni14'; have F_this_0_ni14 := F_this_0_ni14'; have F_cursor_ni14 := F_cursor_ni14'
 refine og_astoreN (L' := #[.val (.ref t1), .val (.ref nb11), .val (.ref ni14), .val (.ref x1)]) X19 hx rfl rfl (hb hby d38_33) rfl ?_
 refine og_aloadN X19 hx rfl rfl (hb hby d38_34) rfl ?_
 obtain ⟨T20, X20, e20, st20⟩ := instNo X19 hx hZ hown (ow98 hw) e19 E_x1 (NS.no (ow311 hw) (ow385 hw) (NS.step (ow311 hw) (NS.root (ow312 hw) (ow385 hw) (by decide)) (by decide)) (by decide)) (g := (mkF m 35 #[.val (.ref t1), .val (.ref nb11), .val (.ref ni14), .val (.ref x1)] [(.ref x1)])) rfl rfl (hb hby d38_35)
 refine OG.of st20 ?_
 show OG p e below _ (T20.setTop (mkF m 38 #[.val (.ref t1), .val (.ref nb11), .val (.ref ni14), .val (.ref x1)] [(.int 0)]))
 refine og_if_eq (pc1 := 50) (pc2 := 41) X20 hx (hb hby d38_38) (by decide) (by decide) rfl (fun _ => ?_) (fun q => absurd q (by decide))
 refine og_goto (pc' := 18) X20 hx (hb hby d38_50) (by decide) (by decide) ?_
 refine og_aloadN X20 hx rfl rfl (hb hby d38_18) rfl ?_
 refine og_interface (pc' := 24) (cells' := 3) (slots' := 24) (W := 0) X20 hx hZ (rm_hn l Z a0 hw ni14 ll (2 : Int32) (2 : Int32) 0 (by decide) h19 n0 O F_this_0_ni14 F_cursor_ni14 F_size_ll) hown (ow173 hw) (ow174 hw) (ow175 hw) (ow176 hw) (ow177 hw) (ow178 hw) (ow179 hw) (ow180 hw) (ow160 hw) (ow181 hw) (by decide) (by rw [hml]; rfl) e20 opd_24 [] [] rfl rfl rfl rfl (by decide) (by decide) rfl rfl (by decide) (by decide) E_ni14 (hb hby d38_19) rfl (fun v21 T21 h21 L21 X21 e21 z21 => ?_)
 obtain ⟨rfl, Nq21, hq21⟩ := z21; replace e21 := e21.trans hq21; have N := Fr.app N Nq21
 refine og_if_eq (pc1 := 53) (pc2 := 27) X21 hx (hb hby d38_24) (by decide) (by decide) rfl (fun _ => ?_) (fun q => absurd q (by decide))
 refine og_aloadN X21 hx rfl rfl (hb hby d38_53) rfl ?_
 refine og_virtual (pc' := 57) (cells' := 5) (slots' := 28) (W := 0) X21 hx hZ (rm_tos_16_0 l Z a0 hw nb11 nb12 k12 (0 : Int32) (0 : Int32) (0 : Int32) (0 : Int32) (0 : Int32) (0 : Int32) (0 : Int32) (0 : Int32) (0 : Int32) (0 : Int32) (0 : Int32) (0 : Int32) (0 : Int32) (0 : Int32) (0 : Int32) (0 : Int32) cs hcs h19 n0 O E_nb11 F_value_nb11 F_coder_nb11 F_count_nb11 E_nb12 V_nb12 S_CS) hown (ow313 hw) (ow314 hw) (own_nf hZ (ow316 hw)) (ow316 hw) (ow315 hw) (ow295 hw) (ow317 hw) (by decide) (by rw [hml]; rfl) e21 opd_31 [] [] rfl rfl rfl rfl (by decide) (by decide) rfl rfl (by decide) (by decide) E_nb11 (hb hby d38_54) rfl (fun v22 T22 h22 L22 X22 e22 z22 => ?_)
 obtain ⟨na22, nb22, k22, rfl, Nq22, K22, sa22, sb22, E_na22, F_value_na22, F_coder_na22, V_nb22⟩ := z22; have N := Fr.app N Nq22
 have s_na22 : h19.size ≤ na22 := sa22; have sz_na22 : h0.size ≤ na22 := Nat.le_trans K.1 s_na22
 have s_nb22 : h19.size ≤ nb22 := sb22; have sz_nb22 : h0.size ≤ nb22 := Nat.le_trans K.1 s_nb22
 have K := K.trans K22 all0
 refine og_retR X22 hx hlk hret rfl rfl rfl (hb hby d38_57) (by decide) (by decide) ?_
 rw [e22]; exact ⟨_, _, _, rfl, N, K, sz_na22, sz_nb22, E_na22, F_value_na22, F_coder_na22, V_nb22⟩
theorem rm_els_SEE (l : Launch) (Z : State) (a0 : Array Value) (hw : HW a0 Z) (t1 ll bb x0 x1 x2 mA mL mR : Addr) (kb : ClassId) (de : Addr) (kde : ClassId) (h0 : Heap) (n0 : Nat) (O : Old Z n0 h0) (F__children_t1 : Fld Z h0 t1 "com/example/marsh_tit/marshtit/stanza/Element" "_children" "Ljava/util/List;" (.ref ll)) (E_ll : Exa Z h0 ll "java/util/ArrayList") (F_modCount_ll : Fld Z h0 ll "java/util/AbstractList" "modCount" "I" (.int 3)) (F_elementData_ll : Fld Z h0 ll "java/util/ArrayList" "elementData" "[Ljava/lang/Object;" (.ref bb)) (F_size_ll : Fld Z h0 ll "java/util/ArrayList" "size" "I" (.int 3)) (V_bb : Arv Z h0 bb kb (.object "java/lang/Object") (10 : Int32) [(.ref x0), (.ref x1), (.ref x2), .null, .null, .null, .null, .null, .null, .null] .null) (E_x0 : Exa Z h0 x0 "java/lang/String") (E_x1 : Exa Z h0 x1 "com/example/marsh_tit/marshtit/stanza/Element") (E_x2 : Exa Z h0 x2 "com/example/marsh_tit/marshtit/stanza/Element") (S_DE : Sta Z Z.heap "java/util/ArrayList" "DEFAULTCAPACITY_EMPTY_ELEMENTDATA" "[Ljava/lang/Object;" (.ref de)) (V_de : Arv Z Z.heap de kde (.object "java/lang/Object") (0 : Int32) [] .null) (M_mA : (Term.mirror "java/util/ArrayList").eval #[] Z none [] Z = some (.ref mA)) (M_mL : (Term.mirror "java/util/Collections$UnmodifiableList").eval #[] Z none [] Z = some (.ref mL)) (M_mR : (Term.mirror "java/util/Collections$UnmodifiableRandomAccessList").eval #[] Z none [] Z = some (.ref mR)) (ne_mA_mL : mA ≠ mL) (ne_mA_mR : mA ≠ mR) :
  Con l Z (⟨"com/example/marsh_tit/marshtit/stanza/Element", "elements", "()Ljava/util/List;"⟩ : MethodName) prog_19_method_11_code 4 (some (.object "java/util/List")) ({ frames := 5, cells := 4, slots := 19, locals := 69 } : Room) #[(.ref t1)] h0 (fun v h L => ∃ u1 nl nb kn, v = some (.ref u1) ∧ Fr n0 L ∧ Keep h0 h [] ∧ Exa Z h u1 "java/util/Collections$UnmodifiableRandomAccessList" ∧ Fld Z h u1 "java/util/Collections$UnmodifiableCollection" "c" "Ljava/util/Collection;" (.ref nl) ∧ Fld Z h u1 "java/util/Collections$UnmodifiableList" "list" "Ljava/util/List;" (.ref nl) ∧ Exa Z h nl "java/util/ArrayList" ∧ Fld Z h nl "java/util/AbstractList" "modCount" "I" (.int 2) ∧ Fld Z h nl "java/util/ArrayList" "elementData" "[Ljava/lang/Object;" (.ref nb) ∧ Fld Z h nl "java/util/ArrayList" "size" "I" (.int 2) ∧ Arv Z h nb kn (.object "java/lang/Object") (10 : Int32) [(.ref x1), (.ref x2), .null, .null, .null, .null, .null, .null, .null, .null] .null) := by
 refine own_startC opn_21 ?_
 intro p e s m below meth c T0 X0 hx hby hml hZ hown hnm hret hlk e0
 have N := Fr.nil n0; have K := Keep.refl h0 []
 refine OG.cast (oef18 m t1) ?_
 refine og_new (pc' := 3) (cells' := 1) (slots' := 3) X0 hx hZ hown (ow65 hw) (ow66 hw) (ow67 hw) e0 (hb hby d21_0) rfl rfl rfl (by decide) (by decide) (fun T11 h11 nb11 X11 e11 E11 q11 E_nb11 D11 B11 => ?_)
 have s_nb11 : h0.size ≤ nb11 := Nat.le_of_eq q11.symm; have g_nb11 : n0 ≤ nb11 := Nat.le_trans (own_n0 O) s_nb11; have sz_nb11 : h0.size ≤ nb11 := Nat.le_trans K.1 s_nb11; have ne_t1_nb11 : t1 ≠ nb11 := Nat.ne_of_lt (Nat.lt_of_lt_of_le F__children_t1.lt s_nb11); have ne_ll_nb11 : ll ≠ nb11 := Nat.ne_of_lt (Nat.lt_of_lt_of_le E_ll.lt s_nb11); have ne_bb_nb11 : bb ≠ nb11 := Nat.ne_of_lt (Nat.lt_of_lt_of_le V_bb.lt s_nb11)
 have F__children_t1 := F__children_t1.ext E11; have E_ll := E_ll.ext E11; have F_modCount_ll := F_modCount_ll.ext E11; have F_elementData_ll := F_elementData_ll.ext E11; have F_size_ll := F_size_ll.ext E11; have V_bb := V_bb.ext E11
 have E_x0 := E_x0.ext E11; have E_x1 := E_x1.ext E11; have E_x2 := E_x2.ext E11; have O := O.ext E11; have K := K.ext E11
 have F_modCount_nb11 : Fld Z h11 nb11 "java/util/AbstractList" "modCount" "I" (.int 0) := D11 (Or.inl (ow85 hw)) (ty := .int) (by decide)
 have F_elementData_nb11 : Fld Z h11 nb11 "java/util/ArrayList" "elementData" "[Ljava/lang/Object;" .null := D11 (Or.inl (ow88 hw)) (ty := (.array (.object "java/lang/Object"))) (by decide)
 have F_size_nb11 : Fld Z h11 nb11 "java/util/ArrayList" "size" "I" (.int 0) := D11 (Or.inl (ow122 hw)) (ty := .int) (by decide)
 refine og_dup X11 hx rfl (hb hby d21_3) rfl ?_
 refine og_special (pc' := 7) (cells' := 1) (slots' := 3) (W := 1) X11 hx hZ (rm_al l Z a0 hw nb11 de h11 n0 O E_nb11 F_modCount_nb11 F_elementData_nb11 F_size_nb11 S_DE g_nb11) rfl hown (ow68 hw) (ow69 hw) (ow67 hw) (ow70 hw) (by decide) (by rw [hml]; rfl) e11 opd_0 [] [(.ref nb11)] rfl rfl rfl rfl (by decide) (by decide) rfl rfl (by decide) (by decide) (hb hby d21_4) rfl (fun v12 T12 h12 L12 X12 e12 z12 => ?_)
 obtain ⟨rfl, Nq12, K12, F_modCount_nb11', F_elementData_nb11', F_size_nb11'⟩ := z12; have N := Fr.app N Nq12
 have F__children_t1 := F__children_t1.keep K12 (ninS ne_t1_nb11 nin0); have E_ll := E_ll.keep K12; have F_modCount_ll := F_modCount_ll.keep K12 (ninS ne_ll_nb11 nin0); have F_elementData_ll := F_elementData_ll.keep K12 (ninS ne_ll_nb11 nin0); have F_size_ll := F_size_ll.keep K12 (ninS ne_ll_nb11 nin0); have V_bb := V_bb.keep K12 (ninS ne_bb_nb11 nin0)
 have E_x0 := E_x0.keep K12; have E_x1 := E_x1.keep K12; have E_x2 := E_x2.keep K12; have E_nb11 := E_nb11.keep K12; have O := O.keep K12 (allS g_nb11 all0); have K := K.trans K12 (allS (Or.inr sz_nb11) all0)
 have F_modCount_nb11 := F_modCount_nb11'; have F_elementData_nb11 := F_elementData_nb11'; have F_size_nb11 := F_size_nb11'
 refine og_astoreN (L' := #[.val (.ref t1), .val (.ref nb11), .unset, .unset]) X12 hx rfl rfl (hb hby d21_7) rfl ?_
 refine og_aloadN X12 hx rfl rfl (hb hby d21_8) rfl ?_
 refine og_getfield X12 hx hZ (host := "") hown (Or.inl (ow89 hw)) Via.refl e12 F__children_t1 (hb hby d21_9) rfl (fun T13 X13 e13 => ?_)
 refine og_interface (pc' := 17) (cells' := 2) (slots' := 7) (W := 0) X13 hx hZ (rm_it l Z a0 hw ll (3 : Int32) h12 n0 O F_modCount_ll) hown (ow150 hw) (ow151 hw) (ow152 hw) (ow153 hw) (ow154 hw) (ow155 hw) (ow156 hw) (ow117 hw) (ow67 hw) (ow157 hw) (by decide) (by rw [hml]; rfl) e13 opd_27 [] [] rfl rfl rfl rfl (by decide) (by decide) rfl rfl (by decide) (by decide) E_ll (hb hby d21_12) rfl (fun v14 T14 h14 L14 X14 e14 z14 => ?_)
 obtain ⟨ni14, rfl, Nq14, K14, si14, E_ni14, F_this_0_ni14, F_cursor_ni14, F_lastRet_ni14, F_expectedModCount_ni14⟩ := z14; have N := Fr.app N Nq14
 have s_ni14 : h12.size ≤ ni14 := si14; have g_ni14 : n0 ≤ ni14 := Nat.le_trans (own_n0 O) s_ni14; have sz_ni14 : h0.size ≤ ni14 := Nat.le_trans K.1 s_ni14; have ne_ll_ni14 : ll ≠ ni14 := Nat.ne_of_lt (Nat.lt_of_lt_of_le E_ll.lt s_ni14); have ne_bb_ni14 : bb ≠ ni14 := Nat.ne_of_lt (Nat.lt_of_lt_of_le V_bb.lt s_ni14)
 have ne_nb11_ni14 : nb11 ≠ ni14 := Nat.ne_of_lt (Nat.lt_of_lt_of_le E_nb11.lt s_ni14)
 have E_ll := E_ll.keep K14; have F_modCount_ll := F_modCount_ll.keep K14 nin0; have F_elementData_ll := F_elementData_ll.keep K14 nin0; have F_size_ll := F_size_ll.keep K14 nin0; have V_bb := V_bb.keep K14 nin0
 have E_x0 := E_x0.keep K14; have E_x1 := E_x1.keep K14; have E_x2 := E_x2.keep K14; have E_nb11 := E_nb11.keep K14; have F_modCount_nb11 := F_modCount_nb11.keep K14 nin0; have F_elementData_nb11 := F_elementData_nb11.keep K14 nin0
 have F_size_nb11 := F_size_nb11.keep K14 nin0; have O := O.keep K14 all0; have K := K.trans K14 all0
 refine og_astoreN (L' := #[.val (.ref t1), .val (.ref nb11), .val (.ref ni14), .unset]) X14 hx rfl rfl (hb hby d21_17) rfl ?_
 refine og_aloadN X14 hx rfl rfl (hb hby d21_18) rfl ?_
 refine og_interface (pc' := 24) (cells' := 2) (slots' := 7) (W := 0) X14 hx hZ (rm_hn l Z a0 hw ni14 ll (0 : Int32) (3 : Int32) 1 (by decide) h14 n0 O F_this_0_ni14 F_cursor_ni14 F_size_ll) hown (ow173 hw) (ow174 hw) (ow175 hw) (ow176 hw) (ow177 hw) (ow178 hw) (ow179 hw) (ow180 hw) (ow160 hw) (ow181 hw) (by decide) (by rw [hml]; rfl) e14 opd_24 [] [] rfl rfl rfl rfl (by decide) (by decide) rfl rfl (by decide) (by decide) E_ni14 (hb hby d21_19) rfl (fun v15 T15 h15 L15 X15 e15 z15 => ?_)
 obtain ⟨rfl, Nq15, hq15⟩ := z15; replace e15 := e15.trans hq15; have N := Fr.app N Nq15
 refine og_if_eq (pc1 := 55) (pc2 := 27) X15 hx (hb hby d21_24) (by decide) (by decide) rfl (fun q => absurd q (by decide)) (fun _ => ?_)
 refine og_aloadN X15 hx rfl rfl (hb hby d21_27) rfl ?_
 refine og_interface (pc' := 33) (cells' := 2) (slots' := 7) (W := 0) X15 hx hZ (rm_nx_0_3 l Z a0 hw ni14 ll bb x0 x1 x2 kb (-1 : Int32) h14 n0 O E_ni14 F_this_0_ni14 F_cursor_ni14 F_lastRet_ni14 F_expectedModCount_ni14 F_modCount_ll F_elementData_ll F_size_ll V_bb g_ni14 ne_ll_ni14 ne_bb_ni14) hown (ow185 hw) (ow186 hw) (ow187 hw) (ow188 hw) (ow189 hw) (ow190 hw) (ow191 hw) (ow180 hw) (ow160 hw) (ow192 hw) (by decide) (by rw [hml]; rfl) e15 opd_28 [] [] rfl rfl rfl rfl (by decide) (by decide) rfl rfl (by decide) (by decide) E_ni14 (hb hby d21_28) rfl (fun v16 T16 h16 L16 X16 e16 z16 => ?_)
 obtain ⟨rfl, Nq16, K16, E_ni14', F_this_0_ni14', F_cursor_ni14', F_lastRet_ni14', F_expectedModCount_ni14'⟩ := z16; have N := Fr.app N Nq16
 have E_ll := E_ll.keep K16; have F_modCount_ll := F_modCount_ll.keep K16 (ninS ne_ll_ni14 nin0); have F_elementData_ll := F_elementData_ll.keep K16 (ninS ne_ll_ni14 nin0); have F_size_ll := F_size_ll.keep K16 (ninS ne_ll_ni14 nin0); have V_bb := V_bb.keep K16 (ninS ne_bb_ni14 nin0)
 have E_x0 := E_x0.keep K16; have E_x1 := E_x1.keep K16; have E_x2 := E_x2.keep K16; have E_nb11 := E_nb11.keep K16; have F_modCount_nb11 := F_modCount_nb11.keep K16 (ninS ne_nb11_ni14 nin0); have F_elementData_nb11 := F_elementData_nb11.keep K16 (ninS ne_nb11_ni14 nin0)
 have F_size_nb11 := F_size_nb11.keep K16 (ninS ne_nb11_ni14 nin0); have O := O.keep K16 (allS g_ni14 all0); have K := K.trans K16 (allS (Or.inr sz_ni14) all0)
 have E_ni14 := E_ni14'; have F_this_0_ni14 := F_this_0_ni14'; have F_cursor_ni14 := F_cursor_ni14'; have F_lastRet_ni14 := F_lastRet_ni14'; have F_expectedModCount_ni14 := F_expectedModCount_ni14'
 refine og_astoreN (L' := #[.val (.ref t1), .val (.ref nb11), .val (.ref ni14), .val (.ref x0)]) X16 hx rfl rfl (hb hby d21_33) rfl ?_
 refine og_aloadN X16 hx rfl rfl (hb hby d21_34) rfl ?_
 obtain ⟨T17, X17, e17, st17⟩ := instNo X16 hx hZ hown (ow199 hw) e16 E_x0 (NS.no (ow385 hw) (ow311 hw) (NS.step (ow385 hw) (NS.root (ow312 hw) (ow311 hw) (by decide)) (by decide)) (by decide)) (g := (mkF m 35 #[.val (.ref t1), .val (.ref nb11), .val (.ref ni14), .val (.ref x0)] [(.ref x0)])) rfl rfl (hb hby d21_35)
 refine OG.of st17 ?_
 show OG p e below _ (T17.setTop (mkF m 38 #[.val (.ref t1), .val (.ref nb11), .val (.ref ni14), .val (.ref x0)] [(.int 0)]))
 refine og_if_eq (pc1 := 52) (pc2 := 41) X17 hx (hb hby d21_38) (by decide) (by decide) rfl (fun _ => ?_) (fun q => absurd q (by decide))
 refine og_goto (pc' := 18) X17 hx (hb hby d21_52) (by decide) (by decide) ?_
 refine og_aloadN X17 hx rfl rfl (hb hby d21_18) rfl ?_
 refine og_interface (pc' := 24) (cells' := 2) (slots' := 7) (W := 0) X17 hx hZ (rm_hn l Z a0 hw ni14 ll (1 : Int32) (3 : Int32) 1 (by decide) h16 n0 O F_this_0_ni14 F_cursor_ni14 F_size_ll) hown (ow173 hw) (ow174 hw) (ow175 hw) (ow176 hw) (ow177 hw) (ow178 hw) (ow179 hw) (ow180 hw) (ow160 hw) (ow181 hw) (by decide) (by rw [hml]; rfl) e17 opd_24 [] [] rfl rfl rfl rfl (by decide) (by decide) rfl rfl (by decide) (by decide) E_ni14 (hb hby d21_19) rfl (fun v18 T18 h18 L18 X18 e18 z18 => ?_)
 obtain ⟨rfl, Nq18, hq18⟩ := z18; replace e18 := e18.trans hq18; have N := Fr.app N Nq18
 refine og_if_eq (pc1 := 55) (pc2 := 27) X18 hx (hb hby d21_24) (by decide) (by decide) rfl (fun q => absurd q (by decide)) (fun _ => ?_)
 refine og_aloadN X18 hx rfl rfl (hb hby d21_27) rfl ?_
 refine og_interface (pc' := 33) (cells' := 2) (slots' := 7) (W := 0) X18 hx hZ (rm_nx_1_3 l Z a0 hw ni14 ll bb x0 x1 x2 kb (0 : Int32) h16 n0 O E_ni14 F_this_0_ni14 F_cursor_ni14 F_lastRet_ni14 F_expectedModCount_ni14 F_modCount_ll F_elementData_ll F_size_ll V_bb g_ni14 ne_ll_ni14 ne_bb_ni14) hown (ow185 hw) (ow186 hw) (ow187 hw) (ow188 hw) (ow189 hw) (ow190 hw) (ow191 hw) (ow180 hw) (ow160 hw) (ow192 hw) (by decide) (by rw [hml]; rfl) e18 opd_28 [] [] rfl rfl rfl rfl (by decide) (by decide) rfl rfl (by decide) (by decide) E_ni14 (hb hby d21_28) rfl (fun v19 T19 h19 L19 X19 e19 z19 => ?_)
 obtain ⟨rfl, Nq19, K19, E_ni14', F_this_0_ni14', F_cursor_ni14', F_lastRet_ni14', F_expectedModCount_ni14'⟩ := z19; have N := Fr.app N Nq19
 have E_ll := E_ll.keep K19; have F_modCount_ll := F_modCount_ll.keep K19 (ninS ne_ll_ni14 nin0); have F_elementData_ll := F_elementData_ll.keep K19 (ninS ne_ll_ni14 nin0); have F_size_ll := F_size_ll.keep K19 (ninS ne_ll_ni14 nin0); have V_bb := V_bb.keep K19 (ninS ne_bb_ni14 nin0)
 have E_x1 := E_x1.keep K19; have E_x2 := E_x2.keep K19; have E_nb11 := E_nb11.keep K19; have F_modCount_nb11 := F_modCount_nb11.keep K19 (ninS ne_nb11_ni14 nin0); have F_elementData_nb11 := F_elementData_nb11.keep K19 (ninS ne_nb11_ni14 nin0)
 have F_size_nb11 := F_size_nb11.keep K19 (ninS ne_nb11_ni14 nin0); have O := O.keep K19 (allS g_ni14 all0); have K := K.trans K19 (allS (Or.inr sz_ni14) all0)
 have E_ni14 := E_ni14'; have F_this_0_ni14 := F_this_0_ni14'; have F_cursor_ni14 := F_cursor_ni14'; have F_lastRet_ni14 := F_lastRet_ni14'; have F_expectedModCount_ni14 := F_expectedModCount_ni14'
 refine og_astoreN (L' := #[.val (.ref t1), .val (.ref nb11), .val (.ref ni14), .val (.ref x1)]) X19 hx rfl rfl (hb hby d21_33) rfl ?_
 refine og_aloadN X19 hx rfl rfl (hb hby d21_34) rfl ?_
 obtain ⟨T20, X20, e20, st20⟩ := instY X19 hx hZ hown (ow199 hw) e19 (Ins.self E_x1) (g := (mkF m 35 #[.val (.ref t1), .val (.ref nb11), .val (.ref ni14), .val (.ref x1)] [(.ref x1)])) rfl rfl (hb hby d21_35)
 refine OG.of st20 ?_
 show OG p e below _ (T20.setTop (mkF m 38 #[.val (.ref t1), .val (.ref nb11), .val (.ref ni14), .val (.ref x1)] [(.int 1)]))
 refine og_if_eq (pc1 := 52) (pc2 := 41) X20 hx (hb hby d21_38) (by decide) (by decide) rfl (fun q => absurd q (by decide)) (fun _ => ?_)
 refine og_aloadN X20 hx rfl rfl (hb hby d21_41) rfl ?_
 refine og_aloadN X20 hx rfl rfl (hb hby d21_42) rfl ?_
 obtain ⟨T21, X21, e21, st21⟩ := castY X20 hx hZ hown (ow199 hw) e20 (Ins.self E_x1) (g := (mkF m 43 #[.val (.ref t1), .val (.ref nb11), .val (.ref ni14), .val (.ref x1)] [(.ref x1), (.ref nb11)])) rfl rfl (hb hby d21_43)
 refine OG.of st21 ?_
 show OG p e below _ (T21.setTop (mkF m 46 #[.val (.ref t1), .val (.ref nb11), .val (.ref ni14), .val (.ref x1)] [(.ref x1), (.ref nb11)]))
 refine og_interface (pc' := 51) (cells' := 3) (slots' := 17) (W := 0) X21 hx hZ (rm_la_0E l Z a0 hw nb11 x1 de kde h19 n0 O E_nb11 F_modCount_nb11 F_elementData_nb11 F_size_nb11 E_x1 S_DE V_de g_nb11) hown (ow110 hw) (ow111 hw) (ow112 hw) (ow113 hw) (ow114 hw) (ow115 hw) (ow116 hw) (ow117 hw) (ow67 hw) (ow118 hw) (by decide) (by rw [hml]; rfl) e21 opd_29 [(.ref x1)] [] rfl rfl rfl rfl (by decide) (by decide) rfl rfl (by decide) (by decide) E_nb11 (hb hby d21_46) rfl (fun v22 T22 h22 L22 X22 e22 z22 => ?_)
 obtain ⟨nb22, k22, rfl, Nq22, K22, sb22, E_nb11', F_modCount_nb11', F_elementData_nb11', F_size_nb11', V_nb22, Ov_nb22⟩ := z22; have N := Fr.app N Nq22
 have s_nb22 : h19.size ≤ nb22 := sb22; have g_nb22 : n0 ≤ nb22 := Nat.le_trans (own_n0 O) s_nb22; have sz_nb22 : h0.size ≤ nb22 := Nat.le_trans K.1 s_nb22; have ne_ll_nb22 : ll ≠ nb22 := Nat.ne_of_lt (Nat.lt_of_lt_of_le E_ll.lt s_nb22)
 have ne_nb11_nb22 : nb11 ≠ nb22 := Nat.ne_of_lt (Nat.lt_of_lt_of_le E_nb11.lt s_nb22); have ne_ni14_nb22 : ni14 ≠ nb22 := Nat.ne_of_lt (Nat.lt_of_lt_of_le E_ni14.lt s_nb22)
 have F_modCount_ll := F_modCount_ll.keep K22 (ninS ne_ll_nb11 nin0); have F_elementData_ll := F_elementData_ll.keep K22 (ninS ne_ll_nb11 nin0); have F_size_ll := F_size_ll.keep K22 (ninS ne_ll_nb11 nin0); have V_bb := V_bb.keep K22 (ninS ne_bb_nb11 nin0)
 have E_x2 := E_x2.keep K22; have E_ni14 := E_ni14.keep K22; have F_this_0_ni14 := F_this_0_ni14.keep K22 (ninS (Ne.symm ne_nb11_ni14) nin0)
 have F_cursor_ni14 := F_cursor_ni14.keep K22 (ninS (Ne.symm ne_nb11_ni14) nin0); have F_lastRet_ni14 := F_lastRet_ni14.keep K22 (ninS (Ne.symm ne_nb11_ni14) nin0); have F_expectedModCount_ni14 := F_expectedModCount_ni14.keep K22 (ninS (Ne.symm ne_nb11_ni14) nin0); have O := O.keep K22 (allS g_nb11 all0); have K := K.trans K22 (allS (Or.inr sz_nb11) all0)
 have E_nb11 := E_nb11'; have F_modCount_nb11 := F_modCount_nb11'; have F_elementData_nb11 := F_elementData_nb11'; have F_size_nb11 := F_size_nb11'
 refine og_pop X22 hx rfl (hb hby d21_51) rfl ?_
 refine og_goto (pc' := 18) X22 hx (hb hby d21_52) (by decide) (by decide) ?_
 refine og_aloadN X22 hx rfl rfl (hb hby d21_18) rfl ?_
 refine og_interface (pc' := 24) (cells' := 3) (slots' := 17) (W := 0) X22 hx hZ (rm_hn l Z a0 hw ni14 ll (2 : Int32) (3 : Int32) 1 (by decide) h22 n0 O F_this_0_ni14 F_cursor_ni14 F_size_ll) hown (ow173 hw) (ow174 hw) (ow175 hw) (ow176 hw) (ow177 hw) (ow178 hw) (ow179 hw) (ow180 hw) (ow160 hw) (ow181 hw) (by decide) (by rw [hml]; rfl) e22 opd_24 [] [] rfl rfl rfl rfl (by decide) (by decide) rfl rfl (by decide) (by decide) E_ni14 (hb hby d21_19) rfl (fun v23 T23 h23 L23 X23 e23 z23 => ?_)
 obtain ⟨rfl, Nq23, hq23⟩ := z23; replace e23 := e23.trans hq23; have N := Fr.app N Nq23
 refine og_if_eq (pc1 := 55) (pc2 := 27) X23 hx (hb hby d21_24) (by decide) (by decide) rfl (fun q => absurd q (by decide)) (fun _ => ?_)
 refine og_aloadN X23 hx rfl rfl (hb hby d21_27) rfl ?_
 refine og_interface (pc' := 33) (cells' := 3) (slots' := 17) (W := 0) X23 hx hZ (rm_nx_2_3 l Z a0 hw ni14 ll bb x0 x1 x2 kb (1 : Int32) h22 n0 O E_ni14 F_this_0_ni14 F_cursor_ni14 F_lastRet_ni14 F_expectedModCount_ni14 F_modCount_ll F_elementData_ll F_size_ll V_bb g_ni14 ne_ll_ni14 ne_bb_ni14) hown (ow185 hw) (ow186 hw) (ow187 hw) (ow188 hw) (ow189 hw) (ow190 hw) (ow191 hw) (ow180 hw) (ow160 hw) (ow192 hw) (by decide) (by rw [hml]; rfl) e23 opd_28 [] [] rfl rfl rfl rfl (by decide) (by decide) rfl rfl (by decide) (by decide) E_ni14 (hb hby d21_28) rfl (fun v24 T24 h24 L24 X24 e24 z24 => ?_)
 obtain ⟨rfl, Nq24, K24, E_ni14', F_this_0_ni14', F_cursor_ni14', F_lastRet_ni14', F_expectedModCount_ni14'⟩ := z24; have N := Fr.app N Nq24
 have F_size_ll := F_size_ll.keep K24 (ninS ne_ll_ni14 nin0)
 have E_x2 := E_x2.keep K24; have E_nb11 := E_nb11.keep K24; have F_modCount_nb11 := F_modCount_nb11.keep K24 (ninS ne_nb11_ni14 nin0)
 have F_elementData_nb11 := F_elementData_nb11.keep K24 (ninS ne_nb11_ni14 nin0); have F_size_nb11 := F_size_nb11.keep K24 (ninS ne_nb11_ni14 nin0); have V_nb22 := V_nb22.keep K24 (ninS (Ne.symm ne_ni14_nb22) nin0); have O := O.keep K24 (allS g_ni14 all0); have K := K.trans K24 (allS (Or.inr sz_ni14) all0)
 have E_ni14 := E_ni14'; have F_this_0_ni14 := F_this_0_ni14'; have F_cursor_ni14 := F_cursor_ni14'
 refine og_astoreN (L' := #[.val (.ref t1), .val (.ref nb11), .val (.ref ni14), .val (.ref x2)]) X24 hx rfl rfl (hb hby d21_33) rfl ?_
 refine og_aloadN X24 hx rfl rfl (hb hby d21_34) rfl ?_
 obtain ⟨T25, X25, e25, st25⟩ := instY X24 hx hZ hown (ow199 hw) e24 (Ins.self E_x2) (g := (mkF m 35 #[.val (.ref t1), .val (.ref nb11), .val (.ref ni14), .val (.ref x2)] [(.ref x2)])) rfl rfl (hb hby d21_35)
 refine OG.of st25 ?_
 show OG p e below _ (T25.setTop (mkF m 38 #[.val (.ref t1), .val (.ref nb11), .val (.ref ni14), .val (.ref x2)] [(.int 1)]))
 refine og_if_eq (pc1 := 52) (pc2 := 41) X25 hx (hb hby d21_38) (by decide) (by decide) rfl (fun q => absurd q (by decide)) (fun _ => ?_)
 refine og_aloadN X25 hx rfl rfl (hb hby d21_41) rfl ?_
 refine og_aloadN X25 hx rfl rfl (hb hby d21_42) rfl ?_
 obtain ⟨T26, X26, e26, st26⟩ := castY X25 hx hZ hown (ow199 hw) e25 (Ins.self E_x2) (g := (mkF m 43 #[.val (.ref t1), .val (.ref nb11), .val (.ref ni14), .val (.ref x2)] [(.ref x2), (.ref nb11)])) rfl rfl (hb hby d21_43)
 refine OG.of st26 ?_
 show OG p e below _ (T26.setTop (mkF m 46 #[.val (.ref t1), .val (.ref nb11), .val (.ref ni14), .val (.ref x2)] [(.ref x2), (.ref nb11)]))
 refine og_interface (pc' := 51) (cells' := 3) (slots' := 17) (W := 0) X26 hx hZ (rm_la_1E l Z a0 hw nb11 x2 nb22 x1 k22 Ov_nb22 h24 n0 O E_nb11 F_modCount_nb11 F_elementData_nb11 F_size_nb11 E_x2 V_nb22 g_nb11 g_nb22 ne_nb11_nb22) hown (ow110 hw) (ow111 hw) (ow112 hw) (ow113 hw) (ow114 hw) (ow115 hw) (ow116 hw) (ow117 hw) (ow67 hw) (ow118 hw) (by decide) (by rw [hml]; rfl) e26 opd_29 [(.ref x2)] [] rfl rfl rfl rfl (by decide) (by decide) rfl rfl (by decide) (by decide) E_nb11 (hb hby d21_46) rfl (fun v27 T27 h27 L27 X27 e27 z27 => ?_)
 obtain ⟨rfl, Nq27, K27, E_nb11', F_modCount_nb11', F_elementData_nb11', F_size_nb11', V_nb22'⟩ := z27; have N := Fr.app N Nq27
 have F_size_ll := F_size_ll.keep K27 (ninS ne_ll_nb11 (ninS ne_ll_nb22 nin0))
 have E_ni14 := E_ni14.keep K27; have F_this_0_ni14 := F_this_0_ni14.keep K27 (ninS (Ne.symm ne_nb11_ni14) (ninS ne_ni14_nb22 nin0))
 have F_cursor_ni14 := F_cursor_ni14.keep K27 (ninS (Ne.symm ne_nb11_ni14) (ninS ne_ni14_nb22 nin0)); have O := O.keep K27 (allS g_nb11 (allS g_nb22 all0)); have K := K.trans K27 (allS (Or.inr sz_nb11) (allS (Or.inr sz_nb22) all0))
 have V_nb22 := V_nb22'
 have E_nb11 := E_nb11'; have F_modCount_nb11 := F_modCount_nb11'; have F_elementData_nb11 := F_elementData_nb11'; have F_size_nb11 := F_size_nb11'
 refine og_pop X27 hx rfl (hb hby d21_51) rfl ?_
 refine og_goto (pc' := 18) X27 hx (hb hby d21_52) (by decide) (by decide) ?_
 refine og_aloadN X27 hx rfl rfl (hb hby d21_18) rfl ?_
 refine og_interface (pc' := 24) (cells' := 3) (slots' := 17) (W := 0) X27 hx hZ (rm_hn l Z a0 hw ni14 ll (3 : Int32) (3 : Int32) 0 (by decide) h27 n0 O F_this_0_ni14 F_cursor_ni14 F_size_ll) hown (ow173 hw) (ow174 hw) (ow175 hw) (ow176 hw) (ow177 hw) (ow178 hw) (ow179 hw) (ow180 hw) (ow160 hw) (ow181 hw) (by decide) (by rw [hml]; rfl) e27 opd_24 [] [] rfl rfl rfl rfl (by decide) (by decide) rfl rfl (by decide) (by decide) E_ni14 (hb hby d21_19) rfl (fun v28 T28 h28 L28 X28 e28 z28 => ?_)
 obtain ⟨rfl, Nq28, hq28⟩ := z28; replace e28 := e28.trans hq28; have N := Fr.app N Nq28
 refine og_if_eq (pc1 := 55) (pc2 := 27) X28 hx (hb hby d21_24) (by decide) (by decide) rfl (fun _ => ?_) (fun q => absurd q (by decide))
 refine og_aloadN X28 hx rfl rfl (hb hby d21_55) rfl ?_
 refine og_static (pc' := 59) (cells' := 4) (slots' := 19) (W := 0) X28 hx hZ (rm_un l Z a0 hw nb11 mA mL mR h27 n0 O E_nb11 M_mA M_mL M_mR ne_mA_mL ne_mA_mR) hown (ow201 hw) (ow202 hw) (ow203 hw) (ow204 hw) (by decide) (by rw [hml]; rfl) e28 opd_30 [(.ref nb11)] [] rfl rfl rfl rfl (by decide) (by decide) rfl rfl (by decide) (by decide) (hb hby d21_56) rfl (fun v29 T29 h29 L29 X29 e29 z29 => ?_)
 obtain ⟨u1, rfl, Nq29, K29, E_u1, F_c_u1, F_list_u1⟩ := z29; have N := Fr.app N Nq29
 have E_nb11 := E_nb11.keep K29
 have F_modCount_nb11 := F_modCount_nb11.keep K29 nin0; have F_elementData_nb11 := F_elementData_nb11.keep K29 nin0; have F_size_nb11 := F_size_nb11.keep K29 nin0
 have V_nb22 := V_nb22.keep K29 nin0; have K := K.trans K29 all0
 refine og_retR X29 hx hlk hret rfl rfl rfl (hb hby d21_59) (by decide) (by decide) ?_
 rw [e29]; exact ⟨_, nb11, _, _, rfl, N, K, E_u1, F_c_u1, F_list_u1, E_nb11, F_modCount_nb11, F_elementData_nb11, F_size_nb11, V_nb22⟩
theorem rm_txt_SEE (l : Launch) (Z : State) (a0 : Array Value) (hw : HW a0 Z) (t1 ll bb x0 x1 x2 b2 : Addr) (kb : ClassId) (k2 : ClassId) (gg : Int32) (cs : Int32) (hcs : ¬ cs = 0) (h0 : Heap) (n0 : Nat) (O : Old Z n0 h0) (F__children_t1 : Fld Z h0 t1 "com/example/marsh_tit/marshtit/stanza/Element" "_children" "Ljava/util/List;" (.ref ll)) (E_ll : Exa Z h0 ll "java/util/ArrayList") (F_modCount_ll : Fld Z h0 ll "java/util/AbstractList" "modCount" "I" (.int 3)) (F_elementData_ll : Fld Z h0 ll "java/util/ArrayList" "elementData" "[Ljava/lang/Object;" (.ref bb)) (F_size_ll : Fld Z h0 ll "java/util/ArrayList" "size" "I" (.int 3)) (V_bb : Arv Z h0 bb kb (.object "java/lang/Object") (10 : Int32) [(.ref x0), (.ref x1), (.ref x2), .null, .null, .null, .null, .null, .null, .null] .null) (E_x0 : Exa Z h0 x0 "java/lang/String") (F_value_x0 : Fld Z h0 x0 "java/lang/String" "value" "[B" (.ref b2)) (F_coder_x0 : Fld Z h0 x0 "java/lang/String" "coder" "B" (.int 0)) (V_b2 : Arv Z h0 b2 k2 .byte (1 : Int32) [(.int gg)] (.int 0)) (E_x1 : Exa Z h0 x1 "com/example/marsh_tit/marshtit/stanza/Element") (E_x2 : Exa Z h0 x2 "com/example/marsh_tit/marshtit/stanza/Element") (S_CS : Sta Z Z.heap "java/lang/String" "COMPACT_STRINGS" "Z" (.int cs)) :
  Con l Z (⟨"com/example/marsh_tit/marshtit/stanza/Element", "text", "()Ljava/lang/String;"⟩ : MethodName) prog_19_method_13_code 4 (some (.object "java/lang/String")) ({ frames := 6, cells := 5, slots := 29, locals := 91 } : Room) #[(.ref t1)] h0 (fun v h L => ∃ a b k, v = some (.ref a) ∧ Fr n0 L ∧ Keep h0 h [] ∧ h0.size ≤ a ∧ h0.size ≤ b ∧ Exa Z h a "java/lang/String" ∧ Fld Z h a "java/lang/String" "value" "[B" (.ref b) ∧ Fld Z h a "java/lang/String" "coder" "B" (.int 0) ∧ Arv Z h b k .byte (1 : Int32) [(.int gg)] (.int 0)) := by
 refine own_startC opn_38 ?_
 intro p e s m below meth c T0 X0 hx hby hml hZ hown hnm hret hlk e0
 have N := Fr.nil n0; have K := Keep.refl h0 []
 refine OG.cast (oef18 m t1) ?_
 refine og_new (pc' := 3) (cells' := 1) (slots' := 4) X0 hx hZ hown (ow293 hw) (ow294 hw) (ow295 hw) e0 (hb hby d38_0) rfl rfl rfl (by decide) (by decide) (fun T11 h11 nb11 X11 e11 E11 q11 E_nb11 D11 B11 => ?_)
 have s_nb11 : h0.size ≤ nb11 := Nat.le_of_eq q11.symm; have g_nb11 : n0 ≤ nb11 := Nat.le_trans (own_n0 O) s_nb11; have sz_nb11 : h0.size ≤ nb11 := Nat.le_trans K.1 s_nb11; have ne_t1_nb11 : t1 ≠ nb11 := Nat.ne_of_lt (Nat.lt_of_lt_of_le F__children_t1.lt s_nb11); have ne_ll_nb11 : ll ≠ nb11 := Nat.ne_of_lt (Nat.lt_of_lt_of_le E_ll.lt s_nb11); have ne_bb_nb11 : bb ≠ nb11 := Nat.ne_of_lt (Nat.lt_of_lt_of_le V_bb.lt s_nb11)
 have ne_x0_nb11 : x0 ≠ nb11 := Nat.ne_of_lt (Nat.lt_of_lt_of_le E_x0.lt s_nb11); have ne_b2_nb11 : b2 ≠ nb11 := Nat.ne_of_lt (Nat.lt_of_lt_of_le V_b2.lt s_nb11)
 have F__children_t1 := F__children_t1.ext E11; have E_ll := E_ll.ext E11; have F_modCount_ll := F_modCount_ll.ext E11; have F_elementData_ll := F_elementData_ll.ext E11; have F_size_ll := F_size_ll.ext E11; have V_bb := V_bb.ext E11
 have E_x0 := E_x0.ext E11; have F_value_x0 := F_value_x0.ext E11; have F_coder_x0 := F_coder_x0.ext E11; have V_b2 := V_b2.ext E11; have E_x1 := E_x1.ext E11; have E_x2 := E_x2.ext E11
 have O := O.ext E11; have K := K.ext E11
 have F_value_nb11 : Fld Z h11 nb11 "java/lang/AbstractStringBuilder" "value" "[B" .null := D11 (Or.inl (ow308 hw)) (ty := (.array .byte)) (by decide)
 have F_coder_nb11 : Fld Z h11 nb11 "java/lang/AbstractStringBuilder" "coder" "B" (.int 0) := D11 (Or.inl (ow310 hw)) (ty := .byte) (by decide)
 have F_count_nb11 : Fld Z h11 nb11 "java/lang/AbstractStringBuilder" "count" "I" (.int 0) := D11 (Or.inl (ow340 hw)) (ty := .int) (by decide)
 refine og_dup X11 hx rfl (hb hby d38_3) rfl ?_
 refine og_special (pc' := 7) (cells' := 2) (slots' := 20) (W := 1) X11 hx hZ (rm_sb0 l Z a0 hw nb11 cs hcs h11 n0 O E_nb11 F_value_nb11 F_coder_nb11 F_count_nb11 S_CS g_nb11) rfl hown (ow296 hw) (ow297 hw) (ow295 hw) (ow298 hw) (by decide) (by rw [hml]; rfl) e11 opd_0 [] [(.ref nb11)] rfl rfl rfl rfl (by decide) (by decide) rfl rfl (by decide) (by decide) (hb hby d38_4) rfl (fun v12 T12 h12 L12 X12 e12 z12 => ?_)
 obtain ⟨nb12, k12, rfl, Nq12, K12, sb12, E_nb11', F_value_nb11', F_coder_nb11', F_count_nb11', V_nb12, E_nb12⟩ := z12; have N := Fr.app N Nq12
 have s_nb12 : h11.size ≤ nb12 := sb12; have g_nb12 : n0 ≤ nb12 := Nat.le_trans (own_n0 O) s_nb12; have sz_nb12 : h0.size ≤ nb12 := Nat.le_trans K.1 s_nb12; have ne_ll_nb12 : ll ≠ nb12 := Nat.ne_of_lt (Nat.lt_of_lt_of_le E_ll.lt s_nb12); have ne_bb_nb12 : bb ≠ nb12 := Nat.ne_of_lt (Nat.lt_of_lt_of_le V_bb.lt s_nb12)
 have ne_x0_nb12 : x0 ≠ nb12 := Nat.ne_of_lt (Nat.lt_of_lt_of_le E_x0.lt s_nb12); have ne_b2_nb12 : b2 ≠ nb12 := Nat.ne_of_lt (Nat.lt_of_lt_of_le V_b2.lt s_nb12); have ne_nb11_nb12 : nb11 ≠ nb12 := Nat.ne_of_lt (Nat.lt_of_lt_of_le E_nb11.lt s_nb12)
 have F__children_t1 := F__children_t1.keep K12 (ninS ne_t1_nb11 nin0); have E_ll := E_ll.keep K12; have F_modCount_ll := F_modCount_ll.keep K12 (ninS ne_ll_nb11 nin0); have F_elementData_ll := F_elementData_ll.keep K12 (ninS ne_ll_nb11 nin0); have F_size_ll := F_size_ll.keep K12 (ninS ne_ll_nb11 nin0); have V_bb := V_bb.keep K12 (ninS ne_bb_nb11 nin0)
 have E_x0 := E_x0.keep K12; have F_value_x0 := F_value_x0.keep K12 (ninS ne_x0_nb11 nin0); have F_coder_x0 := F_coder_x0.keep K12 (ninS ne_x0_nb11 nin0); have V_b2 := V_b2.keep K12 (ninS ne_b2_nb11 nin0); have E_x1 := E_x1.keep K12; have E_x2 := E_x2.keep K12
 have O := O.keep K12 (allS g_nb11 all0); have K := K.trans K12 (allS (Or.inr sz_nb11) all0)
 have E_nb11 := E_nb11'; have F_value_nb11 := F_value_nb11'; have F_coder_nb11 := F_coder_nb11'; have F_count_nb11 := F_count_nb11'
 refine og_astoreN (L' := #[.val (.ref t1), .val (.ref nb11), .unset, .unset]) X12 hx rfl rfl (hb hby d38_7) rfl ?_
 refine og_aloadN X12 hx rfl rfl (hb hby d38_8) rfl ?_
 refine og_getfield X12 hx hZ (host := "") hown (Or.inl (ow89 hw)) Via.refl e12 F__children_t1 (hb hby d38_9) rfl (fun T13 X13 e13 => ?_)
 refine og_interface (pc' := 17) (cells' := 3) (slots' := 24) (W := 0) X13 hx hZ (rm_it l Z a0 hw ll (3 : Int32) h12 n0 O F_modCount_ll) hown (ow150 hw) (ow151 hw) (ow152 hw) (ow153 hw) (ow154 hw) (ow155 hw) (ow156 hw) (ow117 hw) (ow67 hw) (ow157 hw) (by decide) (by rw [hml]; rfl) e13 opd_27 [] [] rfl rfl rfl rfl (by decide) (by decide) rfl rfl (by decide) (by decide) E_ll (hb hby d38_12) rfl (fun v14 T14 h14 L14 X14 e14 z14 => ?_)
 obtain ⟨ni14, rfl, Nq14, K14, si14, E_ni14, F_this_0_ni14, F_cursor_ni14, F_lastRet_ni14, F_expectedModCount_ni14⟩ := z14; have N := Fr.app N Nq14
 have s_ni14 : h12.size ≤ ni14 := si14; have g_ni14 : n0 ≤ ni14 := Nat.le_trans (own_n0 O) s_ni14; have sz_ni14 : h0.size ≤ ni14 := Nat.le_trans K.1 s_ni14; have ne_ll_ni14 : ll ≠ ni14 := Nat.ne_of_lt (Nat.lt_of_lt_of_le E_ll.lt s_ni14); have ne_bb_ni14 : bb ≠ ni14 := Nat.ne_of_lt (Nat.lt_of_lt_of_le V_bb.lt s_ni14)
 have ne_x0_ni14 : x0 ≠ ni14 := Nat.ne_of_lt (Nat.lt_of_lt_of_le E_x0.lt s_ni14); have ne_b2_ni14 : b2 ≠ ni14 := Nat.ne_of_lt (Nat.lt_of_lt_of_le V_b2.lt s_ni14); have ne_nb11_ni14 : nb11 ≠ ni14 := Nat.ne_of_lt (Nat.lt_of_lt_of_le E_nb11.lt s_ni14); have ne_nb12_ni14 : nb12 ≠ ni14 := Nat.ne_of_lt (Nat.lt_of_lt_of_le V_nb12.lt s_ni14)
 have F_modCount_ll := F_modCount_ll.keep K14 nin0; have F_elementData_ll := F_elementData_ll.keep K14 nin0; have F_size_ll := F_size_ll.keep K14 nin0; have V_bb := V_bb.keep K14 nin0
 have E_x0 := E_x0.keep K14; have F_value_x0 := F_value_x0.keep K14 nin0; have F_coder_x0 := F_coder_x0.keep K14 nin0; have V_b2 := V_b2.keep K14 nin0; have E_x1 := E_x1.keep K14; have E_x2 := E_x2.keep K14
 have E_nb11 := E_nb11.keep K14; have F_value_nb11 := F_value_nb11.keep K14 nin0; have F_coder_nb11 := F_coder_nb11.keep K14 nin0; have F_count_nb11 := F_count_nb11.keep K14 nin0; have V_nb12 := V_nb12.keep K14 nin0; have E_nb12 := E_nb12.keep K14
 have O := O.keep K14 all0; have K := K.trans K14 all0
 refine og_astoreN (L' := #[.val (.ref t1), .val (.ref nb11), .val (.ref ni14), .unset]) X14 hx rfl rfl (hb hby d38_17) rfl ?_
 refine og_aloadN X14 hx rfl rfl (hb hby d38_18) rfl ?_
 refine og_interface (pc' := 24) (cells' := 3) (slots' := 24) (W := 0) X14 hx hZ (rm_hn l Z a0 hw ni14 ll (0 : Int32) (3 : Int32) 1 (by decide) h14 n0 O F_this_0_ni14 F_cursor_ni14 F_size_ll) hown (ow173 hw) (ow174 hw) (ow175 hw) (ow176 hw) (ow177 hw) (ow178 hw) (ow179 hw) (ow180 hw) (ow160 hw) (ow181 hw) (by decide) (by rw [hml]; rfl) e14 opd_24 [] [] rfl rfl rfl rfl (by decide) (by decide) rfl rfl (by decide) (by decide) E_ni14 (hb hby d38_19) rfl (fun v15 T15 h15 L15 X15 e15 z15 => ?_)
 obtain ⟨rfl, Nq15, hq15⟩ := z15; replace e15 := e15.trans hq15; have N := Fr.app N Nq15
 refine og_if_eq (pc1 := 53) (pc2 := 27) X15 hx (hb hby d38_24) (by decide) (by decide) rfl (fun q => absurd q (by decide)) (fun _ => ?_)
 refine og_aloadN X15 hx rfl rfl (hb hby d38_27) rfl ?_
 refine og_interface (pc' := 33) (cells' := 3) (slots' := 24) (W := 0) X15 hx hZ (rm_nx_0_3 l Z a0 hw ni14 ll bb x0 x1 x2 kb (-1 : Int32) h14 n0 O E_ni14 F_this_0_ni14 F_cursor_ni14 F_lastRet_ni14 F_expectedModCount_ni14 F_modCount_ll F_elementData_ll F_size_ll V_bb g_ni14 ne_ll_ni14 ne_bb_ni14) hown (ow185 hw) (ow186 hw) (ow187 hw) (ow188 hw) (ow189 hw) (ow190 hw) (ow191 hw) (ow180 hw) (ow160 hw) (ow192 hw) (by decide) (by rw [hml]; rfl) e15 opd_28 [] [] rfl rfl rfl rfl (by decide) (by decide) rfl rfl (by decide) (by decide) E_ni14 (hb hby d38_28) rfl (fun v16 T16 h16 L16 X16 e16 z16 => ?_)
 obtain ⟨rfl, Nq16, K16, E_ni14', F_this_0_ni14', F_cursor_ni14', F_lastRet_ni14', F_expectedModCount_ni14'⟩ := z16; have N := Fr.app N Nq16
 have F_modCount_ll := F_modCount_ll.keep K16 (ninS ne_ll_ni14 nin0); have F_elementData_ll := F_elementData_ll.keep K16 (ninS ne_ll_ni14 nin0); have F_size_ll := F_size_ll.keep K16 (ninS ne_ll_ni14 nin0); have V_bb := V_bb.keep K16 (ninS ne_bb_ni14 nin0)
 have E_x0 := E_x0.keep K16; have F_value_x0 := F_value_x0.keep K16 (ninS ne_x0_ni14 nin0); have F_coder_x0 := F_coder_x0.keep K16 (ninS ne_x0_ni14 nin0); have V_b2 := V_b2.keep K16 (ninS ne_b2_ni14 nin0); have E_x1 := E_x1.keep K16; have E_x2 := E_x2.keep K16
 have E_nb11 := E_nb11.keep K16; have F_value_nb11 := F_value_nb11.keep K16 (ninS ne_nb11_ni14 nin0); have F_coder_nb11 := F_coder_nb11.keep K16 (ninS ne_nb11_ni14 nin0); have F_count_nb11 := F_count_nb11.keep K16 (ninS ne_nb11_ni14 nin0); have V_nb12 := V_nb12.keep K16 (ninS ne_nb12_ni14 nin0); have E_nb12 := E_nb12.keep K16
 have O := O.keep K16 (allS g_ni14 all0); have K := K.trans K16 (allS (Or.inr sz_ni14) all0)
 have E_ni14 := E_ni14'; have F_this_0_ni14 := F_this_0_ni14'; have F_cursor_ni14 := F_cursor_ni14'; have F_lastRet_ni14 := F_lastRet_ni14'; have F_expectedModCount_ni14 := F_expectedModCount_ni14'
 refine og_astoreN (L' := #[.val (.ref t1), .val (.ref nb11), .val (.ref ni14), .val (.ref x0)]) X16 hx rfl rfl (hb hby d38_33) rfl ?_
 refine og_aloadN X16 hx rfl rfl (hb hby d38_34) rfl ?_
 obtain ⟨T17, X17, e17, st17⟩ := instY X16 hx hZ hown (ow98 hw) e16 (Ins.self E_x0) (g := (mkF m 35 #[.val (.ref t1), .val (.ref nb11), .val (.ref ni14), .val (.ref x0)] [(.ref x0)])) rfl rfl (hb hby d38_35)
 refine OG.of st17 ?_
 show OG p e below _ (T17.setTop (mkF m 38 #[.val (.ref t1), .val (.ref nb11), .val (.ref ni14), .val (.ref x0)] [(.int 1)]))
 refine og_if_eq (pc1 := 50) (pc2 := 41) X17 hx (hb hby d38_38) (by decide) (by decide) rfl (fun q => absurd q (by decide)) (fun _ => ?_)
 refine og_aloadN X17 hx rfl rfl (hb hby d38_41) rfl ?_
 refine og_aloadN X17 hx rfl rfl (hb hby d38_42) rfl ?_
 obtain ⟨T18, X18, e18, st18⟩ := castY X17 hx hZ hown (ow98 hw) e17 (Ins.self E_x0) (g := (mkF m 43 #[.val (.ref t1), .val (.ref nb11), .val (.ref ni14), .val (.ref x0)] [(.ref x0), (.ref nb11)])) rfl rfl (hb hby d38_43)
 refine OG.of st18 ?_
 show OG p e below _ (T18.setTop (mkF m 46 #[.val (.ref t1), .val (.ref nb11), .val (.ref ni14), .val (.ref x0)] [(.ref x0), (.ref nb11)]))
 refine og_virtual (pc' := 49) (cells' := 3) (slots' := 24) (W := 0) X18 hx hZ (rm_sas_t l Z a0 hw nb11 x0 nb12 b2 k12 k2 gg cs hcs h16 n0 O E_nb11 F_value_nb11 F_coder_nb11 F_count_nb11 E_nb12 V_nb12 E_x0 F_value_x0 F_coder_x0 V_b2 S_CS g_nb11 g_nb12 ne_nb11_nb12 ne_x0_nb12 ne_b2_nb12 ne_x0_nb11 ne_b2_nb11) hown (ow386 hw) (ow387 hw) (own_nf hZ (ow389 hw)) (ow389 hw) (ow388 hw) (ow295 hw) (ow390 hw) (by decide) (by rw [hml]; rfl) e18 opd_32 [(.ref x0)] [] rfl rfl rfl rfl (by decide) (by decide) rfl rfl (by decide) (by decide) E_nb11 (hb hby d38_46) rfl (fun v19 T19 h19 L19 X19 e19 z19 => ?_)
 obtain ⟨rfl, Nq19, K19, E_nb11', F_value_nb11', F_coder_nb11', F_count_nb11', V_nb12'⟩ := z19; have N := Fr.app N Nq19
 have F_modCount_ll := F_modCount_ll.keep K19 (ninS ne_ll_nb11 (ninS ne_ll_nb12 nin0)); have F_elementData_ll := F_elementData_ll.keep K19 (ninS ne_ll_nb11 (ninS ne_ll_nb12 nin0)); have F_size_ll := F_size_ll.keep K19 (ninS ne_ll_nb11 (ninS ne_ll_nb12 nin0)); have V_bb := V_bb.keep K19 (ninS ne_bb_nb11 (ninS ne_bb_nb12 nin0))
 have E_x1 := E_x1.keep K19; have E_x2 := E_x2.keep K19
 have E_nb12 := E_nb12.keep K19; have E_ni14 := E_ni14.keep K19; have F_this_0_ni14 := F_this_0_ni14.keep K19 (ninS (Ne.symm ne_nb11_ni14) (ninS (Ne.symm ne_nb12_ni14) nin0)); have F_cursor_ni14 := F_cursor_ni14.keep K19 (ninS (Ne.symm ne_nb11_ni14) (ninS (Ne.symm ne_nb12_ni14) nin0)); have F_lastRet_ni14 := F_lastRet_ni14.keep K19 (ninS (Ne.symm ne_nb11_ni14) (ninS (Ne.symm ne_nb12_ni14) nin0))
 have F_expectedModCount_ni14 := F_expectedModCount_ni14.keep K19 (ninS (Ne.symm ne_nb11_ni14) (ninS (Ne.symm ne_nb12_ni14) nin0)); have O := O.keep K19 (allS g_nb11 (allS g_nb12 all0)); have K := K.trans K19 (allS (Or.inr sz_nb11) (allS (Or.inr sz_nb12) all0))
 have V_nb12 := V_nb12'
 have E_nb11 := E_nb11'; have F_value_nb11 := F_value_nb11'; have F_coder_nb11 := F_coder_nb11'; have F_count_nb11 := F_count_nb11'
 refine og_pop X19 hx rfl (hb hby d38_49) rfl ?_
 refine og_goto (pc' := 18) X19 hx (hb hby d38_50) (by decide) (by decide) ?_
 refine og_aloadN X19 hx rfl rfl (hb hby d38_18) rfl ?_
 refine og_interface (pc' := 24) (cells' := 3) (slots' := 24) (W := 0) X19 hx hZ (rm_hn l Z a0 hw ni14 ll (1 : Int32) (3 : Int32) 1 (by decide) h19 n0 O F_this_0_ni14 F_cursor_ni14 F_size_ll) hown (ow173 hw) (ow174 hw) (ow175 hw) (ow176 hw) (ow177 hw) (ow178 hw) (ow179 hw) (ow180 hw) (ow160 hw) (ow181 hw) (by decide) (by rw [hml]; rfl) e19 opd_24 [] [] rfl rfl rfl rfl (by decide) (by decide) rfl rfl (by decide) (by decide) E_ni14 (hb hby d38_19) rfl (fun v20 T20 h20 L20 X20 e20 z20 => ?_)
 obtain ⟨rfl, Nq20, hq20⟩ := z20; replace e20 := e20.trans hq20; have N := Fr.app N Nq20
 refine og_if_eq (pc1 := 53) (pc2 := 27) X20 hx (hb hby d38_24) (by decide) (by decide) rfl (fun q => absurd q (by decide)) (fun _ => ?_)
 refine og_aloadN X20 hx rfl rfl (hb hby d38_27) rfl ?_
 refine og_interface (pc' := 33) (cells' := 3) (slots' := 24) (W := 0) X20 hx hZ (rm_nx_1_3 l Z a0 hw ni14 ll bb x0 x1 x2 kb (0 : Int32) h19 n0 O E_ni14 F_this_0_ni14 F_cursor_ni14 F_lastRet_ni14 F_expectedModCount_ni14 F_modCount_ll F_elementData_ll F_size_ll V_bb g_ni14 ne_ll_ni14 ne_bb_ni14) hown (ow185 hw) (ow186 hw) (ow187 hw) (ow188 hw) (ow189 hw) (ow190 hw) (ow191 hw) (ow180 hw) (ow160 hw) (ow192 hw) (by decide) (by rw [hml]; rfl) e20 opd_28 [] [] rfl rfl rfl rfl (by decide) (by decide) rfl rfl (by decide) (by decide) E_ni14 (hb hby d38_28) rfl (fun v21 T21 h21 L21 X21 e21 z21 => ?_)
 obtain ⟨rfl, Nq21, K21, E_ni14', F_this_0_ni14', F_cursor_ni14', F_lastRet_ni14', F_expectedModCount_ni14'⟩ := z21; have N := Fr.app N Nq21
 have F_modCount_ll := F_modCount_ll.keep K21 (ninS ne_ll_ni14 nin0); have F_elementData_ll := F_elementData_ll.keep K21 (ninS ne_ll_ni14 nin0); have F_size_ll := F_size_ll.keep K21 (ninS ne_ll_ni14 nin0); have V_bb := V_bb.keep K21 (ninS ne_bb_ni14 nin0)
 have E_x1 := E_x1.keep K21; have E_x2 := E_x2.keep K21
 have E_nb11 := E_nb11.keep K21; have E_nb12 := E_nb12.keep K21; have F_value_nb11 := F_value_nb11.keep K21 (ninS ne_nb11_ni14 nin0); have F_coder_nb11 := F_coder_nb11.keep K21 (ninS ne_nb11_ni14 nin0); have F_count_nb11 := F_count_nb11.keep K21 (ninS ne_nb11_ni14 nin0)
 have V_nb12 := V_nb12.keep K21 (ninS ne_nb12_ni14 nin0); have O := O.keep K21 (allS g_ni14 all0); have K := K.trans K21 (allS (Or.inr sz_ni14) all0)
 have E_ni14 := E_ni14'; have F_this_0_ni14 := F_this_0_ni14'; have F_cursor_ni14 := F_cursor_ni14'; have F_lastRet_ni14 := F_lastRet_ni14'; have F_expectedModCount_ni14 := F_expectedModCount_ni14'
 refine og_astoreN (L' := #[.val (.ref t1), .val (.ref nb11), .val (.ref ni14), .val (.ref x1)]) X21 hx rfl rfl (hb hby d38_33) rfl ?_
 refine og_aloadN X21 hx rfl rfl (hb hby d38_34) rfl ?_
 obtain ⟨T22, X22, e22, st22⟩ := instNo X21 hx hZ hown (ow98 hw) e21 E_x1 (NS.no (ow311 hw) (ow385 hw) (NS.step (ow311 hw) (NS.root (ow312 hw) (ow385 hw) (by decide)) (by decide)) (by decide)) (g := (mkF m 35 #[.val (.ref t1), .val (.ref nb11), .val (.ref ni14), .val (.ref x1)] [(.ref x1)])) rfl rfl (hb hby d38_35)
 refine OG.of st22 ?_
 show OG p e below _ (T22.setTop (mkF m 38 #[.val (.ref t1), .val (.ref nb11), .val (.ref ni14), .val (.ref x1)] [(.int 0)]))
 refine og_if_eq (pc1 := 50) (pc2 := 41) X22 hx (hb hby d38_38) (by decide) (by decide) rfl (fun _ => ?_) (fun q => absurd q (by decide))
 refine og_goto (pc' := 18) X22 hx (hb hby d38_50) (by decide) (by decide) ?_
 refine og_aloadN X22 hx rfl rfl (hb hby d38_18) rfl ?_
 refine og_interface (pc' := 24) (cells' := 3) (slots' := 24) (W := 0) X22 hx hZ (rm_hn l Z a0 hw ni14 ll (2 : Int32) (3 : Int32) 1 (by decide) h21 n0 O F_this_0_ni14 F_cursor_ni14 F_size_ll) hown (ow173 hw) (ow174 hw) (ow175 hw) (ow176 hw) (ow177 hw) (ow178 hw) (ow179 hw) (ow180 hw) (ow160 hw) (ow181 hw) (by decide) (by rw [hml]; rfl) e22 opd_24 [] [] rfl rfl rfl rfl (by decide) (by decide) rfl rfl (by decide) (by decide) E_ni14 (hb hby d38_19) rfl (fun v23 T23 h23 L23 X23 e23 z23 => ?_)
 obtain ⟨rfl, Nq23, hq23⟩ := z23; replace e23 := e23.trans hq23; have N := Fr.app N Nq23
 refine og_if_eq (pc1 := 53) (pc2 := 27) X23 hx (hb hby d38_24) (by decide) (by decide) rfl (fun q => absurd q (by decide)) (fun _ => ?_)
 refine og_aloadN X23 hx rfl rfl (hb hby d38_27) rfl ?_
 refine og_interface (pc' := 33) (cells' := 3) (slots' := 24) (W := 0) X23 hx hZ (rm_nx_2_3 l Z a0 hw ni14 ll bb x0 x1 x2 kb (1 : Int32) h21 n0 O E_ni14 F_this_0_ni14 F_cursor_ni14 F_lastRet_ni14 F_expectedModCount_ni14 F_modCount_ll F_elementData_ll F_size_ll V_bb g_ni14 ne_ll_ni14 ne_bb_ni14) hown (ow185 hw) (ow186 hw) (ow187 hw) (ow188 hw) (ow189 hw) (ow190 hw) (ow191 hw) (ow180 hw) (ow160 hw) (ow192 hw) (by decide) (by rw [hml]; rfl) e23 opd_28 [] [] rfl rfl rfl rfl (by decide) (by decide) rfl rfl (by decide) (by decide) E_ni14 (hb hby d38_28) rfl (fun v24 T24 h24 L24 X24 e24 z24 => ?_)
 obtain ⟨rfl, Nq24, K24, E_ni14', F_this_0_ni14', F_cursor_ni14', F_lastRet_ni14', F_expectedModCount_ni14'⟩ := z24; have N := Fr.app N Nq24
 have F_size_ll := F_size_ll.keep K24 (ninS ne_ll_ni14 nin0)
 have E_x2 := E_x2.keep K24
 have E_nb11 := E_nb11.keep K24; have E_nb12 := E_nb12.keep K24; have F_value_nb11 := F_value_nb11.keep K24 (ninS ne_nb11_ni14 nin0); have F_coder_nb11 := F_coder_nb11.keep K24 (ninS ne_nb11_ni14 nin0); have F_count_nb11 := F_count_nb11.keep K24 (ninS ne_nb11_ni14 nin0)
 have V_nb12 := V_nb12.keep K24 (ninS ne_nb12_ni14 nin0); have O := O.keep K24 (allS g_ni14 all0); have K := K.trans K24 (allS (Or.inr sz_ni14) all0)
 have E_ni14 := E_ni14'; have F_this_0_ni14 := F_this_0_ni14'; have F_cursor_ni14 := F_cursor_ni14'
 refine og_astoreN (L' := #[.val (.ref t1), .val (.ref nb11), .val (.ref ni14), .val (.ref x2)]) X24 hx rfl rfl (hb hby d38_33) rfl ?_
 refine og_aloadN X24 hx rfl rfl (hb hby d38_34) rfl ?_
 obtain ⟨T25, X25, e25, st25⟩ := instNo X24 hx hZ hown (ow98 hw) e24 E_x2 (NS.no (ow311 hw) (ow385 hw) (NS.step (ow311 hw) (NS.root (ow312 hw) (ow385 hw) (by decide)) (by decide)) (by decide)) (g := (mkF m 35 #[.val (.ref t1), .val (.ref nb11), .val (.ref ni14), .val (.ref x2)] [(.ref x2)])) rfl rfl (hb hby d38_35)
 refine OG.of st25 ?_
 show OG p e below _ (T25.setTop (mkF m 38 #[.val (.ref t1), .val (.ref nb11), .val (.ref ni14), .val (.ref x2)] [(.int 0)]))
 refine og_if_eq (pc1 := 50) (pc2 := 41) X25 hx (hb hby d38_38) (by decide) (by decide) rfl (fun _ => ?_) (fun q => absurd q (by decide))
 refine og_goto (pc' := 18) X25 hx (hb hby d38_50) (by decide) (by decide) ?_
 refine og_aloadN X25 hx rfl rfl (hb hby d38_18) rfl ?_
 refine og_interface (pc' := 24) (cells' := 3) (slots' := 24) (W := 0) X25 hx hZ (rm_hn l Z a0 hw ni14 ll (3 : Int32) (3 : Int32) 0 (by decide) h24 n0 O F_this_0_ni14 F_cursor_ni14 F_size_ll) hown (ow173 hw) (ow174 hw) (ow175 hw) (ow176 hw) (ow177 hw) (ow178 hw) (ow179 hw) (ow180 hw) (ow160 hw) (ow181 hw) (by decide) (by rw [hml]; rfl) e25 opd_24 [] [] rfl rfl rfl rfl (by decide) (by decide) rfl rfl (by decide) (by decide) E_ni14 (hb hby d38_19) rfl (fun v26 T26 h26 L26 X26 e26 z26 => ?_)
 obtain ⟨rfl, Nq26, hq26⟩ := z26; replace e26 := e26.trans hq26; have N := Fr.app N Nq26
 refine og_if_eq (pc1 := 53) (pc2 := 27) X26 hx (hb hby d38_24) (by decide) (by decide) rfl (fun _ => ?_) (fun q => absurd q (by decide))
 refine og_aloadN X26 hx rfl rfl (hb hby d38_53) rfl ?_
 refine og_virtual (pc' := 57) (cells' := 5) (slots' := 29) (W := 0) X26 hx hZ (rm_tos_16_1 l Z a0 hw nb11 nb12 k12 gg (0 : Int32) (0 : Int32) (0 : Int32) (0 : Int32) (0 : Int32) (0 : Int32) (0 : Int32) (0 : Int32) (0 : Int32) (0 : Int32) (0 : Int32) (0 : Int32) (0 : Int32) (0 : Int32) (0 : Int32) cs hcs h24 n0 O E_nb11 F_value_nb11 F_coder_nb11 F_count_nb11 E_nb12 V_nb12 S_CS) hown (ow313 hw) (ow314 hw) (own_nf hZ (ow316 hw)) (ow316 hw) (ow315 hw) (ow295 hw) (ow317 hw) (by decide) (by rw [hml]; rfl) e26 opd_31 [] [] rfl rfl rfl rfl (by decide) (by decide) rfl rfl (by decide) (by decide) E_nb11 (hb hby d38_54) rfl (fun v27 T27 h27 L27 X27 e27 z27 => ?_)
 obtain ⟨na27, nb27, k27, rfl, Nq27, K27, sa27, sb27, E_na27, F_value_na27, F_coder_na27, V_nb27⟩ := z27; have N := Fr.app N Nq27
 have s_na27 : h24.size ≤ na27 := sa27; have sz_na27 : h0.size ≤ na27 := Nat.le_trans K.1 s_na27
 have s_nb27 : h24.size ≤ nb27 := sb27; have sz_nb27 : h0.size ≤ nb27 := Nat.le_trans K.1 s_nb27
 have K := K.trans K27 all0
 refine og_retR X27 hx hlk hret rfl rfl rfl (hb hby d38_57) (by decide) (by decide) ?_
 rw [e27]; exact ⟨_, _, _, rfl, N, K, sz_na27, sz_nb27, E_na27, F_value_na27, F_coder_na27, V_nb27⟩
theorem rm_els_SE (l : Launch) (Z : State) (a0 : Array Value) (hw : HW a0 Z) (t1 ll bb x0 x1 mA mL mR : Addr) (kb : ClassId) (de : Addr) (kde : ClassId) (h0 : Heap) (n0 : Nat) (O : Old Z n0 h0) (F__children_t1 : Fld Z h0 t1 "com/example/marsh_tit/marshtit/stanza/Element" "_children" "Ljava/util/List;" (.ref ll)) (E_ll : Exa Z h0 ll "java/util/ArrayList") (F_modCount_ll : Fld Z h0 ll "java/util/AbstractList" "modCount" "I" (.int 2)) (F_elementData_ll : Fld Z h0 ll "java/util/ArrayList" "elementData" "[Ljava/lang/Object;" (.ref bb)) (F_size_ll : Fld Z h0 ll "java/util/ArrayList" "size" "I" (.int 2)) (V_bb : Arv Z h0 bb kb (.object "java/lang/Object") (10 : Int32) [(.ref x0), (.ref x1), .null, .null, .null, .null, .null, .null, .null, .null] .null) (E_x0 : Exa Z h0 x0 "java/lang/String") (E_x1 : Exa Z h0 x1 "com/example/marsh_tit/marshtit/stanza/Element") (S_DE : Sta Z Z.heap "java/util/ArrayList" "DEFAULTCAPACITY_EMPTY_ELEMENTDATA" "[Ljava/lang/Object;" (.ref de)) (V_de : Arv Z Z.heap de kde (.object "java/lang/Object") (0 : Int32) [] .null) (M_mA : (Term.mirror "java/util/ArrayList").eval #[] Z none [] Z = some (.ref mA)) (M_mL : (Term.mirror "java/util/Collections$UnmodifiableList").eval #[] Z none [] Z = some (.ref mL)) (M_mR : (Term.mirror "java/util/Collections$UnmodifiableRandomAccessList").eval #[] Z none [] Z = some (.ref mR)) (ne_mA_mL : mA ≠ mL) (ne_mA_mR : mA ≠ mR) :
  Con l Z (⟨"com/example/marsh_tit/marshtit/stanza/Element", "elements", "()Ljava/util/List;"⟩ : MethodName) prog_19_method_11_code 4 (some (.object "java/util/List")) ({ frames := 5, cells := 4, slots := 19, locals := 69 } : Room) #[(.ref t1)] h0 (fun v h L => ∃ u1 nl nb kn, v = some (.ref u1) ∧ Fr n0 L ∧ Keep h0 h [] ∧ Exa Z h u1 "java/util/Collections$UnmodifiableRandomAccessList" ∧ Fld Z h u1 "java/util/Collections$UnmodifiableCollection" "c" "Ljava/util/Collection;" (.ref nl) ∧ Fld Z h u1 "java/util/Collections$UnmodifiableList" "list" "Ljava/util/List;" (.ref nl) ∧ Exa Z h nl "java/util/ArrayList" ∧ Fld Z h nl "java/util/AbstractList" "modCount" "I" (.int 1) ∧ Fld Z h nl "java/util/ArrayList" "elementData" "[Ljava/lang/Object;" (.ref nb) ∧ Fld Z h nl "java/util/ArrayList" "size" "I" (.int 1) ∧ Arv Z h nb kn (.object "java/lang/Object") (10 : Int32) [(.ref x1), .null, .null, .null, .null, .null, .null, .null, .null, .null] .null) := by
 refine own_startC opn_21 ?_
 intro p e s m below meth c T0 X0 hx hby hml hZ hown hnm hret hlk e0
 have N := Fr.nil n0; have K := Keep.refl h0 []
 refine OG.cast (oef18 m t1) ?_
 refine og_new (pc' := 3) (cells' := 1) (slots' := 3) X0 hx hZ hown (ow65 hw) (ow66 hw) (ow67 hw) e0 (hb hby d21_0) rfl rfl rfl (by decide) (by decide) (fun T11 h11 nb11 X11 e11 E11 q11 E_nb11 D11 B11 => ?_)
 have s_nb11 : h0.size ≤ nb11 := Nat.le_of_eq q11.symm; have g_nb11 : n0 ≤ nb11 := Nat.le_trans (own_n0 O) s_nb11; have sz_nb11 : h0.size ≤ nb11 := Nat.le_trans K.1 s_nb11; have ne_t1_nb11 : t1 ≠ nb11 := Nat.ne_of_lt (Nat.lt_of_lt_of_le F__children_t1.lt s_nb11); have ne_ll_nb11 : ll ≠ nb11 := Nat.ne_of_lt (Nat.lt_of_lt_of_le E_ll.lt s_nb11); have ne_bb_nb11 : bb ≠ nb11 := Nat.ne_of_lt (Nat.lt_of_lt_of_le V_bb.lt s_nb11)
 have F__children_t1 := F__children_t1.ext E11; have E_ll := E_ll.ext E11; have F_modCount_ll := F_modCount_ll.ext E11; have F_elementData_ll := F_elementData_ll.ext E11; have F_size_ll := F_size_ll.ext E11; have V_bb := V_bb.ext E11
 have E_x0 := E_x0.ext E11; have E_x1 := E_x1.ext E11; have O := O.ext E11; have K := K.ext E11
 have F_modCount_nb11 : Fld Z h11 nb11 "java/util/AbstractList" "modCount" "I" (.int 0) := D11 (Or.inl (ow85 hw)) (ty := .int) (by decide)
 have F_elementData_nb11 : Fld Z h11 nb11 "java/util/ArrayList" "elementData" "[Ljava/lang/Object;" .null := D11 (Or.inl (ow88 hw)) (ty := (.array (.object "java/lang/Object"))) (by decide)
 have F_size_nb11 : Fld Z h11 nb11 "java/util/ArrayList" "size" "I" (.int 0) := D11 (Or.inl (ow122 hw)) (ty := .int) (by decide)
 refine og_dup X11 hx rfl (hb hby d21_3) rfl ?_
 refine og_special (pc' := 7) (cells' := 1) (slots' := 3) (W := 1) X11 hx hZ (rm_al l Z a0 hw nb11 de h11 n0 O E_nb11 F_modCount_nb11 F_elementData_nb11 F_size_nb11 S_DE g_nb11) rfl hown (ow68 hw) (ow69 hw) (ow67 hw) (ow70 hw) (by decide) (by rw [hml]; rfl) e11 opd_0 [] [(.ref nb11)] rfl rfl rfl rfl (by decide) (by decide) rfl rfl (by decide) (by decide) (hb hby d21_4) rfl (fun v12 T12 h12 L12 X12 e12 z12 => ?_)
 obtain ⟨rfl, Nq12, K12, F_modCount_nb11', F_elementData_nb11', F_size_nb11'⟩ := z12; have N := Fr.app N Nq12
 have F__children_t1 := F__children_t1.keep K12 (ninS ne_t1_nb11 nin0); have E_ll := E_ll.keep K12; have F_modCount_ll := F_modCount_ll.keep K12 (ninS ne_ll_nb11 nin0); have F_elementData_ll := F_elementData_ll.keep K12 (ninS ne_ll_nb11 nin0); have F_size_ll := F_size_ll.keep K12 (ninS ne_ll_nb11 nin0); have V_bb := V_bb.keep K12 (ninS ne_bb_nb11 nin0)
 have E_x0 := E_x0.keep K12; have E_x1 := E_x1.keep K12; have E_nb11 := E_nb11.keep K12; have O := O.keep K12 (allS g_nb11 all0); have K := K.trans K12 (allS (Or.inr sz_nb11) all0)
 have F_modCount_nb11 := F_modCount_nb11'; have F_elementData_nb11 := F_elementData_nb11'; have F_size_nb11 := F_size_nb11'
 refine og_astoreN (L' := #[.val (.ref t1), .val (.ref nb11), .unset, .unset]) X12 hx rfl rfl (hb hby d21_7) rfl ?_
 refine og_aloadN X12 hx rfl rfl (hb hby d21_8) rfl ?_
 refine og_getfield X12 hx hZ (host := "") hown (Or.inl (ow89 hw)) Via.refl e12 F__children_t1 (hb hby d21_9) rfl (fun T13 X13 e13 => ?_)
 refine og_interface (pc' := 17) (cells' := 2) (slots' := 7) (W := 0) X13 hx hZ (rm_it l Z a0 hw ll (2 : Int32) h12 n0 O F_modCount_ll) hown (ow150 hw) (ow151 hw) (ow152 hw) (ow153 hw) (ow154 hw) (ow155 hw) (ow156 hw) (ow117 hw) (ow67 hw) (ow157 hw) (by decide) (by rw [hml]; rfl) e13 opd_27 [] [] rfl rfl rfl rfl (by decide) (by decide) rfl rfl (by decide) (by decide) E_ll (hb hby d21_12) rfl (fun v14 T14 h14 L14 X14 e14 z14 => ?_)
 obtain ⟨ni14, rfl, Nq14, K14, si14, E_ni14, F_this_0_ni14, F_cursor_ni14, F_lastRet_ni14, F_expectedModCount_ni14⟩ := z14; have N := Fr.app N Nq14
 have s_ni14 : h12.size ≤ ni14 := si14; have g_ni14 : n0 ≤ ni14 := Nat.le_trans (own_n0 O) s_ni14; have sz_ni14 : h0.size ≤ ni14 := Nat.le_trans K.1 s_ni14; have ne_ll_ni14 : ll ≠ ni14 := Nat.ne_of_lt (Nat.lt_of_lt_of_le E_ll.lt s_ni14); have ne_bb_ni14 : bb ≠ ni14 := Nat.ne_of_lt (Nat.lt_of_lt_of_le V_bb.lt s_ni14)
 have ne_nb11_ni14 : nb11 ≠ ni14 := Nat.ne_of_lt (Nat.lt_of_lt_of_le E_nb11.lt s_ni14)
 have F_modCount_ll := F_modCount_ll.keep K14 nin0; have F_elementData_ll := F_elementData_ll.keep K14 nin0; have F_size_ll := F_size_ll.keep K14 nin0; have V_bb := V_bb.keep K14 nin0
 have E_x0 := E_x0.keep K14; have E_x1 := E_x1.keep K14; have E_nb11 := E_nb11.keep K14; have F_modCount_nb11 := F_modCount_nb11.keep K14 nin0; have F_elementData_nb11 := F_elementData_nb11.keep K14 nin0; have F_size_nb11 := F_size_nb11.keep K14 nin0
 have O := O.keep K14 all0; have K := K.trans K14 all0
 refine og_astoreN (L' := #[.val (.ref t1), .val (.ref nb11), .val (.ref ni14), .unset]) X14 hx rfl rfl (hb hby d21_17) rfl ?_
 refine og_aloadN X14 hx rfl rfl (hb hby d21_18) rfl ?_
 refine og_interface (pc' := 24) (cells' := 2) (slots' := 7) (W := 0) X14 hx hZ (rm_hn l Z a0 hw ni14 ll (0 : Int32) (2 : Int32) 1 (by decide) h14 n0 O F_this_0_ni14 F_cursor_ni14 F_size_ll) hown (ow173 hw) (ow174 hw) (ow175 hw) (ow176 hw) (ow177 hw) (ow178 hw) (ow179 hw) (ow180 hw) (ow160 hw) (ow181 hw) (by decide) (by rw [hml]; rfl) e14 opd_24 [] [] rfl rfl rfl rfl (by decide) (by decide) rfl rfl (by decide) (by decide) E_ni14 (hb hby d21_19) rfl (fun v15 T15 h15 L15 X15 e15 z15 => ?_)
 obtain ⟨rfl, Nq15, hq15⟩ := z15; replace e15 := e15.trans hq15; have N := Fr.app N Nq15
 refine og_if_eq (pc1 := 55) (pc2 := 27) X15 hx (hb hby d21_24) (by decide) (by decide) rfl (fun q => absurd q (by decide)) (fun _ => ?_)
 refine og_aloadN X15 hx rfl rfl (hb hby d21_27) rfl ?_
 refine og_interface (pc' := 33) (cells' := 2) (slots' := 7) (W := 0) X15 hx hZ (rm_nx_0_2 l Z a0 hw ni14 ll bb x0 x1 kb (-1 : Int32) h14 n0 O E_ni14 F_this_0_ni14 F_cursor_ni14 F_lastRet_ni14 F_expectedModCount_ni14 F_modCount_ll F_elementData_ll F_size_ll V_bb g_ni14 ne_ll_ni14 ne_bb_ni14) hown (ow185 hw) (ow186 hw) (ow187 hw) (ow188 hw) (ow189 hw) (ow190 hw) (ow191 hw) (ow180 hw) (ow160 hw) (ow192 hw) (by decide) (by rw [hml]; rfl) e15 opd_28 [] [] rfl rfl rfl rfl (by decide) (by decide) rfl rfl (by decide) (by decide) E_ni14 (hb hby d21_28) rfl (fun v16 T16 h16 L16 X16 e16 z16 => ?_)
 obtain ⟨rfl, Nq16, K16, E_ni14', F_this_0_ni14', F_cursor_ni14', F_lastRet_ni14', F_expectedModCount_ni14'⟩ := z16; have N := Fr.app N Nq16
 have F_modCount_ll := F_modCount_ll.keep K16 (ninS ne_ll_ni14 nin0); have F_elementData_ll := F_elementData_ll.keep K16 (ninS ne_ll_ni14 nin0); have F_size_ll := F_size_ll.keep K16 (ninS ne_ll_ni14 nin0); have V_bb := V_bb.keep K16 (ninS ne_bb_ni14 nin0)
 have E_x0 := E_x0.keep K16; have E_x1 := E_x1.keep K16; have E_nb11 := E_nb11.keep K16; have F_modCount_nb11 := F_modCount_nb11.keep K16 (ninS ne_nb11_ni14 nin0); have F_elementData_nb11 := F_elementData_nb11.keep K16 (ninS ne_nb11_ni14 nin0); have F_size_nb11 := F_size_nb11.keep K16 (ninS ne_nb11_ni14 nin0)
 have O := O.keep K16 (allS g_ni14 all0); have K := K.trans K16 (allS (Or.inr sz_ni14) all0)
 have E_ni14 := E_ni14'; have F_this_0_ni14 := F_this_0_ni14'; have F_cursor_ni14 := F_cursor_ni14'; have F_lastRet_ni14 := F_lastRet_ni14'; have F_expectedModCount_ni14 := F_expectedModCount_ni14'
 refine og_astoreN (L' := #[.val (.ref t1), .val (.ref nb11), .val (.ref ni14), .val (.ref x0)]) X16 hx rfl rfl (hb hby d21_33) rfl ?_
 refine og_aloadN X16 hx rfl rfl (hb hby d21_34) rfl ?_
 obtain ⟨T17, X17, e17, st17⟩ := instNo X16 hx hZ hown (ow199 hw) e16 E_x0 (NS.no (ow385 hw) (ow311 hw) (NS.step (ow385 hw) (NS.root (ow312 hw) (ow311 hw) (by decide)) (by decide)) (by decide)) (g := (mkF m 35 #[.val (.ref t1), .val (.ref nb11), .val (.ref ni14), .val (.ref x0)] [(.ref x0)])) rfl rfl (hb hby d21_35)
 refine OG.of st17 ?_
 show OG p e below _ (T17.setTop (mkF m 38 #[.val (.ref t1), .val (.ref nb11), .val (.ref ni14), .val (.ref x0)] [(.int 0)]))
 refine og_if_eq (pc1 := 52) (pc2 := 41) X17 hx (hb hby d21_38) (by decide) (by decide) rfl (fun _ => ?_) (fun q => absurd q (by decide))
 refine og_goto (pc' := 18) X17 hx (hb hby d21_52) (by decide) (by decide) ?_
 refine og_aloadN X17 hx rfl rfl (hb hby d21_18) rfl ?_
 refine og_interface (pc' := 24) (cells' := 2) (slots' := 7) (W := 0) X17 hx hZ (rm_hn l Z a0 hw ni14 ll (1 : Int32) (2 : Int32) 1 (by decide) h16 n0 O F_this_0_ni14 F_cursor_ni14 F_size_ll) hown (ow173 hw) (ow174 hw) (ow175 hw) (ow176 hw) (ow177 hw) (ow178 hw) (ow179 hw) (ow180 hw) (ow160 hw) (ow181 hw) (by decide) (by rw [hml]; rfl) e17 opd_24 [] [] rfl rfl rfl rfl (by decide) (by decide) rfl rfl (by decide) (by decide) E_ni14 (hb hby d21_19) rfl (fun v18 T18 h18 L18 X18 e18 z18 => ?_)
 obtain ⟨rfl, Nq18, hq18⟩ := z18; replace e18 := e18.trans hq18; have N := Fr.app N Nq18
 refine og_if_eq (pc1 := 55) (pc2 := 27) X18 hx (hb hby d21_24) (by decide) (by decide) rfl (fun q => absurd q (by decide)) (fun _ => ?_)
 refine og_aloadN X18 hx rfl rfl (hb hby d21_27) rfl ?_
 refine og_interface (pc' := 33) (cells' := 2) (slots' := 7) (W := 0) X18 hx hZ (rm_nx_1_2 l Z a0 hw ni14 ll bb x0 x1 kb (0 : Int32) h16 n0 O E_ni14 F_this_0_ni14 F_cursor_ni14 F_lastRet_ni14 F_expectedModCount_ni14 F_modCount_ll F_elementData_ll F_size_ll V_bb g_ni14 ne_ll_ni14 ne_bb_ni14) hown (ow185 hw) (ow186 hw) (ow187 hw) (ow188 hw) (ow189 hw) (ow190 hw) (ow191 hw) (ow180 hw) (ow160 hw) (ow192 hw) (by decide) (by rw [hml]; rfl) e18 opd_28 [] [] rfl rfl rfl rfl (by decide) (by decide) rfl rfl (by decide) (by decide) E_ni14 (hb hby d21_28) rfl (fun v19 T19 h19 L19 X19 e19 z19 => ?_)
 obtain ⟨rfl, Nq19, K19, E_ni14', F_this_0_ni14', F_cursor_ni14', F_lastRet_ni14', F_expectedModCount_ni14'⟩ := z19; have N := Fr.app N Nq19
 have F_size_ll := F_size_ll.keep K19 (ninS ne_ll_ni14 nin0)
 have E_x1 := E_x1.keep K19; have E_nb11 := E_nb11.keep K19; have F_modCount_nb11 := F_modCount_nb11.keep K19 (ninS ne_nb11_ni14 nin0); have F_elementData_nb11 := F_elementData_nb11.keep K19 (ninS ne_nb11_ni14 nin0); have F_size_nb11 := F_size_nb11.keep K19 (ninS ne_nb11_ni14 nin0)
 have O := O.keep K19 (allS g_ni14 all0); have K := K.trans K19 (allS (Or.inr sz_ni14) all0)
 have E_ni14 := E_ni14'; have F_this_0_ni14 := F_this_0_ni14'; have F_cursor_ni14 := F_cursor_ni14'
 refine og_astoreN (L' := #[.val (.ref t1), .val (.ref nb11), .val (.ref ni14), .val (.ref x1)]) X19 hx rfl rfl (hb hby d21_33) rfl ?_
 refine og_aloadN X19 hx rfl rfl (hb hby d21_34) rfl ?_
 obtain ⟨T20, X20, e20, st20⟩ := instY X19 hx hZ hown (ow199 hw) e19 (Ins.self E_x1) (g := (mkF m 35 #[.val (.ref t1), .val (.ref nb11), .val (.ref ni14), .val (.ref x1)] [(.ref x1)])) rfl rfl (hb hby d21_35)
 refine OG.of st20 ?_
 show OG p e below _ (T20.setTop (mkF m 38 #[.val (.ref t1), .val (.ref nb11), .val (.ref ni14), .val (.ref x1)] [(.int 1)]))
 refine og_if_eq (pc1 := 52) (pc2 := 41) X20 hx (hb hby d21_38) (by decide) (by decide) rfl (fun q => absurd q (by decide)) (fun _ => ?_)
 refine og_aloadN X20 hx rfl rfl (hb hby d21_41) rfl ?_
 refine og_aloadN X20 hx rfl rfl (hb hby d21_42) rfl ?_
 obtain ⟨T21, X21, e21, st21⟩ := castY X20 hx hZ hown (ow199 hw) e20 (Ins.self E_x1) (g := (mkF m 43 #[.val (.ref t1), .val (.ref nb11), .val (.ref ni14), .val (.ref x1)] [(.ref x1), (.ref nb11)])) rfl rfl (hb hby d21_43)
 refine OG.of st21 ?_
 show OG p e below _ (T21.setTop (mkF m 46 #[.val (.ref t1), .val (.ref nb11), .val (.ref ni14), .val (.ref x1)] [(.ref x1), (.ref nb11)]))
 refine og_interface (pc' := 51) (cells' := 3) (slots' := 17) (W := 0) X21 hx hZ (rm_la_0E l Z a0 hw nb11 x1 de kde h19 n0 O E_nb11 F_modCount_nb11 F_elementData_nb11 F_size_nb11 E_x1 S_DE V_de g_nb11) hown (ow110 hw) (ow111 hw) (ow112 hw) (ow113 hw) (ow114 hw) (ow115 hw) (ow116 hw) (ow117 hw) (ow67 hw) (ow118 hw) (by decide) (by rw [hml]; rfl) e21 opd_29 [(.ref x1)] [] rfl rfl rfl rfl (by decide) (by decide) rfl rfl (by decide) (by decide) E_nb11 (hb hby d21_46) rfl (fun v22 T22 h22 L22 X22 e22 z22 => ?_)
 obtain ⟨nb22, k22, rfl, Nq22, K22, sb22, E_nb11', F_modCount_nb11', F_elementData_nb11', F_size_nb11', V_nb22, Ov_nb22⟩ := z22; have N := Fr.app N Nq22
 have F_size_ll := F_size_ll.keep K22 (ninS ne_ll_nb11 nin0)
 have E_ni14 := E_ni14.keep K22; have F_this_0_ni14 := F_this_0_ni14.keep K22 (ninS (Ne.symm ne_nb11_ni14) nin0); have F_cursor_ni14 := F_cursor_ni14.keep K22 (ninS (Ne.symm ne_nb11_ni14) nin0)
 have O := O.keep K22 (allS g_nb11 all0); have K := K.trans K22 (allS (Or.inr sz_nb11) all0)
 have E_nb11 := E_nb11'; have F_modCount_nb11 := F_modCount_nb11'; have F_elementData_nb11 := F_elementData_nb11'; have F_size_nb11 := F_size_nb11'
 refine og_pop X22 hx rfl (hb hby d21_51) rfl ?_
 refine og_goto (pc' := 18) X22 hx (hb hby d21_52) (by decide) (by decide) ?_
 refine og_aloadN X22 hx rfl rfl (hb hby d21_18) rfl ?_
 refine og_interface (pc' := 24) (cells' := 3) (slots' := 17) (W := 0) X22 hx hZ (rm_hn l Z a0 hw ni14 ll (2 : Int32) (2 : Int32) 0 (by decide) h22 n0 O F_this_0_ni14 F_cursor_ni14 F_size_ll) hown (ow173 hw) (ow174 hw) (ow175 hw) (ow176 hw) (ow177 hw) (ow178 hw) (ow179 hw) (ow180 hw) (ow160 hw) (ow181 hw) (by decide) (by rw [hml]; rfl) e22 opd_24 [] [] rfl rfl rfl rfl (by decide) (by decide) rfl rfl (by decide) (by decide) E_ni14 (hb hby d21_19) rfl (fun v23 T23 h23 L23 X23 e23 z23 => ?_)
 obtain ⟨rfl, Nq23, hq23⟩ := z23; replace e23 := e23.trans hq23; have N := Fr.app N Nq23
 refine og_if_eq (pc1 := 55) (pc2 := 27) X23 hx (hb hby d21_24) (by decide) (by decide) rfl (fun _ => ?_) (fun q => absurd q (by decide))
 refine og_aloadN X23 hx rfl rfl (hb hby d21_55) rfl ?_
 refine og_static (pc' := 59) (cells' := 4) (slots' := 19) (W := 0) X23 hx hZ (rm_un l Z a0 hw nb11 mA mL mR h22 n0 O E_nb11 M_mA M_mL M_mR ne_mA_mL ne_mA_mR) hown (ow201 hw) (ow202 hw) (ow203 hw) (ow204 hw) (by decide) (by rw [hml]; rfl) e23 opd_30 [(.ref nb11)] [] rfl rfl rfl rfl (by decide) (by decide) rfl rfl (by decide) (by decide) (hb hby d21_56) rfl (fun v24 T24 h24 L24 X24 e24 z24 => ?_)
 obtain ⟨u1, rfl, Nq24, K24, E_u1, F_c_u1, F_list_u1⟩ := z24; have N := Fr.app N Nq24
 have E_nb11 := E_nb11.keep K24
 have F_modCount_nb11 := F_modCount_nb11.keep K24 nin0; have F_elementData_nb11 := F_elementData_nb11.keep K24 nin0; have F_size_nb11 := F_size_nb11.keep K24 nin0; have V_nb22 := V_nb22.keep K24 nin0
 have K := K.trans K24 all0
 refine og_retR X24 hx hlk hret rfl rfl rfl (hb hby d21_59) (by decide) (by decide) ?_
 rw [e24]; exact ⟨_, nb11, _, _, rfl, N, K, E_u1, F_c_u1, F_list_u1, E_nb11, F_modCount_nb11, F_elementData_nb11, F_size_nb11, V_nb22⟩
theorem rm_txt_SE (l : Launch) (Z : State) (a0 : Array Value) (hw : HW a0 Z) (t1 ll bb x0 x1 b2 : Addr) (kb : ClassId) (k2 : ClassId) (gg : Int32) (cs : Int32) (hcs : ¬ cs = 0) (h0 : Heap) (n0 : Nat) (O : Old Z n0 h0) (F__children_t1 : Fld Z h0 t1 "com/example/marsh_tit/marshtit/stanza/Element" "_children" "Ljava/util/List;" (.ref ll)) (E_ll : Exa Z h0 ll "java/util/ArrayList") (F_modCount_ll : Fld Z h0 ll "java/util/AbstractList" "modCount" "I" (.int 2)) (F_elementData_ll : Fld Z h0 ll "java/util/ArrayList" "elementData" "[Ljava/lang/Object;" (.ref bb)) (F_size_ll : Fld Z h0 ll "java/util/ArrayList" "size" "I" (.int 2)) (V_bb : Arv Z h0 bb kb (.object "java/lang/Object") (10 : Int32) [(.ref x0), (.ref x1), .null, .null, .null, .null, .null, .null, .null, .null] .null) (E_x0 : Exa Z h0 x0 "java/lang/String") (F_value_x0 : Fld Z h0 x0 "java/lang/String" "value" "[B" (.ref b2)) (F_coder_x0 : Fld Z h0 x0 "java/lang/String" "coder" "B" (.int 0)) (V_b2 : Arv Z h0 b2 k2 .byte (1 : Int32) [(.int gg)] (.int 0)) (E_x1 : Exa Z h0 x1 "com/example/marsh_tit/marshtit/stanza/Element") (S_CS : Sta Z Z.heap "java/lang/String" "COMPACT_STRINGS" "Z" (.int cs)) :
  Con l Z (⟨"com/example/marsh_tit/marshtit/stanza/Element", "text", "()Ljava/lang/String;"⟩ : MethodName) prog_19_method_13_code 4 (some (.object "java/lang/String")) ({ frames := 6, cells := 5, slots := 29, locals := 91 } : Room) #[(.ref t1)] h0 (fun v h L => ∃ a b k, v = some (.ref a) ∧ Fr n0 L ∧ Keep h0 h [] ∧ h0.size ≤ a ∧ h0.size ≤ b ∧ Exa Z h a "java/lang/String" ∧ Fld Z h a "java/lang/String" "value" "[B" (.ref b) ∧ Fld Z h a "java/lang/String" "coder" "B" (.int 0) ∧ Arv Z h b k .byte (1 : Int32) [(.int gg)] (.int 0)) := by
 refine own_startC opn_38 ?_
 intro p e s m below meth c T0 X0 hx hby hml hZ hown hnm hret hlk e0
 have N := Fr.nil n0; have K := Keep.refl h0 []
 refine OG.cast (oef18 m t1) ?_
 refine og_new (pc' := 3) (cells' := 1) (slots' := 4) X0 hx hZ hown (ow293 hw) (ow294 hw) (ow295 hw) e0 (hb hby d38_0) rfl rfl rfl (by decide) (by decide) (fun T11 h11 nb11 X11 e11 E11 q11 E_nb11 D11 B11 => ?_)
 have s_nb11 : h0.size ≤ nb11 := Nat.le_of_eq q11.symm; have g_nb11 : n0 ≤ nb11 := Nat.le_trans (own_n0 O) s_nb11; have sz_nb11 : h0.size ≤ nb11 := Nat.le_trans K.1 s_nb11; have ne_t1_nb11 : t1 ≠ nb11 := Nat.ne_of_lt (Nat.lt_of_lt_of_le F__children_t1.lt s_nb11); have ne_ll_nb11 : ll ≠ nb11 := Nat.ne_of_lt (Nat.lt_of_lt_of_le E_ll.lt s_nb11); have ne_bb_nb11 : bb ≠ nb11 := Nat.ne_of_lt (Nat.lt_of_lt_of_le V_bb.lt s_nb11)
 have ne_x0_nb11 : x0 ≠ nb11 := Nat.ne_of_lt (Nat.lt_of_lt_of_le E_x0.lt s_nb11); have ne_b2_nb11 : b2 ≠ nb11 := Nat.ne_of_lt (Nat.lt_of_lt_of_le V_b2.lt s_nb11)
 have F__children_t1 := F__children_t1.ext E11; have E_ll := E_ll.ext E11; have F_modCount_ll := F_modCount_ll.ext E11; have F_elementData_ll := F_elementData_ll.ext E11; have F_size_ll := F_size_ll.ext E11; have V_bb := V_bb.ext E11
 have E_x0 := E_x0.ext E11; have F_value_x0 := F_value_x0.ext E11; have F_coder_x0 := F_coder_x0.ext E11; have V_b2 := V_b2.ext E11; have E_x1 := E_x1.ext E11; have O := O.ext E11
 have K := K.ext E11
 have F_value_nb11 : Fld Z h11 nb11 "java/lang/AbstractStringBuilder" "value" "[B" .null := D11 (Or.inl (ow308 hw)) (ty := (.array .byte)) (by decide)
 have F_coder_nb11 : Fld Z h11 nb11 "java/lang/AbstractStringBuilder" "coder" "B" (.int 0) := D11 (Or.inl (ow310 hw)) (ty := .byte) (by decide)
 have F_count_nb11 : Fld Z h11 nb11 "java/lang/AbstractStringBuilder" "count" "I" (.int 0) := D11 (Or.inl (ow340 hw)) (ty := .int) (by decide)
 refine og_dup X11 hx rfl (hb hby d38_3) rfl ?_
 refine og_special (pc' := 7) (cells' := 2) (slots' := 20) (W := 1) X11 hx hZ (rm_sb0 l Z a0 hw nb11 cs hcs h11 n0 O E_nb11 F_value_nb11 F_coder_nb11 F_count_nb11 S_CS g_nb11) rfl hown (ow296 hw) (ow297 hw) (ow295 hw) (ow298 hw) (by decide) (by rw [hml]; rfl) e11 opd_0 [] [(.ref nb11)] rfl rfl rfl rfl (by decide) (by decide) rfl rfl (by decide) (by decide) (hb hby d38_4) rfl (fun v12 T12 h12 L12 X12 e12 z12 => ?_)
 obtain ⟨nb12, k12, rfl, Nq12, K12, sb12, E_nb11', F_value_nb11', F_coder_nb11', F_count_nb11', V_nb12, E_nb12⟩ := z12; have N := Fr.app N Nq12
 have s_nb12 : h11.size ≤ nb12 := sb12; have g_nb12 : n0 ≤ nb12 := Nat.le_trans (own_n0 O) s_nb12; have sz_nb12 : h0.size ≤ nb12 := Nat.le_trans K.1 s_nb12; have ne_ll_nb12 : ll ≠ nb12 := Nat.ne_of_lt (Nat.lt_of_lt_of_le E_ll.lt s_nb12); have ne_bb_nb12 : bb ≠ nb12 := Nat.ne_of_lt (Nat.lt_of_lt_of_le V_bb.lt s_nb12)
 have ne_x0_nb12 : x0 ≠ nb12 := Nat.ne_of_lt (Nat.lt_of_lt_of_le E_x0.lt s_nb12); have ne_b2_nb12 : b2 ≠ nb12 := Nat.ne_of_lt (Nat.lt_of_lt_of_le V_b2.lt s_nb12); have ne_nb11_nb12 : nb11 ≠ nb12 := Nat.ne_of_lt (Nat.lt_of_lt_of_le E_nb11.lt s_nb12)
 have F__children_t1 := F__children_t1.keep K12 (ninS ne_t1_nb11 nin0); have E_ll := E_ll.keep K12; have F_modCount_ll := F_modCount_ll.keep K12 (ninS ne_ll_nb11 nin0); have F_elementData_ll := F_elementData_ll.keep K12 (ninS ne_ll_nb11 nin0); have F_size_ll := F_size_ll.keep K12 (ninS ne_ll_nb11 nin0); have V_bb := V_bb.keep K12 (ninS ne_bb_nb11 nin0)
 have E_x0 := E_x0.keep K12; have F_value_x0 := F_value_x0.keep K12 (ninS ne_x0_nb11 nin0); have F_coder_x0 := F_coder_x0.keep K12 (ninS ne_x0_nb11 nin0); have V_b2 := V_b2.keep K12 (ninS ne_b2_nb11 nin0); have E_x1 := E_x1.keep K12
 have O := O.keep K12 (allS g_nb11 all0); have K := K.trans K12 (allS (Or.inr sz_nb11) all0)
 have E_nb11 := E_nb11'; have F_value_nb11 := F_value_nb11'; have F_coder_nb11 := F_coder_nb11'; have F_count_nb11 := F_count_nb11'
 refine og_astoreN (L' := #[.val (.ref t1), .val (.ref nb11), .unset, .unset]) X12 hx rfl rfl (hb hby d38_7) rfl ?_
 refine og_aloadN X12 hx rfl rfl (hb hby d38_8) rfl ?_
 refine og_getfield X12 hx hZ (host := "") hown (Or.inl (ow89 hw)) Via.refl e12 F__children_t1 (hb hby d38_9) rfl (fun T13 X13 e13 => ?_)
 refine og_interface (pc' := 17) (cells' := 3) (slots' := 24) (W := 0) X13 hx hZ (rm_it l Z a0 hw ll (2 : Int32) h12 n0 O F_modCount_ll) hown (ow150 hw) (ow151 hw) (ow152 hw) (ow153 hw) (ow154 hw) (ow155 hw) (ow156 hw) (ow117 hw) (ow67 hw) (ow157 hw) (by decide) (by rw [hml]; rfl) e13 opd_27 [] [] rfl rfl rfl rfl (by decide) (by decide) rfl rfl (by decide) (by decide) E_ll (hb hby d38_12) rfl (fun v14 T14 h14 L14 X14 e14 z14 => ?_)
 obtain ⟨ni14, rfl, Nq14, K14, si14, E_ni14, F_this_0_ni14, F_cursor_ni14, F_lastRet_ni14, F_expectedModCount_ni14⟩ := z14; have N := Fr.app N Nq14
 have s_ni14 : h12.size ≤ ni14 := si14; have g_ni14 : n0 ≤ ni14 := Nat.le_trans (own_n0 O) s_ni14; have sz_ni14 : h0.size ≤ ni14 := Nat.le_trans K.1 s_ni14; have ne_ll_ni14 : ll ≠ ni14 := Nat.ne_of_lt (Nat.lt_of_lt_of_le E_ll.lt s_ni14); have ne_bb_ni14 : bb ≠ ni14 := Nat.ne_of_lt (Nat.lt_of_lt_of_le V_bb.lt s_ni14)
 have ne_x0_ni14 : x0 ≠ ni14 := Nat.ne_of_lt (Nat.lt_of_lt_of_le E_x0.lt s_ni14); have ne_b2_ni14 : b2 ≠ ni14 := Nat.ne_of_lt (Nat.lt_of_lt_of_le V_b2.lt s_ni14); have ne_nb11_ni14 : nb11 ≠ ni14 := Nat.ne_of_lt (Nat.lt_of_lt_of_le E_nb11.lt s_ni14); have ne_nb12_ni14 : nb12 ≠ ni14 := Nat.ne_of_lt (Nat.lt_of_lt_of_le V_nb12.lt s_ni14)
 have F_modCount_ll := F_modCount_ll.keep K14 nin0; have F_elementData_ll := F_elementData_ll.keep K14 nin0; have F_size_ll := F_size_ll.keep K14 nin0; have V_bb := V_bb.keep K14 nin0
 have E_x0 := E_x0.keep K14; have F_value_x0 := F_value_x0.keep K14 nin0; have F_coder_x0 := F_coder_x0.keep K14 nin0; have V_b2 := V_b2.keep K14 nin0; have E_x1 := E_x1.keep K14; have E_nb11 := E_nb11.keep K14
 have F_value_nb11 := F_value_nb11.keep K14 nin0; have F_coder_nb11 := F_coder_nb11.keep K14 nin0; have F_count_nb11 := F_count_nb11.keep K14 nin0; have V_nb12 := V_nb12.keep K14 nin0; have E_nb12 := E_nb12.keep K14; have O := O.keep K14 all0
 have K := K.trans K14 all0
 refine og_astoreN (L' := #[.val (.ref t1), .val (.ref nb11), .val (.ref ni14), .unset]) X14 hx rfl rfl (hb hby d38_17) rfl ?_
 refine og_aloadN X14 hx rfl rfl (hb hby d38_18) rfl ?_
 refine og_interface (pc' := 24) (cells' := 3) (slots' := 24) (W := 0) X14 hx hZ (rm_hn l Z a0 hw ni14 ll (0 : Int32) (2 : Int32) 1 (by decide) h14 n0 O F_this_0_ni14 F_cursor_ni14 F_size_ll) hown (ow173 hw) (ow174 hw) (ow175 hw) (ow176 hw) (ow177 hw) (ow178 hw) (ow179 hw) (ow180 hw) (ow160 hw) (ow181 hw) (by decide) (by rw [hml]; rfl) e14 opd_24 [] [] rfl rfl rfl rfl (by decide) (by decide) rfl rfl (by decide) (by decide) E_ni14 (hb hby d38_19) rfl (fun v15 T15 h15 L15 X15 e15 z15 => ?_)
 obtain ⟨rfl, Nq15, hq15⟩ := z15; replace e15 := e15.trans hq15; have N := Fr.app N Nq15
 refine og_if_eq (pc1 := 53) (pc2 := 27) X15 hx (hb hby d38_24) (by decide) (by decide) rfl (fun q => absurd q (by decide)) (fun _ => ?_)
 refine og_aloadN X15 hx rfl rfl (hb hby d38_27) rfl ?_
 refine og_interface (pc' := 33) (cells' := 3) (slots' := 24) (W := 0) X15 hx hZ (rm_nx_0_2 l Z a0 hw ni14 ll bb x0 x1 kb (-1 : Int32) h14 n0 O E_ni14 F_this_0_ni14 F_cursor_ni14 F_lastRet_ni14 F_expectedModCount_ni14 F_modCount_ll F_elementData_ll F_size_ll V_bb g_ni14 ne_ll_ni14 ne_bb_ni14) hown (ow185 hw) (ow186 hw) (ow187 hw) (ow188 hw) (ow189 hw) (ow190 hw) (ow191 hw) (ow180 hw) (ow160 hw) (ow192 hw) (by decide) (by rw [hml]; rfl) e15 opd_28 [] [] rfl rfl rfl rfl (by decide) (by decide) rfl rfl (by decide) (by decide) E_ni14 (hb hby d38_28) rfl (fun v16 T16 h16 L16 X16 e16 z16 => ?_)
 obtain ⟨rfl, Nq16, K16, E_ni14', F_this_0_ni14', F_cursor_ni14', F_lastRet_ni14', F_expectedModCount_ni14'⟩ := z16; have N := Fr.app N Nq16
 have F_modCount_ll := F_modCount_ll.keep K16 (ninS ne_ll_ni14 nin0); have F_elementData_ll := F_elementData_ll.keep K16 (ninS ne_ll_ni14 nin0); have F_size_ll := F_size_ll.keep K16 (ninS ne_ll_ni14 nin0); have V_bb := V_bb.keep K16 (ninS ne_bb_ni14 nin0)
 have E_x0 := E_x0.keep K16; have F_value_x0 := F_value_x0.keep K16 (ninS ne_x0_ni14 nin0); have F_coder_x0 := F_coder_x0.keep K16 (ninS ne_x0_ni14 nin0); have V_b2 := V_b2.keep K16 (ninS ne_b2_ni14 nin0); have E_x1 := E_x1.keep K16; have E_nb11 := E_nb11.keep K16
 have F_value_nb11 := F_value_nb11.keep K16 (ninS ne_nb11_ni14 nin0); have F_coder_nb11 := F_coder_nb11.keep K16 (ninS ne_nb11_ni14 nin0); have F_count_nb11 := F_count_nb11.keep K16 (ninS ne_nb11_ni14 nin0); have V_nb12 := V_nb12.keep K16 (ninS ne_nb12_ni14 nin0); have E_nb12 := E_nb12.keep K16
 have O := O.keep K16 (allS g_ni14 all0); have K := K.trans K16 (allS (Or.inr sz_ni14) all0)
 have E_ni14 := E_ni14'; have F_this_0_ni14 := F_this_0_ni14'; have F_cursor_ni14 := F_cursor_ni14'; have F_lastRet_ni14 := F_lastRet_ni14'; have F_expectedModCount_ni14 := F_expectedModCount_ni14'
 refine og_astoreN (L' := #[.val (.ref t1), .val (.ref nb11), .val (.ref ni14), .val (.ref x0)]) X16 hx rfl rfl (hb hby d38_33) rfl ?_
 refine og_aloadN X16 hx rfl rfl (hb hby d38_34) rfl ?_
 obtain ⟨T17, X17, e17, st17⟩ := instY X16 hx hZ hown (ow98 hw) e16 (Ins.self E_x0) (g := (mkF m 35 #[.val (.ref t1), .val (.ref nb11), .val (.ref ni14), .val (.ref x0)] [(.ref x0)])) rfl rfl (hb hby d38_35)
 refine OG.of st17 ?_
 show OG p e below _ (T17.setTop (mkF m 38 #[.val (.ref t1), .val (.ref nb11), .val (.ref ni14), .val (.ref x0)] [(.int 1)]))
 refine og_if_eq (pc1 := 50) (pc2 := 41) X17 hx (hb hby d38_38) (by decide) (by decide) rfl (fun q => absurd q (by decide)) (fun _ => ?_)
 refine og_aloadN X17 hx rfl rfl (hb hby d38_41) rfl ?_
 refine og_aloadN X17 hx rfl rfl (hb hby d38_42) rfl ?_
 obtain ⟨T18, X18, e18, st18⟩ := castY X17 hx hZ hown (ow98 hw) e17 (Ins.self E_x0) (g := (mkF m 43 #[.val (.ref t1), .val (.ref nb11), .val (.ref ni14), .val (.ref x0)] [(.ref x0), (.ref nb11)])) rfl rfl (hb hby d38_43)
 refine OG.of st18 ?_
 show OG p e below _ (T18.setTop (mkF m 46 #[.val (.ref t1), .val (.ref nb11), .val (.ref ni14), .val (.ref x0)] [(.ref x0), (.ref nb11)]))
 refine og_virtual (pc' := 49) (cells' := 3) (slots' := 24) (W := 0) X18 hx hZ (rm_sas_t l Z a0 hw nb11 x0 nb12 b2 k12 k2 gg cs hcs h16 n0 O E_nb11 F_value_nb11 F_coder_nb11 F_count_nb11 E_nb12 V_nb12 E_x0 F_value_x0 F_coder_x0 V_b2 S_CS g_nb11 g_nb12 ne_nb11_nb12 ne_x0_nb12 ne_b2_nb12 ne_x0_nb11 ne_b2_nb11) hown (ow386 hw) (ow387 hw) (own_nf hZ (ow389 hw)) (ow389 hw) (ow388 hw) (ow295 hw) (ow390 hw) (by decide) (by rw [hml]; rfl) e18 opd_32 [(.ref x0)] [] rfl rfl rfl rfl (by decide) (by decide) rfl rfl (by decide) (by decide) E_nb11 (hb hby d38_46) rfl (fun v19 T19 h19 L19 X19 e19 z19 => ?_)
 obtain ⟨rfl, Nq19, K19, E_nb11', F_value_nb11', F_coder_nb11', F_count_nb11', V_nb12'⟩ := z19; have N := Fr.app N Nq19
 have F_modCount_ll := F_modCount_ll.keep K19 (ninS ne_ll_nb11 (ninS ne_ll_nb12 nin0)); have F_elementData_ll := F_elementData_ll.keep K19 (ninS ne_ll_nb11 (ninS ne_ll_nb12 nin0)); have F_size_ll := F_size_ll.keep K19 (ninS ne_ll_nb11 (ninS ne_ll_nb12 nin0)); have V_bb := V_bb.keep K19 (ninS ne_bb_nb11 (ninS ne_bb_nb12 nin0))
 have E_x1 := E_x1.keep K19
 have E_nb12 := E_nb12.keep K19; have E_ni14 := E_ni14.keep K19; have F_this_0_ni14 := F_this_0_ni14.keep K19 (ninS (Ne.symm ne_nb11_ni14) (ninS (Ne.symm ne_nb12_ni14) nin0)); have F_cursor_ni14 := F_cursor_ni14.keep K19 (ninS (Ne.symm ne_nb11_ni14) (ninS (Ne.symm ne_nb12_ni14) nin0)); have F_lastRet_ni14 := F_lastRet_ni14.keep K19 (ninS (Ne.symm ne_nb11_ni14) (ninS (Ne.symm ne_nb12_ni14) nin0)); have F_expectedModCount_ni14 := F_expectedModCount_ni14.keep K19 (ninS (Ne.symm ne_nb11_ni14) (ninS (Ne.symm ne_nb12_ni14) nin0))
 have O := O.keep K19 (allS g_nb11 (allS g_nb12 all0)); have K := K.trans K19 (allS (Or.inr sz_nb11) (allS (Or.inr sz_nb12) all0))
 have V_nb12 := V_nb12'
 have E_nb11 := E_nb11'; have F_value_nb11 := F_value_nb11'; have F_coder_nb11 := F_coder_nb11'; have F_count_nb11 := F_count_nb11'
 refine og_pop X19 hx rfl (hb hby d38_49) rfl ?_
 refine og_goto (pc' := 18) X19 hx (hb hby d38_50) (by decide) (by decide) ?_
 refine og_aloadN X19 hx rfl rfl (hb hby d38_18) rfl ?_
 refine og_interface (pc' := 24) (cells' := 3) (slots' := 24) (W := 0) X19 hx hZ (rm_hn l Z a0 hw ni14 ll (1 : Int32) (2 : Int32) 1 (by decide) h19 n0 O F_this_0_ni14 F_cursor_ni14 F_size_ll) hown (ow173 hw) (ow174 hw) (ow175 hw) (ow176 hw) (ow177 hw) (ow178 hw) (ow179 hw) (ow180 hw) (ow160 hw) (ow181 hw) (by decide) (by rw [hml]; rfl) e19 opd_24 [] [] rfl rfl rfl rfl (by decide) (by decide) rfl rfl (by decide) (by decide) E_ni14 (hb hby d38_19) rfl (fun v20 T20 h20 L20 X20 e20 z20 => ?_)
 obtain ⟨rfl, Nq20, hq20⟩ := z20; replace e20 := e20.trans hq20; have N := Fr.app N Nq20
 refine og_if_eq (pc1 := 53) (pc2 := 27) X20 hx (hb hby d38_24) (by decide) (by decide) rfl (fun q => absurd q (by decide)) (fun _ => ?_)
 refine og_aloadN X20 hx rfl rfl (hb hby d38_27) rfl ?_
 refine og_interface (pc' := 33) (cells' := 3) (slots' := 24) (W := 0) X20 hx hZ (rm_nx_1_2 l Z a0 hw ni14 ll bb x0 x1 kb (0 : Int32) h19 n0 O E_ni14 F_this_0_ni14 F_cursor_ni14 F_lastRet_ni14 F_expectedModCount_ni14 F_modCount_ll F_elementData_ll F_size_ll V_bb g_ni14 ne_ll_ni14 ne_bb_ni14) hown (ow185 hw) (ow186 hw) (ow187 hw) (ow188 hw) (ow189 hw) (ow190 hw) (ow191 hw) (ow180 hw) (ow160 hw) (ow192 hw) (by decide) (by rw [hml]; rfl) e20 opd_28 [] [] rfl rfl rfl rfl (by decide) (by decide) rfl rfl (by decide) (by decide) E_ni14 (hb hby d38_28) rfl (fun v21 T21 h21 L21 X21 e21 z21 => ?_)
 obtain ⟨rfl, Nq21, K21, E_ni14', F_this_0_ni14', F_cursor_ni14', F_lastRet_ni14', F_expectedModCount_ni14'⟩ := z21; have N := Fr.app N Nq21
 have F_size_ll := F_size_ll.keep K21 (ninS ne_ll_ni14 nin0)
 have E_x1 := E_x1.keep K21; have E_nb11 := E_nb11.keep K21
 have E_nb12 := E_nb12.keep K21; have F_value_nb11 := F_value_nb11.keep K21 (ninS ne_nb11_ni14 nin0); have F_coder_nb11 := F_coder_nb11.keep K21 (ninS ne_nb11_ni14 nin0); have F_count_nb11 := F_count_nb11.keep K21 (ninS ne_nb11_ni14 nin0); have V_nb12 := V_nb12.keep K21 (ninS ne_nb12_ni14 nin0)
 have O := O.keep K21 (allS g_ni14 all0); have K := K.trans K21 (allS (Or.inr sz_ni14) all0)
 have E_ni14 := E_ni14'; have F_this_0_ni14 := F_this_0_ni14'; have F_cursor_ni14 := F_cursor_ni14'
 refine og_astoreN (L' := #[.val (.ref t1), .val (.ref nb11), .val (.ref ni14), .val (.ref x1)]) X21 hx rfl rfl (hb hby d38_33) rfl ?_
 refine og_aloadN X21 hx rfl rfl (hb hby d38_34) rfl ?_
 obtain ⟨T22, X22, e22, st22⟩ := instNo X21 hx hZ hown (ow98 hw) e21 E_x1 (NS.no (ow311 hw) (ow385 hw) (NS.step (ow311 hw) (NS.root (ow312 hw) (ow385 hw) (by decide)) (by decide)) (by decide)) (g := (mkF m 35 #[.val (.ref t1), .val (.ref nb11), .val (.ref ni14), .val (.ref x1)] [(.ref x1)])) rfl rfl (hb hby d38_35)
 refine OG.of st22 ?_
 show OG p e below _ (T22.setTop (mkF m 38 #[.val (.ref t1), .val (.ref nb11), .val (.ref ni14), .val (.ref x1)] [(.int 0)]))
 refine og_if_eq (pc1 := 50) (pc2 := 41) X22 hx (hb hby d38_38) (by decide) (by decide) rfl (fun _ => ?_) (fun q => absurd q (by decide))
 refine og_goto (pc' := 18) X22 hx (hb hby d38_50) (by decide) (by decide) ?_
 refine og_aloadN X22 hx rfl rfl (hb hby d38_18) rfl ?_
 refine og_interface (pc' := 24) (cells' := 3) (slots' := 24) (W := 0) X22 hx hZ (rm_hn l Z a0 hw ni14 ll (2 : Int32) (2 : Int32) 0 (by decide) h21 n0 O F_this_0_ni14 F_cursor_ni14 F_size_ll) hown (ow173 hw) (ow174 hw) (ow175 hw) (ow176 hw) (ow177 hw) (ow178 hw) (ow179 hw) (ow180 hw) (ow160 hw) (ow181 hw) (by decide) (by rw [hml]; rfl) e22 opd_24 [] [] rfl rfl rfl rfl (by decide) (by decide) rfl rfl (by decide) (by decide) E_ni14 (hb hby d38_19) rfl (fun v23 T23 h23 L23 X23 e23 z23 => ?_)
 obtain ⟨rfl, Nq23, hq23⟩ := z23; replace e23 := e23.trans hq23; have N := Fr.app N Nq23
 refine og_if_eq (pc1 := 53) (pc2 := 27) X23 hx (hb hby d38_24) (by decide) (by decide) rfl (fun _ => ?_) (fun q => absurd q (by decide))
 refine og_aloadN X23 hx rfl rfl (hb hby d38_53) rfl ?_
 refine og_virtual (pc' := 57) (cells' := 5) (slots' := 29) (W := 0) X23 hx hZ (rm_tos_16_1 l Z a0 hw nb11 nb12 k12 gg (0 : Int32) (0 : Int32) (0 : Int32) (0 : Int32) (0 : Int32) (0 : Int32) (0 : Int32) (0 : Int32) (0 : Int32) (0 : Int32) (0 : Int32) (0 : Int32) (0 : Int32) (0 : Int32) (0 : Int32) cs hcs h21 n0 O E_nb11 F_value_nb11 F_coder_nb11 F_count_nb11 E_nb12 V_nb12 S_CS) hown (ow313 hw) (ow314 hw) (own_nf hZ (ow316 hw)) (ow316 hw) (ow315 hw) (ow295 hw) (ow317 hw) (by decide) (by rw [hml]; rfl) e23 opd_31 [] [] rfl rfl rfl rfl (by decide) (by decide) rfl rfl (by decide) (by decide) E_nb11 (hb hby d38_54) rfl (fun v24 T24 h24 L24 X24 e24 z24 => ?_)
 obtain ⟨na24, nb24, k24, rfl, Nq24, K24, sa24, sb24, E_na24, F_value_na24, F_coder_na24, V_nb24⟩ := z24; have N := Fr.app N Nq24
 have s_na24 : h21.size ≤ na24 := sa24; have sz_na24 : h0.size ≤ na24 := Nat.le_trans K.1 s_na24
 have s_nb24 : h21.size ≤ nb24 := sb24; have sz_nb24 : h0.size ≤ nb24 := Nat.le_trans K.1 s_nb24
 have K := K.trans K24 all0
 refine og_retR X24 hx hlk hret rfl rfl rfl (hb hby d38_57) (by decide) (by decide) ?_
 rw [e24]; exact ⟨_, _, _, rfl, N, K, sz_na24, sz_nb24, E_na24, F_value_na24, F_coder_na24, V_nb24⟩
theorem rm_els_ESE (l : Launch) (Z : State) (a0 : Array Value) (hw : HW a0 Z) (t1 ll bb x0 x1 x2 mA mL mR : Addr) (kb : ClassId) (de : Addr) (kde : ClassId) (h0 : Heap) (n0 : Nat) (O : Old Z n0 h0) (F__children_t1 : Fld Z h0 t1 "com/example/marsh_tit/marshtit/stanza/Element" "_children" "Ljava/util/List;" (.ref ll)) (E_ll : Exa Z h0 ll "java/util/ArrayList") (F_modCount_ll : Fld Z h0 ll "java/util/AbstractList" "modCount" "I" (.int 3)) (F_elementData_ll : Fld Z h0 ll "java/util/ArrayList" "elementData" "[Ljava/lang/Object;" (.ref bb)) (F_size_ll : Fld Z h0 ll "java/util/ArrayList" "size" "I" (.int 3)) (V_bb : Arv Z h0 bb kb (.object "java/lang/Object") (10 : Int32) [(.ref x0), (.ref x1), (.ref x2), .null, .null, .null, .null, .null, .null, .null] .null) (E_x0 : Exa Z h0 x0 "com/example/marsh_tit/marshtit/stanza/Element") (E_x1 : Exa Z h0 x1 "java/lang/String") (E_x2 : Exa Z h0 x2 "com/example/marsh_tit/marshtit/stanza/Element") (S_DE : Sta Z Z.heap "java/util/ArrayList" "DEFAULTCAPACITY_EMPTY_ELEMENTDATA" "[Ljava/lang/Object;" (.ref de)) (V_de : Arv Z Z.heap de kde (.object "java/lang/Object") (0 : Int32) [] .null) (M_mA : (Term.mirror "java/util/ArrayList").eval #[] Z none [] Z = some (.ref mA)) (M_mL : (Term.mirror "java/util/Collections$UnmodifiableList").eval #[] Z none [] Z = some (.ref mL)) (M_mR : (Term.mirror "java/util/Collections$UnmodifiableRandomAccessList").eval #[] Z none [] Z = some (.ref mR)) (ne_mA_mL : mA ≠ mL) (ne_mA_mR : mA ≠ mR) :
  Con l Z (⟨"com/example/marsh_tit/marshtit/stanza/Element", "elements", "()Ljava/util/List;"⟩ : MethodName) prog_19_method_11_code 4 (some (.object "java/util/List")) ({ frames := 5, cells := 4, slots := 19, locals := 69 } : Room) #[(.ref t1)] h0 (fun v h L => ∃ u1 nl nb kn, v = some (.ref u1) ∧ Fr n0 L ∧ Keep h0 h [] ∧ Exa Z h u1 "java/util/Collections$UnmodifiableRandomAccessList" ∧ Fld Z h u1 "java/util/Collections$UnmodifiableCollection" "c" "Ljava/util/Collection;" (.ref nl) ∧ Fld Z h u1 "java/util/Collections$UnmodifiableList" "list" "Ljava/util/List;" (.ref nl) ∧ Exa Z h nl "java/util/ArrayList" ∧ Fld Z h nl "java/util/AbstractList" "modCount" "I" (.int 2) ∧ Fld Z h nl "java/util/ArrayList" "elementData" "[Ljava/lang/Object;" (.ref nb) ∧ Fld Z h nl "java/util/ArrayList" "size" "I" (.int 2) ∧ Arv Z h nb kn (.object "java/lang/Object") (10 : Int32) [(.ref x0), (.ref x2), .null, .null, .null, .null, .null, .null, .null, .null] .null) := by
 refine own_startC opn_21 ?_
 intro p e s m below meth c T0 X0 hx hby hml hZ hown hnm hret hlk e0
 have N := Fr.nil n0; have K := Keep.refl h0 []
 refine OG.cast (oef18 m t1) ?_
 refine og_new (pc' := 3) (cells' := 1) (slots' := 3) X0 hx hZ hown (ow65 hw) (ow66 hw) (ow67 hw) e0 (hb hby d21_0) rfl rfl rfl (by decide) (by decide) (fun T11 h11 nb11 X11 e11 E11 q11 E_nb11 D11 B11 => ?_)
 have s_nb11 : h0.size ≤ nb11 := Nat.le_of_eq q11.symm; have g_nb11 : n0 ≤ nb11 := Nat.le_trans (own_n0 O) s_nb11; have sz_nb11 : h0.size ≤ nb11 := Nat.le_trans K.1 s_nb11; have ne_t1_nb11 : t1 ≠ nb11 := Nat.ne_of_lt (Nat.lt_of_lt_of_le F__children_t1.lt s_nb11); have ne_ll_nb11 : ll ≠ nb11 := Nat.ne_of_lt (Nat.lt_of_lt_of_le E_ll.lt s_nb11); have ne_bb_nb11 : bb ≠ nb11 := Nat.ne_of_lt (Nat.lt_of_lt_of_le V_bb.lt s_nb11)
 have F__children_t1 := F__children_t1.ext E11; have E_ll := E_ll.ext E11; have F_modCount_ll := F_modCount_ll.ext E11; have F_elementData_ll := F_elementData_ll.ext E11; have F_size_ll := F_size_ll.ext E11; have V_bb := V_bb.ext E11
 have E_x0 := E_x0.ext E11; have E_x1 := E_x1.ext E11; have E_x2 := E_x2.ext E11; have O := O.ext E11; have K := K.ext E11
 have F_modCount_nb11 : Fld Z h11 nb11 "java/util/AbstractList" "modCount" "I" (.int 0) := D11 (Or.inl (ow85 hw)) (ty := .int) (by decide)
 have F_elementData_nb11 : Fld Z h11 nb11 "java/util/ArrayList" "elementData" "[Ljava/lang/Object;" .null := D11 (Or.inl (ow88 hw)) (ty := (.array (.object "java/lang/Object"))) (by decide)
 have F_size_nb11 : Fld Z h11 nb11 "java/util/ArrayList" "size" "I" (.int 0) := D11 (Or.inl (ow122 hw)) (ty := .int) (by decide)
 refine og_dup X11 hx rfl (hb hby d21_3) rfl ?_
 refine og_special (pc' := 7) (cells' := 1) (slots' := 3) (W := 1) X11 hx hZ (rm_al l Z a0 hw nb11 de h11 n0 O E_nb11 F_modCount_nb11 F_elementData_nb11 F_size_nb11 S_DE g_nb11) rfl hown (ow68 hw) (ow69 hw) (ow67 hw) (ow70 hw) (by decide) (by rw [hml]; rfl) e11 opd_0 [] [(.ref nb11)] rfl rfl rfl rfl (by decide) (by decide) rfl rfl (by decide) (by decide) (hb hby d21_4) rfl (fun v12 T12 h12 L12 X12 e12 z12 => ?_)
 obtain ⟨rfl, Nq12, K12, F_modCount_nb11', F_elementData_nb11', F_size_nb11'⟩ := z12; have N := Fr.app N Nq12
 have F__children_t1 := F__children_t1.keep K12 (ninS ne_t1_nb11 nin0); have E_ll := E_ll.keep K12; have F_modCount_ll := F_modCount_ll.keep K12 (ninS ne_ll_nb11 nin0); have F_elementData_ll := F_elementData_ll.keep K12 (ninS ne_ll_nb11 nin0); have F_size_ll := F_size_ll.keep K12 (ninS ne_ll_nb11 nin0); have V_bb := V_bb.keep K12 (ninS ne_bb_nb11 nin0)
 have E_x0 := E_x0.keep K12; have E_x1 := E_x1.keep K12; have E_x2 := E_x2.keep K12; have E_nb11 := E_nb11.keep K12; have O := O.keep K12 (allS g_nb11 all0); have K := K.trans K12 (allS (Or.inr sz_nb11) all0)
 have F_modCount_nb11 := F_modCount_nb11'; have F_elementData_nb11 := F_elementData_nb11'; have F_size_nb11 := F_size_nb11'
 refine og_astoreN (L' := #[.val (.ref t1), .val (.ref nb11), .unset, .unset]) X12 hx rfl rfl (hb hby d21_7) rfl ?_
 refine og_aloadN X12 hx rfl rfl (hb hby d21_8) rfl ?_
 refine og_getfield X12 hx hZ (host := "") hown (Or.inl (ow89 hw)) Via.refl e12 F__children_t1 (hb hby d21_9) rfl (fun T13 X13 e13 => ?_)
 refine og_interface (pc' := 17) (cells' := 2) (slots' := 7) (W := 0) X13 hx hZ (rm_it l Z a0 hw ll (3 : Int32) h12 n0 O F_modCount_ll) hown (ow150 hw) (ow151 hw) (ow152 hw) (ow153 hw) (ow154 hw) (ow155 hw) (ow156 hw) (ow117 hw) (ow67 hw) (ow157 hw) (by decide) (by rw [hml]; rfl) e13 opd_27 [] [] rfl rfl rfl rfl (by decide) (by decide) rfl rfl (by decide) (by decide) E_ll (hb hby d21_12) rfl (fun v14 T14 h14 L14 X14 e14 z14 => ?_)
 obtain ⟨ni14, rfl, Nq14, K14, si14, E_ni14, F_this_0_ni14, F_cursor_ni14, F_lastRet_ni14, F_expectedModCount_ni14⟩ := z14; have N := Fr.app N Nq14
 have s_ni14 : h12.size ≤ ni14 := si14; have g_ni14 : n0 ≤ ni14 := Nat.le_trans (own_n0 O) s_ni14; have sz_ni14 : h0.size ≤ ni14 := Nat.le_trans K.1 s_ni14; have ne_ll_ni14 : ll ≠ ni14 := Nat.ne_of_lt (Nat.lt_of_lt_of_le E_ll.lt s_ni14); have ne_bb_ni14 : bb ≠ ni14 := Nat.ne_of_lt (Nat.lt_of_lt_of_le V_bb.lt s_ni14)
 have ne_nb11_ni14 : nb11 ≠ ni14 := Nat.ne_of_lt (Nat.lt_of_lt_of_le E_nb11.lt s_ni14)
 have E_ll := E_ll.keep K14; have F_modCount_ll := F_modCount_ll.keep K14 nin0; have F_elementData_ll := F_elementData_ll.keep K14 nin0; have F_size_ll := F_size_ll.keep K14 nin0; have V_bb := V_bb.keep K14 nin0
 have E_x0 := E_x0.keep K14; have E_x1 := E_x1.keep K14; have E_x2 := E_x2.keep K14; have E_nb11 := E_nb11.keep K14; have F_modCount_nb11 := F_modCount_nb11.keep K14 nin0; have F_elementData_nb11 := F_elementData_nb11.keep K14 nin0
 have F_size_nb11 := F_size_nb11.keep K14 nin0; have O := O.keep K14 all0; have K := K.trans K14 all0
 refine og_astoreN (L' := #[.val (.ref t1), .val (.ref nb11), .val (.ref ni14), .unset]) X14 hx rfl rfl (hb hby d21_17) rfl ?_
 refine og_aloadN X14 hx rfl rfl (hb hby d21_18) rfl ?_
 refine og_interface (pc' := 24) (cells' := 2) (slots' := 7) (W := 0) X14 hx hZ (rm_hn l Z a0 hw ni14 ll (0 : Int32) (3 : Int32) 1 (by decide) h14 n0 O F_this_0_ni14 F_cursor_ni14 F_size_ll) hown (ow173 hw) (ow174 hw) (ow175 hw) (ow176 hw) (ow177 hw) (ow178 hw) (ow179 hw) (ow180 hw) (ow160 hw) (ow181 hw) (by decide) (by rw [hml]; rfl) e14 opd_24 [] [] rfl rfl rfl rfl (by decide) (by decide) rfl rfl (by decide) (by decide) E_ni14 (hb hby d21_19) rfl (fun v15 T15 h15 L15 X15 e15 z15 => ?_)
 obtain ⟨rfl, Nq15, hq15⟩ := z15; replace e15 := e15.trans hq15; have N := Fr.app N Nq15
 refine og_if_eq (pc1 := 55) (pc2 := 27) X15 hx (hb hby d21_24) (by decide) (by decide) rfl (fun q => absurd q (by decide)) (fun _ => ?_)
 refine og_aloadN X15 hx rfl rfl (hb hby d21_27) rfl ?_
 refine og_interface (pc' := 33) (cells' := 2) (slots' := 7) (W := 0) X15 hx hZ (rm_nx_0_3 l Z a0 hw ni14 ll bb x0 x1 x2 kb (-1 : Int32) h14 n0 O E_ni14 F_this_0_ni14 F_cursor_ni14 F_lastRet_ni14 F_expectedModCount_ni14 F_modCount_ll F_elementData_ll F_size_ll V_bb g_ni14 ne_ll_ni14 ne_bb_ni14) hown (ow185 hw) (ow186 hw) (ow187 hw) (ow188 hw) (ow189 hw) (ow190 hw) (ow191 hw) (ow180 hw) (ow160 hw) (ow192 hw) (by decide) (by rw [hml]; rfl) e15 opd_28 [] [] rfl rfl rfl rfl (by decide) (by decide) rfl rfl (by decide) (by decide) E_ni14 (hb hby d21_28) rfl (fun v16 T16 h16 L16 X16 e16 z16 => ?_)
 obtain ⟨rfl, Nq16, K16, E_ni14', F_this_0_ni14', F_cursor_ni14', F_lastRet_ni14', F_expectedModCount_ni14'⟩ := z16; have N := Fr.app N Nq16
 have E_ll := E_ll.keep K16; have F_modCount_ll := F_modCount_ll.keep K16 (ninS ne_ll_ni14 nin0); have F_elementData_ll := F_elementData_ll.keep K16 (ninS ne_ll_ni14 nin0); have F_size_ll := F_size_ll.keep K16 (ninS ne_ll_ni14 nin0); have V_bb := V_bb.keep K16 (ninS ne_bb_ni14 nin0)
 have E_x0 := E_x0.keep K16; have E_x1 := E_x1.keep K16; have E_x2 := E_x2.keep K16; have E_nb11 := E_nb11.keep K16; have F_modCount_nb11 := F_modCount_nb11.keep K16 (ninS ne_nb11_ni14 nin0); have F_elementData_nb11 := F_elementData_nb11.keep K16 (ninS ne_nb11_ni14 nin0)
 have F_size_nb11 := F_size_nb11.keep K16 (ninS ne_nb11_ni14 nin0); have O := O.keep K16 (allS g_ni14 all0); have K := K.trans K16 (allS (Or.inr sz_ni14) all0)
 have E_ni14 := E_ni14'; have F_this_0_ni14 := F_this_0_ni14'; have F_cursor_ni14 := F_cursor_ni14'; have F_lastRet_ni14 := F_lastRet_ni14'; have F_expectedModCount_ni14 := F_expectedModCount_ni14'
 refine og_astoreN (L' := #[.val (.ref t1), .val (.ref nb11), .val (.ref ni14), .val (.ref x0)]) X16 hx rfl rfl (hb hby d21_33) rfl ?_
 refine og_aloadN X16 hx rfl rfl (hb hby d21_34) rfl ?_
 obtain ⟨T17, X17, e17, st17⟩ := instY X16 hx hZ hown (ow199 hw) e16 (Ins.self E_x0) (g := (mkF m 35 #[.val (.ref t1), .val (.ref nb11), .val (.ref ni14), .val (.ref x0)] [(.ref x0)])) rfl rfl (hb hby d21_35)
 refine OG.of st17 ?_
 show OG p e below _ (T17.setTop (mkF m 38 #[.val (.ref t1), .val (.ref nb11), .val (.ref ni14), .val (.ref x0)] [(.int 1)]))
 refine og_if_eq (pc1 := 52) (pc2 := 41) X17 hx (hb hby d21_38) (by decide) (by decide) rfl (fun q => absurd q (by decide)) (fun _ => ?_)
 refine og_aloadN X17 hx rfl rfl (hb hby d21_41) rfl ?_
 refine og_aloadN X17 hx rfl rfl (hb hby d21_42) rfl ?_
 obtain ⟨T18, X18, e18, st18⟩ := castY X17 hx hZ hown (ow199 hw) e17 (Ins.self E_x0) (g := (mkF m 43 #[.val (.ref t1), .val (.ref nb11), .val (.ref ni14), .val (.ref x0)] [(.ref x0), (.ref nb11)])) rfl rfl (hb hby d21_43)
 refine OG.of st18 ?_
 show OG p e below _ (T18.setTop (mkF m 46 #[.val (.ref t1), .val (.ref nb11), .val (.ref ni14), .val (.ref x0)] [(.ref x0), (.ref nb11)]))
 refine og_interface (pc' := 51) (cells' := 3) (slots' := 17) (W := 0) X18 hx hZ (rm_la_0E l Z a0 hw nb11 x0 de kde h16 n0 O E_nb11 F_modCount_nb11 F_elementData_nb11 F_size_nb11 E_x0 S_DE V_de g_nb11) hown (ow110 hw) (ow111 hw) (ow112 hw) (ow113 hw) (ow114 hw) (ow115 hw) (ow116 hw) (ow117 hw) (ow67 hw) (ow118 hw) (by decide) (by rw [hml]; rfl) e18 opd_29 [(.ref x0)] [] rfl rfl rfl rfl (by decide) (by decide) rfl rfl (by decide) (by decide) E_nb11 (hb hby d21_46) rfl (fun v19 T19 h19 L19 X19 e19 z19 => ?_)
 obtain ⟨nb19, k19, rfl, Nq19, K19, sb19, E_nb11', F_modCount_nb11', F_elementData_nb11', F_size_nb11', V_nb19, Ov_nb19⟩ := z19; have N := Fr.app N Nq19
 have s_nb19 : h16.size ≤ nb19 := sb19; have g_nb19 : n0 ≤ nb19 := Nat.le_trans (own_n0 O) s_nb19; have sz_nb19 : h0.size ≤ nb19 := Nat.le_trans K.1 s_nb19; have ne_ll_nb19 : ll ≠ nb19 := Nat.ne_of_lt (Nat.lt_of_lt_of_le E_ll.lt s_nb19)
 have ne_nb11_nb19 : nb11 ≠ nb19 := Nat.ne_of_lt (Nat.lt_of_lt_of_le E_nb11.lt s_nb19); have ne_ni14_nb19 : ni14 ≠ nb19 := Nat.ne_of_lt (Nat.lt_of_lt_of_le E_ni14.lt s_nb19)
 have F_modCount_ll := F_modCount_ll.keep K19 (ninS ne_ll_nb11 nin0); have F_elementData_ll := F_elementData_ll.keep K19 (ninS ne_ll_nb11 nin0); have F_size_ll := F_size_ll.keep K19 (ninS ne_ll_nb11 nin0); have V_bb := V_bb.keep K19 (ninS ne_bb_nb11 nin0)
 have E_x1 := E_x1.keep K19; have E_x2 := E_x2.keep K19; have E_ni14 := E_ni14.keep K19; have F_this_0_ni14 := F_this_0_ni14.keep K19 (ninS (Ne.symm ne_nb11_ni14) nin0)
 have F_cursor_ni14 := F_cursor_ni14.keep K19 (ninS (Ne.symm ne_nb11_ni14) nin0); have F_lastRet_ni14 := F_lastRet_ni14.keep K19 (ninS (Ne.symm ne_nb11_ni14) nin0); have F_expectedModCount_ni14 := F_expectedModCount_ni14.keep K19 (ninS (Ne.symm ne_nb11_ni14) nin0); have O := O.keep K19 (allS g_nb11 all0); have K := K.trans K19 (allS (Or.inr sz_nb11) all0)
 have E_nb11 := E_nb11'; have F_modCount_nb11 := F_modCount_nb11'; have F_elementData_nb11 := F_elementData_nb11'; have F_size_nb11 := F_size_nb11'
 refine og_pop X19 hx rfl (hb hby d21_51) rfl ?_
 refine og_goto (pc' := 18) X19 hx (hb hby d21_52) (by decide) (by decide) ?_
 refine og_aloadN X19 hx rfl rfl (hb hby d21_18) rfl ?_
 refine og_interface (pc' := 24) (cells' := 3) (slots' := 17) (W := 0) X19 hx hZ (rm_hn l Z a0 hw ni14 ll (1 : Int32) (3 : Int32) 1 (by decide) h19 n0 O F_this_0_ni14 F_cursor_ni14 F_size_ll) hown (ow173 hw) (ow174 hw) (ow175 hw) (ow176 hw) (ow177 hw) (ow178 hw) (ow179 hw) (ow180 hw) (ow160 hw) (ow181 hw) (by decide) (by rw [hml]; rfl) e19 opd_24 [] [] rfl rfl rfl rfl (by decide) (by decide) rfl rfl (by decide) (by decide) E_ni14 (hb hby d21_19) rfl (fun v20 T20 h20 L20 X20 e20 z20 => ?_)
 obtain ⟨rfl, Nq20, hq20⟩ := z20; replace e20 := e20.trans hq20; have N := Fr.app N Nq20
 refine og_if_eq (pc1 := 55) (pc2 := 27) X20 hx (hb hby d21_24) (by decide) (by decide) rfl (fun q => absurd q (by decide)) (fun _ => ?_)
 refine og_aloadN X20 hx rfl rfl (hb hby d21_27) rfl ?_
 refine og_interface (pc' := 33) (cells' := 3) (slots' := 17) (W := 0) X20 hx hZ (rm_nx_1_3 l Z a0 hw ni14 ll bb x0 x1 x2 kb (0 : Int32) h19 n0 O E_ni14 F_this_0_ni14 F_cursor_ni14 F_lastRet_ni14 F_expectedModCount_ni14 F_modCount_ll F_elementData_ll F_size_ll V_bb g_ni14 ne_ll_ni14 ne_bb_ni14) hown (ow185 hw) (ow186 hw) (ow187 hw) (ow188 hw) (ow189 hw) (ow190 hw) (ow191 hw) (ow180 hw) (ow160 hw) (ow192 hw) (by decide) (by rw [hml]; rfl) e20 opd_28 [] [] rfl rfl rfl rfl (by decide) (by decide) rfl rfl (by decide) (by decide) E_ni14 (hb hby d21_28) rfl (fun v21 T21 h21 L21 X21 e21 z21 => ?_)
 obtain ⟨rfl, Nq21, K21, E_ni14', F_this_0_ni14', F_cursor_ni14', F_lastRet_ni14', F_expectedModCount_ni14'⟩ := z21; have N := Fr.app N Nq21
 have F_modCount_ll := F_modCount_ll.keep K21 (ninS ne_ll_ni14 nin0); have F_elementData_ll := F_elementData_ll.keep K21 (ninS ne_ll_ni14 nin0); have F_size_ll := F_size_ll.keep K21 (ninS ne_ll_ni14 nin0); have V_bb := V_bb.keep K21 (ninS ne_bb_ni14 nin0)
 have E_x1 := E_x1.keep K21; have E_x2 := E_x2.keep K21; have E_nb11 := E_nb11.keep K21; have F_modCount_nb11 := F_modCount_nb11.keep K21 (ninS ne_nb11_ni14 nin0)
 have F_elementData_nb11 := F_elementData_nb11.keep K21 (ninS ne_nb11_ni14 nin0); have F_size_nb11 := F_size_nb11.keep K21 (ninS ne_nb11_ni14 nin0); have V_nb19 := V_nb19.keep K21 (ninS (Ne.symm ne_ni14_nb19) nin0); have O := O.keep K21 (allS g_ni14 all0); have K := K.trans K21 (allS (Or.inr sz_ni14) all0)
 have E_ni14 := E_ni14'; have F_this_0_ni14 := F_this_0_ni14'; have F_cursor_ni14 := F_cursor_ni14'; have F_lastRet_ni14 := F_lastRet_ni14'; have F_expectedModCount_ni14 := F_expectedModCount_ni14'
 refine og_astoreN (L' := #[.val (.ref t1), .val (.ref nb11), .val (.ref ni14), .val (.ref x1)]) X21 hx rfl rfl (hb hby d21_33) rfl ?_
 refine og_aloadN X21 hx rfl rfl (hb hby d21_34) rfl ?_
 obtain ⟨T22, X22, e22, st22⟩ := instNo X21 hx hZ hown (ow199 hw) e21 E_x1 (NS.no (ow385 hw) (ow311 hw) (NS.step (ow385 hw) (NS.root (ow312 hw) (ow311 hw) (by decide)) (by decide)) (by decide)) (g := (mkF m 35 #[.val (.ref t1), .val (.ref nb11), .val (.ref ni14), .val (.ref x1)] [(.ref x1)])) rfl rfl (hb hby d21_35)
 refine OG.of st22 ?_
 show OG p e below _ (T22.setTop (mkF m 38 #[.val (.ref t1), .val (.ref nb11), .val (.ref ni14), .val (.ref x1)] [(.int 0)]))
 refine og_if_eq (pc1 := 52) (pc2 := 41) X22 hx (hb hby d21_38) (by decide) (by decide) rfl (fun _ => ?_) (fun q => absurd q (by decide))
 refine og_goto (pc' := 18) X22 hx (hb hby d21_52) (by decide) (by decide) ?_
 refine og_aloadN X22 hx rfl rfl (hb hby d21_18) rfl ?_
 refine og_interface (pc' := 24) (cells' := 3) (slots' := 17) (W := 0) X22 hx hZ (rm_hn l Z a0 hw ni14 ll (2 : Int32) (3 : Int32) 1 (by decide) h21 n0 O F_this_0_ni14 F_cursor_ni14 F_size_ll) hown (ow173 hw) (ow174 hw) (ow175 hw) (ow176 hw) (ow177 hw) (ow178 hw) (ow179 hw) (ow180 hw) (ow160 hw) (ow181 hw) (by decide) (by rw [hml]; rfl) e22 opd_24 [] [] rfl rfl rfl rfl (by decide) (by decide) rfl rfl (by decide) (by decide) E_ni14 (hb hby d21_19) rfl (fun v23 T23 h23 L23 X23 e23 z23 => ?_)
 obtain ⟨rfl, Nq23, hq23⟩ := z23; replace e23 := e23.trans hq23; have N := Fr.app N Nq23
 refine og_if_eq (pc1 := 55) (pc2 := 27) X23 hx (hb hby d21_24) (by decide) (by decide) rfl (fun q => absurd q (by decide)) (fun _ => ?_)
 refine og_aloadN X23 hx rfl rfl (hb hby d21_27) rfl ?_
 refine og_interface (pc' := 33) (cells' := 3) (slots' := 17) (W := 0) X23 hx hZ (rm_nx_2_3 l Z a0 hw ni14 ll bb x0 x1 x2 kb (1 : Int32) h21 n0 O E_ni14 F_this_0_ni14 F_cursor_ni14 F_lastRet_ni14 F_expectedModCount_ni14 F_modCount_ll F_elementData_ll F_size_ll V_bb g_ni14 ne_ll_ni14 ne_bb_ni14) hown (ow185 hw) (ow186 hw) (ow187 hw) (ow188 hw) (ow189 hw) (ow190 hw) (ow191 hw) (ow180 hw) (ow160 hw) (ow192 hw) (by decide) (by rw [hml]; rfl) e23 opd_28 [] [] rfl rfl rfl rfl (by decide) (by decide) rfl rfl (by decide) (by decide) E_ni14 (hb hby d21_28) rfl (fun v24 T24 h24 L24 X24 e24 z24 => ?_)
 obtain ⟨rfl, Nq24, K24, E_ni14', F_this_0_ni14', F_cursor_ni14', F_lastRet_ni14', F_expectedModCount_ni14'⟩ := z24; have N := Fr.app N Nq24
 have F_size_ll := F_size_ll.keep K24 (ninS ne_ll_ni14 nin0)
 have E_x2 := E_x2.keep K24; have E_nb11 := E_nb11.keep K24; have F_modCount_nb11 := F_modCount_nb11.keep K24 (ninS ne_nb11_ni14 nin0)
 have F_elementData_nb11 := F_elementData_nb11.keep K24 (ninS ne_nb11_ni14 nin0); have F_size_nb11 := F_size_nb11.keep K24 (ninS ne_nb11_ni14 nin0); have V_nb19 := V_nb19.keep K24 (ninS (Ne.symm ne_ni14_nb19) nin0); have O := O.keep K24 (allS g_ni14 all0); have K := K.trans K24 (allS (Or.inr sz_ni14) all0)
 have E_ni14 := E_ni14'; have F_this_0_ni14 := F_this_0_ni14'; have F_cursor_ni14 := F_cursor_ni14'
 refine og_astoreN (L' := #[.val (.ref t1), .val (.ref nb11), .val (.ref ni14), .val (.ref x2)]) X24 hx rfl rfl (hb hby d21_33) rfl ?_
 refine og_aloadN X24 hx rfl rfl (hb hby d21_34) rfl ?_
 obtain ⟨T25, X25, e25, st25⟩ := instY X24 hx hZ hown (ow199 hw) e24 (Ins.self E_x2) (g := (mkF m 35 #[.val (.ref t1), .val (.ref nb11), .val (.ref ni14), .val (.ref x2)] [(.ref x2)])) rfl rfl (hb hby d21_35)
 refine OG.of st25 ?_
 show OG p e below _ (T25.setTop (mkF m 38 #[.val (.ref t1), .val (.ref nb11), .val (.ref ni14), .val (.ref x2)] [(.int 1)]))
 refine og_if_eq (pc1 := 52) (pc2 := 41) X25 hx (hb hby d21_38) (by decide) (by decide) rfl (fun q => absurd q (by decide)) (fun _ => ?_)
 refine og_aloadN X25 hx rfl rfl (hb hby d21_41) rfl ?_
 refine og_aloadN X25 hx rfl rfl (hb hby d21_42) rfl ?_
 obtain ⟨T26, X26, e26, st26⟩ := castY X25 hx hZ hown (ow199 hw) e25 (Ins.self E_x2) (g := (mkF m 43 #[.val (.ref t1), .val (.ref nb11), .val (.ref ni14), .val (.ref x2)] [(.ref x2), (.ref nb11)])) rfl rfl (hb hby d21_43)
 refine OG.of st26 ?_
 show OG p e below _ (T26.setTop (mkF m 46 #[.val (.ref t1), .val (.ref nb11), .val (.ref ni14), .val (.ref x2)] [(.ref x2), (.ref nb11)]))
 refine og_interface (pc' := 51) (cells' := 3) (slots' := 17) (W := 0) X26 hx hZ (rm_la_1E l Z a0 hw nb11 x2 nb19 x0 k19 Ov_nb19 h24 n0 O E_nb11 F_modCount_nb11 F_elementData_nb11 F_size_nb11 E_x2 V_nb19 g_nb11 g_nb19 ne_nb11_nb19) hown (ow110 hw) (ow111 hw) (ow112 hw) (ow113 hw) (ow114 hw) (ow115 hw) (ow116 hw) (ow117 hw) (ow67 hw) (ow118 hw) (by decide) (by rw [hml]; rfl) e26 opd_29 [(.ref x2)] [] rfl rfl rfl rfl (by decide) (by decide) rfl rfl (by decide) (by decide) E_nb11 (hb hby d21_46) rfl (fun v27 T27 h27 L27 X27 e27 z27 => ?_)
 obtain ⟨rfl, Nq27, K27, E_nb11', F_modCount_nb11', F_elementData_nb11', F_size_nb11', V_nb19'⟩ := z27; have N := Fr.app N Nq27
 have F_size_ll := F_size_ll.keep K27 (ninS ne_ll_nb11 (ninS ne_ll_nb19 nin0))
 have E_ni14 := E_ni14.keep K27; have F_this_0_ni14 := F_this_0_ni14.keep K27 (ninS (Ne.symm ne_nb11_ni14) (ninS ne_ni14_nb19 nin0))
 have F_cursor_ni14 := F_cursor_ni14.keep K27 (ninS (Ne.symm ne_nb11_ni14) (ninS ne_ni14_nb19 nin0)); have O := O.keep K27 (allS g_nb11 (allS g_nb19 all0)); have K := K.trans K27 (allS (Or.inr sz_nb11) (allS (Or.inr sz_nb19) all0))
 have V_nb19 := V_nb19'
 have E_nb11 := E_nb11'; have F_modCount_nb11 := F_modCount_nb11'; have F_elementData_nb11 := F_elementData_nb11'; have F_size_nb11 := F_size_nb11'
 refine og_pop X27 hx rfl (hb hby d21_51) rfl ?_
 refine og_goto (pc' := 18) X27 hx (hb hby d21_52) (by decide) (by decide) ?_
 refine og_aloadN X27 hx rfl rfl (hb hby d21_18) rfl ?_
 refine og_interface (pc' := 24) (cells' := 3) (slots' := 17) (W := 0) X27 hx hZ (rm_hn l Z a0 hw ni14 ll (3 : Int32) (3 : Int32) 0 (by decide) h27 n0 O F_this_0_ni14 F_cursor_ni14 F_size_ll) hown (ow173 hw) (ow174 hw) (ow175 hw) (ow176 hw) (ow177 hw) (ow178 hw) (ow179 hw) (ow180 hw) (ow160 hw) (ow181 hw) (by decide) (by rw [hml]; rfl) e27 opd_24 [] [] rfl rfl rfl rfl (by decide) (by decide) rfl rfl (by decide) (by decide) E_ni14 (hb hby d21_19) rfl (fun v28 T28 h28 L28 X28 e28 z28 => ?_)
 obtain ⟨rfl, Nq28, hq28⟩ := z28; replace e28 := e28.trans hq28; have N := Fr.app N Nq28
 refine og_if_eq (pc1 := 55) (pc2 := 27) X28 hx (hb hby d21_24) (by decide) (by decide) rfl (fun _ => ?_) (fun q => absurd q (by decide))
 refine og_aloadN X28 hx rfl rfl (hb hby d21_55) rfl ?_
 refine og_static (pc' := 59) (cells' := 4) (slots' := 19) (W := 0) X28 hx hZ (rm_un l Z a0 hw nb11 mA mL mR h27 n0 O E_nb11 M_mA M_mL M_mR ne_mA_mL ne_mA_mR) hown (ow201 hw) (ow202 hw) (ow203 hw) (ow204 hw) (by decide) (by rw [hml]; rfl) e28 opd_30 [(.ref nb11)] [] rfl rfl rfl rfl (by decide) (by decide) rfl rfl (by decide) (by decide) (hb hby d21_56) rfl (fun v29 T29 h29 L29 X29 e29 z29 => ?_)
 obtain ⟨u1, rfl, Nq29, K29, E_u1, F_c_u1, F_list_u1⟩ := z29; have N := Fr.app N Nq29
 have E_nb11 := E_nb11.keep K29
 have F_modCount_nb11 := F_modCount_nb11.keep K29 nin0; have F_elementData_nb11 := F_elementData_nb11.keep K29 nin0; have F_size_nb11 := F_size_nb11.keep K29 nin0
 have V_nb19 := V_nb19.keep K29 nin0; have K := K.trans K29 all0
 refine og_retR X29 hx hlk hret rfl rfl rfl (hb hby d21_59) (by decide) (by decide) ?_
 rw [e29]; exact ⟨_, nb11, _, _, rfl, N, K, E_u1, F_c_u1, F_list_u1, E_nb11, F_modCount_nb11, F_elementData_nb11, F_size_nb11, V_nb19⟩
theorem rm_txt_ESE (l : Launch) (Z : State) (a0 : Array Value) (hw : HW a0 Z) (t1 ll bb x0 x1 x2 b2 : Addr) (kb : ClassId) (k2 : ClassId) (gg : Int32) (cs : Int32) (hcs : ¬ cs = 0) (h0 : Heap) (n0 : Nat) (O : Old Z n0 h0) (F__children_t1 : Fld Z h0 t1 "com/example/marsh_tit/marshtit/stanza/Element" "_children" "Ljava/util/List;" (.ref ll)) (E_ll : Exa Z h0 ll "java/util/ArrayList") (F_modCount_ll : Fld Z h0 ll "java/util/AbstractList" "modCount" "I" (.int 3)) (F_elementData_ll : Fld Z h0 ll "java/util/ArrayList" "elementData" "[Ljava/lang/Object;" (.ref bb)) (F_size_ll : Fld Z h0 ll "java/util/ArrayList" "size" "I" (.int 3)) (V_bb : Arv Z h0 bb kb (.object "java/lang/Object") (10 : Int32) [(.ref x0), (.ref x1), (.ref x2), .null, .null, .null, .null, .null, .null, .null] .null) (E_x0 : Exa Z h0 x0 "com/example/marsh_tit/marshtit/stanza/Element") (E_x1 : Exa Z h0 x1 "java/lang/String") (F_value_x1 : Fld Z h0 x1 "java/lang/String" "value" "[B" (.ref b2)) (F_coder_x1 : Fld Z h0 x1 "java/lang/String" "coder" "B" (.int 0)) (V_b2 : Arv Z h0 b2 k2 .byte (1 : Int32) [(.int gg)] (.int 0)) (E_x2 : Exa Z h0 x2 "com/example/marsh_tit/marshtit/stanza/Element") (S_CS : Sta Z Z.heap "java/lang/String" "COMPACT_STRINGS" "Z" (.int cs)) :
  Con l Z (⟨"com/example/marsh_tit/marshtit/stanza/Element", "text", "()Ljava/lang/String;"⟩ : MethodName) prog_19_method_13_code 4 (some (.object "java/lang/String")) ({ frames := 6, cells := 5, slots := 29, locals := 91 } : Room) #[(.ref t1)] h0 (fun v h L => ∃ a b k, v = some (.ref a) ∧ Fr n0 L ∧ Keep h0 h [] ∧ h0.size ≤ a ∧ h0.size ≤ b ∧ Exa Z h a "java/lang/String" ∧ Fld Z h a "java/lang/String" "value" "[B" (.ref b) ∧ Fld Z h a "java/lang/String" "coder" "B" (.int 0) ∧ Arv Z h b k .byte (1 : Int32) [(.int gg)] (.int 0)) := by
 refine own_startC opn_38 ?_
 intro p e s m below meth c T0 X0 hx hby hml hZ hown hnm hret hlk e0
 have N := Fr.nil n0; have K := Keep.refl h0 []
 refine OG.cast (oef18 m t1) ?_
 refine og_new (pc' := 3) (cells' := 1) (slots' := 4) X0 hx hZ hown (ow293 hw) (ow294 hw) (ow295 hw) e0 (hb hby d38_0) rfl rfl rfl (by decide) (by decide) (fun T11 h11 nb11 X11 e11 E11 q11 E_nb11 D11 B11 => ?_)
 have s_nb11 : h0.size ≤ nb11 := Nat.le_of_eq q11.symm; have g_nb11 : n0 ≤ nb11 := Nat.le_trans (own_n0 O) s_nb11; have sz_nb11 : h0.size ≤ nb11 := Nat.le_trans K.1 s_nb11; have ne_t1_nb11 : t1 ≠ nb11 := Nat.ne_of_lt (Nat.lt_of_lt_of_le F__children_t1.lt s_nb11); have ne_ll_nb11 : ll ≠ nb11 := Nat.ne_of_lt (Nat.lt_of_lt_of_le E_ll.lt s_nb11); have ne_bb_nb11 : bb ≠ nb11 := Nat.ne_of_lt (Nat.lt_of_lt_of_le V_bb.lt s_nb11)
 have ne_x1_nb11 : x1 ≠ nb11 := Nat.ne_of_lt (Nat.lt_of_lt_of_le E_x1.lt s_nb11); have ne_b2_nb11 : b2 ≠ nb11 := Nat.ne_of_lt (Nat.lt_of_lt_of_le V_b2.lt s_nb11)
 have F__children_t1 := F__children_t1.ext E11; have E_ll := E_ll.ext E11; have F_modCount_ll := F_modCount_ll.ext E11; have F_elementData_ll := F_elementData_ll.ext E11; have F_size_ll := F_size_ll.ext E11; have V_bb := V_bb.ext E11
 have E_x0 := E_x0.ext E11; have E_x1 := E_x1.ext E11; have F_value_x1 := F_value_x1.ext E11; have F_coder_x1 := F_coder_x1.ext E11; have V_b2 := V_b2.ext E11; have E_x2 := E_x2.ext E11
 have O := O.ext E11; have K := K.ext E11
 have F_value_nb11 : Fld Z h11 nb11 "java/lang/AbstractStringBuilder" "value" "[B" .null := D11 (Or.inl (ow308 hw)) (ty := (.array .byte)) (by decide)
 have F_coder_nb11 : Fld Z h11 nb11 "java/lang/AbstractStringBuilder" "coder" "B" (.int 0) := D11 (Or.inl (ow310 hw)) (ty := .byte) (by decide)
 have F_count_nb11 : Fld Z h11 nb11 "java/lang/AbstractStringBuilder" "count" "I" (.int 0) := D11 (Or.inl (ow340 hw)) (ty := .int) (by decide)
 refine og_dup X11 hx rfl (hb hby d38_3) rfl ?_
 refine og_special (pc' := 7) (cells' := 2) (slots' := 20) (W := 1) X11 hx hZ (rm_sb0 l Z a0 hw nb11 cs hcs h11 n0 O E_nb11 F_value_nb11 F_coder_nb11 F_count_nb11 S_CS g_nb11) rfl hown (ow296 hw) (ow297 hw) (ow295 hw) (ow298 hw) (by decide) (by rw [hml]; rfl) e11 opd_0 [] [(.ref nb11)] rfl rfl rfl rfl (by decide) (by decide) rfl rfl (by decide) (by decide) (hb hby d38_4) rfl (fun v12 T12 h12 L12 X12 e12 z12 => ?_)
 obtain ⟨nb12, k12, rfl, Nq12, K12, sb12, E_nb11', F_value_nb11', F_coder_nb11', F_count_nb11', V_nb12, E_nb12⟩ := z12; have N := Fr.app N Nq12
 have s_nb12 : h11.size ≤ nb12 := sb12; have g_nb12 : n0 ≤ nb12 := Nat.le_trans (own_n0 O) s_nb12; have sz_nb12 : h0.size ≤ nb12 := Nat.le_trans K.1 s_nb12; have ne_ll_nb12 : ll ≠ nb12 := Nat.ne_of_lt (Nat.lt_of_lt_of_le E_ll.lt s_nb12); have ne_bb_nb12 : bb ≠ nb12 := Nat.ne_of_lt (Nat.lt_of_lt_of_le V_bb.lt s_nb12)
 have ne_x1_nb12 : x1 ≠ nb12 := Nat.ne_of_lt (Nat.lt_of_lt_of_le E_x1.lt s_nb12); have ne_b2_nb12 : b2 ≠ nb12 := Nat.ne_of_lt (Nat.lt_of_lt_of_le V_b2.lt s_nb12); have ne_nb11_nb12 : nb11 ≠ nb12 := Nat.ne_of_lt (Nat.lt_of_lt_of_le E_nb11.lt s_nb12)
 have F__children_t1 := F__children_t1.keep K12 (ninS ne_t1_nb11 nin0); have E_ll := E_ll.keep K12; have F_modCount_ll := F_modCount_ll.keep K12 (ninS ne_ll_nb11 nin0); have F_elementData_ll := F_elementData_ll.keep K12 (ninS ne_ll_nb11 nin0); have F_size_ll := F_size_ll.keep K12 (ninS ne_ll_nb11 nin0); have V_bb := V_bb.keep K12 (ninS ne_bb_nb11 nin0)
 have E_x0 := E_x0.keep K12; have E_x1 := E_x1.keep K12; have F_value_x1 := F_value_x1.keep K12 (ninS ne_x1_nb11 nin0); have F_coder_x1 := F_coder_x1.keep K12 (ninS ne_x1_nb11 nin0); have V_b2 := V_b2.keep K12 (ninS ne_b2_nb11 nin0); have E_x2 := E_x2.keep K12
 have O := O.keep K12 (allS g_nb11 all0); have K := K.trans K12 (allS (Or.inr sz_nb11) all0)
 have E_nb11 := E_nb11'; have F_value_nb11 := F_value_nb11'; have F_coder_nb11 := F_coder_nb11'; have F_count_nb11 := F_count_nb11'
 refine og_astoreN (L' := #[.val (.ref t1), .val (.ref nb11), .unset, .unset]) X12 hx rfl rfl (hb hby d38_7) rfl ?_
 refine og_aloadN X12 hx rfl rfl (hb hby d38_8) rfl ?_
 refine og_getfield X12 hx hZ (host := "") hown (Or.inl (ow89 hw)) Via.refl e12 F__children_t1 (hb hby d38_9) rfl (fun T13 X13 e13 => ?_)
 refine og_interface (pc' := 17) (cells' := 3) (slots' := 24) (W := 0) X13 hx hZ (rm_it l Z a0 hw ll (3 : Int32) h12 n0 O F_modCount_ll) hown (ow150 hw) (ow151 hw) (ow152 hw) (ow153 hw) (ow154 hw) (ow155 hw) (ow156 hw) (ow117 hw) (ow67 hw) (ow157 hw) (by decide) (by rw [hml]; rfl) e13 opd_27 [] [] rfl rfl rfl rfl (by decide) (by decide) rfl rfl (by decide) (by decide) E_ll (hb hby d38_12) rfl (fun v14 T14 h14 L14 X14 e14 z14 => ?_)
 obtain ⟨ni14, rfl, Nq14, K14, si14, E_ni14, F_this_0_ni14, F_cursor_ni14, F_lastRet_ni14, F_expectedModCount_ni14⟩ := z14; have N := Fr.app N Nq14
 have s_ni14 : h12.size ≤ ni14 := si14; have g_ni14 : n0 ≤ ni14 := Nat.le_trans (own_n0 O) s_ni14; have sz_ni14 : h0.size ≤ ni14 := Nat.le_trans K.1 s_ni14; have ne_ll_ni14 : ll ≠ ni14 := Nat.ne_of_lt (Nat.lt_of_lt_of_le E_ll.lt s_ni14); have ne_bb_ni14 : bb ≠ ni14 := Nat.ne_of_lt (Nat.lt_of_lt_of_le V_bb.lt s_ni14)
 have ne_x1_ni14 : x1 ≠ ni14 := Nat.ne_of_lt (Nat.lt_of_lt_of_le E_x1.lt s_ni14); have ne_b2_ni14 : b2 ≠ ni14 := Nat.ne_of_lt (Nat.lt_of_lt_of_le V_b2.lt s_ni14); have ne_nb11_ni14 : nb11 ≠ ni14 := Nat.ne_of_lt (Nat.lt_of_lt_of_le E_nb11.lt s_ni14); have ne_nb12_ni14 : nb12 ≠ ni14 := Nat.ne_of_lt (Nat.lt_of_lt_of_le V_nb12.lt s_ni14)
 have F_modCount_ll := F_modCount_ll.keep K14 nin0; have F_elementData_ll := F_elementData_ll.keep K14 nin0; have F_size_ll := F_size_ll.keep K14 nin0; have V_bb := V_bb.keep K14 nin0
 have E_x0 := E_x0.keep K14; have E_x1 := E_x1.keep K14; have F_value_x1 := F_value_x1.keep K14 nin0; have F_coder_x1 := F_coder_x1.keep K14 nin0; have V_b2 := V_b2.keep K14 nin0; have E_x2 := E_x2.keep K14
 have E_nb11 := E_nb11.keep K14; have F_value_nb11 := F_value_nb11.keep K14 nin0; have F_coder_nb11 := F_coder_nb11.keep K14 nin0; have F_count_nb11 := F_count_nb11.keep K14 nin0; have V_nb12 := V_nb12.keep K14 nin0; have E_nb12 := E_nb12.keep K14
 have O := O.keep K14 all0; have K := K.trans K14 all0
 refine og_astoreN (L' := #[.val (.ref t1), .val (.ref nb11), .val (.ref ni14), .unset]) X14 hx rfl rfl (hb hby d38_17) rfl ?_
 refine og_aloadN X14 hx rfl rfl (hb hby d38_18) rfl ?_
 refine og_interface (pc' := 24) (cells' := 3) (slots' := 24) (W := 0) X14 hx hZ (rm_hn l Z a0 hw ni14 ll (0 : Int32) (3 : Int32) 1 (by decide) h14 n0 O F_this_0_ni14 F_cursor_ni14 F_size_ll) hown (ow173 hw) (ow174 hw) (ow175 hw) (ow176 hw) (ow177 hw) (ow178 hw) (ow179 hw) (ow180 hw) (ow160 hw) (ow181 hw) (by decide) (by rw [hml]; rfl) e14 opd_24 [] [] rfl rfl rfl rfl (by decide) (by decide) rfl rfl (by decide) (by decide) E_ni14 (hb hby d38_19) rfl (fun v15 T15 h15 L15 X15 e15 z15 => ?_)
 obtain ⟨rfl, Nq15, hq15⟩ := z15; replace e15 := e15.trans hq15; have N := Fr.app N Nq15
 refine og_if_eq (pc1 := 53) (pc2 := 27) X15 hx (hb hby d38_24) (by decide) (by decide) rfl (fun q => absurd q (by decide)) (fun _ => ?_)
 refine og_aloadN X15 hx rfl rfl (hb hby d38_27) rfl ?_
 refine og_interface (pc' := 33) (cells' := 3) (slots' := 24) (W := 0) X15 hx hZ (rm_nx_0_3 l Z a0 hw ni14 ll bb x0 x1 x2 kb (-1 : Int32) h14 n0 O E_ni14 F_this_0_ni14 F_cursor_ni14 F_lastRet_ni14 F_expectedModCount_ni14 F_modCount_ll F_elementData_ll F_size_ll V_bb g_ni14 ne_ll_ni14 ne_bb_ni14) hown (ow185 hw) (ow186 hw) (ow187 hw) (ow188 hw) (ow189 hw) (ow190 hw) (ow191 hw) (ow180 hw) (ow160 hw) (ow192 hw) (by decide) (by rw [hml]; rfl) e15 opd_28 [] [] rfl rfl rfl rfl (by decide) (by decide) rfl rfl (by decide) (by decide) E_ni14 (hb hby d38_28) rfl (fun v16 T16 h16 L16 X16 e16 z16 => ?_)
 obtain ⟨rfl, Nq16, K16, E_ni14', F_this_0_ni14', F_cursor_ni14', F_lastRet_ni14', F_expectedModCount_ni14'⟩ := z16; have N := Fr.app N Nq16
 have F_modCount_ll := F_modCount_ll.keep K16 (ninS ne_ll_ni14 nin0); have F_elementData_ll := F_elementData_ll.keep K16 (ninS ne_ll_ni14 nin0); have F_size_ll := F_size_ll.keep K16 (ninS ne_ll_ni14 nin0); have V_bb := V_bb.keep K16 (ninS ne_bb_ni14 nin0)
 have E_x0 := E_x0.keep K16; have E_x1 := E_x1.keep K16; have F_value_x1 := F_value_x1.keep K16 (ninS ne_x1_ni14 nin0); have F_coder_x1 := F_coder_x1.keep K16 (ninS ne_x1_ni14 nin0); have V_b2 := V_b2.keep K16 (ninS ne_b2_ni14 nin0); have E_x2 := E_x2.keep K16
 have E_nb11 := E_nb11.keep K16; have F_value_nb11 := F_value_nb11.keep K16 (ninS ne_nb11_ni14 nin0); have F_coder_nb11 := F_coder_nb11.keep K16 (ninS ne_nb11_ni14 nin0); have F_count_nb11 := F_count_nb11.keep K16 (ninS ne_nb11_ni14 nin0); have V_nb12 := V_nb12.keep K16 (ninS ne_nb12_ni14 nin0); have E_nb12 := E_nb12.keep K16
 have O := O.keep K16 (allS g_ni14 all0); have K := K.trans K16 (allS (Or.inr sz_ni14) all0)
 have E_ni14 := E_ni14'; have F_this_0_ni14 := F_this_0_ni14'; have F_cursor_ni14 := F_cursor_ni14'; have F_lastRet_ni14 := F_lastRet_ni14'; have F_expectedModCount_ni14 := F_expectedModCount_ni14'
 refine og_astoreN (L' := #[.val (.ref t1), .val (.ref nb11), .val (.ref ni14), .val (.ref x0)]) X16 hx rfl rfl (hb hby d38_33) rfl ?_
 refine og_aloadN X16 hx rfl rfl (hb hby d38_34) rfl ?_
 obtain ⟨T17, X17, e17, st17⟩ := instNo X16 hx hZ hown (ow98 hw) e16 E_x0 (NS.no (ow311 hw) (ow385 hw) (NS.step (ow311 hw) (NS.root (ow312 hw) (ow385 hw) (by decide)) (by decide)) (by decide)) (g := (mkF m 35 #[.val (.ref t1), .val (.ref nb11), .val (.ref ni14), .val (.ref x0)] [(.ref x0)])) rfl rfl (hb hby d38_35)
 refine OG.of st17 ?_
 show OG p e below _ (T17.setTop (mkF m 38 #[.val (.ref t1), .val (.ref nb11), .val (.ref ni14), .val (.ref x0)] [(.int 0)]))
 refine og_if_eq (pc1 := 50) (pc2 := 41) X17 hx (hb hby d38_38) (by decide) (by decide) rfl (fun _ => ?_) (fun q => absurd q (by decide))
 refine og_goto (pc' := 18) X17 hx (hb hby d38_50) (by decide) (by decide) ?_
 refine og_aloadN X17 hx rfl rfl (hb hby d38_18) rfl ?_
 refine og_interface (pc' := 24) (cells' := 3) (slots' := 24) (W := 0) X17 hx hZ (rm_hn l Z a0 hw ni14 ll (1 : Int32) (3 : Int32) 1 (by decide) h16 n0 O F_this_0_ni14 F_cursor_ni14 F_size_ll) hown (ow173 hw) (ow174 hw) (ow175 hw) (ow176 hw) (ow177 hw) (ow178 hw) (ow179 hw) (ow180 hw) (ow160 hw) (ow181 hw) (by decide) (by rw [hml]; rfl) e17 opd_24 [] [] rfl rfl rfl rfl (by decide) (by decide) rfl rfl (by decide) (by decide) E_ni14 (hb hby d38_19) rfl (fun v18 T18 h18 L18 X18 e18 z18 => ?_)
 obtain ⟨rfl, Nq18, hq18⟩ := z18; replace e18 := e18.trans hq18; have N := Fr.app N Nq18
 refine og_if_eq (pc1 := 53) (pc2 := 27) X18 hx (hb hby d38_24) (by decide) (by decide) rfl (fun q => absurd q (by decide)) (fun _ => ?_)
 refine og_aloadN X18 hx rfl rfl (hb hby d38_27) rfl ?_
 refine og_interface (pc' := 33) (cells' := 3) (slots' := 24) (W := 0) X18 hx hZ (rm_nx_1_3 l Z a0 hw ni14 ll bb x0 x1 x2 kb (0 : Int32) h16 n0 O E_ni14 F_this_0_ni14 F_cursor_ni14 F_lastRet_ni14 F_expectedModCount_ni14 F_modCount_ll F_elementData_ll F_size_ll V_bb g_ni14 ne_ll_ni14 ne_bb_ni14) hown (ow185 hw) (ow186 hw) (ow187 hw) (ow188 hw) (ow189 hw) (ow190 hw) (ow191 hw) (ow180 hw) (ow160 hw) (ow192 hw) (by decide) (by rw [hml]; rfl) e18 opd_28 [] [] rfl rfl rfl rfl (by decide) (by decide) rfl rfl (by decide) (by decide) E_ni14 (hb hby d38_28) rfl (fun v19 T19 h19 L19 X19 e19 z19 => ?_)
 obtain ⟨rfl, Nq19, K19, E_ni14', F_this_0_ni14', F_cursor_ni14', F_lastRet_ni14', F_expectedModCount_ni14'⟩ := z19; have N := Fr.app N Nq19
 have F_modCount_ll := F_modCount_ll.keep K19 (ninS ne_ll_ni14 nin0); have F_elementData_ll := F_elementData_ll.keep K19 (ninS ne_ll_ni14 nin0); have F_size_ll := F_size_ll.keep K19 (ninS ne_ll_ni14 nin0); have V_bb := V_bb.keep K19 (ninS ne_bb_ni14 nin0)
 have E_x1 := E_x1.keep K19; have F_value_x1 := F_value_x1.keep K19 (ninS ne_x1_ni14 nin0); have F_coder_x1 := F_coder_x1.keep K19 (ninS ne_x1_ni14 nin0); have V_b2 := V_b2.keep K19 (ninS ne_b2_ni14 nin0); have E_x2 := E_x2.keep K19
 have E_nb11 := E_nb11.keep K19; have F_value_nb11 := F_value_nb11.keep K19 (ninS ne_nb11_ni14 nin0); have F_coder_nb11 := F_coder_nb11.keep K19 (ninS ne_nb11_ni14 nin0); have F_count_nb11 := F_count_nb11.keep K19 (ninS ne_nb11_ni14 nin0); have V_nb12 := V_nb12.keep K19 (ninS ne_nb12_ni14 nin0); have E_nb12 := E_nb12.keep K19
 have O := O.keep K19 (allS g_ni14 all0); have K := K.trans K19 (allS (Or.inr sz_ni14) all0)
 have E_ni14 := E_ni14'; have F_this_0_ni14 := F_this_0_ni14'; have F_cursor_ni14 := F_cursor_ni14'; have F_lastRet_ni14 := F_lastRet_ni14'; have F_expectedModCount_ni14 := F_expectedModCount_ni14'
 refine og_astoreN (L' := #[.val (.ref t1), .val (.ref nb11), .val (.ref ni14), .val (.ref x1)]) X19 hx rfl rfl (hb hby d38_33) rfl ?_
 refine og_aloadN X19 hx rfl rfl (hb hby d38_34) rfl ?_
 obtain ⟨T20, X20, e20, st20⟩ := instY X19 hx hZ hown (ow98 hw) e19 (Ins.self E_x1) (g := (mkF m 35 #[.val (.ref t1), .val (.ref nb11), .val (.ref ni14), .val (.ref x1)] [(.ref x1)])) rfl rfl (hb hby d38_35)
 refine OG.of st20 ?_
 show OG p e below _ (T20.setTop (mkF m 38 #[.val (.ref t1), .val (.ref nb11), .val (.ref ni14), .val (.ref x1)] [(.int 1)]))
 refine og_if_eq (pc1 := 50) (pc2 := 41) X20 hx (hb hby d38_38) (by decide) (by decide) rfl (fun q => absurd q (by decide)) (fun _ => ?_)
 refine og_aloadN X20 hx rfl rfl (hb hby d38_41) rfl ?_
 refine og_aloadN X20 hx rfl rfl (hb hby d38_42) rfl ?_
 obtain ⟨T21, X21, e21, st21⟩ := castY X20 hx hZ hown (ow98 hw) e20 (Ins.self E_x1) (g := (mkF m 43 #[.val (.ref t1), .val (.ref nb11), .val (.ref ni14), .val (.ref x1)] [(.ref x1), (.ref nb11)])) rfl rfl (hb hby d38_43)
 refine OG.of st21 ?_
 show OG p e below _ (T21.setTop (mkF m 46 #[.val (.ref t1), .val (.ref nb11), .val (.ref ni14), .val (.ref x1)] [(.ref x1), (.ref nb11)]))
 refine og_virtual (pc' := 49) (cells' := 3) (slots' := 24) (W := 0) X21 hx hZ (rm_sas_t l Z a0 hw nb11 x1 nb12 b2 k12 k2 gg cs hcs h19 n0 O E_nb11 F_value_nb11 F_coder_nb11 F_count_nb11 E_nb12 V_nb12 E_x1 F_value_x1 F_coder_x1 V_b2 S_CS g_nb11 g_nb12 ne_nb11_nb12 ne_x1_nb12 ne_b2_nb12 ne_x1_nb11 ne_b2_nb11) hown (ow386 hw) (ow387 hw) (own_nf hZ (ow389 hw)) (ow389 hw) (ow388 hw) (ow295 hw) (ow390 hw) (by decide) (by rw [hml]; rfl) e21 opd_32 [(.ref x1)] [] rfl rfl rfl rfl (by decide) (by decide) rfl rfl (by decide) (by decide) E_nb11 (hb hby d38_46) rfl (fun v22 T22 h22 L22 X22 e22 z22 => ?_)
 obtain ⟨rfl, Nq22, K22, E_nb11', F_value_nb11', F_coder_nb11', F_count_nb11', V_nb12'⟩ := z22; have N := Fr.app N Nq22
 have F_modCount_ll := F_modCount_ll.keep K22 (ninS ne_ll_nb11 (ninS ne_ll_nb12 nin0)); have F_elementData_ll := F_elementData_ll.keep K22 (ninS ne_ll_nb11 (ninS ne_ll_nb12 nin0)); have F_size_ll := F_size_ll.keep K22 (ninS ne_ll_nb11 (ninS ne_ll_nb12 nin0)); have V_bb := V_bb.keep K22 (ninS ne_bb_nb11 (ninS ne_bb_nb12 nin0))
 have E_x2 := E_x2.keep K22
 have E_nb12 := E_nb12.keep K22; have E_ni14 := E_ni14.keep K22; have F_this_0_ni14 := F_this_0_ni14.keep K22 (ninS (Ne.symm ne_nb11_ni14) (ninS (Ne.symm ne_nb12_ni14) nin0)); have F_cursor_ni14 := F_cursor_ni14.keep K22 (ninS (Ne.symm ne_nb11_ni14) (ninS (Ne.symm ne_nb12_ni14) nin0)); have F_lastRet_ni14 := F_lastRet_ni14.keep K22 (ninS (Ne.symm ne_nb11_ni14) (ninS (Ne.symm ne_nb12_ni14) nin0))
 have F_expectedModCount_ni14 := F_expectedModCount_ni14.keep K22 (ninS (Ne.symm ne_nb11_ni14) (ninS (Ne.symm ne_nb12_ni14) nin0)); have O := O.keep K22 (allS g_nb11 (allS g_nb12 all0)); have K := K.trans K22 (allS (Or.inr sz_nb11) (allS (Or.inr sz_nb12) all0))
 have V_nb12 := V_nb12'
 have E_nb11 := E_nb11'; have F_value_nb11 := F_value_nb11'; have F_coder_nb11 := F_coder_nb11'; have F_count_nb11 := F_count_nb11'
 refine og_pop X22 hx rfl (hb hby d38_49) rfl ?_
 refine og_goto (pc' := 18) X22 hx (hb hby d38_50) (by decide) (by decide) ?_
 refine og_aloadN X22 hx rfl rfl (hb hby d38_18) rfl ?_
 refine og_interface (pc' := 24) (cells' := 3) (slots' := 24) (W := 0) X22 hx hZ (rm_hn l Z a0 hw ni14 ll (2 : Int32) (3 : Int32) 1 (by decide) h22 n0 O F_this_0_ni14 F_cursor_ni14 F_size_ll) hown (ow173 hw) (ow174 hw) (ow175 hw) (ow176 hw) (ow177 hw) (ow178 hw) (ow179 hw) (ow180 hw) (ow160 hw) (ow181 hw) (by decide) (by rw [hml]; rfl) e22 opd_24 [] [] rfl rfl rfl rfl (by decide) (by decide) rfl rfl (by decide) (by decide) E_ni14 (hb hby d38_19) rfl (fun v23 T23 h23 L23 X23 e23 z23 => ?_)
 obtain ⟨rfl, Nq23, hq23⟩ := z23; replace e23 := e23.trans hq23; have N := Fr.app N Nq23
 refine og_if_eq (pc1 := 53) (pc2 := 27) X23 hx (hb hby d38_24) (by decide) (by decide) rfl (fun q => absurd q (by decide)) (fun _ => ?_)
 refine og_aloadN X23 hx rfl rfl (hb hby d38_27) rfl ?_
 refine og_interface (pc' := 33) (cells' := 3) (slots' := 24) (W := 0) X23 hx hZ (rm_nx_2_3 l Z a0 hw ni14 ll bb x0 x1 x2 kb (1 : Int32) h22 n0 O E_ni14 F_this_0_ni14 F_cursor_ni14 F_lastRet_ni14 F_expectedModCount_ni14 F_modCount_ll F_elementData_ll F_size_ll V_bb g_ni14 ne_ll_ni14 ne_bb_ni14) hown (ow185 hw) (ow186 hw) (ow187 hw) (ow188 hw) (ow189 hw) (ow190 hw) (ow191 hw) (ow180 hw) (ow160 hw) (ow192 hw) (by decide) (by rw [hml]; rfl) e23 opd_28 [] [] rfl rfl rfl rfl (by decide) (by decide) rfl rfl (by decide) (by decide) E_ni14 (hb hby d38_28) rfl (fun v24 T24 h24 L24 X24 e24 z24 => ?_)
 obtain ⟨rfl, Nq24, K24, E_ni14', F_this_0_ni14', F_cursor_ni14', F_lastRet_ni14', F_expectedModCount_ni14'⟩ := z24; have N := Fr.app N Nq24
 have F_size_ll := F_size_ll.keep K24 (ninS ne_ll_ni14 nin0)
 have E_x2 := E_x2.keep K24
 have E_nb11 := E_nb11.keep K24; have E_nb12 := E_nb12.keep K24; have F_value_nb11 := F_value_nb11.keep K24 (ninS ne_nb11_ni14 nin0); have F_coder_nb11 := F_coder_nb11.keep K24 (ninS ne_nb11_ni14 nin0); have F_count_nb11 := F_count_nb11.keep K24 (ninS ne_nb11_ni14 nin0)
 have V_nb12 := V_nb12.keep K24 (ninS ne_nb12_ni14 nin0); have O := O.keep K24 (allS g_ni14 all0); have K := K.trans K24 (allS (Or.inr sz_ni14) all0)
 have E_ni14 := E_ni14'; have F_this_0_ni14 := F_this_0_ni14'; have F_cursor_ni14 := F_cursor_ni14'
 refine og_astoreN (L' := #[.val (.ref t1), .val (.ref nb11), .val (.ref ni14), .val (.ref x2)]) X24 hx rfl rfl (hb hby d38_33) rfl ?_
 refine og_aloadN X24 hx rfl rfl (hb hby d38_34) rfl ?_
 obtain ⟨T25, X25, e25, st25⟩ := instNo X24 hx hZ hown (ow98 hw) e24 E_x2 (NS.no (ow311 hw) (ow385 hw) (NS.step (ow311 hw) (NS.root (ow312 hw) (ow385 hw) (by decide)) (by decide)) (by decide)) (g := (mkF m 35 #[.val (.ref t1), .val (.ref nb11), .val (.ref ni14), .val (.ref x2)] [(.ref x2)])) rfl rfl (hb hby d38_35)
 refine OG.of st25 ?_
 show OG p e below _ (T25.setTop (mkF m 38 #[.val (.ref t1), .val (.ref nb11), .val (.ref ni14), .val (.ref x2)] [(.int 0)]))
 refine og_if_eq (pc1 := 50) (pc2 := 41) X25 hx (hb hby d38_38) (by decide) (by decide) rfl (fun _ => ?_) (fun q => absurd q (by decide))
 refine og_goto (pc' := 18) X25 hx (hb hby d38_50) (by decide) (by decide) ?_
 refine og_aloadN X25 hx rfl rfl (hb hby d38_18) rfl ?_
 refine og_interface (pc' := 24) (cells' := 3) (slots' := 24) (W := 0) X25 hx hZ (rm_hn l Z a0 hw ni14 ll (3 : Int32) (3 : Int32) 0 (by decide) h24 n0 O F_this_0_ni14 F_cursor_ni14 F_size_ll) hown (ow173 hw) (ow174 hw) (ow175 hw) (ow176 hw) (ow177 hw) (ow178 hw) (ow179 hw) (ow180 hw) (ow160 hw) (ow181 hw) (by decide) (by rw [hml]; rfl) e25 opd_24 [] [] rfl rfl rfl rfl (by decide) (by decide) rfl rfl (by decide) (by decide) E_ni14 (hb hby d38_19) rfl (fun v26 T26 h26 L26 X26 e26 z26 => ?_)
 obtain ⟨rfl, Nq26, hq26⟩ := z26; replace e26 := e26.trans hq26; have N := Fr.app N Nq26
 refine og_if_eq (pc1 := 53) (pc2 := 27) X26 hx (hb hby d38_24) (by decide) (by decide) rfl (fun _ => ?_) (fun q => absurd q (by decide))
 refine og_aloadN X26 hx rfl rfl (hb hby d38_53) rfl ?_
 refine og_virtual (pc' := 57) (cells' := 5) (slots' := 29) (W := 0) X26 hx hZ (rm_tos_16_1 l Z a0 hw nb11 nb12 k12 gg (0 : Int32) (0 : Int32) (0 : Int32) (0 : Int32) (0 : Int32) (0 : Int32) (0 : Int32) (0 : Int32) (0 : Int32) (0 : Int32) (0 : Int32) (0 : Int32) (0 : Int32) (0 : Int32) (0 : Int32) cs hcs h24 n0 O E_nb11 F_value_nb11 F_coder_nb11 F_count_nb11 E_nb12 V_nb12 S_CS) hown (ow313 hw) (ow314 hw) (own_nf hZ (ow316 hw)) (ow316 hw) (ow315 hw) (ow295 hw) (ow317 hw) (by decide) (by rw [hml]; rfl) e26 opd_31 [] [] rfl rfl rfl rfl (by decide) (by decide) rfl rfl (by decide) (by decide) E_nb11 (hb hby d38_54) rfl (fun v27 T27 h27 L27 X27 e27 z27 => ?_)
 obtain ⟨na27, nb27, k27, rfl, Nq27, K27, sa27, sb27, E_na27, F_value_na27, F_coder_na27, V_nb27⟩ := z27; have N := Fr.app N Nq27
 have s_na27 : h24.size ≤ na27 := sa27; have sz_na27 : h0.size ≤ na27 := Nat.le_trans K.1 s_na27
 have s_nb27 : h24.size ≤ nb27 := sb27; have sz_nb27 : h0.size ≤ nb27 := Nat.le_trans K.1 s_nb27
 have K := K.trans K27 all0
 refine og_retR X27 hx hlk hret rfl rfl rfl (hb hby d38_57) (by decide) (by decide) ?_
 rw [e27]; exact ⟨_, _, _, rfl, N, K, sz_na27, sz_nb27, E_na27, F_value_na27, F_coder_na27, V_nb27⟩
theorem rm_ea_0 (l : Launch) (Z : State) (a0 : Array Value) (hw : HW a0 Z) (t1 a1 xx : Addr) (de : Addr) (kde : ClassId) (h0 : Heap) (n0 : Nat) (O : Old Z n0 h0) (hEL : EW Z a0 own_EL) (F__children_t1 : Fld Z h0 t1 "com/example/marsh_tit/marshtit/stanza/Element" "_children" "Ljava/util/List;" (.ref a1)) (E_a1 : Exa Z h0 a1 "java/util/ArrayList") (F_modCount_a1 : Fld Z h0 a1 "java/util/AbstractList" "modCount" "I" (.int 0)) (F_elementData_a1 : Fld Z h0 a1 "java/util/ArrayList" "elementData" "[Ljava/lang/Object;" (.ref de)) (F_size_a1 : Fld Z h0 a1 "java/util/ArrayList" "size" "I" (.int 0)) (E_xx : Exa Z h0 xx "com/example/marsh_tit/marshtit/stanza/Element") (S_DE : Sta Z Z.heap "java/util/ArrayList" "DEFAULTCAPACITY_EMPTY_ELEMENTDATA" "[Ljava/lang/Object;" (.ref de)) (V_de : Arv Z Z.heap de kde (.object "java/lang/Object") (0 : Int32) [] .null) (g_a1 : n0 ≤ a1) (ne_t1_a1 : t1 ≠ a1) :
  ConW l Z own_EL [] (⟨"com/example/marsh_tit/marshtit/stanza/Element", "add", "(Lcom/example/marsh_tit/marshtit/stanza/Element;)Lcom/example/marsh_tit/marshtit/stanza/Element;"⟩ : MethodName) prog_19_method_8_code 2 (some (.object "com/example/marsh_tit/marshtit/stanza/Element")) ({ frames := 5, cells := 3, slots := 34, locals := 69 } : Room) #[(.ref t1), (.ref xx)] h0 (fun v h L => ∃ b k, v = some (.ref t1) ∧ Fr n0 L ∧ Keep h0 h [a1] ∧ h0.size ≤ b ∧ Exa Z h a1 "java/util/ArrayList" ∧ Fld Z h a1 "java/util/AbstractList" "modCount" "I" (.int 1) ∧ Fld Z h a1 "java/util/ArrayList" "elementData" "[Ljava/lang/Object;" (.ref b) ∧ Fld Z h a1 "java/util/ArrayList" "size" "I" (.int 1) ∧ Arv Z h b k (.object "java/lang/Object") (10 : Int32) [(.ref xx), .null, .null, .null, .null, .null, .null, .null, .null, .null] .null ∧ Ovr Z k "java/lang/Object") := by
 refine own_startWC opn_15 ?_
 intro p e s m below meth c T0 X0 hx hby hml hZ hown hnm hret hlk e0 es hS CR hsf
 have N := Fr.nil n0; have K := Keep.refl h0 [a1]; have hk := Nat.le_refl h0.size
 refine OG.cast (oef1 m t1 xx) ?_
 refine og_aloadN X0 hx rfl rfl (hb hby d15_0) rfl ?_
 refine og_getfield X0 hx hZ (host := "") hown (Or.inl (ow89 hw)) Via.refl e0 F__children_t1 (hb hby d15_1) rfl (fun T11 X11 e11 => ?_)
 refine og_aloadN X11 hx rfl rfl (hb hby d15_4) rfl ?_
 refine og_ldcO (pc' := 7) (cells' := 2) (slots' := 24) (n := 20) X11 hx hZ hown (hw _ (List.mem_of_getElem? (i := 109) rfl)) (own_wS hw) e11 hS hk hEL CR.1 (by decide) (by decide) (hb hby d15_5) rfl rfl rfl (by decide) (by decide) (fun na12 T12 h12 kk12 X12 e12 E12 hS hk hZ hown cr12 => ?_)
 have E_a1 := E_a1.ext E12; have F_modCount_a1 := F_modCount_a1.ext E12; have F_elementData_a1 := F_elementData_a1.ext E12; have F_size_a1 := F_size_a1.ext E12; have E_xx := E_xx.ext E12
 have O := O.ext E12; have K := K.ext E12; have CR := CR.trans cr12
 refine og_static (pc' := 10) (cells' := 2) (slots' := 24) (W := 1) X12 hx hZ (rm_rnn l Z a0 hw xx na12 h12 n0 O) hown (ow94 hw) (ow95 hw) (ow96 hw) (ow97 hw) (by decide) (by rw [hml]; rfl) e12 opd_1 [(.ref xx), (.ref na12)] [(.ref a1)] rfl rfl rfl rfl (by decide) (by decide) rfl rfl (by decide) (by decide) (hb hby d15_7) rfl (fun v13 T13 h13 L13 X13 e13 z13 => ?_)
 obtain ⟨rfl, Nq13, hq13⟩ := z13; replace e13 := e13.trans hq13; have N := Fr.app N Nq13
 refine og_interface (pc' := 15) (cells' := 3) (slots' := 34) (W := 0) X13 hx hZ (rm_la_0E l Z a0 hw a1 xx de kde h12 n0 O E_a1 F_modCount_a1 F_elementData_a1 F_size_a1 E_xx S_DE V_de g_a1) hown (ow110 hw) (ow111 hw) (ow112 hw) (ow113 hw) (ow114 hw) (ow115 hw) (ow116 hw) (ow117 hw) (ow67 hw) (ow118 hw) (by decide) (by rw [hml]; rfl) e13 opd_29 [(.ref xx)] [] rfl rfl rfl rfl (by decide) (by decide) rfl rfl (by decide) (by decide) E_a1 (hb hby d15_10) rfl (fun v14 T14 h14 L14 X14 e14 z14 => ?_)
 obtain ⟨nb14, k14, rfl, Nq14, K14, sb14, E_a1', F_modCount_a1', F_elementData_a1', F_size_a1', V_nb14, Ov_nb14⟩ := z14; have N := Fr.app N Nq14
 have s_nb14 : h12.size ≤ nb14 := sb14; have sz_nb14 : h0.size ≤ nb14 := Nat.le_trans K.1 s_nb14
 have sf14 : ∀ x ∈ ([a1] : List Addr), Safe Z own_EL T12.vm h12 x := (sfS (Safe.exa hZ.alike E_a1 (by decide) (by decide)) sf0); have K := K.trans K14 (allS (Or.inl (List.mem_of_getElem? (i := 0) rfl)) all0)
 have hk := Nat.le_trans hk K14.1; have CR := CR.trans (CHr.keep K14 sf14 CR.1)
 have E_a1 := E_a1'; have F_modCount_a1 := F_modCount_a1'; have F_elementData_a1 := F_elementData_a1'; have F_size_a1 := F_size_a1'
 refine og_pop X14 hx rfl (hb hby d15_15) rfl ?_
 refine og_aloadN X14 hx rfl rfl (hb hby d15_16) rfl ?_
 refine og_retRW X14 hx hZ hlk hEL hS e14 es hk CR hret rfl rfl rfl (hb hby d15_17) (by decide) (by decide) ?_
 rw [e14]; exact ⟨_, _, rfl, N, K, sz_nb14, E_a1, F_modCount_a1, F_elementData_a1, F_size_a1, V_nb14, Ov_nb14⟩
theorem rm_ea_1 (l : Launch) (Z : State) (a0 : Array Value) (hw : HW a0 Z) (t1 a1 xx bb x0 : Addr) (kb : ClassId) (Ov_bb : Ovr Z kb "java/lang/Object") (h0 : Heap) (n0 : Nat) (O : Old Z n0 h0) (hEL : EW Z a0 own_EL) (F__children_t1 : Fld Z h0 t1 "com/example/marsh_tit/marshtit/stanza/Element" "_children" "Ljava/util/List;" (.ref a1)) (E_a1 : Exa Z h0 a1 "java/util/ArrayList") (F_modCount_a1 : Fld Z h0 a1 "java/util/AbstractList" "modCount" "I" (.int 1)) (F_elementData_a1 : Fld Z h0 a1 "java/util/ArrayList" "elementData" "[Ljava/lang/Object;" (.ref bb)) (F_size_a1 : Fld Z h0 a1 "java/util/ArrayList" "size" "I" (.int 1)) (E_xx : Exa Z h0 xx "com/example/marsh_tit/marshtit/stanza/Element") (V_bb : Arv Z h0 bb kb (.object "java/lang/Object") (10 : Int32) [(.ref x0), .null, .null, .null, .null, .null, .null, .null, .null, .null] .null) (g_a1 : n0 ≤ a1) (g_bb : n0 ≤ bb) (ne_t1_a1 : t1 ≠ a1) (ne_a1_bb : a1 ≠ bb) (ne_t1_bb : t1 ≠ bb) :
  ConW l Z own_EL [] (⟨"com/example/marsh_tit/marshtit/stanza/Element", "add", "(Lcom/example/marsh_tit/marshtit/stanza/Element;)Lcom/example/marsh_tit/marshtit/stanza/Element;"⟩ : MethodName) prog_19_method_8_code 2 (some (.object "com/example/marsh_tit/marshtit/stanza/Element")) ({ frames := 2, cells := 2, slots := 24, locals := 28 } : Room) #[(.ref t1), (.ref xx)] h0 (fun v h L => v = some (.ref t1) ∧ Fr n0 L ∧ Keep h0 h [a1, bb] ∧ Exa Z h a1 "java/util/ArrayList" ∧ Fld Z h a1 "java/util/AbstractList" "modCount" "I" (.int 2) ∧ Fld Z h a1 "java/util/ArrayList" "elementData" "[Ljava/lang/Object;" (.ref bb) ∧ Fld Z h a1 "java/util/ArrayList" "size" "I" (.int 2) ∧ Arv Z h bb kb (.object "java/lang/Object") (10 : Int32) [(.ref x0), (.ref xx), .null, .null, .null, .null, .null, .null, .null, .null] .null) := by
 refine own_startWC opn_15 ?_
 intro p e s m below meth c T0 X0 hx hby hml hZ hown hnm hret hlk e0 es hS CR hsf
 have N := Fr.nil n0; have K := Keep.refl h0 [a1, bb]; have hk := Nat.le_refl h0.size
 refine OG.cast (oef1 m t1 xx) ?_
 refine og_aloadN X0 hx rfl rfl (hb hby d15_0) rfl ?_
 refine og_getfield X0 hx hZ (host := "") hown (Or.inl (ow89 hw)) Via.refl e0 F__children_t1 (hb hby d15_1) rfl (fun T11 X11 e11 => ?_)
 refine og_aloadN X11 hx rfl rfl (hb hby d15_4) rfl ?_
 refine og_ldcO (pc' := 7) (cells' := 2) (slots' := 24) (n := 20) X11 hx hZ hown (hw _ (List.mem_of_getElem? (i := 109) rfl)) (own_wS hw) e11 hS hk hEL CR.1 (by decide) (by decide) (hb hby d15_5) rfl rfl rfl (by decide) (by decide) (fun na12 T12 h12 kk12 X12 e12 E12 hS hk hZ hown cr12 => ?_)
 have E_a1 := E_a1.ext E12; have F_modCount_a1 := F_modCount_a1.ext E12; have F_elementData_a1 := F_elementData_a1.ext E12; have F_size_a1 := F_size_a1.ext E12; have E_xx := E_xx.ext E12
 have V_bb := V_bb.ext E12; have O := O.ext E12; have K := K.ext E12; have CR := CR.trans cr12
 refine og_static (pc' := 10) (cells' := 2) (slots' := 24) (W := 1) X12 hx hZ (rm_rnn l Z a0 hw xx na12 h12 n0 O) hown (ow94 hw) (ow95 hw) (ow96 hw) (ow97 hw) (by decide) (by rw [hml]; rfl) e12 opd_1 [(.ref xx), (.ref na12)] [(.ref a1)] rfl rfl rfl rfl (by decide) (by decide) rfl rfl (by decide) (by decide) (hb hby d15_7) rfl (fun v13 T13 h13 L13 X13 e13 z13 => ?_)
 obtain ⟨rfl, Nq13, hq13⟩ := z13; replace e13 := e13.trans hq13; have N := Fr.app N Nq13
 refine og_interface (pc' := 15) (cells' := 2) (slots' := 24) (W := 0) X13 hx hZ (rm_la_1E l Z a0 hw a1 xx bb x0 kb Ov_bb h12 n0 O E_a1 F_modCount_a1 F_elementData_a1 F_size_a1 E_xx V_bb g_a1 g_bb ne_a1_bb) hown (ow110 hw) (ow111 hw) (ow112 hw) (ow113 hw) (ow114 hw) (ow115 hw) (ow116 hw) (ow117 hw) (ow67 hw) (ow118 hw) (by decide) (by rw [hml]; rfl) e13 opd_29 [(.ref xx)] [] rfl rfl rfl rfl (by decide) (by decide) rfl rfl (by decide) (by decide) E_a1 (hb hby d15_10) rfl (fun v14 T14 h14 L14 X14 e14 z14 => ?_)
 obtain ⟨rfl, Nq14, K14, E_a1', F_modCount_a1', F_elementData_a1', F_size_a1', V_bb'⟩ := z14; have N := Fr.app N Nq14
 have sf14 : ∀ x ∈ ([a1, bb] : List Addr), Safe Z own_EL T12.vm h12 x := (sfS (Safe.exa hZ.alike E_a1 (by decide) (by decide)) (sfS (Safe.arv hZ.alike V_bb (by decide)) sf0)); have K := K.trans K14 (allS (Or.inl (List.mem_of_getElem? (i := 0) rfl)) (allS (Or.inl (List.mem_of_getElem? (i := 1) rfl)) all0))
 have hk := Nat.le_trans hk K14.1; have CR := CR.trans (CHr.keep K14 sf14 CR.1)
 have V_bb := V_bb'
 have E_a1 := E_a1'; have F_modCount_a1 := F_modCount_a1'; have F_elementData_a1 := F_elementData_a1'; have F_size_a1 := F_size_a1'
 refine og_pop X14 hx rfl (hb hby d15_15) rfl ?_
 refine og_aloadN X14 hx rfl rfl (hb hby d15_16) rfl ?_
 refine og_retRW X14 hx hZ hlk hEL hS e14 es hk CR hret rfl rfl rfl (hb hby d15_17) (by decide) (by decide) ?_
 rw [e14]; exact ⟨rfl, N, K, E_a1, F_modCount_a1, F_elementData_a1, F_size_a1, V_bb⟩
theorem rm_ea_2 (l : Launch) (Z : State) (a0 : Array Value) (hw : HW a0 Z) (t1 a1 xx bb x0 x1 : Addr) (kb : ClassId) (Ov_bb : Ovr Z kb "java/lang/Object") (h0 : Heap) (n0 : Nat) (O : Old Z n0 h0) (hEL : EW Z a0 own_EL) (F__children_t1 : Fld Z h0 t1 "com/example/marsh_tit/marshtit/stanza/Element" "_children" "Ljava/util/List;" (.ref a1)) (E_a1 : Exa Z h0 a1 "java/util/ArrayList") (F_modCount_a1 : Fld Z h0 a1 "java/util/AbstractList" "modCount" "I" (.int 2)) (F_elementData_a1 : Fld Z h0 a1 "java/util/ArrayList" "elementData" "[Ljava/lang/Object;" (.ref bb)) (F_size_a1 : Fld Z h0 a1 "java/util/ArrayList" "size" "I" (.int 2)) (E_xx : Exa Z h0 xx "com/example/marsh_tit/marshtit/stanza/Element") (V_bb : Arv Z h0 bb kb (.object "java/lang/Object") (10 : Int32) [(.ref x0), (.ref x1), .null, .null, .null, .null, .null, .null, .null, .null] .null) (g_a1 : n0 ≤ a1) (g_bb : n0 ≤ bb) (ne_t1_a1 : t1 ≠ a1) (ne_a1_bb : a1 ≠ bb) (ne_t1_bb : t1 ≠ bb) :
  ConW l Z own_EL [] (⟨"com/example/marsh_tit/marshtit/stanza/Element", "add", "(Lcom/example/marsh_tit/marshtit/stanza/Element;)Lcom/example/marsh_tit/marshtit/stanza/Element;"⟩ : MethodName) prog_19_method_8_code 2 (some (.object "com/example/marsh_tit/marshtit/stanza/Element")) ({ frames := 2, cells := 2, slots := 24, locals := 28 } : Room) #[(.ref t1), (.ref xx)] h0 (fun v h L => v = some (.ref t1) ∧ Fr n0 L ∧ Keep h0 h [a1, bb] ∧ Exa Z h a1 "java/util/ArrayList" ∧ Fld Z h a1 "java/util/AbstractList" "modCount" "I" (.int 3) ∧ Fld Z h a1 "java/util/ArrayList" "elementData" "[Ljava/lang/Object;" (.ref bb) ∧ Fld Z h a1 "java/util/ArrayList" "size" "I" (.int 3) ∧ Arv Z h bb kb (.object "java/lang/Object") (10 : Int32) [(.ref x0), (.ref x1), (.ref xx), .null, .null, .null, .null, .null, .null, .null] .null) := by
 refine own_startWC opn_15 ?_
 intro p e s m below meth c T0 X0 hx hby hml hZ hown hnm hret hlk e0 es hS CR hsf
 have N := Fr.nil n0; have K := Keep.refl h0 [a1, bb]; have hk := Nat.le_refl h0.size
 refine OG.cast (oef1 m t1 xx) ?_
 refine og_aloadN X0 hx rfl rfl (hb hby d15_0) rfl ?_
 refine og_getfield X0 hx hZ (host := "") hown (Or.inl (ow89 hw)) Via.refl e0 F__children_t1 (hb hby d15_1) rfl (fun T11 X11 e11 => ?_)
 refine og_aloadN X11 hx rfl rfl (hb hby d15_4) rfl ?_
 refine og_ldcO (pc' := 7) (cells' := 2) (slots' := 24) (n := 20) X11 hx hZ hown (hw _ (List.mem_of_getElem? (i := 109) rfl)) (own_wS hw) e11 hS hk hEL CR.1 (by decide) (by decide) (hb hby d15_5) rfl rfl rfl (by decide) (by decide) (fun na12 T12 h12 kk12 X12 e12 E12 hS hk hZ hown cr12 => ?_)
 have E_a1 := E_a1.ext E12; have F_modCount_a1 := F_modCount_a1.ext E12; have F_elementData_a1 := F_elementData_a1.ext E12; have F_size_a1 := F_size_a1.ext E12; have E_xx := E_xx.ext E12
 have V_bb := V_bb.ext E12; have O := O.ext E12; have K := K.ext E12; have CR := CR.trans cr12
 refine og_static (pc' := 10) (cells' := 2) (slots' := 24) (W := 1) X12 hx hZ (rm_rnn l Z a0 hw xx na12 h12 n0 O) hown (ow94 hw) (ow95 hw) (ow96 hw) (ow97 hw) (by decide) (by rw [hml]; rfl) e12 opd_1 [(.ref xx), (.ref na12)] [(.ref a1)] rfl rfl rfl rfl (by decide) (by decide) rfl rfl (by decide) (by decide) (hb hby d15_7) rfl (fun v13 T13 h13 L13 X13 e13 z13 => ?_)
 obtain ⟨rfl, Nq13, hq13⟩ := z13; replace e13 := e13.trans hq13; have N := Fr.app N Nq13
 refine og_interface (pc' := 15) (cells' := 2) (slots' := 24) (W := 0) X13 hx hZ (rm_la_2E l Z a0 hw a1 xx bb x0 x1 kb Ov_bb h12 n0 O E_a1 F_modCount_a1 F_elementData_a1 F_size_a1 E_xx V_bb g_a1 g_bb ne_a1_bb) hown (ow110 hw) (ow111 hw) (ow112 hw) (ow113 hw) (ow114 hw) (ow115 hw) (ow116 hw) (ow117 hw) (ow67 hw) (ow118 hw) (by decide) (by rw [hml]; rfl) e13 opd_29 [(.ref xx)] [] rfl rfl rfl rfl (by decide) (by decide) rfl rfl (by decide) (by decide) E_a1 (hb hby d15_10) rfl (fun v14 T14 h14 L14 X14 e14 z14 => ?_)
 obtain ⟨rfl, Nq14, K14, E_a1', F_modCount_a1', F_elementData_a1', F_size_a1', V_bb'⟩ := z14; have N := Fr.app N Nq14
 have sf14 : ∀ x ∈ ([a1, bb] : List Addr), Safe Z own_EL T12.vm h12 x := (sfS (Safe.exa hZ.alike E_a1 (by decide) (by decide)) (sfS (Safe.arv hZ.alike V_bb (by decide)) sf0)); have K := K.trans K14 (allS (Or.inl (List.mem_of_getElem? (i := 0) rfl)) (allS (Or.inl (List.mem_of_getElem? (i := 1) rfl)) all0))
 have hk := Nat.le_trans hk K14.1; have CR := CR.trans (CHr.keep K14 sf14 CR.1)
 have V_bb := V_bb'
 have E_a1 := E_a1'; have F_modCount_a1 := F_modCount_a1'; have F_elementData_a1 := F_elementData_a1'; have F_size_a1 := F_size_a1'
 refine og_pop X14 hx rfl (hb hby d15_15) rfl ?_
 refine og_aloadN X14 hx rfl rfl (hb hby d15_16) rfl ?_
 refine og_retRW X14 hx hZ hlk hEL hS e14 es hk CR hret rfl rfl rfl (hb hby d15_17) (by decide) (by decide) ?_
 rw [e14]; exact ⟨rfl, N, K, E_a1, F_modCount_a1, F_elementData_a1, F_size_a1, V_bb⟩
theorem rm_ie (l : Launch) (Z : State) (a0 : Array Value) (hw : HW a0 Z) (a1 ba : Addr) (kb : ClassId) (vs : List Value) (h0 : Heap) (n0 : Nat) (O : Old Z n0 h0) (F_value_a1 : Fld Z h0 a1 "java/lang/String" "value" "[B" (.ref ba)) (V_ba : Arv Z h0 ba kb .byte (1 : Int32) vs (.int 0)) :
  Con l Z (⟨"java/lang/String", "isEmpty", "()Z"⟩ : MethodName) jdk_42_method_55_code 1 (some .boolean) ({ frames := 0, cells := 0, slots := 0, locals := 0 } : Room) #[(.ref a1)] h0 (fun v h L => v = some (.int 0) ∧ Fr n0 L ∧ h = h0) := by
 refine own_startC opn_55 ?_
 intro p e s m below meth c T0 X0 hx hby hml hZ hown hnm hret hlk e0
 have N := Fr.nil n0
 refine OG.cast (oef0 m a1) ?_
 refine og_aloadN X0 hx rfl rfl (hb hby d55_0) rfl ?_
 refine og_getfield X0 hx hZ (host := "") hown (Or.inl (ow29 hw)) Via.refl e0 F_value_a1 (hb hby d55_1) rfl (fun T11 X11 e11 => ?_)
 refine og_arraylength X11 hx hZ e11 V_ba (hb hby d55_4) rfl ?_
 refine og_if_ne (pc1 := 12) (pc2 := 8) X11 hx (hb hby d55_5) (by decide) (by decide) rfl (fun _ => ?_) (fun q => absurd q (by decide))
 refine og_iconst (v := 0) X11 hx rfl (hb hby d55_12) rfl ?_
 refine og_retN X11 hx hlk hret (by simp) (hb hby d55_13) (by decide) (by decide) ?_
 rw [e11]; exact ⟨rfl, N, rfl⟩
theorem rm_at_0 (l : Launch) (Z : State) (a0 : Array Value) (hw : HW a0 Z) (t1 a1 xx : Addr) (de : Addr) (kde : ClassId) (b2 : Addr) (k2 : ClassId) (gg : Int32) (h0 : Heap) (n0 : Nat) (O : Old Z n0 h0) (F__children_t1 : Fld Z h0 t1 "com/example/marsh_tit/marshtit/stanza/Element" "_children" "Ljava/util/List;" (.ref a1)) (E_a1 : Exa Z h0 a1 "java/util/ArrayList") (F_modCount_a1 : Fld Z h0 a1 "java/util/AbstractList" "modCount" "I" (.int 0)) (F_elementData_a1 : Fld Z h0 a1 "java/util/ArrayList" "elementData" "[Ljava/lang/Object;" (.ref de)) (F_size_a1 : Fld Z h0 a1 "java/util/ArrayList" "size" "I" (.int 0)) (S_DE : Sta Z Z.heap "java/util/ArrayList" "DEFAULTCAPACITY_EMPTY_ELEMENTDATA" "[Ljava/lang/Object;" (.ref de)) (V_de : Arv Z Z.heap de kde (.object "java/lang/Object") (0 : Int32) [] .null) (E_xx : Exa Z h0 xx "java/lang/String") (F_value_xx : Fld Z h0 xx "java/lang/String" "value" "[B" (.ref b2)) (F_coder_xx : Fld Z h0 xx "java/lang/String" "coder" "B" (.int 0)) (V_b2 : Arv Z h0 b2 k2 .byte (1 : Int32) [(.int gg)] (.int 0)) (g_a1 : n0 ≤ a1) (ne_xx_a1 : xx ≠ a1) (ne_b2_a1 : b2 ≠ a1) (ne_t1_a1 : t1 ≠ a1) :
  Con l Z (⟨"com/example/marsh_tit/marshtit/stanza/Element", "addText", "(Ljava/lang/String;)Lcom/example/marsh_tit/marshtit/stanza/Element;"⟩ : MethodName) prog_19_method_10_code 3 (some (.object "com/example/marsh_tit/marshtit/stanza/Element")) ({ frames := 5, cells := 1, slots := 10, locals := 69 } : Room) #[(.ref t1), (.ref xx)] h0 (fun v h L => ∃ b k, v = some (.ref t1) ∧ Fr n0 L ∧ Keep h0 h [a1] ∧ h0.size ≤ b ∧ Exa Z h a1 "java/util/ArrayList" ∧ Fld Z h a1 "java/util/AbstractList" "modCount" "I" (.int 1) ∧ Fld Z h a1 "java/util/ArrayList" "elementData" "[Ljava/lang/Object;" (.ref b) ∧ Fld Z h a1 "java/util/ArrayList" "size" "I" (.int 1) ∧ Arv Z h b k (.object "java/lang/Object") (10 : Int32) [(.ref xx), .null, .null, .null, .null, .null, .null, .null, .null, .null] .null ∧ Ovr Z k "java/lang/Object") := by
 refine own_startC opn_54 ?_
 intro p e s m below meth c T0 X0 hx hby hml hZ hown hnm hret hlk e0
 have N := Fr.nil n0; have K := Keep.refl h0 [a1]
 refine OG.cast (oef14 m t1 xx) ?_
 refine og_aloadN X0 hx rfl rfl (hb hby d54_0) rfl ?_
 refine og_getfield X0 hx hZ (host := "") hown (Or.inl (ow89 hw)) Via.refl e0 F__children_t1 (hb hby d54_1) rfl (fun T11 X11 e11 => ?_)
 refine og_interface (pc' := 9) (cells' := 0) (slots' := 0) (W := 0) X11 hx hZ (rm_sz l Z a0 hw a1 (0 : Int32) h0 n0 O F_size_a1) hown (ow376 hw) (ow244 hw) (ow245 hw) (ow377 hw) (ow256 hw) (ow257 hw) (ow258 hw) (ow117 hw) (ow67 hw) (ow260 hw) (by decide) (by rw [hml]; rfl) e11 opd_14 [] [] rfl rfl rfl rfl (by decide) (by decide) rfl rfl (by decide) (by decide) E_a1 (hb hby d54_4) rfl (fun v12 T12 h12 L12 X12 e12 z12 => ?_)
 obtain ⟨rfl, Nq12, hq12⟩ := z12; replace e12 := e12.trans hq12; have N := Fr.app N Nq12
 refine og_iconst (v := 1) X12 hx rfl (hb hby d54_9) rfl ?_
 refine og_isub X12 hx (hb hby d54_10) rfl ?_
 show OG p e below _ (T12.setTop (mkF m 11 #[.val (.ref t1), .val (.ref xx), .unset] [(.int (-1))]))
 refine og_istoreN (L' := #[.val (.ref t1), .val (.ref xx), .val (.int (-1))]) X12 hx rfl (hb hby d54_11) rfl ?_
 refine og_iloadN X12 hx rfl (hb hby d54_12) rfl ?_
 refine og_if_lt (pc1 := 65) (pc2 := 16) X12 hx (hb hby d54_13) (by decide) (by decide) rfl (fun _ => ?_) (fun q => absurd q (by decide))
 refine og_aloadN X12 hx rfl rfl (hb hby d54_65) rfl ?_
 refine og_virtual (pc' := 69) (cells' := 0) (slots' := 0) (W := 0) X12 hx hZ (rm_ie l Z a0 hw xx b2 k2 _ h0 n0 O F_value_xx V_b2) hown (ow379 hw) (ow380 hw) (own_nf hZ (ow382 hw)) (ow382 hw) (ow381 hw) (ow9 hw) (ow383 hw) (by decide) (by rw [hml]; rfl) e12 opd_24 [] [] rfl rfl rfl rfl (by decide) (by decide) rfl rfl (by decide) (by decide) E_xx (hb hby d54_66) rfl (fun v13 T13 h13 L13 X13 e13 z13 => ?_)
 obtain ⟨rfl, Nq13, hq13⟩ := z13; replace e13 := e13.trans hq13; have N := Fr.app N Nq13
 refine og_if_ne (pc1 := 83) (pc2 := 72) X13 hx (hb hby d54_69) (by decide) (by decide) rfl (fun q => absurd q (by decide)) (fun _ => ?_)
 refine og_aloadN X13 hx rfl rfl (hb hby d54_72) rfl ?_
 refine og_getfield X13 hx hZ (host := "") hown (Or.inl (ow89 hw)) Via.refl e13 F__children_t1 (hb hby d54_73) rfl (fun T14 X14 e14 => ?_)
 refine og_aloadN X14 hx rfl rfl (hb hby d54_76) rfl ?_
 refine og_interface (pc' := 82) (cells' := 1) (slots' := 10) (W := 0) X14 hx hZ (rm_la_0S l Z a0 hw a1 xx de kde h0 n0 O E_a1 F_modCount_a1 F_elementData_a1 F_size_a1 E_xx S_DE V_de g_a1) hown (ow110 hw) (ow111 hw) (ow112 hw) (ow113 hw) (ow114 hw) (ow115 hw) (ow116 hw) (ow117 hw) (ow67 hw) (ow118 hw) (by decide) (by rw [hml]; rfl) e14 opd_29 [(.ref xx)] [] rfl rfl rfl rfl (by decide) (by decide) rfl rfl (by decide) (by decide) E_a1 (hb hby d54_77) rfl (fun v15 T15 h15 L15 X15 e15 z15 => ?_)
 obtain ⟨nb15, k15, rfl, Nq15, K15, sb15, E_a1', F_modCount_a1', F_elementData_a1', F_size_a1', V_nb15, Ov_nb15⟩ := z15; have N := Fr.app N Nq15
 have s_nb15 : h0.size ≤ nb15 := sb15; have sz_nb15 : h0.size ≤ nb15 := Nat.le_trans K.1 s_nb15
 have K := K.trans K15 (allS (Or.inl (List.mem_of_getElem? (i := 0) rfl)) all0)
 have E_a1 := E_a1'; have F_modCount_a1 := F_modCount_a1'; have F_elementData_a1 := F_elementData_a1'; have F_size_a1 := F_size_a1'
 refine og_pop X15 hx rfl (hb hby d54_82) rfl ?_
 refine og_aloadN X15 hx rfl rfl (hb hby d54_83) rfl ?_
 refine og_retR X15 hx hlk hret rfl rfl rfl (hb hby d54_84) (by decide) (by decide) ?_
 rw [e15]; exact ⟨_, _, rfl, N, K, sz_nb15, E_a1, F_modCount_a1, F_elementData_a1, F_size_a1, V_nb15, Ov_nb15⟩
theorem rm_at_1 (l : Launch) (Z : State) (a0 : Array Value) (hw : HW a0 Z) (t1 a1 xx bb x0 : Addr) (kb : ClassId) (Ov_bb : Ovr Z kb "java/lang/Object") (b2 : Addr) (k2 : ClassId) (gg : Int32) (h0 : Heap) (n0 : Nat) (O : Old Z n0 h0) (F__children_t1 : Fld Z h0 t1 "com/example/marsh_tit/marshtit/stanza/Element" "_children" "Ljava/util/List;" (.ref a1)) (E_a1 : Exa Z h0 a1 "java/util/ArrayList") (F_modCount_a1 : Fld Z h0 a1 "java/util/AbstractList" "modCount" "I" (.int 1)) (F_elementData_a1 : Fld Z h0 a1 "java/util/ArrayList" "elementData" "[Ljava/lang/Object;" (.ref bb)) (F_size_a1 : Fld Z h0 a1 "java/util/ArrayList" "size" "I" (.int 1)) (V_bb : Arv Z h0 bb kb (.object "java/lang/Object") (10 : Int32) [(.ref x0), .null, .null, .null, .null, .null, .null, .null, .null, .null] .null) (E_xx : Exa Z h0 xx "java/lang/String") (F_value_xx : Fld Z h0 xx "java/lang/String" "value" "[B" (.ref b2)) (F_coder_xx : Fld Z h0 xx "java/lang/String" "coder" "B" (.int 0)) (V_b2 : Arv Z h0 b2 k2 .byte (1 : Int32) [(.int gg)] (.int 0)) (E_x0 : Exa Z h0 x0 "com/example/marsh_tit/marshtit/stanza/Element") (g_a1 : n0 ≤ a1) (g_bb : n0 ≤ bb) (ne_a1_bb : a1 ≠ bb) (ne_b2_bb : b2 ≠ bb) (ne_xx_bb : xx ≠ bb) (ne_t1_bb : t1 ≠ bb) (ne_xx_a1 : xx ≠ a1) (ne_b2_a1 : b2 ≠ a1) (ne_t1_a1 : t1 ≠ a1) :
  Con l Z (⟨"com/example/marsh_tit/marshtit/stanza/Element", "addText", "(Ljava/lang/String;)Lcom/example/marsh_tit/marshtit/stanza/Element;"⟩ : MethodName) prog_19_method_10_code 3 (some (.object "com/example/marsh_tit/marshtit/stanza/Element")) ({ frames := 3, cells := 0, slots := 0, locals := 40 } : Room) #[(.ref t1), (.ref xx)] h0 (fun v h L => v = some (.ref t1) ∧ Fr n0 L ∧ Keep h0 h [a1, bb] ∧ Exa Z h a1 "java/util/ArrayList" ∧ Fld Z h a1 "java/util/AbstractList" "modCount" "I" (.int 2) ∧ Fld Z h a1 "java/util/ArrayList" "elementData" "[Ljava/lang/Object;" (.ref bb) ∧ Fld Z h a1 "java/util/ArrayList" "size" "I" (.int 2) ∧ Arv Z h bb kb (.object "java/lang/Object") (10 : Int32) [(.ref x0), (.ref xx), .null, .null, .null, .null, .null, .null, .null, .null] .null) := by
 refine own_startC opn_54 ?_
 intro p e s m below meth c T0 X0 hx hby hml hZ hown hnm hret hlk e0
 have N := Fr.nil n0; have K := Keep.refl h0 [a1, bb]
 refine OG.cast (oef14 m t1 xx) ?_
 refine og_aloadN X0 hx rfl rfl (hb hby d54_0) rfl ?_
 refine og_getfield X0 hx hZ (host := "") hown (Or.inl (ow89 hw)) Via.refl e0 F__children_t1 (hb hby d54_1) rfl (fun T11 X11 e11 => ?_)
 refine og_interface (pc' := 9) (cells' := 0) (slots' := 0) (W := 0) X11 hx hZ (rm_sz l Z a0 hw a1 (1 : Int32) h0 n0 O F_size_a1) hown (ow376 hw) (ow244 hw) (ow245 hw) (ow377 hw) (ow256 hw) (ow257 hw) (ow258 hw) (ow117 hw) (ow67 hw) (ow260 hw) (by decide) (by rw [hml]; rfl) e11 opd_14 [] [] rfl rfl rfl rfl (by decide) (by decide) rfl rfl (by decide) (by decide) E_a1 (hb hby d54_4) rfl (fun v12 T12 h12 L12 X12 e12 z12 => ?_)
 obtain ⟨rfl, Nq12, hq12⟩ := z12; replace e12 := e12.trans hq12; have N := Fr.app N Nq12
 refine og_iconst (v := 1) X12 hx rfl (hb hby d54_9) rfl ?_
 refine og_isub X12 hx (hb hby d54_10) rfl ?_
 show OG p e below _ (T12.setTop (mkF m 11 #[.val (.ref t1), .val (.ref xx), .unset] [(.int 0)]))
 refine og_istoreN (L' := #[.val (.ref t1), .val (.ref xx), .val (.int 0)]) X12 hx rfl (hb hby d54_11) rfl ?_
 refine og_iloadN X12 hx rfl (hb hby d54_12) rfl ?_
 refine og_if_lt (pc1 := 65) (pc2 := 16) X12 hx (hb hby d54_13) (by decide) (by decide) rfl (fun q => absurd q (by decide)) (fun _ => ?_)
 refine og_aloadN X12 hx rfl rfl (hb hby d54_16) rfl ?_
 refine og_getfield X12 hx hZ (host := "") hown (Or.inl (ow89 hw)) Via.refl e12 F__children_t1 (hb hby d54_17) rfl (fun T13 X13 e13 => ?_)
 refine og_iloadN X13 hx rfl (hb hby d54_20) rfl ?_
 refine og_interface (pc' := 26) (cells' := 0) (slots' := 0) (W := 0) X13 hx hZ (rm_get_0_1 l Z a0 hw a1 bb x0 kb h0 n0 O E_a1 F_elementData_a1 F_size_a1 V_bb) hown (ow378 hw) (ow262 hw) (ow263 hw) (ow270 hw) (ow271 hw) (ow272 hw) (ow273 hw) (ow117 hw) (ow67 hw) (ow274 hw) (by decide) (by rw [hml]; rfl) e13 opd_10 [(.int 0)] [] rfl rfl rfl rfl (by decide) (by decide) rfl rfl (by decide) (by decide) E_a1 (hb hby d54_21) rfl (fun v14 T14 h14 L14 X14 e14 z14 => ?_)
 obtain ⟨rfl, Nq14, hq14⟩ := z14; replace e14 := e14.trans hq14; have N := Fr.app N Nq14
 obtain ⟨T15, X15, e15, st15⟩ := instNo X14 hx hZ hown (ow98 hw) e14 E_x0 (NS.no (ow311 hw) (ow385 hw) (NS.step (ow311 hw) (NS.root (ow312 hw) (ow385 hw) (by decide)) (by decide)) (by decide)) (g := (mkF m 26 #[.val (.ref t1), .val (.ref xx), .val (.int 0)] [(.ref x0)])) rfl rfl (hb hby d54_26)
 refine OG.of st15 ?_
 show OG p e below _ (T15.setTop (mkF m 29 #[.val (.ref t1), .val (.ref xx), .val (.int 0)] [(.int 0)]))
 refine og_if_eq (pc1 := 65) (pc2 := 32) X15 hx (hb hby d54_29) (by decide) (by decide) rfl (fun _ => ?_) (fun q => absurd q (by decide))
 refine og_aloadN X15 hx rfl rfl (hb hby d54_65) rfl ?_
 refine og_virtual (pc' := 69) (cells' := 0) (slots' := 0) (W := 0) X15 hx hZ (rm_ie l Z a0 hw xx b2 k2 _ h0 n0 O F_value_xx V_b2) hown (ow379 hw) (ow380 hw) (own_nf hZ (ow382 hw)) (ow382 hw) (ow381 hw) (ow9 hw) (ow383 hw) (by decide) (by rw [hml]; rfl) e15 opd_24 [] [] rfl rfl rfl rfl (by decide) (by decide) rfl rfl (by decide) (by decide) E_xx (hb hby d54_66) rfl (fun v16 T16 h16 L16 X16 e16 z16 => ?_)
 obtain ⟨rfl, Nq16, hq16⟩ := z16; replace e16 := e16.trans hq16; have N := Fr.app N Nq16
 refine og_if_ne (pc1 := 83) (pc2 := 72) X16 hx (hb hby d54_69) (by decide) (by decide) rfl (fun q => absurd q (by decide)) (fun _ => ?_)
 refine og_aloadN X16 hx rfl rfl (hb hby d54_72) rfl ?_
 refine og_getfield X16 hx hZ (host := "") hown (Or.inl (ow89 hw)) Via.refl e16 F__children_t1 (hb hby d54_73) rfl (fun T17 X17 e17 => ?_)
 refine og_aloadN X17 hx rfl rfl (hb hby d54_76) rfl ?_
 refine og_interface (pc' := 82) (cells' := 0) (slots' := 0) (W := 0) X17 hx hZ (rm_la_1S l Z a0 hw a1 xx bb x0 kb Ov_bb h0 n0 O E_a1 F_modCount_a1 F_elementData_a1 F_size_a1 E_xx V_bb g_a1 g_bb ne_a1_bb) hown (ow110 hw) (ow111 hw) (ow112 hw) (ow113 hw) (ow114 hw) (ow115 hw) (ow116 hw) (ow117 hw) (ow67 hw) (ow118 hw) (by decide) (by rw [hml]; rfl) e17 opd_29 [(.ref xx)] [] rfl rfl rfl rfl (by decide) (by decide) rfl rfl (by decide) (by decide) E_a1 (hb hby d54_77) rfl (fun v18 T18 h18 L18 X18 e18 z18 => ?_)
 obtain ⟨rfl, Nq18, K18, E_a1', F_modCount_a1', F_elementData_a1', F_size_a1', V_bb'⟩ := z18; have N := Fr.app N Nq18
 have K := K.trans K18 (allS (Or.inl (List.mem_of_getElem? (i := 0) rfl)) (allS (Or.inl (List.mem_of_getElem? (i := 1) rfl)) all0))
 have V_bb := V_bb'
 have E_a1 := E_a1'; have F_modCount_a1 := F_modCount_a1'; have F_elementData_a1 := F_elementData_a1'; have F_size_a1 := F_size_a1'
 refine og_pop X18 hx rfl (hb hby d54_82) rfl ?_
 refine og_aloadN X18 hx rfl rfl (hb hby d54_83) rfl ?_
 refine og_retR X18 hx hlk hret rfl rfl rfl (hb hby d54_84) (by decide) (by decide) ?_
 rw [e18]; exact ⟨rfl, N, K, E_a1, F_modCount_a1, F_elementData_a1, F_size_a1, V_bb⟩
theorem rm_le0_0 (l : Launch) (Z : State) (a0 : Array Value) (hw : HW a0 Z) (b1 b2 : Addr) (k1 k2 : ClassId) (r : Int32) (hr : r = if True then 1 else 0) (h0 : Heap) (n0 : Nat) (O : Old Z n0 h0) (V_b1 : Arv Z h0 b1 k1 .byte (0 : Int32) [] (.int 0)) (V_b2 : Arv Z h0 b2 k2 .byte (0 : Int32) [] (.int 0)) :
  Con l Z (⟨"java/lang/StringLatin1", "equals", "([B[B)Z"⟩ : MethodName) jdk_43_method_13_code 3 (some .boolean) ({ frames := 0, cells := 0, slots := 0, locals := 0 } : Room) #[(.ref b1), (.ref b2)] h0 (fun v h L => v = some (.int r) ∧ Fr n0 L ∧ h = h0) := by
 refine own_startC opn_53 ?_
 intro p e s m below meth c T0 X0 hx hby hml hZ hown hnm hret hlk e0
 have N := Fr.nil n0
 refine OG.cast (oef14 m b1 b2) ?_
 refine og_aloadN X0 hx rfl rfl (hb hby d53_0) rfl ?_
 refine og_arraylength X0 hx hZ e0 V_b1 (hb hby d53_1) rfl ?_
 refine og_aloadN X0 hx rfl rfl (hb hby d53_2) rfl ?_
 refine og_arraylength X0 hx hZ e0 V_b2 (hb hby d53_3) rfl ?_
 refine og_icmp_ne (pc1 := 34) (pc2 := 7) X0 hx (hb hby d53_4) (by decide) (by decide) rfl (fun q => absurd q (by decide)) (fun _ => ?_)
 refine og_iconst (v := 0) X0 hx rfl (hb hby d53_7) rfl ?_
 refine og_istoreN (L' := #[.val (.ref b1), .val (.ref b2), .val (.int 0)]) X0 hx rfl (hb hby d53_8) rfl ?_
 refine og_iloadN X0 hx rfl (hb hby d53_9) rfl ?_
 refine og_aloadN X0 hx rfl rfl (hb hby d53_10) rfl ?_
 refine og_arraylength X0 hx hZ e0 V_b1 (hb hby d53_11) rfl ?_
 refine og_icmp_ge (pc1 := 32) (pc2 := 15) X0 hx (hb hby d53_12) (by decide) (by decide) rfl (fun _ => ?_) (fun q => absurd q (by decide))
 refine og_iconst (v := 1) X0 hx rfl (hb hby d53_32) rfl ?_
 refine og_retN X0 hx hlk hret (by simp) (hb hby d53_33) (by decide) (by decide) ?_
 rw [e0]; refine ⟨?_, N, rfl⟩
 show some (Value.int 1) = _
 rw [hr]; simp
theorem rm_eq0_0 (l : Launch) (Z : State) (a0 : Array Value) (hw : HW a0 Z) (a1 a2 b1 b2 : Addr) (k1 k2 : ClassId) (r : Int32) (hr : r = if True then 1 else 0) (cs : Int32) (hcs : ¬ cs = 0) (h0 : Heap) (n0 : Nat) (O : Old Z n0 h0) (E_a1 : Exa Z h0 a1 "java/lang/String") (F_value_a1 : Fld Z h0 a1 "java/lang/String" "value" "[B" (.ref b1)) (F_coder_a1 : Fld Z h0 a1 "java/lang/String" "coder" "B" (.int 0)) (V_b1 : Arv Z h0 b1 k1 .byte (0 : Int32) [] (.int 0)) (E_a2 : Exa Z h0 a2 "java/lang/String") (F_value_a2 : Fld Z h0 a2 "java/lang/String" "value" "[B" (.ref b2)) (F_coder_a2 : Fld Z h0 a2 "java/lang/String" "coder" "B" (.int 0)) (V_b2 : Arv Z h0 b2 k2 .byte (0 : Int32) [] (.int 0)) (S_CS : Sta Z Z.heap "java/lang/String" "COMPACT_STRINGS" "Z" (.int cs)) (ne_a1_a2 : a1 ≠ a2) :
  Con l Z (⟨"java/lang/String", "equals", "(Ljava/lang/Object;)Z"⟩ : MethodName) jdk_42_method_66_code 3 (some .boolean) ({ frames := 1, cells := 0, slots := 0, locals := 14 } : Room) #[(.ref a1), (.ref a2)] h0 (fun v h L => v = some (.int r) ∧ Fr n0 L ∧ h = h0) := by
 refine own_startC opn_52 ?_
 intro p e s m below meth c T0 X0 hx hby hml hZ hown hnm hret hlk e0
 have N := Fr.nil n0
 refine OG.cast (oef14 m a1 a2) ?_
 refine og_aloadN X0 hx rfl rfl (hb hby d52_0) rfl ?_
 refine og_aloadN X0 hx rfl rfl (hb hby d52_1) rfl ?_
 refine og_acmp_ne (pc1 := 7) (pc2 := 5) X0 hx rfl rfl (hb hby d52_2) (by decide) (by decide) rfl (fun _ => ?_) (fun q => absurd q (fun q => ne_a1_a2 (Value.ref.inj q)))
 refine og_aloadN X0 hx rfl rfl (hb hby d52_7) rfl ?_
 obtain ⟨T11, X11, e11, st11⟩ := instY X0 hx hZ hown (ow16 hw) e0 (Ins.self E_a2) (g := (mkF m 8 #[.val (.ref a1), .val (.ref a2), .unset] [(.ref a2)])) rfl rfl (hb hby d52_8)
 refine OG.of st11 ?_
 show OG p e below _ (T11.setTop (mkF m 11 #[.val (.ref a1), .val (.ref a2), .unset] [(.int 1)]))
 refine og_if_eq (pc1 := 54) (pc2 := 14) X11 hx (hb hby d52_11) (by decide) (by decide) rfl (fun q => absurd q (by decide)) (fun _ => ?_)
 refine og_aloadN X11 hx rfl rfl (hb hby d52_14) rfl ?_
 obtain ⟨T12, X12, e12, st12⟩ := castY X11 hx hZ hown (ow16 hw) e11 (Ins.self E_a2) (g := (mkF m 15 #[.val (.ref a1), .val (.ref a2), .unset] [(.ref a2)])) rfl rfl (hb hby d52_15)
 refine OG.of st12 ?_
 show OG p e below _ (T12.setTop (mkF m 18 #[.val (.ref a1), .val (.ref a2), .unset] [(.ref a2)]))
 refine og_astoreN (L' := #[.val (.ref a1), .val (.ref a2), .val (.ref a2)]) X12 hx rfl rfl (hb hby d52_18) rfl ?_
 refine og_getstatic X12 hx hZ (host := "") hown (Or.inl (ow11 hw)) Via.refl e12 (S_CS.ext O.2) (hb hby d52_19) rfl (fun T13 X13 e13 => ?_)
 refine og_if_eq (pc1 := 36) (pc2 := 25) X13 hx (hb hby d52_22) (by decide) (by decide) rfl (fun q => absurd q hcs) (fun _ => ?_)
 refine og_aloadN X13 hx rfl rfl (hb hby d52_25) rfl ?_
 refine og_getfield X13 hx hZ (host := "") hown (Or.inl (ow31 hw)) Via.refl e13 F_coder_a1 (hb hby d52_26) rfl (fun T14 X14 e14 => ?_)
 refine og_aloadN X14 hx rfl rfl (hb hby d52_29) rfl ?_
 refine og_getfield X14 hx hZ (host := "") hown (Or.inl (ow31 hw)) Via.refl e14 F_coder_a2 (hb hby d52_30) rfl (fun T15 X15 e15 => ?_)
 refine og_icmp_ne (pc1 := 54) (pc2 := 36) X15 hx (hb hby d52_33) (by decide) (by decide) rfl (fun q => absurd q (by decide)) (fun _ => ?_)
 refine og_aloadN X15 hx rfl rfl (hb hby d52_36) rfl ?_
 refine og_getfield X15 hx hZ (host := "") hown (Or.inl (ow29 hw)) Via.refl e15 F_value_a1 (hb hby d52_37) rfl (fun T16 X16 e16 => ?_)
 refine og_aloadN X16 hx rfl rfl (hb hby d52_40) rfl ?_
 refine og_getfield X16 hx hZ (host := "") hown (Or.inl (ow29 hw)) Via.refl e16 F_value_a2 (hb hby d52_41) rfl (fun T17 X17 e17 => ?_)
 by_cases hQ : True
 ·
  refine og_static (pc' := 47) (cells' := 0) (slots' := 0) (W := 0) X17 hx hZ (rm_le0_0 l Z a0 hw b1 b2 k1 k2  1 (if_pos hQ).symm h0 n0 O V_b1 V_b2) hown (ow368 hw) (ow369 hw) (ow14 hw) (ow370 hw) (by decide) (by rw [hml]; rfl) e17 opd_33 [(.ref b1), (.ref b2)] [] rfl rfl rfl rfl (by decide) (by decide) rfl rfl (by decide) (by decide) (hb hby d52_44) rfl (fun v18 T18 h18 L18 X18 e18 z18 => ?_)
  obtain ⟨rfl, Nq18, hq18⟩ := z18; replace e18 := e18.trans hq18; have N := Fr.app N Nq18
  refine og_if_eq (pc1 := 54) (pc2 := 50) X18 hx (hb hby d52_47) (by decide) (by decide) rfl (fun q => absurd q (by decide)) (fun _ => ?_)
  refine og_iconst (v := 1) X18 hx rfl (hb hby d52_50) rfl ?_
  refine og_goto (pc' := 55) X18 hx (hb hby d52_51) (by decide) (by decide) ?_
  refine og_retN X18 hx hlk hret (by simp) (hb hby d52_55) (by decide) (by decide) ?_
  rw [e18]; refine ⟨?_, N, rfl⟩
  show some (Value.int 1) = _
  rw [hr, if_pos hQ]
 ·
  refine og_static (pc' := 47) (cells' := 0) (slots' := 0) (W := 0) X17 hx hZ (rm_le0_0 l Z a0 hw b1 b2 k1 k2  0 (if_neg hQ).symm h0 n0 O V_b1 V_b2) hown (ow368 hw) (ow369 hw) (ow14 hw) (ow370 hw) (by decide) (by rw [hml]; rfl) e17 opd_33 [(.ref b1), (.ref b2)] [] rfl rfl rfl rfl (by decide) (by decide) rfl rfl (by decide) (by decide) (hb hby d52_44) rfl (fun v19 T19 h19 L19 X19 e19 z19 => ?_)
  obtain ⟨rfl, Nq19, hq19⟩ := z19; replace e19 := e19.trans hq19; have N := Fr.app N Nq19
  refine og_if_eq (pc1 := 54) (pc2 := 50) X19 hx (hb hby d52_47) (by decide) (by decide) rfl (fun _ => ?_) (fun q => absurd q (by decide))
  refine og_iconst (v := 0) X19 hx rfl (hb hby d52_54) rfl ?_
  refine og_retN X19 hx hlk hret (by simp) (hb hby d52_55) (by decide) (by decide) ?_
  rw [e19]; refine ⟨?_, N, rfl⟩
  show some (Value.int 0) = _
  rw [hr, if_neg hQ]
theorem rm_le1_1 (l : Launch) (Z : State) (a0 : Array Value) (hw : HW a0 Z) (b1 b2 : Addr) (k1 k2 : ClassId) (u0 w0 : Int32) (r : Int32) (hr : r = if u0 = w0 then 1 else 0) (h0 : Heap) (n0 : Nat) (O : Old Z n0 h0) (V_b1 : Arv Z h0 b1 k1 .byte (1 : Int32) [(.int u0)] (.int 0)) (V_b2 : Arv Z h0 b2 k2 .byte (1 : Int32) [(.int w0)] (.int 0)) :
  Con l Z (⟨"java/lang/StringLatin1", "equals", "([B[B)Z"⟩ : MethodName) jdk_43_method_13_code 3 (some .boolean) ({ frames := 0, cells := 0, slots := 0, locals := 0 } : Room) #[(.ref b1), (.ref b2)] h0 (fun v h L => v = some (.int r) ∧ Fr n0 L ∧ h = h0) := by
 refine own_startC opn_53 ?_
 intro p e s m below meth c T0 X0 hx hby hml hZ hown hnm hret hlk e0
 have N := Fr.nil n0
 refine OG.cast (oef14 m b1 b2) ?_
 refine og_aloadN X0 hx rfl rfl (hb hby d53_0) rfl ?_
 refine og_arraylength X0 hx hZ e0 V_b1 (hb hby d53_1) rfl ?_
 refine og_aloadN X0 hx rfl rfl (hb hby d53_2) rfl ?_
 refine og_arraylength X0 hx hZ e0 V_b2 (hb hby d53_3) rfl ?_
 refine og_icmp_ne (pc1 := 34) (pc2 := 7) X0 hx (hb hby d53_4) (by decide) (by decide) rfl (fun q => absurd q (by decide)) (fun _ => ?_)
 refine og_iconst (v := 0) X0 hx rfl (hb hby d53_7) rfl ?_
 refine og_istoreN (L' := #[.val (.ref b1), .val (.ref b2), .val (.int 0)]) X0 hx rfl (hb hby d53_8) rfl ?_
 refine og_iloadN X0 hx rfl (hb hby d53_9) rfl ?_
 refine og_aloadN X0 hx rfl rfl (hb hby d53_10) rfl ?_
 refine og_arraylength X0 hx hZ e0 V_b1 (hb hby d53_11) rfl ?_
 refine og_icmp_ge (pc1 := 32) (pc2 := 15) X0 hx (hb hby d53_12) (by decide) (by decide) rfl (fun q => absurd q (by decide)) (fun _ => ?_)
 refine og_aloadN X0 hx rfl rfl (hb hby d53_15) rfl ?_
 refine og_iloadN X0 hx rfl (hb hby d53_16) rfl ?_
 refine og_baload (v := (.int u0)) X0 hx hZ e0 V_b1 ⟨by decide, by decide⟩ rfl (hb hby d53_17) rfl ?_
 refine og_aloadN X0 hx rfl rfl (hb hby d53_18) rfl ?_
 refine og_iloadN X0 hx rfl (hb hby d53_19) rfl ?_
 refine og_baload (v := (.int w0)) X0 hx hZ e0 V_b2 ⟨by decide, by decide⟩ rfl (hb hby d53_20) rfl ?_
 refine og_icmp_eq (pc1 := 26) (pc2 := 24) X0 hx (hb hby d53_21) (by decide) (by decide) rfl (fun hc21 => ?_) (fun hc21 => ?_)
 ·
  have hs0 := hc21
  refine og_iinc (L' := #[.val (.ref b1), .val (.ref b2), .val (.int 1)]) (w := 1) X0 hx rfl rfl rfl (hb hby d53_26) rfl ?_
  refine og_goto (pc' := 9) X0 hx (hb hby d53_29) (by decide) (by decide) ?_
  refine og_iloadN X0 hx rfl (hb hby d53_9) rfl ?_
  refine og_aloadN X0 hx rfl rfl (hb hby d53_10) rfl ?_
  refine og_arraylength X0 hx hZ e0 V_b1 (hb hby d53_11) rfl ?_
  refine og_icmp_ge (pc1 := 32) (pc2 := 15) X0 hx (hb hby d53_12) (by decide) (by decide) rfl (fun _ => ?_) (fun q => absurd q (by decide))
  refine og_iconst (v := 1) X0 hx rfl (hb hby d53_32) rfl ?_
  refine og_retN X0 hx hlk hret (by simp) (hb hby d53_33) (by decide) (by decide) ?_
  rw [e0]; refine ⟨?_, N, rfl⟩
  show some (Value.int 1) = _
  rw [hr]; simp [hs0]
 ·
  have hs0 := hc21
  refine og_iconst (v := 0) X0 hx rfl (hb hby d53_24) rfl ?_
  refine og_retN X0 hx hlk hret (by simp) (hb hby d53_25) (by decide) (by decide) ?_
  rw [e0]; refine ⟨?_, N, rfl⟩
  show some (Value.int 0) = _
  rw [hr]; simp [hs0]
theorem rm_eq1_1 (l : Launch) (Z : State) (a0 : Array Value) (hw : HW a0 Z) (a1 a2 b1 b2 : Addr) (k1 k2 : ClassId) (u0 w0 : Int32) (r : Int32) (hr : r = if u0 = w0 then 1 else 0) (cs : Int32) (hcs : ¬ cs = 0) (h0 : Heap) (n0 : Nat) (O : Old Z n0 h0) (E_a1 : Exa Z h0 a1 "java/lang/String") (F_value_a1 : Fld Z h0 a1 "java/lang/String" "value" "[B" (.ref b1)) (F_coder_a1 : Fld Z h0 a1 "java/lang/String" "coder" "B" (.int 0)) (V_b1 : Arv Z h0 b1 k1 .byte (1 : Int32) [(.int u0)] (.int 0)) (E_a2 : Exa Z h0 a2 "java/lang/String") (F_value_a2 : Fld Z h0 a2 "java/lang/String" "value" "[B" (.ref b2)) (F_coder_a2 : Fld Z h0 a2 "java/lang/String" "coder" "B" (.int 0)) (V_b2 : Arv Z h0 b2 k2 .byte (1 : Int32) [(.int w0)] (.int 0)) (S_CS : Sta Z Z.heap "java/lang/String" "COMPACT_STRINGS" "Z" (.int cs)) (ne_a1_a2 : a1 ≠ a2) :
  Con l Z (⟨"java/lang/String", "equals", "(Ljava/lang/Object;)Z"⟩ : MethodName) jdk_42_method_66_code 3 (some .boolean) ({ frames := 1, cells := 0, slots := 0, locals := 14 } : Room) #[(.ref a1), (.ref a2)] h0 (fun v h L => v = some (.int r) ∧ Fr n0 L ∧ h = h0) := by
 refine own_startC opn_52 ?_
 intro p e s m below meth c T0 X0 hx hby hml hZ hown hnm hret hlk e0
 have N := Fr.nil n0
 refine OG.cast (oef14 m a1 a2) ?_
 refine og_aloadN X0 hx rfl rfl (hb hby d52_0) rfl ?_
 refine og_aloadN X0 hx rfl rfl (hb hby d52_1) rfl ?_
 refine og_acmp_ne (pc1 := 7) (pc2 := 5) X0 hx rfl rfl (hb hby d52_2) (by decide) (by decide) rfl (fun _ => ?_) (fun q => absurd q (fun q => ne_a1_a2 (Value.ref.inj q)))
 refine og_aloadN X0 hx rfl rfl (hb hby d52_7) rfl ?_
 obtain ⟨T11, X11, e11, st11⟩ := instY X0 hx hZ hown (ow16 hw) e0 (Ins.self E_a2) (g := (mkF m 8 #[.val (.ref a1), .val (.ref a2), .unset] [(.ref a2)])) rfl rfl (hb hby d52_8)
 refine OG.of st11 ?_
 show OG p e below _ (T11.setTop (mkF m 11 #[.val (.ref a1), .val (.ref a2), .unset] [(.int 1)]))
 refine og_if_eq (pc1 := 54) (pc2 := 14) X11 hx (hb hby d52_11) (by decide) (by decide) rfl (fun q => absurd q (by decide)) (fun _ => ?_)
 refine og_aloadN X11 hx rfl rfl (hb hby d52_14) rfl ?_
 obtain ⟨T12, X12, e12, st12⟩ := castY X11 hx hZ hown (ow16 hw) e11 (Ins.self E_a2) (g := (mkF m 15 #[.val (.ref a1), .val (.ref a2), .unset] [(.ref a2)])) rfl rfl (hb hby d52_15)
 refine OG.of st12 ?_
 show OG p e below _ (T12.setTop (mkF m 18 #[.val (.ref a1), .val (.ref a2), .unset] [(.ref a2)]))
 refine og_astoreN (L' := #[.val (.ref a1), .val (.ref a2), .val (.ref a2)]) X12 hx rfl rfl (hb hby d52_18) rfl ?_
 refine og_getstatic X12 hx hZ (host := "") hown (Or.inl (ow11 hw)) Via.refl e12 (S_CS.ext O.2) (hb hby d52_19) rfl (fun T13 X13 e13 => ?_)
 refine og_if_eq (pc1 := 36) (pc2 := 25) X13 hx (hb hby d52_22) (by decide) (by decide) rfl (fun q => absurd q hcs) (fun _ => ?_)
 refine og_aloadN X13 hx rfl rfl (hb hby d52_25) rfl ?_
 refine og_getfield X13 hx hZ (host := "") hown (Or.inl (ow31 hw)) Via.refl e13 F_coder_a1 (hb hby d52_26) rfl (fun T14 X14 e14 => ?_)
 refine og_aloadN X14 hx rfl rfl (hb hby d52_29) rfl ?_
 refine og_getfield X14 hx hZ (host := "") hown (Or.inl (ow31 hw)) Via.refl e14 F_coder_a2 (hb hby d52_30) rfl (fun T15 X15 e15 => ?_)
 refine og_icmp_ne (pc1 := 54) (pc2 := 36) X15 hx (hb hby d52_33) (by decide) (by decide) rfl (fun q => absurd q (by decide)) (fun _ => ?_)
 refine og_aloadN X15 hx rfl rfl (hb hby d52_36) rfl ?_
 refine og_getfield X15 hx hZ (host := "") hown (Or.inl (ow29 hw)) Via.refl e15 F_value_a1 (hb hby d52_37) rfl (fun T16 X16 e16 => ?_)
 refine og_aloadN X16 hx rfl rfl (hb hby d52_40) rfl ?_
 refine og_getfield X16 hx hZ (host := "") hown (Or.inl (ow29 hw)) Via.refl e16 F_value_a2 (hb hby d52_41) rfl (fun T17 X17 e17 => ?_)
 by_cases hQ : u0 = w0
 ·
  refine og_static (pc' := 47) (cells' := 0) (slots' := 0) (W := 0) X17 hx hZ (rm_le1_1 l Z a0 hw b1 b2 k1 k2 u0 w0 1 (if_pos hQ).symm h0 n0 O V_b1 V_b2) hown (ow368 hw) (ow369 hw) (ow14 hw) (ow370 hw) (by decide) (by rw [hml]; rfl) e17 opd_33 [(.ref b1), (.ref b2)] [] rfl rfl rfl rfl (by decide) (by decide) rfl rfl (by decide) (by decide) (hb hby d52_44) rfl (fun v18 T18 h18 L18 X18 e18 z18 => ?_)
  obtain ⟨rfl, Nq18, hq18⟩ := z18; replace e18 := e18.trans hq18; have N := Fr.app N Nq18
  refine og_if_eq (pc1 := 54) (pc2 := 50) X18 hx (hb hby d52_47) (by decide) (by decide) rfl (fun q => absurd q (by decide)) (fun _ => ?_)
  refine og_iconst (v := 1) X18 hx rfl (hb hby d52_50) rfl ?_
  refine og_goto (pc' := 55) X18 hx (hb hby d52_51) (by decide) (by decide) ?_
  refine og_retN X18 hx hlk hret (by simp) (hb hby d52_55) (by decide) (by decide) ?_
  rw [e18]; refine ⟨?_, N, rfl⟩
  show some (Value.int 1) = _
  rw [hr, if_pos hQ]
 ·
  refine og_static (pc' := 47) (cells' := 0) (slots' := 0) (W := 0) X17 hx hZ (rm_le1_1 l Z a0 hw b1 b2 k1 k2 u0 w0 0 (if_neg hQ).symm h0 n0 O V_b1 V_b2) hown (ow368 hw) (ow369 hw) (ow14 hw) (ow370 hw) (by decide) (by rw [hml]; rfl) e17 opd_33 [(.ref b1), (.ref b2)] [] rfl rfl rfl rfl (by decide) (by decide) rfl rfl (by decide) (by decide) (hb hby d52_44) rfl (fun v19 T19 h19 L19 X19 e19 z19 => ?_)
  obtain ⟨rfl, Nq19, hq19⟩ := z19; replace e19 := e19.trans hq19; have N := Fr.app N Nq19
  refine og_if_eq (pc1 := 54) (pc2 := 50) X19 hx (hb hby d52_47) (by decide) (by decide) rfl (fun _ => ?_) (fun q => absurd q (by decide))
  refine og_iconst (v := 0) X19 hx rfl (hb hby d52_54) rfl ?_
  refine og_retN X19 hx hlk hret (by simp) (hb hby d52_55) (by decide) (by decide) ?_
  rw [e19]; refine ⟨?_, N, rfl⟩
  show some (Value.int 0) = _
  rw [hr, if_neg hQ]
theorem rm_s (l : Launch) (Z : State) (a0 : Array Value) (hw : HW a0 Z) (cc : Int32) (cs : Int32) (hcs : ¬ cs = 0) (h0 : Heap) (n0 : Nat) (O : Old Z n0 h0) (S_CS : Sta Z Z.heap "java/lang/String" "COMPACT_STRINGS" "Z" (.int cs)) :
  Con l Z (⟨"com/example/marsh_tit/marshtit/stanza/ElementAddPinLaw", "s", "(I)Ljava/lang/String;"⟩ : MethodName) method_2_code 1 (some (.object "java/lang/String")) ({ frames := 3, cells := 2, slots := 5, locals := 39 } : Room) #[(.int cc)] h0 (fun v h L => ∃ a b k g, v = some (.ref a) ∧ Fr n0 L ∧ Keep h0 h [] ∧ h0.size ≤ a ∧ h0.size ≤ b ∧ Exa Z h a "java/lang/String" ∧ Fld Z h a "java/lang/String" "value" "[B" (.ref b) ∧ Fld Z h a "java/lang/String" "coder" "B" (.int 0) ∧ Arv Z h b k .byte (1 : Int32) [(.int g)] (.int 0)) := by
 refine own_startC opn_1 ?_
 intro p e s m below meth c T0 X0 hx hby hml hZ hown hnm hret hlk e0
 have N := Fr.nil n0; have K := Keep.refl h0 []
 refine OG.cast (oef3 m cc) ?_
 refine og_iloadN X0 hx rfl (hb hby d1_0) rfl ?_
 refine og_sipush (v := 255) X0 hx rfl (hb hby d1_1) rfl ?_
 refine og_iand X0 hx (hb hby d1_4) rfl ?_
 refine og_i2c X0 hx (hb hby d1_5) rfl ?_
 obtain ⟨zz, h_zz⟩ : ∃ z, z = ((cc &&& (255 : Int32)).toUInt32.toUInt16.toUInt32.toInt32) := ⟨_, rfl⟩
 rw [← h_zz]
 have hzz := own_chz h_zz
 refine og_static (pc' := 9) (cells' := 2) (slots' := 5) (W := 0) X0 hx hZ (rm_vo l Z a0 hw zz (own_le255 hzz) cs hcs h0 n0 O S_CS) hown (ow7 hw) (ow8 hw) (ow9 hw) (ow10 hw) (by decide) (by rw [hml]; rfl) e0 opd_34 [(.int zz)] [] rfl rfl rfl rfl (by decide) (by decide) rfl rfl (by decide) (by decide) (hb hby d1_6) rfl (fun v11 T11 h11 L11 X11 e11 z11 => ?_)
 obtain ⟨na11, nb11, k11, rfl, Nq11, K11, sa11, sb11, E_na11, F_value_na11, F_coder_na11, V_nb11⟩ := z11; have N := Fr.app N Nq11
 have s_na11 : h0.size ≤ na11 := sa11; have sz_na11 : h0.size ≤ na11 := Nat.le_trans K.1 s_na11
 have s_nb11 : h0.size ≤ nb11 := sb11; have sz_nb11 : h0.size ≤ nb11 := Nat.le_trans K.1 s_nb11
 have K := K.trans K11 all0
 refine og_retR X11 hx hlk hret rfl rfl rfl (hb hby d1_9) (by decide) (by decide) ?_
 rw [e11]; exact ⟨_, _, _, _, rfl, N, K, sz_na11, sz_nb11, E_na11, F_value_na11, F_coder_na11, V_nb11⟩
theorem rm0 (l : Launch) (Z : State) (a0 : Array Value) (hw : HW a0 Z) (ws : List Jvm.Cond) (p0 p1 p2 p3 p4 : Int32) (mA mL mR : Addr) (de : Addr) (kde : ClassId) (cs : Int32) (hcs : ¬ cs = 0) (h0 : Heap) (n0 : Nat) (O : Old Z n0 h0) (hEL : EW Z a0 own_EL) (S_CS : Sta Z Z.heap "java/lang/String" "COMPACT_STRINGS" "Z" (.int cs)) (S_DE : Sta Z Z.heap "java/util/ArrayList" "DEFAULTCAPACITY_EMPTY_ELEMENTDATA" "[Ljava/lang/Object;" (.ref de)) (V_de : Arv Z Z.heap de kde (.object "java/lang/Object") (0 : Int32) [] .null) (M_mA : (Term.mirror "java/util/ArrayList").eval #[] Z none [] Z = some (.ref mA)) (M_mL : (Term.mirror "java/util/Collections$UnmodifiableList").eval #[] Z none [] Z = some (.ref mL)) (M_mR : (Term.mirror "java/util/Collections$UnmodifiableRandomAccessList").eval #[] Z none [] Z = some (.ref mR)) (ne_mA_mL : mA ≠ mL) (ne_mA_mR : mA ≠ mR) :
  MetFree l x (head1 (Jvm.Cond.code x code maxLocals ret :: ws) room_1) (fun a U => a = #[(.int p0), (.int p1), (.int p2), (.int p3), (.int p4)] ∧ Z.Warmed39 U.vm ∧ U.heap = h0 ∧ CHv Z own_EL U.vm h0 ∧ ∀ x ∈ ([] : List Addr), Safe Z own_EL U.vm h0 x) (fun _ _ _ _ _ => True) (fun _ U o U' => ∃ v L, o = .returned v ∧ (fun v h L => v = some (.int 1) ∧ Fr n0 L) v U'.heap L ∧ CHr Z own_EL U.vm U.heap U'.vm U'.heap ∧ ReturnedEndW U o U' L 88 4480) := by
 refine own_startW (Q := fun v h L => v = some (.int 1) ∧ Fr n0 L) opn_0 ?_
 intro p e s m below meth c T0 X0 hx hby hml hZ hown hnm hret hlk e0 es hS CR hsf
 have N := Fr.nil n0; have K := Keep.refl h0 []; have hk := Nat.le_refl h0.size
 refine OG.cast (oef19 m p0 p1 p2 p3 p4) ?_
 refine og_iloadN X0 hx rfl (hb hby at_0) rfl ?_
 refine og_iconst (v := 1) X0 hx rfl (hb hby at_1) rfl ?_
 refine og_iand X0 hx (hb hby at_2) rfl ?_
 have J11 : ∀ (T11 : State) (h11 : Heap) (l11 : List Loc) (vm11 : Vm) (kk11 : Nat) (hS : s.Since vm11 kk11) (hk : kk11 ≤ h11.size) (hZ : Z.Warmed39 vm11) (hown : vm11.findClass "com/example/marsh_tit/marshtit/stanza/ElementAddPinLaw" = some m.cls) (CR : CHr Z own_EL s.vm h0 vm11 h11) (X11 : Stand p l e room_1 (s.setVm vm11) m #[(.int p0), (.int p1), (.int p2), (.int p3), (.int p4)] below meth c T11 l11 0 0) (e11 : T11.heap = h11) (N : Fr n0 l11) (O : Old Z n0 h11) (K : Keep h0 h11 []) (b5 : Int32) (hb5 : b5 = 0 ∨ b5 = 1) , OG p e below (FinW s Z own_EL (fun v h L => v = some (.int 1) ∧ Fr n0 L) 88 4480) (T11.setTop (mkF m 11 #[.val (.int p0), .val (.int p1), .val (.int p2), .val (.int p3), .val (.int p4), .unset, .unset, .unset, .unset, .unset, .unset, .unset, .unset, .unset, .unset, .unset, .unset, .unset, .unset, .unset] [(.int b5)])) := by
  intro T11 h11 l11 vm11 kk11 hS hk hZ hown CR X11 e11 N O K b5 hb5 
  refine og_istore (L' := #[.val (.int p0), .val (.int p1), .val (.int p2), .val (.int p3), .val (.int p4), .val (.int b5), .unset, .unset, .unset, .unset, .unset, .unset, .unset, .unset, .unset, .unset, .unset, .unset, .unset, .unset]) X11 hx rfl (hb hby at_11) rfl ?_
  refine og_iloadN X11 hx rfl (hb hby at_13) rfl ?_
  refine og_iconst (v := 2) X11 hx rfl (hb hby at_14) rfl ?_
  refine og_iand X11 hx (hb hby at_15) rfl ?_
  have J24 : ∀ (T12 : State) (h12 : Heap) (l12 : List Loc) (vm12 : Vm) (kk12 : Nat) (hS : s.Since vm12 kk12) (hk : kk12 ≤ h12.size) (hZ : Z.Warmed39 vm12) (hown : vm12.findClass "com/example/marsh_tit/marshtit/stanza/ElementAddPinLaw" = some m.cls) (CR : CHr Z own_EL s.vm h0 vm12 h12) (X12 : Stand p l e room_1 (s.setVm vm12) m #[(.int p0), (.int p1), (.int p2), (.int p3), (.int p4)] below meth c T12 l12 0 0) (e12 : T12.heap = h12) (N : Fr n0 l12) (O : Old Z n0 h12) (K : Keep h0 h12 []) (b6 : Int32) (hb6 : b6 = 0 ∨ b6 = 1) , OG p e below (FinW s Z own_EL (fun v h L => v = some (.int 1) ∧ Fr n0 L) 88 4480) (T12.setTop (mkF m 24 #[.val (.int p0), .val (.int p1), .val (.int p2), .val (.int p3), .val (.int p4), .val (.int b5), .unset, .unset, .unset, .unset, .unset, .unset, .unset, .unset, .unset, .unset, .unset, .unset, .unset, .unset] [(.int b6)])) := by
   intro T12 h12 l12 vm12 kk12 hS hk hZ hown CR X12 e12 N O K b6 hb6 
   refine og_istore (L' := #[.val (.int p0), .val (.int p1), .val (.int p2), .val (.int p3), .val (.int p4), .val (.int b5), .val (.int b6), .unset, .unset, .unset, .unset, .unset, .unset, .unset, .unset, .unset, .unset, .unset, .unset, .unset]) X12 hx rfl (hb hby at_24) rfl ?_
   refine og_iloadN X12 hx rfl (hb hby at_26) rfl ?_
   refine og_iconst (v := 4) X12 hx rfl (hb hby at_27) rfl ?_
   refine og_iand X12 hx (hb hby at_28) rfl ?_
   have J37 : ∀ (T13 : State) (h13 : Heap) (l13 : List Loc) (vm13 : Vm) (kk13 : Nat) (hS : s.Since vm13 kk13) (hk : kk13 ≤ h13.size) (hZ : Z.Warmed39 vm13) (hown : vm13.findClass "com/example/marsh_tit/marshtit/stanza/ElementAddPinLaw" = some m.cls) (CR : CHr Z own_EL s.vm h0 vm13 h13) (X13 : Stand p l e room_1 (s.setVm vm13) m #[(.int p0), (.int p1), (.int p2), (.int p3), (.int p4)] below meth c T13 l13 0 0) (e13 : T13.heap = h13) (N : Fr n0 l13) (O : Old Z n0 h13) (K : Keep h0 h13 []) (b7 : Int32) (hb7 : b7 = 0 ∨ b7 = 1) , OG p e below (FinW s Z own_EL (fun v h L => v = some (.int 1) ∧ Fr n0 L) 88 4480) (T13.setTop (mkF m 37 #[.val (.int p0), .val (.int p1), .val (.int p2), .val (.int p3), .val (.int p4), .val (.int b5), .val (.int b6), .unset, .unset, .unset, .unset, .unset, .unset, .unset, .unset, .unset, .unset, .unset, .unset, .unset] [(.int b7)])) := by
    intro T13 h13 l13 vm13 kk13 hS hk hZ hown CR X13 e13 N O K b7 hb7 
    refine og_istore (L' := #[.val (.int p0), .val (.int p1), .val (.int p2), .val (.int p3), .val (.int p4), .val (.int b5), .val (.int b6), .val (.int b7), .unset, .unset, .unset, .unset, .unset, .unset, .unset, .unset, .unset, .unset, .unset, .unset]) X13 hx rfl (hb hby at_37) rfl ?_
    refine og_iloadN X13 hx rfl (hb hby at_39) rfl ?_
    refine og_iconst (v := 3) X13 hx rfl (hb hby at_40) rfl ?_
    refine og_iushr X13 hx (hb hby at_41) rfl ?_
    refine og_iconst (v := 3) X13 hx rfl (hb hby at_42) rfl ?_
    refine og_iand X13 hx (hb hby at_43) rfl ?_
    refine og_istore (L' := #[.val (.int p0), .val (.int p1), .val (.int p2), .val (.int p3), .val (.int p4), .val (.int b5), .val (.int b6), .val (.int b7), .val (.int (((p0.toUInt32 >>> ((3 : Int32) &&& 31).toUInt32).toInt32) &&& (3 : Int32))), .unset, .unset, .unset, .unset, .unset, .unset, .unset, .unset, .unset, .unset, .unset]) X13 hx rfl (hb hby at_44) rfl ?_
    obtain ⟨kd, h_kd⟩ : ∃ z, z = (((p0.toUInt32 >>> ((3 : Int32) &&& 31).toUInt32).toInt32) &&& (3 : Int32)) := ⟨_, rfl⟩
    rw [← h_kd]
    refine og_new (pc' := 49) (cells' := 1) (slots' := 4) X13 hx hZ hown (ow0 hw) (ow1 hw) (ow2 hw) e13 (hb hby at_46) rfl rfl rfl (by decide) (by decide) (fun T14 h14 nb14 X14 e14 E14 q14 E_nb14 D14 B14 => ?_)
    have s_nb14 : h13.size ≤ nb14 := Nat.le_of_eq q14.symm; have g_nb14 : n0 ≤ nb14 := Nat.le_trans (own_n0 O) s_nb14; have sz_nb14 : h0.size ≤ nb14 := Nat.le_trans K.1 s_nb14
    have O := O.ext E14; have K := K.ext E14; have hk := Nat.le_trans hk E14.1; have CR := CR.trans (CHr.ext E14 CR.1)
    have F__attributes_nb14 : Fld Z h14 nb14 "com/example/marsh_tit/marshtit/stanza/Element" "_attributes" "Ljava/util/Map;" .null := D14 (Or.inr (ow64 hw)) (ty := (.object "java/util/Map")) (by decide)
    have F__children_nb14 : Fld Z h14 nb14 "com/example/marsh_tit/marshtit/stanza/Element" "_children" "Ljava/util/List;" .null := D14 (Or.inr (ow90 hw)) (ty := (.object "java/util/List")) (by decide)
    have F__namespace_nb14 : Fld Z h14 nb14 "com/example/marsh_tit/marshtit/stanza/Element" "_namespace" "Ljava/lang/String;" .null := D14 (Or.inr (ow100 hw)) (ty := (.object "java/lang/String")) (by decide)
    have F__name_nb14 : Fld Z h14 nb14 "com/example/marsh_tit/marshtit/stanza/Element" "_name" "Ljava/lang/String;" .null := D14 (Or.inr (ow103 hw)) (ty := (.object "java/lang/String")) (by decide)
    refine og_dup X14 hx rfl (hb hby at_49) rfl ?_
    refine og_iloadN X14 hx rfl (hb hby at_50) rfl ?_
    refine og_static (pc' := 54) (cells' := 3) (slots' := 9) (W := 2) X14 hx hZ (rm_s l Z a0 hw p1 cs hcs h14 n0 O S_CS) hown (ow3 hw) (ow4 hw) (ow5 hw) (ow6 hw) (by decide) (by rw [hml]; rfl) e14 opd_35 [(.int p1)] [(.ref nb14), (.ref nb14)] rfl rfl rfl rfl (by decide) (by decide) rfl rfl (by decide) (by decide) (hb hby at_51) rfl (fun v15 T15 h15 L15 X15 e15 z15 => ?_)
    obtain ⟨na15, nb15, k15, gg15, rfl, Nq15, K15, sa15, sb15, E_na15, F_value_na15, F_coder_na15, V_nb15⟩ := z15; have N := Fr.app N Nq15
    have s_na15 : h14.size ≤ na15 := sa15; have ne_nb14_na15 : nb14 ≠ na15 := Nat.ne_of_lt (Nat.lt_of_lt_of_le E_nb14.lt s_na15)
    have E_nb14 := E_nb14.keep K15; have F__attributes_nb14 := F__attributes_nb14.keep K15 nin0; have F__children_nb14 := F__children_nb14.keep K15 nin0; have F__namespace_nb14 := F__namespace_nb14.keep K15 nin0; have F__name_nb14 := F__name_nb14.keep K15 nin0
    have O := O.keep K15 all0; have K := K.trans K15 all0; have hk := Nat.le_trans hk K15.1; have CR := CR.trans (CHr.keep K15 sf0 CR.1)
    refine og_iloadN X15 hx rfl (hb hby at_54) rfl ?_
    refine og_static (pc' := 58) (cells' := 5) (slots' := 14) (W := 3) X15 hx hZ (rm_s l Z a0 hw p2 cs hcs h15 n0 O S_CS) hown (ow3 hw) (ow4 hw) (ow5 hw) (ow6 hw) (by decide) (by rw [hml]; rfl) e15 opd_35 [(.int p2)] [(.ref na15), (.ref nb14), (.ref nb14)] rfl rfl rfl rfl (by decide) (by decide) rfl rfl (by decide) (by decide) (hb hby at_55) rfl (fun v16 T16 h16 L16 X16 e16 z16 => ?_)
    obtain ⟨na16, nb16, k16, gg16, rfl, Nq16, K16, sa16, sb16, E_na16, F_value_na16, F_coder_na16, V_nb16⟩ := z16; have N := Fr.app N Nq16
    have s_na16 : h15.size ≤ na16 := sa16; have ne_nb14_na16 : nb14 ≠ na16 := Nat.ne_of_lt (Nat.lt_of_lt_of_le E_nb14.lt s_na16)
    have E_nb14 := E_nb14.keep K16; have F__attributes_nb14 := F__attributes_nb14.keep K16 nin0; have F__children_nb14 := F__children_nb14.keep K16 nin0; have F__namespace_nb14 := F__namespace_nb14.keep K16 nin0; have F__name_nb14 := F__name_nb14.keep K16 nin0
    have E_na15 := E_na15.keep K16; have O := O.keep K16 all0; have K := K.trans K16 all0; have hk := Nat.le_trans hk K16.1; have CR := CR.trans (CHr.keep K16 sf0 CR.1)
    refine og_specialW (pc' := 61) (cells' := 11) (slots' := 89) (W := 1) X16 hx hZ (rm_el l Z a0 hw nb14 na15 na16 de h16 n0 O hEL E_nb14 F__attributes_nb14 F__children_nb14 F__namespace_nb14 F__name_nb14 E_na15 E_na16 S_DE g_nb14 (Ne.symm ne_nb14_na15) (Ne.symm ne_nb14_na16)) hEL hS hk CR.1 all0 rfl hown (ow33 hw) (ow34 hw) (ow2 hw) (ow35 hw) (by decide) (by rw [hml]; rfl) e16 opd_36 [(.ref na15), (.ref na16)] [(.ref nb14)] rfl rfl rfl rfl (by decide) (by decide) rfl rfl (by decide) (by decide) (hb hby at_58) rfl (fun v17 T17 h17 L17 kk17 X17 e17 hS hk hZ hown cr17 z17 => ?_)
    obtain ⟨rfl, Nq17, K17, -, -, nl17, sl17, F__children_nb14', E_nl17, F_modCount_nl17, F_elementData_nl17, F_size_nl17⟩ := z17; have N := Fr.app N Nq17
    have s_nl17 : h16.size ≤ nl17 := sl17; have g_nl17 : n0 ≤ nl17 := Nat.le_trans (own_n0 O) s_nl17; have sz_nl17 : h0.size ≤ nl17 := Nat.le_trans K.1 s_nl17; have ne_nb14_nl17 : nb14 ≠ nl17 := Nat.ne_of_lt (Nat.lt_of_lt_of_le E_nb14.lt s_nl17)
    have E_nb14 := E_nb14.keep K17; have O := O.keep K17 (allS g_nb14 all0); have K := K.trans K17 (allS (Or.inr sz_nb14) all0); have CR := CR.trans cr17
    have F__children_nb14 := F__children_nb14'
    refine og_astore (L' := #[.val (.int p0), .val (.int p1), .val (.int p2), .val (.int p3), .val (.int p4), .val (.int b5), .val (.int b6), .val (.int b7), .val (.int kd), .val (.ref nb14), .unset, .unset, .unset, .unset, .unset, .unset, .unset, .unset, .unset, .unset]) X17 hx rfl rfl (hb hby at_61) rfl ?_
    refine og_new (pc' := 66) (cells' := 12) (slots' := 93) X17 hx hZ hown (ow0 hw) (ow1 hw) (ow2 hw) e17 (hb hby at_63) rfl rfl rfl (by decide) (by decide) (fun T18 h18 nb18 X18 e18 E18 q18 E_nb18 D18 B18 => ?_)
    have s_nb18 : h17.size ≤ nb18 := Nat.le_of_eq q18.symm; have g_nb18 : n0 ≤ nb18 := Nat.le_trans (own_n0 O) s_nb18; have sz_nb18 : h0.size ≤ nb18 := Nat.le_trans K.1 s_nb18; have ne_nb14_nb18 : nb14 ≠ nb18 := Nat.ne_of_lt (Nat.lt_of_lt_of_le E_nb14.lt s_nb18); have ne_nl17_nb18 : nl17 ≠ nb18 := Nat.ne_of_lt (Nat.lt_of_lt_of_le E_nl17.lt s_nb18)
    have E_nb14 := E_nb14.ext E18; have F__children_nb14 := F__children_nb14.ext E18; have E_nl17 := E_nl17.ext E18; have F_modCount_nl17 := F_modCount_nl17.ext E18; have F_elementData_nl17 := F_elementData_nl17.ext E18
    have F_size_nl17 := F_size_nl17.ext E18; have O := O.ext E18; have K := K.ext E18; have hk := Nat.le_trans hk E18.1; have CR := CR.trans (CHr.ext E18 CR.1)
    have F__attributes_nb18 : Fld Z h18 nb18 "com/example/marsh_tit/marshtit/stanza/Element" "_attributes" "Ljava/util/Map;" .null := D18 (Or.inr (ow64 hw)) (ty := (.object "java/util/Map")) (by decide)
    have F__children_nb18 : Fld Z h18 nb18 "com/example/marsh_tit/marshtit/stanza/Element" "_children" "Ljava/util/List;" .null := D18 (Or.inr (ow90 hw)) (ty := (.object "java/util/List")) (by decide)
    have F__namespace_nb18 : Fld Z h18 nb18 "com/example/marsh_tit/marshtit/stanza/Element" "_namespace" "Ljava/lang/String;" .null := D18 (Or.inr (ow100 hw)) (ty := (.object "java/lang/String")) (by decide)
    have F__name_nb18 : Fld Z h18 nb18 "com/example/marsh_tit/marshtit/stanza/Element" "_name" "Ljava/lang/String;" .null := D18 (Or.inr (ow103 hw)) (ty := (.object "java/lang/String")) (by decide)
    refine og_dup X18 hx rfl (hb hby at_66) rfl ?_
    refine og_iloadN X18 hx rfl (hb hby at_67) rfl ?_
    refine og_static (pc' := 71) (cells' := 14) (slots' := 98) (W := 2) X18 hx hZ (rm_s l Z a0 hw p2 cs hcs h18 n0 O S_CS) hown (ow3 hw) (ow4 hw) (ow5 hw) (ow6 hw) (by decide) (by rw [hml]; rfl) e18 opd_35 [(.int p2)] [(.ref nb18), (.ref nb18)] rfl rfl rfl rfl (by decide) (by decide) rfl rfl (by decide) (by decide) (hb hby at_68) rfl (fun v19 T19 h19 L19 X19 e19 z19 => ?_)
    obtain ⟨na19, nb19, k19, gg19, rfl, Nq19, K19, sa19, sb19, E_na19, F_value_na19, F_coder_na19, V_nb19⟩ := z19; have N := Fr.app N Nq19
    have s_na19 : h18.size ≤ na19 := sa19
    have ne_nb18_na19 : nb18 ≠ na19 := Nat.ne_of_lt (Nat.lt_of_lt_of_le E_nb18.lt s_na19)
    have E_nb14 := E_nb14.keep K19; have F__children_nb14 := F__children_nb14.keep K19 nin0; have E_nl17 := E_nl17.keep K19; have F_modCount_nl17 := F_modCount_nl17.keep K19 nin0; have F_elementData_nl17 := F_elementData_nl17.keep K19 nin0
    have F_size_nl17 := F_size_nl17.keep K19 nin0; have E_nb18 := E_nb18.keep K19; have F__attributes_nb18 := F__attributes_nb18.keep K19 nin0; have F__children_nb18 := F__children_nb18.keep K19 nin0; have F__namespace_nb18 := F__namespace_nb18.keep K19 nin0; have F__name_nb18 := F__name_nb18.keep K19 nin0
    have O := O.keep K19 all0; have K := K.trans K19 all0; have hk := Nat.le_trans hk K19.1; have CR := CR.trans (CHr.keep K19 sf0 CR.1)
    refine og_iloadN X19 hx rfl (hb hby at_71) rfl ?_
    refine og_static (pc' := 75) (cells' := 16) (slots' := 103) (W := 3) X19 hx hZ (rm_s l Z a0 hw p1 cs hcs h19 n0 O S_CS) hown (ow3 hw) (ow4 hw) (ow5 hw) (ow6 hw) (by decide) (by rw [hml]; rfl) e19 opd_35 [(.int p1)] [(.ref na19), (.ref nb18), (.ref nb18)] rfl rfl rfl rfl (by decide) (by decide) rfl rfl (by decide) (by decide) (hb hby at_72) rfl (fun v20 T20 h20 L20 X20 e20 z20 => ?_)
    obtain ⟨na20, nb20, k20, gg20, rfl, Nq20, K20, sa20, sb20, E_na20, F_value_na20, F_coder_na20, V_nb20⟩ := z20; have N := Fr.app N Nq20
    have s_na20 : h19.size ≤ na20 := sa20
    have ne_nb18_na20 : nb18 ≠ na20 := Nat.ne_of_lt (Nat.lt_of_lt_of_le E_nb18.lt s_na20)
    have E_nb14 := E_nb14.keep K20; have F__children_nb14 := F__children_nb14.keep K20 nin0; have E_nl17 := E_nl17.keep K20; have F_modCount_nl17 := F_modCount_nl17.keep K20 nin0; have F_elementData_nl17 := F_elementData_nl17.keep K20 nin0
    have F_size_nl17 := F_size_nl17.keep K20 nin0; have E_nb18 := E_nb18.keep K20; have F__attributes_nb18 := F__attributes_nb18.keep K20 nin0; have F__children_nb18 := F__children_nb18.keep K20 nin0; have F__namespace_nb18 := F__namespace_nb18.keep K20 nin0; have F__name_nb18 := F__name_nb18.keep K20 nin0
    have E_na19 := E_na19.keep K20; have O := O.keep K20 all0; have K := K.trans K20 all0; have hk := Nat.le_trans hk K20.1; have CR := CR.trans (CHr.keep K20 sf0 CR.1)
    refine og_specialW (pc' := 78) (cells' := 22) (slots' := 178) (W := 1) X20 hx hZ (rm_el l Z a0 hw nb18 na19 na20 de h20 n0 O hEL E_nb18 F__attributes_nb18 F__children_nb18 F__namespace_nb18 F__name_nb18 E_na19 E_na20 S_DE g_nb18 (Ne.symm ne_nb18_na19) (Ne.symm ne_nb18_na20)) hEL hS hk CR.1 all0 rfl hown (ow33 hw) (ow34 hw) (ow2 hw) (ow35 hw) (by decide) (by rw [hml]; rfl) e20 opd_36 [(.ref na19), (.ref na20)] [(.ref nb18)] rfl rfl rfl rfl (by decide) (by decide) rfl rfl (by decide) (by decide) (hb hby at_75) rfl (fun v21 T21 h21 L21 kk21 X21 e21 hS hk hZ hown cr21 z21 => ?_)
    obtain ⟨rfl, Nq21, K21, -, -, nl21, sl21, F__children_nb18', E_nl21, F_modCount_nl21, F_elementData_nl21, F_size_nl21⟩ := z21; have N := Fr.app N Nq21
    have E_nb14 := E_nb14.keep K21; have F__children_nb14 := F__children_nb14.keep K21 (ninS ne_nb14_nb18 nin0); have E_nl17 := E_nl17.keep K21; have F_modCount_nl17 := F_modCount_nl17.keep K21 (ninS ne_nl17_nb18 nin0); have F_elementData_nl17 := F_elementData_nl17.keep K21 (ninS ne_nl17_nb18 nin0); have F_size_nl17 := F_size_nl17.keep K21 (ninS ne_nl17_nb18 nin0)
    have E_nb18 := E_nb18.keep K21; have O := O.keep K21 (allS g_nb18 all0); have K := K.trans K21 (allS (Or.inr sz_nb18) all0); have CR := CR.trans cr21
    refine og_astore (L' := #[.val (.int p0), .val (.int p1), .val (.int p2), .val (.int p3), .val (.int p4), .val (.int b5), .val (.int b6), .val (.int b7), .val (.int kd), .val (.ref nb14), .val (.ref nb18), .unset, .unset, .unset, .unset, .unset, .unset, .unset, .unset, .unset]) X21 hx rfl rfl (hb hby at_78) rfl ?_
    refine og_new (pc' := 83) (cells' := 23) (slots' := 182) X21 hx hZ hown (ow0 hw) (ow1 hw) (ow2 hw) e21 (hb hby at_80) rfl rfl rfl (by decide) (by decide) (fun T22 h22 nb22 X22 e22 E22 q22 E_nb22 D22 B22 => ?_)
    have s_nb22 : h21.size ≤ nb22 := Nat.le_of_eq q22.symm; have g_nb22 : n0 ≤ nb22 := Nat.le_trans (own_n0 O) s_nb22; have sz_nb22 : h0.size ≤ nb22 := Nat.le_trans K.1 s_nb22; have ne_nb14_nb22 : nb14 ≠ nb22 := Nat.ne_of_lt (Nat.lt_of_lt_of_le E_nb14.lt s_nb22); have ne_nl17_nb22 : nl17 ≠ nb22 := Nat.ne_of_lt (Nat.lt_of_lt_of_le E_nl17.lt s_nb22)
    have E_nb14 := E_nb14.ext E22; have F__children_nb14 := F__children_nb14.ext E22; have E_nl17 := E_nl17.ext E22; have F_modCount_nl17 := F_modCount_nl17.ext E22; have F_elementData_nl17 := F_elementData_nl17.ext E22
    have F_size_nl17 := F_size_nl17.ext E22; have E_nb18 := E_nb18.ext E22; have O := O.ext E22; have K := K.ext E22; have hk := Nat.le_trans hk E22.1; have CR := CR.trans (CHr.ext E22 CR.1)
    have F__attributes_nb22 : Fld Z h22 nb22 "com/example/marsh_tit/marshtit/stanza/Element" "_attributes" "Ljava/util/Map;" .null := D22 (Or.inr (ow64 hw)) (ty := (.object "java/util/Map")) (by decide)
    have F__children_nb22 : Fld Z h22 nb22 "com/example/marsh_tit/marshtit/stanza/Element" "_children" "Ljava/util/List;" .null := D22 (Or.inr (ow90 hw)) (ty := (.object "java/util/List")) (by decide)
    have F__namespace_nb22 : Fld Z h22 nb22 "com/example/marsh_tit/marshtit/stanza/Element" "_namespace" "Ljava/lang/String;" .null := D22 (Or.inr (ow100 hw)) (ty := (.object "java/lang/String")) (by decide)
    have F__name_nb22 : Fld Z h22 nb22 "com/example/marsh_tit/marshtit/stanza/Element" "_name" "Ljava/lang/String;" .null := D22 (Or.inr (ow103 hw)) (ty := (.object "java/lang/String")) (by decide)
    refine og_dup X22 hx rfl (hb hby at_83) rfl ?_
    refine og_iloadN X22 hx rfl (hb hby at_84) rfl ?_
    refine og_static (pc' := 88) (cells' := 25) (slots' := 187) (W := 2) X22 hx hZ (rm_s l Z a0 hw p3 cs hcs h22 n0 O S_CS) hown (ow3 hw) (ow4 hw) (ow5 hw) (ow6 hw) (by decide) (by rw [hml]; rfl) e22 opd_35 [(.int p3)] [(.ref nb22), (.ref nb22)] rfl rfl rfl rfl (by decide) (by decide) rfl rfl (by decide) (by decide) (hb hby at_85) rfl (fun v23 T23 h23 L23 X23 e23 z23 => ?_)
    obtain ⟨na23, nb23, k23, gg23, rfl, Nq23, K23, sa23, sb23, E_na23, F_value_na23, F_coder_na23, V_nb23⟩ := z23; have N := Fr.app N Nq23
    have s_na23 : h22.size ≤ na23 := sa23
    have ne_nb22_na23 : nb22 ≠ na23 := Nat.ne_of_lt (Nat.lt_of_lt_of_le E_nb22.lt s_na23)
    have E_nb14 := E_nb14.keep K23; have F__children_nb14 := F__children_nb14.keep K23 nin0; have E_nl17 := E_nl17.keep K23; have F_modCount_nl17 := F_modCount_nl17.keep K23 nin0; have F_elementData_nl17 := F_elementData_nl17.keep K23 nin0
    have F_size_nl17 := F_size_nl17.keep K23 nin0; have E_nb18 := E_nb18.keep K23; have E_nb22 := E_nb22.keep K23; have F__attributes_nb22 := F__attributes_nb22.keep K23 nin0; have F__children_nb22 := F__children_nb22.keep K23 nin0; have F__namespace_nb22 := F__namespace_nb22.keep K23 nin0
    have F__name_nb22 := F__name_nb22.keep K23 nin0; have O := O.keep K23 all0; have K := K.trans K23 all0; have hk := Nat.le_trans hk K23.1; have CR := CR.trans (CHr.keep K23 sf0 CR.1)
    refine og_iloadN X23 hx rfl (hb hby at_88) rfl ?_
    refine og_bipush (v := 8) X23 hx rfl (hb hby at_89) rfl ?_
    refine og_iushr X23 hx (hb hby at_91) rfl ?_
    refine og_static (pc' := 95) (cells' := 27) (slots' := 192) (W := 3) X23 hx hZ (rm_s l Z a0 hw ((p3.toUInt32 >>> ((8 : Int32) &&& 31).toUInt32).toInt32) cs hcs h23 n0 O S_CS) hown (ow3 hw) (ow4 hw) (ow5 hw) (ow6 hw) (by decide) (by rw [hml]; rfl) e23 opd_35 [(.int ((p3.toUInt32 >>> ((8 : Int32) &&& 31).toUInt32).toInt32))] [(.ref na23), (.ref nb22), (.ref nb22)] rfl rfl rfl rfl (by decide) (by decide) rfl rfl (by decide) (by decide) (hb hby at_92) rfl (fun v24 T24 h24 L24 X24 e24 z24 => ?_)
    obtain ⟨na24, nb24, k24, gg24, rfl, Nq24, K24, sa24, sb24, E_na24, F_value_na24, F_coder_na24, V_nb24⟩ := z24; have N := Fr.app N Nq24
    have s_na24 : h23.size ≤ na24 := sa24
    have ne_nb22_na24 : nb22 ≠ na24 := Nat.ne_of_lt (Nat.lt_of_lt_of_le E_nb22.lt s_na24)
    have E_nb14 := E_nb14.keep K24; have F__children_nb14 := F__children_nb14.keep K24 nin0; have E_nl17 := E_nl17.keep K24; have F_modCount_nl17 := F_modCount_nl17.keep K24 nin0; have F_elementData_nl17 := F_elementData_nl17.keep K24 nin0
    have F_size_nl17 := F_size_nl17.keep K24 nin0; have E_nb18 := E_nb18.keep K24; have E_nb22 := E_nb22.keep K24; have F__attributes_nb22 := F__attributes_nb22.keep K24 nin0; have F__children_nb22 := F__children_nb22.keep K24 nin0; have F__namespace_nb22 := F__namespace_nb22.keep K24 nin0
    have F__name_nb22 := F__name_nb22.keep K24 nin0; have E_na23 := E_na23.keep K24; have O := O.keep K24 all0; have K := K.trans K24 all0; have hk := Nat.le_trans hk K24.1; have CR := CR.trans (CHr.keep K24 sf0 CR.1)
    refine og_specialW (pc' := 98) (cells' := 33) (slots' := 267) (W := 1) X24 hx hZ (rm_el l Z a0 hw nb22 na23 na24 de h24 n0 O hEL E_nb22 F__attributes_nb22 F__children_nb22 F__namespace_nb22 F__name_nb22 E_na23 E_na24 S_DE g_nb22 (Ne.symm ne_nb22_na23) (Ne.symm ne_nb22_na24)) hEL hS hk CR.1 all0 rfl hown (ow33 hw) (ow34 hw) (ow2 hw) (ow35 hw) (by decide) (by rw [hml]; rfl) e24 opd_36 [(.ref na23), (.ref na24)] [(.ref nb22)] rfl rfl rfl rfl (by decide) (by decide) rfl rfl (by decide) (by decide) (hb hby at_95) rfl (fun v25 T25 h25 L25 kk25 X25 e25 hS hk hZ hown cr25 z25 => ?_)
    obtain ⟨rfl, Nq25, K25, -, -, nl25, sl25, F__children_nb22', E_nl25, F_modCount_nl25, F_elementData_nl25, F_size_nl25⟩ := z25; have N := Fr.app N Nq25
    have E_nb14 := E_nb14.keep K25; have F__children_nb14 := F__children_nb14.keep K25 (ninS ne_nb14_nb22 nin0); have E_nl17 := E_nl17.keep K25; have F_modCount_nl17 := F_modCount_nl17.keep K25 (ninS ne_nl17_nb22 nin0); have F_elementData_nl17 := F_elementData_nl17.keep K25 (ninS ne_nl17_nb22 nin0); have F_size_nl17 := F_size_nl17.keep K25 (ninS ne_nl17_nb22 nin0)
    have E_nb18 := E_nb18.keep K25; have E_nb22 := E_nb22.keep K25; have O := O.keep K25 (allS g_nb22 all0); have K := K.trans K25 (allS (Or.inr sz_nb22) all0); have CR := CR.trans cr25
    refine og_astore (L' := #[.val (.int p0), .val (.int p1), .val (.int p2), .val (.int p3), .val (.int p4), .val (.int b5), .val (.int b6), .val (.int b7), .val (.int kd), .val (.ref nb14), .val (.ref nb18), .val (.ref nb22), .unset, .unset, .unset, .unset, .unset, .unset, .unset, .unset]) X25 hx rfl rfl (hb hby at_98) rfl ?_
    refine og_iload X25 hx rfl (hb hby at_100) rfl ?_
    refine og_static (pc' := 105) (cells' := 35) (slots' := 272) (W := 0) X25 hx hZ (rm_s l Z a0 hw p4 cs hcs h25 n0 O S_CS) hown (ow3 hw) (ow4 hw) (ow5 hw) (ow6 hw) (by decide) (by rw [hml]; rfl) e25 opd_35 [(.int p4)] [] rfl rfl rfl rfl (by decide) (by decide) rfl rfl (by decide) (by decide) (hb hby at_102) rfl (fun v26 T26 h26 L26 X26 e26 z26 => ?_)
    obtain ⟨na26, nb26, k26, gg26, rfl, Nq26, K26, sa26, sb26, E_na26, F_value_na26, F_coder_na26, V_nb26⟩ := z26; have N := Fr.app N Nq26
    have s_na26 : h25.size ≤ na26 := sa26; have ne_nl17_na26 : nl17 ≠ na26 := Nat.ne_of_lt (Nat.lt_of_lt_of_le E_nl17.lt s_na26)
    have s_nb26 : h25.size ≤ nb26 := sb26; have ne_nl17_nb26 : nl17 ≠ nb26 := Nat.ne_of_lt (Nat.lt_of_lt_of_le E_nl17.lt s_nb26)
    have E_nb14 := E_nb14.keep K26; have F__children_nb14 := F__children_nb14.keep K26 nin0; have E_nl17 := E_nl17.keep K26; have F_modCount_nl17 := F_modCount_nl17.keep K26 nin0; have F_elementData_nl17 := F_elementData_nl17.keep K26 nin0; have F_size_nl17 := F_size_nl17.keep K26 nin0
    have E_nb18 := E_nb18.keep K26; have E_nb22 := E_nb22.keep K26; have O := O.keep K26 all0; have K := K.trans K26 all0; have hk := Nat.le_trans hk K26.1; have CR := CR.trans (CHr.keep K26 sf0 CR.1)
    refine og_astore (L' := #[.val (.int p0), .val (.int p1), .val (.int p2), .val (.int p3), .val (.int p4), .val (.int b5), .val (.int b6), .val (.int b7), .val (.int kd), .val (.ref nb14), .val (.ref nb18), .val (.ref nb22), .val (.ref na26), .unset, .unset, .unset, .unset, .unset, .unset, .unset]) X26 hx rfl rfl (hb hby at_105) rfl ?_
    have J142 : ∀ (T27 : State) (h27 : Heap) (l27 : List Loc) (vm27 : Vm) (kk27 : Nat) (hS : s.Since vm27 kk27) (hk : kk27 ≤ h27.size) (hZ : Z.Warmed39 vm27) (hown : vm27.findClass "com/example/marsh_tit/marshtit/stanza/ElementAddPinLaw" = some m.cls) (CR : CHr Z own_EL s.vm h0 vm27 h27) (X27 : Stand p l e room_1 (s.setVm vm27) m #[(.int p0), (.int p1), (.int p2), (.int p3), (.int p4)] below meth c T27 l27 35 272) (e27 : T27.heap = h27) (N : Fr n0 l27) (O : Old Z n0 h27) (K : Keep h0 h27 []) (ch : Addr) (E_nb14 : Exa Z h27 nb14 "com/example/marsh_tit/marshtit/stanza/Element") (F__children_nb14 : Fld Z h27 nb14 "com/example/marsh_tit/marshtit/stanza/Element" "_children" "Ljava/util/List;" (.ref nl17)) (E_nl17 : Exa Z h27 nl17 "java/util/ArrayList") (F_modCount_nl17 : Fld Z h27 nl17 "java/util/AbstractList" "modCount" "I" (.int 0)) (F_elementData_nl17 : Fld Z h27 nl17 "java/util/ArrayList" "elementData" "[Ljava/lang/Object;" (.ref de)) (F_size_nl17 : Fld Z h27 nl17 "java/util/ArrayList" "size" "I" (.int 0)) (E_nb18 : Exa Z h27 nb18 "com/example/marsh_tit/marshtit/stanza/Element") (E_nb22 : Exa Z h27 nb22 "com/example/marsh_tit/marshtit/stanza/Element") (E_na26 : Exa Z h27 na26 "java/lang/String") (F_value_na26 : Fld Z h27 na26 "java/lang/String" "value" "[B" (.ref nb26)) (F_coder_na26 : Fld Z h27 na26 "java/lang/String" "coder" "B" (.int 0)) (V_nb26 : Arv Z h27 nb26 k26 .byte (1 : Int32) [(.int gg26)] (.int 0)) (E_ch : Exa Z h27 ch "com/example/marsh_tit/marshtit/stanza/Element"), OG p e below (FinW s Z own_EL (fun v h L => v = some (.int 1) ∧ Fr n0 L) 88 4480) (T27.setTop (mkF m 142 #[.val (.int p0), .val (.int p1), .val (.int p2), .val (.int p3), .val (.int p4), .val (.int b5), .val (.int b6), .val (.int b7), .val (.int kd), .val (.ref nb14), .val (.ref nb18), .val (.ref nb22), .val (.ref na26), .val (.ref ch), .unset, .unset, .unset, .unset, .unset, .unset] [])) := by
     intro T27 h27 l27 vm27 kk27 hS hk hZ hown CR X27 e27 N O K ch E_nb14 F__children_nb14 E_nl17 F_modCount_nl17 F_elementData_nl17 F_size_nl17 E_nb18 E_nb22 E_na26 F_value_na26 F_coder_na26 V_nb26 E_ch
     rcases hb5 with rfl | rfl
     ·
      refine og_iload X27 hx rfl (hb hby at_142) rfl ?_
      rcases hb6 with rfl | rfl
      ·
       refine og_if_eq (pc1 := 160) (pc2 := 147) X27 hx (hb hby at_144) (by decide) (by decide) rfl (fun _ => ?_) (fun q => absurd q (by decide))
       refine og_iload X27 hx rfl (hb hby at_160) rfl ?_
       refine og_if_eq (pc1 := 173) (pc2 := 165) X27 hx (hb hby at_162) (by decide) (by decide) rfl (fun _ => ?_) (fun q => absurd q (by decide))
       refine og_iload X27 hx rfl (hb hby at_173) rfl ?_
       refine og_if_eq (pc1 := 191) (pc2 := 178) X27 hx (hb hby at_175) (by decide) (by decide) rfl (fun _ => ?_) (fun q => absurd q (by decide))
       refine og_iload X27 hx rfl (hb hby at_191) rfl ?_
       refine og_if_eq (pc1 := 200) (pc2 := 196) X27 hx (hb hby at_193) (by decide) (by decide) rfl (fun _ => ?_) (fun q => absurd q (by decide))
       refine og_iconst (v := 0) X27 hx rfl (hb hby at_200) rfl ?_
       refine og_istore (L' := #[.val (.int p0), .val (.int p1), .val (.int p2), .val (.int p3), .val (.int p4), .val (.int 0), .val (.int 0), .val (.int b7), .val (.int kd), .val (.ref nb14), .val (.ref nb18), .val (.ref nb22), .val (.ref na26), .val (.ref ch), .val (.int 0), .unset, .unset, .unset, .unset, .unset]) X27 hx rfl (hb hby at_201) rfl ?_
       refine og_aload X27 hx rfl rfl (hb hby at_203) rfl ?_
       refine og_aload X27 hx rfl rfl (hb hby at_205) rfl ?_
       refine og_virtualW (pc' := 210) (cells' := 38) (slots' := 306) (W := 0) X27 hx hZ (rm_ea_0 l Z a0 hw nb14 nl17 ch de kde h27 n0 O hEL F__children_nb14 E_nl17 F_modCount_nl17 F_elementData_nl17 F_size_nl17 E_ch S_DE V_de g_nl17 ne_nb14_nl17) hEL hS hk CR.1 all0 hown (ow104 hw) (ow105 hw) (own_nf hZ (ow107 hw)) (ow107 hw) (ow106 hw) (ow2 hw) (ow108 hw) (by decide) (by rw [hml]; rfl) e27 opd_37 [(.ref ch)] [] rfl rfl rfl rfl (by decide) (by decide) rfl rfl (by decide) (by decide) E_nb14 (hb hby at_207) rfl (fun v28 T28 h28 L28 kk28 X28 e28 hS hk hZ hown cr28 z28 => ?_)
       obtain ⟨nb28, k28, rfl, Nq28, K28, sb28, E_nl17', F_modCount_nl17', F_elementData_nl17', F_size_nl17', V_nb28, Ov_nb28⟩ := z28; have N := Fr.app N Nq28
       have E_nb14 := E_nb14.keep K28; have F__children_nb14 := F__children_nb14.keep K28 (ninS ne_nb14_nl17 nin0)
       have E_ch := E_ch.keep K28; have O := O.keep K28 (allS g_nl17 all0)
       have CR := CR.trans cr28
       have E_nl17 := E_nl17'; have F_modCount_nl17 := F_modCount_nl17'; have F_elementData_nl17 := F_elementData_nl17'; have F_size_nl17 := F_size_nl17'
       refine og_astore (L' := #[.val (.int p0), .val (.int p1), .val (.int p2), .val (.int p3), .val (.int p4), .val (.int 0), .val (.int 0), .val (.int b7), .val (.int kd), .val (.ref nb14), .val (.ref nb18), .val (.ref nb22), .val (.ref na26), .val (.ref ch), .val (.int 0), .val (.ref nb14), .unset, .unset, .unset, .unset]) X28 hx rfl rfl (hb hby at_210) rfl ?_
       refine og_aload X28 hx rfl rfl (hb hby at_212) rfl ?_
       refine og_virtual (pc' := 217) (cells' := 42) (slots' := 325) (W := 0) X28 hx hZ (rm_els_E l Z a0 hw nb14 nl17 nb28 ch mA mL mR k28 de kde h28 n0 O F__children_nb14 E_nl17 F_modCount_nl17 F_elementData_nl17 F_size_nl17 V_nb28 E_ch S_DE V_de M_mA M_mL M_mR ne_mA_mL ne_mA_mR) hown (ow145 hw) (ow146 hw) (own_nf hZ (ow148 hw)) (ow148 hw) (ow147 hw) (ow2 hw) (ow149 hw) (by decide) (by rw [hml]; rfl) e28 opd_38 [] [] rfl rfl rfl rfl (by decide) (by decide) rfl rfl (by decide) (by decide) E_nb14 (hb hby at_214) rfl (fun v29 T29 h29 L29 X29 e29 z29 => ?_)
       obtain ⟨nu29, nl29, nb29, kn29, rfl, Nq29, K29, E_nu29, F_c_nu29, F_list_nu29, E_nl29, F_modCount_nl29, F_elementData_nl29, F_size_nl29, V_nb29⟩ := z29; have N := Fr.app N Nq29
       have E_nb14 := E_nb14.keep K29; have F__children_nb14 := F__children_nb14.keep K29 nin0; have E_nl17 := E_nl17.keep K29
       have E_ch := E_ch.keep K29; have F_modCount_nl17 := F_modCount_nl17.keep K29 nin0; have F_elementData_nl17 := F_elementData_nl17.keep K29 nin0
       have F_size_nl17 := F_size_nl17.keep K29 nin0; have V_nb28 := V_nb28.keep K29 nin0; have O := O.keep K29 all0; have hk := Nat.le_trans hk K29.1; have CR := CR.trans (CHr.keep K29 sf0 CR.1)
       refine og_astore (L' := #[.val (.int p0), .val (.int p1), .val (.int p2), .val (.int p3), .val (.int p4), .val (.int 0), .val (.int 0), .val (.int b7), .val (.int kd), .val (.ref nb14), .val (.ref nb18), .val (.ref nb22), .val (.ref na26), .val (.ref ch), .val (.int 0), .val (.ref nb14), .val (.ref nu29), .unset, .unset, .unset]) X29 hx rfl rfl (hb hby at_217) rfl ?_
       refine og_aload X29 hx rfl rfl (hb hby at_219) rfl ?_
       refine og_aload X29 hx rfl rfl (hb hby at_221) rfl ?_
       refine og_acmp_ne (pc1 := 258) (pc2 := 226) X29 hx rfl rfl (hb hby at_223) (by decide) (by decide) rfl (fun q => absurd rfl q) (fun _ => ?_)
       refine og_aload X29 hx rfl rfl (hb hby at_226) rfl ?_
       refine og_interface (pc' := 233) (cells' := 42) (slots' := 325) (W := 0) X29 hx hZ (rm_usz l Z a0 hw nu29 nl29 (1 : Int32) h29 n0 O E_nu29 F_c_nu29 E_nl29 F_size_nl29) hown (ow243 hw) (ow244 hw) (ow245 hw) (ow246 hw) (ow247 hw) (ow248 hw) (ow249 hw) (ow250 hw) (ow236 hw) (ow251 hw) (by decide) (by rw [hml]; rfl) e29 opd_14 [] [] rfl rfl rfl rfl (by decide) (by decide) rfl rfl (by decide) (by decide) E_nu29 (hb hby at_228) rfl (fun v30 T30 h30 L30 X30 e30 z30 => ?_)
       obtain ⟨rfl, Nq30, hq30⟩ := z30; replace e30 := e30.trans hq30; have N := Fr.app N Nq30
       refine og_iload X30 hx rfl (hb hby at_233) rfl ?_
       refine og_iconst (v := 1) X30 hx rfl (hb hby at_235) rfl ?_
       refine og_iadd X30 hx (hb hby at_236) rfl ?_
       show OG p e below _ (T30.setTop (mkF m 237 #[.val (.int p0), .val (.int p1), .val (.int p2), .val (.int p3), .val (.int p4), .val (.int 0), .val (.int 0), .val (.int b7), .val (.int kd), .val (.ref nb14), .val (.ref nb18), .val (.ref nb22), .val (.ref na26), .val (.ref ch), .val (.int 0), .val (.ref nb14), .val (.ref nu29), .unset, .unset, .unset] [(.int 1), (.int 1)]))
       refine og_icmp_ne (pc1 := 258) (pc2 := 240) X30 hx (hb hby at_237) (by decide) (by decide) rfl (fun q => absurd q (by decide)) (fun _ => ?_)
       refine og_aload X30 hx rfl rfl (hb hby at_240) rfl ?_
       refine og_iload X30 hx rfl (hb hby at_242) rfl ?_
       refine og_interface (pc' := 249) (cells' := 42) (slots' := 325) (W := 0) X30 hx hZ (rm_ug_0_1 l Z a0 hw nu29 nl29 nb29 ch kn29 h29 n0 O F_list_nu29 E_nl29 F_elementData_nl29 F_size_nl29 V_nb29) hown (ow261 hw) (ow262 hw) (ow263 hw) (ow264 hw) (ow265 hw) (ow266 hw) (ow267 hw) (ow250 hw) (ow230 hw) (ow268 hw) (by decide) (by rw [hml]; rfl) e30 opd_10 [(.int 0)] [] rfl rfl rfl rfl (by decide) (by decide) rfl rfl (by decide) (by decide) E_nu29 (hb hby at_244) rfl (fun v31 T31 h31 L31 X31 e31 z31 => ?_)
       obtain ⟨rfl, Nq31, hq31⟩ := z31; replace e31 := e31.trans hq31; have N := Fr.app N Nq31
       refine og_aload X31 hx rfl rfl (hb hby at_249) rfl ?_
       refine og_acmp_ne (pc1 := 258) (pc2 := 254) X31 hx rfl rfl (hb hby at_251) (by decide) (by decide) rfl (fun q => absurd rfl q) (fun _ => ?_)
       refine og_iconst (v := 1) X31 hx rfl (hb hby at_254) rfl ?_
       refine og_goto (pc' := 259) X31 hx (hb hby at_255) (by decide) (by decide) ?_
       refine og_istore (L' := #[.val (.int p0), .val (.int p1), .val (.int p2), .val (.int p3), .val (.int p4), .val (.int 0), .val (.int 0), .val (.int b7), .val (.int kd), .val (.ref nb14), .val (.ref nb18), .val (.ref nb22), .val (.ref na26), .val (.ref ch), .val (.int 0), .val (.ref nb14), .val (.ref nu29), .val (.int 1), .unset, .unset]) X31 hx rfl (hb hby at_259) rfl ?_
       refine og_iload X31 hx rfl (hb hby at_261) rfl ?_
       refine og_if_eq (pc1 := 291) (pc2 := 266) X31 hx (hb hby at_263) (by decide) (by decide) rfl (fun q => absurd q (by decide)) (fun _ => ?_)
       refine og_iload X31 hx rfl (hb hby at_266) rfl ?_
       refine og_if_eq (pc1 := 291) (pc2 := 271) X31 hx (hb hby at_268) (by decide) (by decide) rfl (fun _ => ?_) (fun q => absurd q (by decide))
       refine og_iload X31 hx rfl (hb hby at_291) rfl ?_
       refine og_if_eq (pc1 := 301) (pc2 := 296) X31 hx (hb hby at_293) (by decide) (by decide) rfl (fun _ => ?_) (fun q => absurd q (by decide))
       refine og_ldcS (pc' := 303) (cells' := 44) (slots' := 329) (n := 0) (z := (0 : Int32)) (vs := []) X31 hx hZ hown (hw _ (List.mem_of_getElem? (i := 287) rfl)) (own_wS hw) e31 hS hk hEL (by decide) CR.1 ⟨by decide, by decide⟩ (by decide) (by decide) (by decide) (by decide) (hb hby at_301) rfl rfl rfl (by decide) (by decide) (fun na32 T32 h32 kk32 nb32 k32 X32 e32 E32 hS hk hZ hown E_na32 F_coder_na32 F_value_na32 V_nb32 cr32 hne32 => ?_)
       have E_nb14 := E_nb14.ext E32; have F__children_nb14 := F__children_nb14.ext E32; have E_nl17 := E_nl17.ext E32
       have E_ch := E_ch.ext E32; have F_modCount_nl17 := F_modCount_nl17.ext E32; have F_elementData_nl17 := F_elementData_nl17.ext E32
       have F_size_nl17 := F_size_nl17.ext E32; have V_nb28 := V_nb28.ext E32
       have O := O.ext E32
       have CR := CR.trans cr32
       refine og_astore (L' := #[.val (.int p0), .val (.int p1), .val (.int p2), .val (.int p3), .val (.int p4), .val (.int 0), .val (.int 0), .val (.int b7), .val (.int kd), .val (.ref nb14), .val (.ref nb18), .val (.ref nb22), .val (.ref na26), .val (.ref ch), .val (.int 0), .val (.ref nb14), .val (.ref nu29), .val (.int 1), .val (.ref na32), .unset]) X32 hx rfl rfl (hb hby at_303) rfl ?_
       refine og_aload X32 hx rfl rfl (hb hby at_305) rfl ?_
       refine og_virtual (pc' := 310) (cells' := 49) (slots' := 357) (W := 0) X32 hx hZ (rm_txt_E l Z a0 hw nb14 nl17 nb28 ch  k28  cs hcs h32 n0 O F__children_nb14 E_nl17 F_modCount_nl17 F_elementData_nl17 F_size_nl17 V_nb28 E_ch S_CS) hown (ow288 hw) (ow289 hw) (own_nf hZ (ow291 hw)) (ow291 hw) (ow290 hw) (ow2 hw) (ow292 hw) (by decide) (by rw [hml]; rfl) e32 opd_31 [] [] rfl rfl rfl rfl (by decide) (by decide) rfl rfl (by decide) (by decide) E_nb14 (hb hby at_307) rfl (fun v33 T33 h33 L33 X33 e33 z33 => ?_)
       obtain ⟨na33, nb33, k33, rfl, Nq33, K33, sa33, sb33, E_na33, F_value_na33, F_coder_na33, V_nb33⟩ := z33; have N := Fr.app N Nq33
       have s_na33 : h32.size ≤ na33 := sa33
       have ne_na32_na33 : na32 ≠ na33 := Nat.ne_of_lt (Nat.lt_of_lt_of_le E_na32.lt s_na33)
       have E_na32 := E_na32.keep K33; have F_value_na32 := F_value_na32.keep K33 nin0; have F_coder_na32 := F_coder_na32.keep K33 nin0; have V_nb32 := V_nb32.keep K33 nin0; have O := O.keep K33 all0
       have hk := Nat.le_trans hk K33.1; have CR := CR.trans (CHr.keep K33 sf0 CR.1)
       refine og_astore (L' := #[.val (.int p0), .val (.int p1), .val (.int p2), .val (.int p3), .val (.int p4), .val (.int 0), .val (.int 0), .val (.int b7), .val (.int kd), .val (.ref nb14), .val (.ref nb18), .val (.ref nb22), .val (.ref na26), .val (.ref ch), .val (.int 0), .val (.ref nb14), .val (.ref nu29), .val (.int 1), .val (.ref na32), .val (.ref na33)]) X33 hx rfl rfl (hb hby at_310) rfl ?_
       refine og_iload X33 hx rfl (hb hby at_312) rfl ?_
       refine og_if_eq (pc1 := 331) (pc2 := 317) X33 hx (hb hby at_314) (by decide) (by decide) rfl (fun q => absurd q (by decide)) (fun _ => ?_)
       refine og_aload X33 hx rfl rfl (hb hby at_317) rfl ?_
       refine og_aload X33 hx rfl rfl (hb hby at_319) rfl ?_
       refine og_virtual (pc' := 324) (cells' := 49) (slots' := 357) (W := 0) X33 hx hZ (rm_eq0_0 l Z a0 hw na33 na32 nb33 nb32 k33 k32  1 (by simp) cs hcs h33 n0 O E_na33 F_value_na33 F_coder_na33 V_nb33 E_na32 F_value_na32 F_coder_na32 V_nb32 S_CS (Ne.symm ne_na32_na33)) hown (ow363 hw) (ow364 hw) (own_nf hZ (ow366 hw)) (ow366 hw) (ow365 hw) (ow9 hw) (ow367 hw) (by decide) (by rw [hml]; rfl) e33 opd_29 [(.ref na32)] [] rfl rfl rfl rfl (by decide) (by decide) rfl rfl (by decide) (by decide) E_na33 (hb hby at_321) rfl (fun v34 T34 h34 L34 X34 e34 z34 => ?_)
       obtain ⟨rfl, Nq34, hq34⟩ := z34; replace e34 := e34.trans hq34; have N := Fr.app N Nq34
       refine og_if_eq (pc1 := 331) (pc2 := 327) X34 hx (hb hby at_324) (by decide) (by decide) rfl (fun q => absurd q (by decide)) (fun _ => ?_)
       refine og_iconst (v := 1) X34 hx rfl (hb hby at_327) rfl ?_
       refine og_goto (pc' := 332) X34 hx (hb hby at_328) (by decide) (by decide) ?_
       refine og_retNW X34 hx hZ hlk hEL hS e34 es hk CR hret (by simp) (hb hby at_332) (by decide) (by decide) ?_
       exact ⟨rfl, N⟩
      ·
       refine og_if_eq (pc1 := 160) (pc2 := 147) X27 hx (hb hby at_144) (by decide) (by decide) rfl (fun q => absurd q (by decide)) (fun _ => ?_)
       refine og_iload X27 hx rfl (hb hby at_147) rfl ?_
       have J191 : ∀ (T35 : State) (h35 : Heap) (l35 : List Loc) (vm35 : Vm) (kk35 : Nat) (hS : s.Since vm35 kk35) (hk : kk35 ≤ h35.size) (hZ : Z.Warmed39 vm35) (hown : vm35.findClass "com/example/marsh_tit/marshtit/stanza/ElementAddPinLaw" = some m.cls) (CR : CHr Z own_EL s.vm h0 vm35 h35) (X35 : Stand p l e room_1 (s.setVm vm35) m #[(.int p0), (.int p1), (.int p2), (.int p3), (.int p4)] below meth c T35 l35 36 282) (e35 : T35.heap = h35) (N : Fr n0 l35) (O : Old Z n0 h35) (K : Keep h0 h35 []) (bt : Addr) (kt : ClassId) (Ov_bt : Ovr Z kt "java/lang/Object") (g_bt : n0 ≤ bt) (sz_bt : h0.size ≤ bt) (ne_nb14_bt : nb14 ≠ bt) (ne_nl17_bt : nl17 ≠ bt) (ne_na26_bt : na26 ≠ bt) (ne_nb26_bt : nb26 ≠ bt) (ne_ch_bt : ch ≠ bt) (ne_nb18_bt : nb18 ≠ bt) (ne_nb22_bt : nb22 ≠ bt) (E_nb14 : Exa Z h35 nb14 "com/example/marsh_tit/marshtit/stanza/Element") (F__children_nb14 : Fld Z h35 nb14 "com/example/marsh_tit/marshtit/stanza/Element" "_children" "Ljava/util/List;" (.ref nl17)) (E_nl17 : Exa Z h35 nl17 "java/util/ArrayList") (F_modCount_nl17 : Fld Z h35 nl17 "java/util/AbstractList" "modCount" "I" (.int 1)) (F_elementData_nl17 : Fld Z h35 nl17 "java/util/ArrayList" "elementData" "[Ljava/lang/Object;" (.ref bt)) (F_size_nl17 : Fld Z h35 nl17 "java/util/ArrayList" "size" "I" (.int 1)) (E_nb18 : Exa Z h35 nb18 "com/example/marsh_tit/marshtit/stanza/Element") (E_nb22 : Exa Z h35 nb22 "com/example/marsh_tit/marshtit/stanza/Element") (E_na26 : Exa Z h35 na26 "java/lang/String") (F_value_na26 : Fld Z h35 na26 "java/lang/String" "value" "[B" (.ref nb26)) (F_coder_na26 : Fld Z h35 na26 "java/lang/String" "coder" "B" (.int 0)) (V_nb26 : Arv Z h35 nb26 k26 .byte (1 : Int32) [(.int gg26)] (.int 0)) (E_ch : Exa Z h35 ch "com/example/marsh_tit/marshtit/stanza/Element") (V_bt : Arv Z h35 bt kt (.object "java/lang/Object") (10 : Int32) [(.ref na26), .null, .null, .null, .null, .null, .null, .null, .null, .null] .null), OG p e below (FinW s Z own_EL (fun v h L => v = some (.int 1) ∧ Fr n0 L) 88 4480) (T35.setTop (mkF m 191 #[.val (.int p0), .val (.int p1), .val (.int p2), .val (.int p3), .val (.int p4), .val (.int 0), .val (.int 1), .val (.int b7), .val (.int kd), .val (.ref nb14), .val (.ref nb18), .val (.ref nb22), .val (.ref na26), .val (.ref ch), .unset, .unset, .unset, .unset, .unset, .unset] [])) := by
        intro T35 h35 l35 vm35 kk35 hS hk hZ hown CR X35 e35 N O K bt kt Ov_bt g_bt sz_bt ne_nb14_bt ne_nl17_bt ne_na26_bt ne_nb26_bt ne_ch_bt ne_nb18_bt ne_nb22_bt E_nb14 F__children_nb14 E_nl17 F_modCount_nl17 F_elementData_nl17 F_size_nl17 E_nb18 E_nb22 E_na26 F_value_na26 F_coder_na26 V_nb26 E_ch V_bt
        refine og_iload X35 hx rfl (hb hby at_191) rfl ?_
        refine og_if_eq (pc1 := 200) (pc2 := 196) X35 hx (hb hby at_193) (by decide) (by decide) rfl (fun _ => ?_) (fun q => absurd q (by decide))
        refine og_iconst (v := 0) X35 hx rfl (hb hby at_200) rfl ?_
        refine og_istore (L' := #[.val (.int p0), .val (.int p1), .val (.int p2), .val (.int p3), .val (.int p4), .val (.int 0), .val (.int 1), .val (.int b7), .val (.int kd), .val (.ref nb14), .val (.ref nb18), .val (.ref nb22), .val (.ref na26), .val (.ref ch), .val (.int 0), .unset, .unset, .unset, .unset, .unset]) X35 hx rfl (hb hby at_201) rfl ?_
        refine og_aload X35 hx rfl rfl (hb hby at_203) rfl ?_
        refine og_aload X35 hx rfl rfl (hb hby at_205) rfl ?_
        refine og_virtualW (pc' := 210) (cells' := 38) (slots' := 306) (W := 0) X35 hx hZ (rm_ea_1 l Z a0 hw nb14 nl17 ch bt na26 kt Ov_bt h35 n0 O hEL F__children_nb14 E_nl17 F_modCount_nl17 F_elementData_nl17 F_size_nl17 E_ch V_bt g_nl17 g_bt ne_nb14_nl17 ne_nl17_bt ne_nb14_bt) hEL hS hk CR.1 all0 hown (ow104 hw) (ow105 hw) (own_nf hZ (ow107 hw)) (ow107 hw) (ow106 hw) (ow2 hw) (ow108 hw) (by decide) (by rw [hml]; rfl) e35 opd_37 [(.ref ch)] [] rfl rfl rfl rfl (by decide) (by decide) rfl rfl (by decide) (by decide) E_nb14 (hb hby at_207) rfl (fun v36 T36 h36 L36 kk36 X36 e36 hS hk hZ hown cr36 z36 => ?_)
        obtain ⟨rfl, Nq36, K36, E_nl17', F_modCount_nl17', F_elementData_nl17', F_size_nl17', V_bt'⟩ := z36; have N := Fr.app N Nq36
        have E_nb14 := E_nb14.keep K36; have F__children_nb14 := F__children_nb14.keep K36 (ninS ne_nb14_nl17 (ninS ne_nb14_bt nin0)); have E_na26 := E_na26.keep K36
        have F_value_na26 := F_value_na26.keep K36 (ninS (Ne.symm ne_nl17_na26) (ninS ne_na26_bt nin0)); have F_coder_na26 := F_coder_na26.keep K36 (ninS (Ne.symm ne_nl17_na26) (ninS ne_na26_bt nin0)); have V_nb26 := V_nb26.keep K36 (ninS (Ne.symm ne_nl17_nb26) (ninS ne_nb26_bt nin0)); have E_ch := E_ch.keep K36; have O := O.keep K36 (allS g_nl17 (allS g_bt all0))
        have CR := CR.trans cr36
        have V_bt := V_bt'
        have E_nl17 := E_nl17'; have F_modCount_nl17 := F_modCount_nl17'; have F_elementData_nl17 := F_elementData_nl17'; have F_size_nl17 := F_size_nl17'
        refine og_astore (L' := #[.val (.int p0), .val (.int p1), .val (.int p2), .val (.int p3), .val (.int p4), .val (.int 0), .val (.int 1), .val (.int b7), .val (.int kd), .val (.ref nb14), .val (.ref nb18), .val (.ref nb22), .val (.ref na26), .val (.ref ch), .val (.int 0), .val (.ref nb14), .unset, .unset, .unset, .unset]) X36 hx rfl rfl (hb hby at_210) rfl ?_
        refine og_aload X36 hx rfl rfl (hb hby at_212) rfl ?_
        refine og_virtual (pc' := 217) (cells' := 42) (slots' := 325) (W := 0) X36 hx hZ (rm_els_SE l Z a0 hw nb14 nl17 bt na26 ch mA mL mR kt de kde h36 n0 O F__children_nb14 E_nl17 F_modCount_nl17 F_elementData_nl17 F_size_nl17 V_bt E_na26 E_ch S_DE V_de M_mA M_mL M_mR ne_mA_mL ne_mA_mR) hown (ow145 hw) (ow146 hw) (own_nf hZ (ow148 hw)) (ow148 hw) (ow147 hw) (ow2 hw) (ow149 hw) (by decide) (by rw [hml]; rfl) e36 opd_38 [] [] rfl rfl rfl rfl (by decide) (by decide) rfl rfl (by decide) (by decide) E_nb14 (hb hby at_214) rfl (fun v37 T37 h37 L37 X37 e37 z37 => ?_)
        obtain ⟨nu37, nl37, nb37, kn37, rfl, Nq37, K37, E_nu37, F_c_nu37, F_list_nu37, E_nl37, F_modCount_nl37, F_elementData_nl37, F_size_nl37, V_nb37⟩ := z37; have N := Fr.app N Nq37
        have E_nb14 := E_nb14.keep K37; have F__children_nb14 := F__children_nb14.keep K37 nin0; have E_nl17 := E_nl17.keep K37; have E_na26 := E_na26.keep K37
        have F_value_na26 := F_value_na26.keep K37 nin0; have F_coder_na26 := F_coder_na26.keep K37 nin0; have V_nb26 := V_nb26.keep K37 nin0; have E_ch := E_ch.keep K37; have F_modCount_nl17 := F_modCount_nl17.keep K37 nin0; have F_elementData_nl17 := F_elementData_nl17.keep K37 nin0
        have F_size_nl17 := F_size_nl17.keep K37 nin0; have V_bt := V_bt.keep K37 nin0; have O := O.keep K37 all0; have hk := Nat.le_trans hk K37.1; have CR := CR.trans (CHr.keep K37 sf0 CR.1)
        refine og_astore (L' := #[.val (.int p0), .val (.int p1), .val (.int p2), .val (.int p3), .val (.int p4), .val (.int 0), .val (.int 1), .val (.int b7), .val (.int kd), .val (.ref nb14), .val (.ref nb18), .val (.ref nb22), .val (.ref na26), .val (.ref ch), .val (.int 0), .val (.ref nb14), .val (.ref nu37), .unset, .unset, .unset]) X37 hx rfl rfl (hb hby at_217) rfl ?_
        refine og_aload X37 hx rfl rfl (hb hby at_219) rfl ?_
        refine og_aload X37 hx rfl rfl (hb hby at_221) rfl ?_
        refine og_acmp_ne (pc1 := 258) (pc2 := 226) X37 hx rfl rfl (hb hby at_223) (by decide) (by decide) rfl (fun q => absurd rfl q) (fun _ => ?_)
        refine og_aload X37 hx rfl rfl (hb hby at_226) rfl ?_
        refine og_interface (pc' := 233) (cells' := 42) (slots' := 325) (W := 0) X37 hx hZ (rm_usz l Z a0 hw nu37 nl37 (1 : Int32) h37 n0 O E_nu37 F_c_nu37 E_nl37 F_size_nl37) hown (ow243 hw) (ow244 hw) (ow245 hw) (ow246 hw) (ow247 hw) (ow248 hw) (ow249 hw) (ow250 hw) (ow236 hw) (ow251 hw) (by decide) (by rw [hml]; rfl) e37 opd_14 [] [] rfl rfl rfl rfl (by decide) (by decide) rfl rfl (by decide) (by decide) E_nu37 (hb hby at_228) rfl (fun v38 T38 h38 L38 X38 e38 z38 => ?_)
        obtain ⟨rfl, Nq38, hq38⟩ := z38; replace e38 := e38.trans hq38; have N := Fr.app N Nq38
        refine og_iload X38 hx rfl (hb hby at_233) rfl ?_
        refine og_iconst (v := 1) X38 hx rfl (hb hby at_235) rfl ?_
        refine og_iadd X38 hx (hb hby at_236) rfl ?_
        show OG p e below _ (T38.setTop (mkF m 237 #[.val (.int p0), .val (.int p1), .val (.int p2), .val (.int p3), .val (.int p4), .val (.int 0), .val (.int 1), .val (.int b7), .val (.int kd), .val (.ref nb14), .val (.ref nb18), .val (.ref nb22), .val (.ref na26), .val (.ref ch), .val (.int 0), .val (.ref nb14), .val (.ref nu37), .unset, .unset, .unset] [(.int 1), (.int 1)]))
        refine og_icmp_ne (pc1 := 258) (pc2 := 240) X38 hx (hb hby at_237) (by decide) (by decide) rfl (fun q => absurd q (by decide)) (fun _ => ?_)
        refine og_aload X38 hx rfl rfl (hb hby at_240) rfl ?_
        refine og_iload X38 hx rfl (hb hby at_242) rfl ?_
        refine og_interface (pc' := 249) (cells' := 42) (slots' := 325) (W := 0) X38 hx hZ (rm_ug_0_1 l Z a0 hw nu37 nl37 nb37 ch kn37 h37 n0 O F_list_nu37 E_nl37 F_elementData_nl37 F_size_nl37 V_nb37) hown (ow261 hw) (ow262 hw) (ow263 hw) (ow264 hw) (ow265 hw) (ow266 hw) (ow267 hw) (ow250 hw) (ow230 hw) (ow268 hw) (by decide) (by rw [hml]; rfl) e38 opd_10 [(.int 0)] [] rfl rfl rfl rfl (by decide) (by decide) rfl rfl (by decide) (by decide) E_nu37 (hb hby at_244) rfl (fun v39 T39 h39 L39 X39 e39 z39 => ?_)
        obtain ⟨rfl, Nq39, hq39⟩ := z39; replace e39 := e39.trans hq39; have N := Fr.app N Nq39
        refine og_aload X39 hx rfl rfl (hb hby at_249) rfl ?_
        refine og_acmp_ne (pc1 := 258) (pc2 := 254) X39 hx rfl rfl (hb hby at_251) (by decide) (by decide) rfl (fun q => absurd rfl q) (fun _ => ?_)
        refine og_iconst (v := 1) X39 hx rfl (hb hby at_254) rfl ?_
        refine og_goto (pc' := 259) X39 hx (hb hby at_255) (by decide) (by decide) ?_
        refine og_istore (L' := #[.val (.int p0), .val (.int p1), .val (.int p2), .val (.int p3), .val (.int p4), .val (.int 0), .val (.int 1), .val (.int b7), .val (.int kd), .val (.ref nb14), .val (.ref nb18), .val (.ref nb22), .val (.ref na26), .val (.ref ch), .val (.int 0), .val (.ref nb14), .val (.ref nu37), .val (.int 1), .unset, .unset]) X39 hx rfl (hb hby at_259) rfl ?_
        refine og_iload X39 hx rfl (hb hby at_261) rfl ?_
        refine og_if_eq (pc1 := 291) (pc2 := 266) X39 hx (hb hby at_263) (by decide) (by decide) rfl (fun q => absurd q (by decide)) (fun _ => ?_)
        refine og_iload X39 hx rfl (hb hby at_266) rfl ?_
        refine og_if_eq (pc1 := 291) (pc2 := 271) X39 hx (hb hby at_268) (by decide) (by decide) rfl (fun _ => ?_) (fun q => absurd q (by decide))
        refine og_iload X39 hx rfl (hb hby at_291) rfl ?_
        refine og_if_eq (pc1 := 301) (pc2 := 296) X39 hx (hb hby at_293) (by decide) (by decide) rfl (fun q => absurd q (by decide)) (fun _ => ?_)
        refine og_aload X39 hx rfl rfl (hb hby at_296) rfl ?_
        refine og_goto (pc' := 303) X39 hx (hb hby at_298) (by decide) (by decide) ?_
        refine og_astore (L' := #[.val (.int p0), .val (.int p1), .val (.int p2), .val (.int p3), .val (.int p4), .val (.int 0), .val (.int 1), .val (.int b7), .val (.int kd), .val (.ref nb14), .val (.ref nb18), .val (.ref nb22), .val (.ref na26), .val (.ref ch), .val (.int 0), .val (.ref nb14), .val (.ref nu37), .val (.int 1), .val (.ref na26), .unset]) X39 hx rfl rfl (hb hby at_303) rfl ?_
        refine og_aload X39 hx rfl rfl (hb hby at_305) rfl ?_
        refine og_virtual (pc' := 310) (cells' := 47) (slots' := 354) (W := 0) X39 hx hZ (rm_txt_SE l Z a0 hw nb14 nl17 bt na26 ch nb26 kt k26 gg26 cs hcs h37 n0 O F__children_nb14 E_nl17 F_modCount_nl17 F_elementData_nl17 F_size_nl17 V_bt E_na26 F_value_na26 F_coder_na26 V_nb26 E_ch S_CS) hown (ow288 hw) (ow289 hw) (own_nf hZ (ow291 hw)) (ow291 hw) (ow290 hw) (ow2 hw) (ow292 hw) (by decide) (by rw [hml]; rfl) e39 opd_31 [] [] rfl rfl rfl rfl (by decide) (by decide) rfl rfl (by decide) (by decide) E_nb14 (hb hby at_307) rfl (fun v40 T40 h40 L40 X40 e40 z40 => ?_)
        obtain ⟨na40, nb40, k40, rfl, Nq40, K40, sa40, sb40, E_na40, F_value_na40, F_coder_na40, V_nb40⟩ := z40; have N := Fr.app N Nq40
        have s_na40 : h37.size ≤ na40 := sa40
        have ne_na26_na40 : na26 ≠ na40 := Nat.ne_of_lt (Nat.lt_of_lt_of_le E_na26.lt s_na40)
        have E_na26 := E_na26.keep K40; have F_value_na26 := F_value_na26.keep K40 nin0; have F_coder_na26 := F_coder_na26.keep K40 nin0; have V_nb26 := V_nb26.keep K40 nin0
        have O := O.keep K40 all0; have hk := Nat.le_trans hk K40.1; have CR := CR.trans (CHr.keep K40 sf0 CR.1)
        refine og_astore (L' := #[.val (.int p0), .val (.int p1), .val (.int p2), .val (.int p3), .val (.int p4), .val (.int 0), .val (.int 1), .val (.int b7), .val (.int kd), .val (.ref nb14), .val (.ref nb18), .val (.ref nb22), .val (.ref na26), .val (.ref ch), .val (.int 0), .val (.ref nb14), .val (.ref nu37), .val (.int 1), .val (.ref na26), .val (.ref na40)]) X40 hx rfl rfl (hb hby at_310) rfl ?_
        refine og_iload X40 hx rfl (hb hby at_312) rfl ?_
        refine og_if_eq (pc1 := 331) (pc2 := 317) X40 hx (hb hby at_314) (by decide) (by decide) rfl (fun q => absurd q (by decide)) (fun _ => ?_)
        refine og_aload X40 hx rfl rfl (hb hby at_317) rfl ?_
        refine og_aload X40 hx rfl rfl (hb hby at_319) rfl ?_
        refine og_virtual (pc' := 324) (cells' := 47) (slots' := 354) (W := 0) X40 hx hZ (rm_eq1_1 l Z a0 hw na40 na26 nb40 nb26 k40 k26 gg26 gg26 1 (by simp) cs hcs h40 n0 O E_na40 F_value_na40 F_coder_na40 V_nb40 E_na26 F_value_na26 F_coder_na26 V_nb26 S_CS (Ne.symm ne_na26_na40)) hown (ow363 hw) (ow364 hw) (own_nf hZ (ow366 hw)) (ow366 hw) (ow365 hw) (ow9 hw) (ow367 hw) (by decide) (by rw [hml]; rfl) e40 opd_29 [(.ref na26)] [] rfl rfl rfl rfl (by decide) (by decide) rfl rfl (by decide) (by decide) E_na40 (hb hby at_321) rfl (fun v41 T41 h41 L41 X41 e41 z41 => ?_)
        obtain ⟨rfl, Nq41, hq41⟩ := z41; replace e41 := e41.trans hq41; have N := Fr.app N Nq41
        refine og_if_eq (pc1 := 331) (pc2 := 327) X41 hx (hb hby at_324) (by decide) (by decide) rfl (fun q => absurd q (by decide)) (fun _ => ?_)
        refine og_iconst (v := 1) X41 hx rfl (hb hby at_327) rfl ?_
        refine og_goto (pc' := 332) X41 hx (hb hby at_328) (by decide) (by decide) ?_
        refine og_retNW X41 hx hZ hlk hEL hS e41 es hk CR hret (by simp) (hb hby at_332) (by decide) (by decide) ?_
        exact ⟨rfl, N⟩
       rcases hb7 with rfl | rfl
       ·
        refine og_if_eq (pc1 := 160) (pc2 := 152) X27 hx (hb hby at_149) (by decide) (by decide) rfl (fun _ => ?_) (fun q => absurd q (by decide))
        refine og_iload X27 hx rfl (hb hby at_160) rfl ?_
        refine og_if_eq (pc1 := 173) (pc2 := 165) X27 hx (hb hby at_162) (by decide) (by decide) rfl (fun _ => ?_) (fun q => absurd q (by decide))
        refine og_iload X27 hx rfl (hb hby at_173) rfl ?_
        refine og_if_eq (pc1 := 191) (pc2 := 178) X27 hx (hb hby at_175) (by decide) (by decide) rfl (fun q => absurd q (by decide)) (fun _ => ?_)
        refine og_iload X27 hx rfl (hb hby at_178) rfl ?_
        refine og_if_ne (pc1 := 191) (pc2 := 183) X27 hx (hb hby at_180) (by decide) (by decide) rfl (fun q => absurd q (by decide)) (fun _ => ?_)
        refine og_aload X27 hx rfl rfl (hb hby at_183) rfl ?_
        refine og_aload X27 hx rfl rfl (hb hby at_185) rfl ?_
        refine og_virtual (pc' := 190) (cells' := 36) (slots' := 282) (W := 0) X27 hx hZ (rm_at_0 l Z a0 hw nb14 nl17 na26 de kde nb26 k26 gg26 h27 n0 O F__children_nb14 E_nl17 F_modCount_nl17 F_elementData_nl17 F_size_nl17 S_DE V_de E_na26 F_value_na26 F_coder_na26 V_nb26 g_nl17 (Ne.symm ne_nl17_na26) (Ne.symm ne_nl17_nb26) ne_nb14_nl17) hown (ow371 hw) (ow372 hw) (own_nf hZ (ow374 hw)) (ow374 hw) (ow373 hw) (ow2 hw) (ow375 hw) (by decide) (by rw [hml]; rfl) e27 opd_39 [(.ref na26)] [] rfl rfl rfl rfl (by decide) (by decide) rfl rfl (by decide) (by decide) E_nb14 (hb hby at_187) rfl (fun v42 T42 h42 L42 X42 e42 z42 => ?_)
        obtain ⟨nb42, k42, rfl, Nq42, K42, sb42, E_nl17', F_modCount_nl17', F_elementData_nl17', F_size_nl17', V_nb42, Ov_nb42⟩ := z42; have N := Fr.app N Nq42
        have s_nb42 : h27.size ≤ nb42 := sb42; have g_nb42 : n0 ≤ nb42 := Nat.le_trans (own_n0 O) s_nb42; have sz_nb42 : h0.size ≤ nb42 := Nat.le_trans K.1 s_nb42; have ne_nb14_nb42 : nb14 ≠ nb42 := Nat.ne_of_lt (Nat.lt_of_lt_of_le E_nb14.lt s_nb42); have ne_nl17_nb42 : nl17 ≠ nb42 := Nat.ne_of_lt (Nat.lt_of_lt_of_le E_nl17.lt s_nb42)
        have ne_nb18_nb42 : nb18 ≠ nb42 := Nat.ne_of_lt (Nat.lt_of_lt_of_le E_nb18.lt s_nb42); have ne_nb22_nb42 : nb22 ≠ nb42 := Nat.ne_of_lt (Nat.lt_of_lt_of_le E_nb22.lt s_nb42); have ne_na26_nb42 : na26 ≠ nb42 := Nat.ne_of_lt (Nat.lt_of_lt_of_le E_na26.lt s_nb42); have ne_nb26_nb42 : nb26 ≠ nb42 := Nat.ne_of_lt (Nat.lt_of_lt_of_le V_nb26.lt s_nb42); have ne_ch_nb42 : ch ≠ nb42 := Nat.ne_of_lt (Nat.lt_of_lt_of_le E_ch.lt s_nb42)
        have sf42 : ∀ x ∈ ([nl17] : List Addr), Safe Z own_EL vm27 h27 x := (sfS (Safe.exa hZ.alike E_nl17 (by decide) (by decide)) sf0); have E_nb14 := E_nb14.keep K42; have F__children_nb14 := F__children_nb14.keep K42 (ninS ne_nb14_nl17 nin0); have E_nb18 := E_nb18.keep K42; have E_nb22 := E_nb22.keep K42
        have E_na26 := E_na26.keep K42; have F_value_na26 := F_value_na26.keep K42 (ninS (Ne.symm ne_nl17_na26) nin0); have F_coder_na26 := F_coder_na26.keep K42 (ninS (Ne.symm ne_nl17_na26) nin0); have V_nb26 := V_nb26.keep K42 (ninS (Ne.symm ne_nl17_nb26) nin0); have E_ch := E_ch.keep K42; have O := O.keep K42 (allS g_nl17 all0)
        have K := K.trans K42 (allS (Or.inr sz_nl17) all0); have hk := Nat.le_trans hk K42.1; have CR := CR.trans (CHr.keep K42 sf42 CR.1)
        have E_nl17 := E_nl17'; have F_modCount_nl17 := F_modCount_nl17'; have F_elementData_nl17 := F_elementData_nl17'; have F_size_nl17 := F_size_nl17'
        refine og_pop X42 hx rfl (hb hby at_190) rfl ?_
        have V_bt := V_nb42
        exact J191 T42 _ _ vm27 _ hS hk hZ hown CR (own_mono X42 (by decide) (by decide)) e42 N O K _ _ Ov_nb42 g_nb42 sz_nb42 ne_nb14_nb42 ne_nl17_nb42 ne_na26_nb42 ne_nb26_nb42 ne_ch_nb42 ne_nb18_nb42 ne_nb22_nb42 E_nb14 F__children_nb14 E_nl17 F_modCount_nl17 F_elementData_nl17 F_size_nl17 E_nb18 E_nb22 E_na26 F_value_na26 F_coder_na26 V_nb26 E_ch V_bt
       ·
        refine og_if_eq (pc1 := 160) (pc2 := 152) X27 hx (hb hby at_149) (by decide) (by decide) rfl (fun q => absurd q (by decide)) (fun _ => ?_)
        refine og_aload X27 hx rfl rfl (hb hby at_152) rfl ?_
        refine og_aload X27 hx rfl rfl (hb hby at_154) rfl ?_
        refine og_virtual (pc' := 159) (cells' := 36) (slots' := 282) (W := 0) X27 hx hZ (rm_at_0 l Z a0 hw nb14 nl17 na26 de kde nb26 k26 gg26 h27 n0 O F__children_nb14 E_nl17 F_modCount_nl17 F_elementData_nl17 F_size_nl17 S_DE V_de E_na26 F_value_na26 F_coder_na26 V_nb26 g_nl17 (Ne.symm ne_nl17_na26) (Ne.symm ne_nl17_nb26) ne_nb14_nl17) hown (ow371 hw) (ow372 hw) (own_nf hZ (ow374 hw)) (ow374 hw) (ow373 hw) (ow2 hw) (ow375 hw) (by decide) (by rw [hml]; rfl) e27 opd_39 [(.ref na26)] [] rfl rfl rfl rfl (by decide) (by decide) rfl rfl (by decide) (by decide) E_nb14 (hb hby at_156) rfl (fun v43 T43 h43 L43 X43 e43 z43 => ?_)
        obtain ⟨nb43, k43, rfl, Nq43, K43, sb43, E_nl17', F_modCount_nl17', F_elementData_nl17', F_size_nl17', V_nb43, Ov_nb43⟩ := z43; have N := Fr.app N Nq43
        have s_nb43 : h27.size ≤ nb43 := sb43; have g_nb43 : n0 ≤ nb43 := Nat.le_trans (own_n0 O) s_nb43; have sz_nb43 : h0.size ≤ nb43 := Nat.le_trans K.1 s_nb43; have ne_nb14_nb43 : nb14 ≠ nb43 := Nat.ne_of_lt (Nat.lt_of_lt_of_le E_nb14.lt s_nb43); have ne_nl17_nb43 : nl17 ≠ nb43 := Nat.ne_of_lt (Nat.lt_of_lt_of_le E_nl17.lt s_nb43)
        have ne_nb18_nb43 : nb18 ≠ nb43 := Nat.ne_of_lt (Nat.lt_of_lt_of_le E_nb18.lt s_nb43); have ne_nb22_nb43 : nb22 ≠ nb43 := Nat.ne_of_lt (Nat.lt_of_lt_of_le E_nb22.lt s_nb43); have ne_na26_nb43 : na26 ≠ nb43 := Nat.ne_of_lt (Nat.lt_of_lt_of_le E_na26.lt s_nb43); have ne_nb26_nb43 : nb26 ≠ nb43 := Nat.ne_of_lt (Nat.lt_of_lt_of_le V_nb26.lt s_nb43); have ne_ch_nb43 : ch ≠ nb43 := Nat.ne_of_lt (Nat.lt_of_lt_of_le E_ch.lt s_nb43)
        have sf43 : ∀ x ∈ ([nl17] : List Addr), Safe Z own_EL vm27 h27 x := (sfS (Safe.exa hZ.alike E_nl17 (by decide) (by decide)) sf0); have E_nb14 := E_nb14.keep K43; have F__children_nb14 := F__children_nb14.keep K43 (ninS ne_nb14_nl17 nin0); have E_nb18 := E_nb18.keep K43; have E_nb22 := E_nb22.keep K43
        have E_na26 := E_na26.keep K43; have F_value_na26 := F_value_na26.keep K43 (ninS (Ne.symm ne_nl17_na26) nin0); have F_coder_na26 := F_coder_na26.keep K43 (ninS (Ne.symm ne_nl17_na26) nin0); have V_nb26 := V_nb26.keep K43 (ninS (Ne.symm ne_nl17_nb26) nin0); have E_ch := E_ch.keep K43; have O := O.keep K43 (allS g_nl17 all0)
        have K := K.trans K43 (allS (Or.inr sz_nl17) all0); have hk := Nat.le_trans hk K43.1; have CR := CR.trans (CHr.keep K43 sf43 CR.1)
        have E_nl17 := E_nl17'; have F_modCount_nl17 := F_modCount_nl17'; have F_elementData_nl17 := F_elementData_nl17'; have F_size_nl17 := F_size_nl17'
        refine og_pop X43 hx rfl (hb hby at_159) rfl ?_
        refine og_iload X43 hx rfl (hb hby at_160) rfl ?_
        refine og_if_eq (pc1 := 173) (pc2 := 165) X43 hx (hb hby at_162) (by decide) (by decide) rfl (fun _ => ?_) (fun q => absurd q (by decide))
        refine og_iload X43 hx rfl (hb hby at_173) rfl ?_
        refine og_if_eq (pc1 := 191) (pc2 := 178) X43 hx (hb hby at_175) (by decide) (by decide) rfl (fun q => absurd q (by decide)) (fun _ => ?_)
        refine og_iload X43 hx rfl (hb hby at_178) rfl ?_
        refine og_if_ne (pc1 := 191) (pc2 := 183) X43 hx (hb hby at_180) (by decide) (by decide) rfl (fun _ => ?_) (fun q => absurd q (by decide))
        have V_bt := V_nb43
        exact J191 T43 _ _ vm27 _ hS hk hZ hown CR (own_mono X43 (by decide) (by decide)) e43 N O K _ _ Ov_nb43 g_nb43 sz_nb43 ne_nb14_nb43 ne_nl17_nb43 ne_na26_nb43 ne_nb26_nb43 ne_ch_nb43 ne_nb18_nb43 ne_nb22_nb43 E_nb14 F__children_nb14 E_nl17 F_modCount_nl17 F_elementData_nl17 F_size_nl17 E_nb18 E_nb22 E_na26 F_value_na26 F_coder_na26 V_nb26 E_ch V_bt
     ·
      refine og_iload X27 hx rfl (hb hby at_142) rfl ?_
      rcases hb6 with rfl | rfl
      ·
       refine og_if_eq (pc1 := 160) (pc2 := 147) X27 hx (hb hby at_144) (by decide) (by decide) rfl (fun _ => ?_) (fun q => absurd q (by decide))
       refine og_iload X27 hx rfl (hb hby at_160) rfl ?_
       refine og_if_eq (pc1 := 173) (pc2 := 165) X27 hx (hb hby at_162) (by decide) (by decide) rfl (fun q => absurd q (by decide)) (fun _ => ?_)
       refine og_aload X27 hx rfl rfl (hb hby at_165) rfl ?_
       refine og_aload X27 hx rfl rfl (hb hby at_167) rfl ?_
       refine og_virtualW (pc' := 172) (cells' := 38) (slots' := 306) (W := 0) X27 hx hZ (rm_ea_0 l Z a0 hw nb14 nl17 nb18 de kde h27 n0 O hEL F__children_nb14 E_nl17 F_modCount_nl17 F_elementData_nl17 F_size_nl17 E_nb18 S_DE V_de g_nl17 ne_nb14_nl17) hEL hS hk CR.1 all0 hown (ow104 hw) (ow105 hw) (own_nf hZ (ow107 hw)) (ow107 hw) (ow106 hw) (ow2 hw) (ow108 hw) (by decide) (by rw [hml]; rfl) e27 opd_37 [(.ref nb18)] [] rfl rfl rfl rfl (by decide) (by decide) rfl rfl (by decide) (by decide) E_nb14 (hb hby at_169) rfl (fun v44 T44 h44 L44 kk44 X44 e44 hS hk hZ hown cr44 z44 => ?_)
       obtain ⟨nb44, k44, rfl, Nq44, K44, sb44, E_nl17', F_modCount_nl17', F_elementData_nl17', F_size_nl17', V_nb44, Ov_nb44⟩ := z44; have N := Fr.app N Nq44
       have s_nb44 : h27.size ≤ nb44 := sb44; have g_nb44 : n0 ≤ nb44 := Nat.le_trans (own_n0 O) s_nb44; have ne_nb14_nb44 : nb14 ≠ nb44 := Nat.ne_of_lt (Nat.lt_of_lt_of_le E_nb14.lt s_nb44); have ne_nl17_nb44 : nl17 ≠ nb44 := Nat.ne_of_lt (Nat.lt_of_lt_of_le E_nl17.lt s_nb44)
       have E_nb14 := E_nb14.keep K44; have F__children_nb14 := F__children_nb14.keep K44 (ninS ne_nb14_nl17 nin0); have E_nb18 := E_nb18.keep K44
       have E_ch := E_ch.keep K44; have O := O.keep K44 (allS g_nl17 all0)
       have CR := CR.trans cr44
       have E_nl17 := E_nl17'; have F_modCount_nl17 := F_modCount_nl17'; have F_elementData_nl17 := F_elementData_nl17'; have F_size_nl17 := F_size_nl17'
       refine og_pop X44 hx rfl (hb hby at_172) rfl ?_
       refine og_iload X44 hx rfl (hb hby at_173) rfl ?_
       refine og_if_eq (pc1 := 191) (pc2 := 178) X44 hx (hb hby at_175) (by decide) (by decide) rfl (fun _ => ?_) (fun q => absurd q (by decide))
       refine og_iload X44 hx rfl (hb hby at_191) rfl ?_
       refine og_if_eq (pc1 := 200) (pc2 := 196) X44 hx (hb hby at_193) (by decide) (by decide) rfl (fun q => absurd q (by decide)) (fun _ => ?_)
       refine og_iconst (v := 1) X44 hx rfl (hb hby at_196) rfl ?_
       refine og_goto (pc' := 201) X44 hx (hb hby at_197) (by decide) (by decide) ?_
       refine og_istore (L' := #[.val (.int p0), .val (.int p1), .val (.int p2), .val (.int p3), .val (.int p4), .val (.int 1), .val (.int 0), .val (.int b7), .val (.int kd), .val (.ref nb14), .val (.ref nb18), .val (.ref nb22), .val (.ref na26), .val (.ref ch), .val (.int 1), .unset, .unset, .unset, .unset, .unset]) X44 hx rfl (hb hby at_201) rfl ?_
       refine og_aload X44 hx rfl rfl (hb hby at_203) rfl ?_
       refine og_aload X44 hx rfl rfl (hb hby at_205) rfl ?_
       refine og_virtualW (pc' := 210) (cells' := 40) (slots' := 330) (W := 0) X44 hx hZ (rm_ea_1 l Z a0 hw nb14 nl17 ch nb44 nb18 k44 Ov_nb44 h44 n0 O hEL F__children_nb14 E_nl17 F_modCount_nl17 F_elementData_nl17 F_size_nl17 E_ch V_nb44 g_nl17 g_nb44 ne_nb14_nl17 ne_nl17_nb44 ne_nb14_nb44) hEL hS hk CR.1 all0 hown (ow104 hw) (ow105 hw) (own_nf hZ (ow107 hw)) (ow107 hw) (ow106 hw) (ow2 hw) (ow108 hw) (by decide) (by rw [hml]; rfl) e44 opd_37 [(.ref ch)] [] rfl rfl rfl rfl (by decide) (by decide) rfl rfl (by decide) (by decide) E_nb14 (hb hby at_207) rfl (fun v45 T45 h45 L45 kk45 X45 e45 hS hk hZ hown cr45 z45 => ?_)
       obtain ⟨rfl, Nq45, K45, E_nl17', F_modCount_nl17', F_elementData_nl17', F_size_nl17', V_nb44'⟩ := z45; have N := Fr.app N Nq45
       have E_nb14 := E_nb14.keep K45; have F__children_nb14 := F__children_nb14.keep K45 (ninS ne_nb14_nl17 (ninS ne_nb14_nb44 nin0)); have E_nb18 := E_nb18.keep K45
       have E_ch := E_ch.keep K45; have O := O.keep K45 (allS g_nl17 (allS g_nb44 all0))
       have CR := CR.trans cr45
       have V_nb44 := V_nb44'
       have E_nl17 := E_nl17'; have F_modCount_nl17 := F_modCount_nl17'; have F_elementData_nl17 := F_elementData_nl17'; have F_size_nl17 := F_size_nl17'
       refine og_astore (L' := #[.val (.int p0), .val (.int p1), .val (.int p2), .val (.int p3), .val (.int p4), .val (.int 1), .val (.int 0), .val (.int b7), .val (.int kd), .val (.ref nb14), .val (.ref nb18), .val (.ref nb22), .val (.ref na26), .val (.ref ch), .val (.int 1), .val (.ref nb14), .unset, .unset, .unset, .unset]) X45 hx rfl rfl (hb hby at_210) rfl ?_
       refine og_aload X45 hx rfl rfl (hb hby at_212) rfl ?_
       refine og_virtual (pc' := 217) (cells' := 44) (slots' := 349) (W := 0) X45 hx hZ (rm_els_EE l Z a0 hw nb14 nl17 nb44 nb18 ch mA mL mR k44 de kde h45 n0 O F__children_nb14 E_nl17 F_modCount_nl17 F_elementData_nl17 F_size_nl17 V_nb44 E_nb18 E_ch S_DE V_de M_mA M_mL M_mR ne_mA_mL ne_mA_mR) hown (ow145 hw) (ow146 hw) (own_nf hZ (ow148 hw)) (ow148 hw) (ow147 hw) (ow2 hw) (ow149 hw) (by decide) (by rw [hml]; rfl) e45 opd_38 [] [] rfl rfl rfl rfl (by decide) (by decide) rfl rfl (by decide) (by decide) E_nb14 (hb hby at_214) rfl (fun v46 T46 h46 L46 X46 e46 z46 => ?_)
       obtain ⟨nu46, nl46, nb46, kn46, rfl, Nq46, K46, E_nu46, F_c_nu46, F_list_nu46, E_nl46, F_modCount_nl46, F_elementData_nl46, F_size_nl46, V_nb46⟩ := z46; have N := Fr.app N Nq46
       have E_nb14 := E_nb14.keep K46; have F__children_nb14 := F__children_nb14.keep K46 nin0; have E_nl17 := E_nl17.keep K46; have E_nb18 := E_nb18.keep K46
       have E_ch := E_ch.keep K46; have F_modCount_nl17 := F_modCount_nl17.keep K46 nin0; have F_elementData_nl17 := F_elementData_nl17.keep K46 nin0
       have F_size_nl17 := F_size_nl17.keep K46 nin0; have V_nb44 := V_nb44.keep K46 nin0; have O := O.keep K46 all0; have hk := Nat.le_trans hk K46.1; have CR := CR.trans (CHr.keep K46 sf0 CR.1)
       refine og_astore (L' := #[.val (.int p0), .val (.int p1), .val (.int p2), .val (.int p3), .val (.int p4), .val (.int 1), .val (.int 0), .val (.int b7), .val (.int kd), .val (.ref nb14), .val (.ref nb18), .val (.ref nb22), .val (.ref na26), .val (.ref ch), .val (.int 1), .val (.ref nb14), .val (.ref nu46), .unset, .unset, .unset]) X46 hx rfl rfl (hb hby at_217) rfl ?_
       refine og_aload X46 hx rfl rfl (hb hby at_219) rfl ?_
       refine og_aload X46 hx rfl rfl (hb hby at_221) rfl ?_
       refine og_acmp_ne (pc1 := 258) (pc2 := 226) X46 hx rfl rfl (hb hby at_223) (by decide) (by decide) rfl (fun q => absurd rfl q) (fun _ => ?_)
       refine og_aload X46 hx rfl rfl (hb hby at_226) rfl ?_
       refine og_interface (pc' := 233) (cells' := 44) (slots' := 349) (W := 0) X46 hx hZ (rm_usz l Z a0 hw nu46 nl46 (2 : Int32) h46 n0 O E_nu46 F_c_nu46 E_nl46 F_size_nl46) hown (ow243 hw) (ow244 hw) (ow245 hw) (ow246 hw) (ow247 hw) (ow248 hw) (ow249 hw) (ow250 hw) (ow236 hw) (ow251 hw) (by decide) (by rw [hml]; rfl) e46 opd_14 [] [] rfl rfl rfl rfl (by decide) (by decide) rfl rfl (by decide) (by decide) E_nu46 (hb hby at_228) rfl (fun v47 T47 h47 L47 X47 e47 z47 => ?_)
       obtain ⟨rfl, Nq47, hq47⟩ := z47; replace e47 := e47.trans hq47; have N := Fr.app N Nq47
       refine og_iload X47 hx rfl (hb hby at_233) rfl ?_
       refine og_iconst (v := 1) X47 hx rfl (hb hby at_235) rfl ?_
       refine og_iadd X47 hx (hb hby at_236) rfl ?_
       show OG p e below _ (T47.setTop (mkF m 237 #[.val (.int p0), .val (.int p1), .val (.int p2), .val (.int p3), .val (.int p4), .val (.int 1), .val (.int 0), .val (.int b7), .val (.int kd), .val (.ref nb14), .val (.ref nb18), .val (.ref nb22), .val (.ref na26), .val (.ref ch), .val (.int 1), .val (.ref nb14), .val (.ref nu46), .unset, .unset, .unset] [(.int 2), (.int 2)]))
       refine og_icmp_ne (pc1 := 258) (pc2 := 240) X47 hx (hb hby at_237) (by decide) (by decide) rfl (fun q => absurd q (by decide)) (fun _ => ?_)
       refine og_aload X47 hx rfl rfl (hb hby at_240) rfl ?_
       refine og_iload X47 hx rfl (hb hby at_242) rfl ?_
       refine og_interface (pc' := 249) (cells' := 44) (slots' := 349) (W := 0) X47 hx hZ (rm_ug_1_2 l Z a0 hw nu46 nl46 nb46 nb18 ch kn46 h46 n0 O F_list_nu46 E_nl46 F_elementData_nl46 F_size_nl46 V_nb46) hown (ow261 hw) (ow262 hw) (ow263 hw) (ow264 hw) (ow265 hw) (ow266 hw) (ow267 hw) (ow250 hw) (ow230 hw) (ow268 hw) (by decide) (by rw [hml]; rfl) e47 opd_10 [(.int 1)] [] rfl rfl rfl rfl (by decide) (by decide) rfl rfl (by decide) (by decide) E_nu46 (hb hby at_244) rfl (fun v48 T48 h48 L48 X48 e48 z48 => ?_)
       obtain ⟨rfl, Nq48, hq48⟩ := z48; replace e48 := e48.trans hq48; have N := Fr.app N Nq48
       refine og_aload X48 hx rfl rfl (hb hby at_249) rfl ?_
       refine og_acmp_ne (pc1 := 258) (pc2 := 254) X48 hx rfl rfl (hb hby at_251) (by decide) (by decide) rfl (fun q => absurd rfl q) (fun _ => ?_)
       refine og_iconst (v := 1) X48 hx rfl (hb hby at_254) rfl ?_
       refine og_goto (pc' := 259) X48 hx (hb hby at_255) (by decide) (by decide) ?_
       refine og_istore (L' := #[.val (.int p0), .val (.int p1), .val (.int p2), .val (.int p3), .val (.int p4), .val (.int 1), .val (.int 0), .val (.int b7), .val (.int kd), .val (.ref nb14), .val (.ref nb18), .val (.ref nb22), .val (.ref na26), .val (.ref ch), .val (.int 1), .val (.ref nb14), .val (.ref nu46), .val (.int 1), .unset, .unset]) X48 hx rfl (hb hby at_259) rfl ?_
       refine og_iload X48 hx rfl (hb hby at_261) rfl ?_
       refine og_if_eq (pc1 := 291) (pc2 := 266) X48 hx (hb hby at_263) (by decide) (by decide) rfl (fun q => absurd q (by decide)) (fun _ => ?_)
       refine og_iload X48 hx rfl (hb hby at_266) rfl ?_
       refine og_if_eq (pc1 := 291) (pc2 := 271) X48 hx (hb hby at_268) (by decide) (by decide) rfl (fun q => absurd q (by decide)) (fun _ => ?_)
       refine og_aload X48 hx rfl rfl (hb hby at_271) rfl ?_
       refine og_iconst (v := 0) X48 hx rfl (hb hby at_273) rfl ?_
       refine og_interface (pc' := 279) (cells' := 44) (slots' := 349) (W := 0) X48 hx hZ (rm_ug_0_2 l Z a0 hw nu46 nl46 nb46 nb18 ch kn46 h46 n0 O F_list_nu46 E_nl46 F_elementData_nl46 F_size_nl46 V_nb46) hown (ow261 hw) (ow262 hw) (ow263 hw) (ow264 hw) (ow265 hw) (ow266 hw) (ow267 hw) (ow250 hw) (ow230 hw) (ow268 hw) (by decide) (by rw [hml]; rfl) e48 opd_10 [(.int 0)] [] rfl rfl rfl rfl (by decide) (by decide) rfl rfl (by decide) (by decide) E_nu46 (hb hby at_274) rfl (fun v49 T49 h49 L49 X49 e49 z49 => ?_)
       obtain ⟨rfl, Nq49, hq49⟩ := z49; replace e49 := e49.trans hq49; have N := Fr.app N Nq49
       refine og_aload X49 hx rfl rfl (hb hby at_279) rfl ?_
       refine og_acmp_ne (pc1 := 288) (pc2 := 284) X49 hx rfl rfl (hb hby at_281) (by decide) (by decide) rfl (fun q => absurd rfl q) (fun _ => ?_)
       refine og_iconst (v := 1) X49 hx rfl (hb hby at_284) rfl ?_
       refine og_goto (pc' := 289) X49 hx (hb hby at_285) (by decide) (by decide) ?_
       refine og_istore (L' := #[.val (.int p0), .val (.int p1), .val (.int p2), .val (.int p3), .val (.int p4), .val (.int 1), .val (.int 0), .val (.int b7), .val (.int kd), .val (.ref nb14), .val (.ref nb18), .val (.ref nb22), .val (.ref na26), .val (.ref ch), .val (.int 1), .val (.ref nb14), .val (.ref nu46), .val (.int 1), .unset, .unset]) X49 hx rfl (hb hby at_289) rfl ?_
       refine og_iload X49 hx rfl (hb hby at_291) rfl ?_
       refine og_if_eq (pc1 := 301) (pc2 := 296) X49 hx (hb hby at_293) (by decide) (by decide) rfl (fun _ => ?_) (fun q => absurd q (by decide))
       refine og_ldcS (pc' := 303) (cells' := 46) (slots' := 353) (n := 0) (z := (0 : Int32)) (vs := []) X49 hx hZ hown (hw _ (List.mem_of_getElem? (i := 287) rfl)) (own_wS hw) e49 hS hk hEL (by decide) CR.1 ⟨by decide, by decide⟩ (by decide) (by decide) (by decide) (by decide) (hb hby at_301) rfl rfl rfl (by decide) (by decide) (fun na50 T50 h50 kk50 nb50 k50 X50 e50 E50 hS hk hZ hown E_na50 F_coder_na50 F_value_na50 V_nb50 cr50 hne50 => ?_)
       have E_nb14 := E_nb14.ext E50; have F__children_nb14 := F__children_nb14.ext E50; have E_nl17 := E_nl17.ext E50; have E_nb18 := E_nb18.ext E50
       have E_ch := E_ch.ext E50; have F_modCount_nl17 := F_modCount_nl17.ext E50; have F_elementData_nl17 := F_elementData_nl17.ext E50
       have F_size_nl17 := F_size_nl17.ext E50; have V_nb44 := V_nb44.ext E50
       have O := O.ext E50
       have CR := CR.trans cr50
       refine og_astore (L' := #[.val (.int p0), .val (.int p1), .val (.int p2), .val (.int p3), .val (.int p4), .val (.int 1), .val (.int 0), .val (.int b7), .val (.int kd), .val (.ref nb14), .val (.ref nb18), .val (.ref nb22), .val (.ref na26), .val (.ref ch), .val (.int 1), .val (.ref nb14), .val (.ref nu46), .val (.int 1), .val (.ref na50), .unset]) X50 hx rfl rfl (hb hby at_303) rfl ?_
       refine og_aload X50 hx rfl rfl (hb hby at_305) rfl ?_
       refine og_virtual (pc' := 310) (cells' := 51) (slots' := 381) (W := 0) X50 hx hZ (rm_txt_EE l Z a0 hw nb14 nl17 nb44 nb18 ch  k44  cs hcs h50 n0 O F__children_nb14 E_nl17 F_modCount_nl17 F_elementData_nl17 F_size_nl17 V_nb44 E_nb18 E_ch S_CS) hown (ow288 hw) (ow289 hw) (own_nf hZ (ow291 hw)) (ow291 hw) (ow290 hw) (ow2 hw) (ow292 hw) (by decide) (by rw [hml]; rfl) e50 opd_31 [] [] rfl rfl rfl rfl (by decide) (by decide) rfl rfl (by decide) (by decide) E_nb14 (hb hby at_307) rfl (fun v51 T51 h51 L51 X51 e51 z51 => ?_)
       obtain ⟨na51, nb51, k51, rfl, Nq51, K51, sa51, sb51, E_na51, F_value_na51, F_coder_na51, V_nb51⟩ := z51; have N := Fr.app N Nq51
       have s_na51 : h50.size ≤ na51 := sa51
       have ne_na50_na51 : na50 ≠ na51 := Nat.ne_of_lt (Nat.lt_of_lt_of_le E_na50.lt s_na51)
       have E_na50 := E_na50.keep K51; have F_value_na50 := F_value_na50.keep K51 nin0; have F_coder_na50 := F_coder_na50.keep K51 nin0; have V_nb50 := V_nb50.keep K51 nin0; have O := O.keep K51 all0
       have hk := Nat.le_trans hk K51.1; have CR := CR.trans (CHr.keep K51 sf0 CR.1)
       refine og_astore (L' := #[.val (.int p0), .val (.int p1), .val (.int p2), .val (.int p3), .val (.int p4), .val (.int 1), .val (.int 0), .val (.int b7), .val (.int kd), .val (.ref nb14), .val (.ref nb18), .val (.ref nb22), .val (.ref na26), .val (.ref ch), .val (.int 1), .val (.ref nb14), .val (.ref nu46), .val (.int 1), .val (.ref na50), .val (.ref na51)]) X51 hx rfl rfl (hb hby at_310) rfl ?_
       refine og_iload X51 hx rfl (hb hby at_312) rfl ?_
       refine og_if_eq (pc1 := 331) (pc2 := 317) X51 hx (hb hby at_314) (by decide) (by decide) rfl (fun q => absurd q (by decide)) (fun _ => ?_)
       refine og_aload X51 hx rfl rfl (hb hby at_317) rfl ?_
       refine og_aload X51 hx rfl rfl (hb hby at_319) rfl ?_
       refine og_virtual (pc' := 324) (cells' := 51) (slots' := 381) (W := 0) X51 hx hZ (rm_eq0_0 l Z a0 hw na51 na50 nb51 nb50 k51 k50  1 (by simp) cs hcs h51 n0 O E_na51 F_value_na51 F_coder_na51 V_nb51 E_na50 F_value_na50 F_coder_na50 V_nb50 S_CS (Ne.symm ne_na50_na51)) hown (ow363 hw) (ow364 hw) (own_nf hZ (ow366 hw)) (ow366 hw) (ow365 hw) (ow9 hw) (ow367 hw) (by decide) (by rw [hml]; rfl) e51 opd_29 [(.ref na50)] [] rfl rfl rfl rfl (by decide) (by decide) rfl rfl (by decide) (by decide) E_na51 (hb hby at_321) rfl (fun v52 T52 h52 L52 X52 e52 z52 => ?_)
       obtain ⟨rfl, Nq52, hq52⟩ := z52; replace e52 := e52.trans hq52; have N := Fr.app N Nq52
       refine og_if_eq (pc1 := 331) (pc2 := 327) X52 hx (hb hby at_324) (by decide) (by decide) rfl (fun q => absurd q (by decide)) (fun _ => ?_)
       refine og_iconst (v := 1) X52 hx rfl (hb hby at_327) rfl ?_
       refine og_goto (pc' := 332) X52 hx (hb hby at_328) (by decide) (by decide) ?_
       refine og_retNW X52 hx hZ hlk hEL hS e52 es hk CR hret (by simp) (hb hby at_332) (by decide) (by decide) ?_
       exact ⟨rfl, N⟩
      ·
       refine og_if_eq (pc1 := 160) (pc2 := 147) X27 hx (hb hby at_144) (by decide) (by decide) rfl (fun q => absurd q (by decide)) (fun _ => ?_)
       refine og_iload X27 hx rfl (hb hby at_147) rfl ?_
       rcases hb7 with rfl | rfl
       ·
        refine og_if_eq (pc1 := 160) (pc2 := 152) X27 hx (hb hby at_149) (by decide) (by decide) rfl (fun _ => ?_) (fun q => absurd q (by decide))
        refine og_iload X27 hx rfl (hb hby at_160) rfl ?_
        refine og_if_eq (pc1 := 173) (pc2 := 165) X27 hx (hb hby at_162) (by decide) (by decide) rfl (fun q => absurd q (by decide)) (fun _ => ?_)
        refine og_aload X27 hx rfl rfl (hb hby at_165) rfl ?_
        refine og_aload X27 hx rfl rfl (hb hby at_167) rfl ?_
        refine og_virtualW (pc' := 172) (cells' := 38) (slots' := 306) (W := 0) X27 hx hZ (rm_ea_0 l Z a0 hw nb14 nl17 nb18 de kde h27 n0 O hEL F__children_nb14 E_nl17 F_modCount_nl17 F_elementData_nl17 F_size_nl17 E_nb18 S_DE V_de g_nl17 ne_nb14_nl17) hEL hS hk CR.1 all0 hown (ow104 hw) (ow105 hw) (own_nf hZ (ow107 hw)) (ow107 hw) (ow106 hw) (ow2 hw) (ow108 hw) (by decide) (by rw [hml]; rfl) e27 opd_37 [(.ref nb18)] [] rfl rfl rfl rfl (by decide) (by decide) rfl rfl (by decide) (by decide) E_nb14 (hb hby at_169) rfl (fun v53 T53 h53 L53 kk53 X53 e53 hS hk hZ hown cr53 z53 => ?_)
        obtain ⟨nb53, k53, rfl, Nq53, K53, sb53, E_nl17', F_modCount_nl17', F_elementData_nl17', F_size_nl17', V_nb53, Ov_nb53⟩ := z53; have N := Fr.app N Nq53
        have s_nb53 : h27.size ≤ nb53 := sb53; have g_nb53 : n0 ≤ nb53 := Nat.le_trans (own_n0 O) s_nb53; have ne_nb14_nb53 : nb14 ≠ nb53 := Nat.ne_of_lt (Nat.lt_of_lt_of_le E_nb14.lt s_nb53); have ne_nl17_nb53 : nl17 ≠ nb53 := Nat.ne_of_lt (Nat.lt_of_lt_of_le E_nl17.lt s_nb53)
        have ne_na26_nb53 : na26 ≠ nb53 := Nat.ne_of_lt (Nat.lt_of_lt_of_le E_na26.lt s_nb53); have ne_nb26_nb53 : nb26 ≠ nb53 := Nat.ne_of_lt (Nat.lt_of_lt_of_le V_nb26.lt s_nb53)
        have E_nb14 := E_nb14.keep K53; have F__children_nb14 := F__children_nb14.keep K53 (ninS ne_nb14_nl17 nin0); have E_nb18 := E_nb18.keep K53; have E_na26 := E_na26.keep K53
        have F_value_na26 := F_value_na26.keep K53 (ninS (Ne.symm ne_nl17_na26) nin0); have F_coder_na26 := F_coder_na26.keep K53 (ninS (Ne.symm ne_nl17_na26) nin0); have V_nb26 := V_nb26.keep K53 (ninS (Ne.symm ne_nl17_nb26) nin0); have E_ch := E_ch.keep K53; have O := O.keep K53 (allS g_nl17 all0)
        have CR := CR.trans cr53
        have E_nl17 := E_nl17'; have F_modCount_nl17 := F_modCount_nl17'; have F_elementData_nl17 := F_elementData_nl17'; have F_size_nl17 := F_size_nl17'
        refine og_pop X53 hx rfl (hb hby at_172) rfl ?_
        refine og_iload X53 hx rfl (hb hby at_173) rfl ?_
        refine og_if_eq (pc1 := 191) (pc2 := 178) X53 hx (hb hby at_175) (by decide) (by decide) rfl (fun q => absurd q (by decide)) (fun _ => ?_)
        refine og_iload X53 hx rfl (hb hby at_178) rfl ?_
        refine og_if_ne (pc1 := 191) (pc2 := 183) X53 hx (hb hby at_180) (by decide) (by decide) rfl (fun q => absurd q (by decide)) (fun _ => ?_)
        refine og_aload X53 hx rfl rfl (hb hby at_183) rfl ?_
        refine og_aload X53 hx rfl rfl (hb hby at_185) rfl ?_
        refine og_virtual (pc' := 190) (cells' := 38) (slots' := 306) (W := 0) X53 hx hZ (rm_at_1 l Z a0 hw nb14 nl17 na26 nb53 nb18 k53 Ov_nb53 nb26 k26 gg26 h53 n0 O F__children_nb14 E_nl17 F_modCount_nl17 F_elementData_nl17 F_size_nl17 V_nb53 E_na26 F_value_na26 F_coder_na26 V_nb26 E_nb18 g_nl17 g_nb53 ne_nl17_nb53 ne_nb26_nb53 ne_na26_nb53 ne_nb14_nb53 (Ne.symm ne_nl17_na26) (Ne.symm ne_nl17_nb26) ne_nb14_nl17) hown (ow371 hw) (ow372 hw) (own_nf hZ (ow374 hw)) (ow374 hw) (ow373 hw) (ow2 hw) (ow375 hw) (by decide) (by rw [hml]; rfl) e53 opd_39 [(.ref na26)] [] rfl rfl rfl rfl (by decide) (by decide) rfl rfl (by decide) (by decide) E_nb14 (hb hby at_187) rfl (fun v54 T54 h54 L54 X54 e54 z54 => ?_)
        obtain ⟨rfl, Nq54, K54, E_nl17', F_modCount_nl17', F_elementData_nl17', F_size_nl17', V_nb53'⟩ := z54; have N := Fr.app N Nq54
        have sf54 : ∀ x ∈ ([nl17, nb53] : List Addr), Safe Z own_EL T53.vm h53 x := (sfS (Safe.exa hZ.alike E_nl17 (by decide) (by decide)) (sfS (Safe.arv hZ.alike V_nb53 (by decide)) sf0)); have E_nb14 := E_nb14.keep K54; have F__children_nb14 := F__children_nb14.keep K54 (ninS ne_nb14_nl17 (ninS ne_nb14_nb53 nin0)); have E_nb18 := E_nb18.keep K54
        have E_na26 := E_na26.keep K54; have F_value_na26 := F_value_na26.keep K54 (ninS (Ne.symm ne_nl17_na26) (ninS ne_na26_nb53 nin0)); have F_coder_na26 := F_coder_na26.keep K54 (ninS (Ne.symm ne_nl17_na26) (ninS ne_na26_nb53 nin0)); have V_nb26 := V_nb26.keep K54 (ninS (Ne.symm ne_nl17_nb26) (ninS ne_nb26_nb53 nin0)); have E_ch := E_ch.keep K54; have O := O.keep K54 (allS g_nl17 (allS g_nb53 all0))
        have hk := Nat.le_trans hk K54.1; have CR := CR.trans (CHr.keep K54 sf54 CR.1)
        have V_nb53 := V_nb53'
        have E_nl17 := E_nl17'; have F_modCount_nl17 := F_modCount_nl17'; have F_elementData_nl17 := F_elementData_nl17'; have F_size_nl17 := F_size_nl17'
        refine og_pop X54 hx rfl (hb hby at_190) rfl ?_
        refine og_iload X54 hx rfl (hb hby at_191) rfl ?_
        refine og_if_eq (pc1 := 200) (pc2 := 196) X54 hx (hb hby at_193) (by decide) (by decide) rfl (fun q => absurd q (by decide)) (fun _ => ?_)
        refine og_iconst (v := 1) X54 hx rfl (hb hby at_196) rfl ?_
        refine og_goto (pc' := 201) X54 hx (hb hby at_197) (by decide) (by decide) ?_
        refine og_istore (L' := #[.val (.int p0), .val (.int p1), .val (.int p2), .val (.int p3), .val (.int p4), .val (.int 1), .val (.int 1), .val (.int 0), .val (.int kd), .val (.ref nb14), .val (.ref nb18), .val (.ref nb22), .val (.ref na26), .val (.ref ch), .val (.int 1), .unset, .unset, .unset, .unset, .unset]) X54 hx rfl (hb hby at_201) rfl ?_
        refine og_aload X54 hx rfl rfl (hb hby at_203) rfl ?_
        refine og_aload X54 hx rfl rfl (hb hby at_205) rfl ?_
        refine og_virtualW (pc' := 210) (cells' := 40) (slots' := 330) (W := 0) X54 hx hZ (rm_ea_2 l Z a0 hw nb14 nl17 ch nb53 nb18 na26 k53 Ov_nb53 h54 n0 O hEL F__children_nb14 E_nl17 F_modCount_nl17 F_elementData_nl17 F_size_nl17 E_ch V_nb53 g_nl17 g_nb53 ne_nb14_nl17 ne_nl17_nb53 ne_nb14_nb53) hEL hS hk CR.1 all0 hown (ow104 hw) (ow105 hw) (own_nf hZ (ow107 hw)) (ow107 hw) (ow106 hw) (ow2 hw) (ow108 hw) (by decide) (by rw [hml]; rfl) e54 opd_37 [(.ref ch)] [] rfl rfl rfl rfl (by decide) (by decide) rfl rfl (by decide) (by decide) E_nb14 (hb hby at_207) rfl (fun v55 T55 h55 L55 kk55 X55 e55 hS hk hZ hown cr55 z55 => ?_)
        obtain ⟨rfl, Nq55, K55, E_nl17', F_modCount_nl17', F_elementData_nl17', F_size_nl17', V_nb53'⟩ := z55; have N := Fr.app N Nq55
        have E_nb14 := E_nb14.keep K55; have F__children_nb14 := F__children_nb14.keep K55 (ninS ne_nb14_nl17 (ninS ne_nb14_nb53 nin0)); have E_nb18 := E_nb18.keep K55; have E_na26 := E_na26.keep K55
        have F_value_na26 := F_value_na26.keep K55 (ninS (Ne.symm ne_nl17_na26) (ninS ne_na26_nb53 nin0)); have F_coder_na26 := F_coder_na26.keep K55 (ninS (Ne.symm ne_nl17_na26) (ninS ne_na26_nb53 nin0)); have V_nb26 := V_nb26.keep K55 (ninS (Ne.symm ne_nl17_nb26) (ninS ne_nb26_nb53 nin0)); have E_ch := E_ch.keep K55; have O := O.keep K55 (allS g_nl17 (allS g_nb53 all0))
        have CR := CR.trans cr55
        have V_nb53 := V_nb53'
        have E_nl17 := E_nl17'; have F_modCount_nl17 := F_modCount_nl17'; have F_elementData_nl17 := F_elementData_nl17'; have F_size_nl17 := F_size_nl17'
        refine og_astore (L' := #[.val (.int p0), .val (.int p1), .val (.int p2), .val (.int p3), .val (.int p4), .val (.int 1), .val (.int 1), .val (.int 0), .val (.int kd), .val (.ref nb14), .val (.ref nb18), .val (.ref nb22), .val (.ref na26), .val (.ref ch), .val (.int 1), .val (.ref nb14), .unset, .unset, .unset, .unset]) X55 hx rfl rfl (hb hby at_210) rfl ?_
        refine og_aload X55 hx rfl rfl (hb hby at_212) rfl ?_
        refine og_virtual (pc' := 217) (cells' := 44) (slots' := 349) (W := 0) X55 hx hZ (rm_els_ESE l Z a0 hw nb14 nl17 nb53 nb18 na26 ch mA mL mR k53 de kde h55 n0 O F__children_nb14 E_nl17 F_modCount_nl17 F_elementData_nl17 F_size_nl17 V_nb53 E_nb18 E_na26 E_ch S_DE V_de M_mA M_mL M_mR ne_mA_mL ne_mA_mR) hown (ow145 hw) (ow146 hw) (own_nf hZ (ow148 hw)) (ow148 hw) (ow147 hw) (ow2 hw) (ow149 hw) (by decide) (by rw [hml]; rfl) e55 opd_38 [] [] rfl rfl rfl rfl (by decide) (by decide) rfl rfl (by decide) (by decide) E_nb14 (hb hby at_214) rfl (fun v56 T56 h56 L56 X56 e56 z56 => ?_)
        obtain ⟨nu56, nl56, nb56, kn56, rfl, Nq56, K56, E_nu56, F_c_nu56, F_list_nu56, E_nl56, F_modCount_nl56, F_elementData_nl56, F_size_nl56, V_nb56⟩ := z56; have N := Fr.app N Nq56
        have E_nb14 := E_nb14.keep K56; have F__children_nb14 := F__children_nb14.keep K56 nin0; have E_nl17 := E_nl17.keep K56; have E_nb18 := E_nb18.keep K56; have E_na26 := E_na26.keep K56
        have F_value_na26 := F_value_na26.keep K56 nin0; have F_coder_na26 := F_coder_na26.keep K56 nin0; have V_nb26 := V_nb26.keep K56 nin0; have E_ch := E_ch.keep K56; have F_modCount_nl17 := F_modCount_nl17.keep K56 nin0; have F_elementData_nl17 := F_elementData_nl17.keep K56 nin0
        have F_size_nl17 := F_size_nl17.keep K56 nin0; have V_nb53 := V_nb53.keep K56 nin0; have O := O.keep K56 all0; have hk := Nat.le_trans hk K56.1; have CR := CR.trans (CHr.keep K56 sf0 CR.1)
        refine og_astore (L' := #[.val (.int p0), .val (.int p1), .val (.int p2), .val (.int p3), .val (.int p4), .val (.int 1), .val (.int 1), .val (.int 0), .val (.int kd), .val (.ref nb14), .val (.ref nb18), .val (.ref nb22), .val (.ref na26), .val (.ref ch), .val (.int 1), .val (.ref nb14), .val (.ref nu56), .unset, .unset, .unset]) X56 hx rfl rfl (hb hby at_217) rfl ?_
        refine og_aload X56 hx rfl rfl (hb hby at_219) rfl ?_
        refine og_aload X56 hx rfl rfl (hb hby at_221) rfl ?_
        refine og_acmp_ne (pc1 := 258) (pc2 := 226) X56 hx rfl rfl (hb hby at_223) (by decide) (by decide) rfl (fun q => absurd rfl q) (fun _ => ?_)
        refine og_aload X56 hx rfl rfl (hb hby at_226) rfl ?_
        refine og_interface (pc' := 233) (cells' := 44) (slots' := 349) (W := 0) X56 hx hZ (rm_usz l Z a0 hw nu56 nl56 (2 : Int32) h56 n0 O E_nu56 F_c_nu56 E_nl56 F_size_nl56) hown (ow243 hw) (ow244 hw) (ow245 hw) (ow246 hw) (ow247 hw) (ow248 hw) (ow249 hw) (ow250 hw) (ow236 hw) (ow251 hw) (by decide) (by rw [hml]; rfl) e56 opd_14 [] [] rfl rfl rfl rfl (by decide) (by decide) rfl rfl (by decide) (by decide) E_nu56 (hb hby at_228) rfl (fun v57 T57 h57 L57 X57 e57 z57 => ?_)
        obtain ⟨rfl, Nq57, hq57⟩ := z57; replace e57 := e57.trans hq57; have N := Fr.app N Nq57
        refine og_iload X57 hx rfl (hb hby at_233) rfl ?_
        refine og_iconst (v := 1) X57 hx rfl (hb hby at_235) rfl ?_
        refine og_iadd X57 hx (hb hby at_236) rfl ?_
        show OG p e below _ (T57.setTop (mkF m 237 #[.val (.int p0), .val (.int p1), .val (.int p2), .val (.int p3), .val (.int p4), .val (.int 1), .val (.int 1), .val (.int 0), .val (.int kd), .val (.ref nb14), .val (.ref nb18), .val (.ref nb22), .val (.ref na26), .val (.ref ch), .val (.int 1), .val (.ref nb14), .val (.ref nu56), .unset, .unset, .unset] [(.int 2), (.int 2)]))
        refine og_icmp_ne (pc1 := 258) (pc2 := 240) X57 hx (hb hby at_237) (by decide) (by decide) rfl (fun q => absurd q (by decide)) (fun _ => ?_)
        refine og_aload X57 hx rfl rfl (hb hby at_240) rfl ?_
        refine og_iload X57 hx rfl (hb hby at_242) rfl ?_
        refine og_interface (pc' := 249) (cells' := 44) (slots' := 349) (W := 0) X57 hx hZ (rm_ug_1_2 l Z a0 hw nu56 nl56 nb56 nb18 ch kn56 h56 n0 O F_list_nu56 E_nl56 F_elementData_nl56 F_size_nl56 V_nb56) hown (ow261 hw) (ow262 hw) (ow263 hw) (ow264 hw) (ow265 hw) (ow266 hw) (ow267 hw) (ow250 hw) (ow230 hw) (ow268 hw) (by decide) (by rw [hml]; rfl) e57 opd_10 [(.int 1)] [] rfl rfl rfl rfl (by decide) (by decide) rfl rfl (by decide) (by decide) E_nu56 (hb hby at_244) rfl (fun v58 T58 h58 L58 X58 e58 z58 => ?_)
        obtain ⟨rfl, Nq58, hq58⟩ := z58; replace e58 := e58.trans hq58; have N := Fr.app N Nq58
        refine og_aload X58 hx rfl rfl (hb hby at_249) rfl ?_
        refine og_acmp_ne (pc1 := 258) (pc2 := 254) X58 hx rfl rfl (hb hby at_251) (by decide) (by decide) rfl (fun q => absurd rfl q) (fun _ => ?_)
        refine og_iconst (v := 1) X58 hx rfl (hb hby at_254) rfl ?_
        refine og_goto (pc' := 259) X58 hx (hb hby at_255) (by decide) (by decide) ?_
        refine og_istore (L' := #[.val (.int p0), .val (.int p1), .val (.int p2), .val (.int p3), .val (.int p4), .val (.int 1), .val (.int 1), .val (.int 0), .val (.int kd), .val (.ref nb14), .val (.ref nb18), .val (.ref nb22), .val (.ref na26), .val (.ref ch), .val (.int 1), .val (.ref nb14), .val (.ref nu56), .val (.int 1), .unset, .unset]) X58 hx rfl (hb hby at_259) rfl ?_
        refine og_iload X58 hx rfl (hb hby at_261) rfl ?_
        refine og_if_eq (pc1 := 291) (pc2 := 266) X58 hx (hb hby at_263) (by decide) (by decide) rfl (fun q => absurd q (by decide)) (fun _ => ?_)
        refine og_iload X58 hx rfl (hb hby at_266) rfl ?_
        refine og_if_eq (pc1 := 291) (pc2 := 271) X58 hx (hb hby at_268) (by decide) (by decide) rfl (fun q => absurd q (by decide)) (fun _ => ?_)
        refine og_aload X58 hx rfl rfl (hb hby at_271) rfl ?_
        refine og_iconst (v := 0) X58 hx rfl (hb hby at_273) rfl ?_
        refine og_interface (pc' := 279) (cells' := 44) (slots' := 349) (W := 0) X58 hx hZ (rm_ug_0_2 l Z a0 hw nu56 nl56 nb56 nb18 ch kn56 h56 n0 O F_list_nu56 E_nl56 F_elementData_nl56 F_size_nl56 V_nb56) hown (ow261 hw) (ow262 hw) (ow263 hw) (ow264 hw) (ow265 hw) (ow266 hw) (ow267 hw) (ow250 hw) (ow230 hw) (ow268 hw) (by decide) (by rw [hml]; rfl) e58 opd_10 [(.int 0)] [] rfl rfl rfl rfl (by decide) (by decide) rfl rfl (by decide) (by decide) E_nu56 (hb hby at_274) rfl (fun v59 T59 h59 L59 X59 e59 z59 => ?_)
        obtain ⟨rfl, Nq59, hq59⟩ := z59; replace e59 := e59.trans hq59; have N := Fr.app N Nq59
        refine og_aload X59 hx rfl rfl (hb hby at_279) rfl ?_
        refine og_acmp_ne (pc1 := 288) (pc2 := 284) X59 hx rfl rfl (hb hby at_281) (by decide) (by decide) rfl (fun q => absurd rfl q) (fun _ => ?_)
        refine og_iconst (v := 1) X59 hx rfl (hb hby at_284) rfl ?_
        refine og_goto (pc' := 289) X59 hx (hb hby at_285) (by decide) (by decide) ?_
        refine og_istore (L' := #[.val (.int p0), .val (.int p1), .val (.int p2), .val (.int p3), .val (.int p4), .val (.int 1), .val (.int 1), .val (.int 0), .val (.int kd), .val (.ref nb14), .val (.ref nb18), .val (.ref nb22), .val (.ref na26), .val (.ref ch), .val (.int 1), .val (.ref nb14), .val (.ref nu56), .val (.int 1), .unset, .unset]) X59 hx rfl (hb hby at_289) rfl ?_
        refine og_iload X59 hx rfl (hb hby at_291) rfl ?_
        refine og_if_eq (pc1 := 301) (pc2 := 296) X59 hx (hb hby at_293) (by decide) (by decide) rfl (fun q => absurd q (by decide)) (fun _ => ?_)
        refine og_aload X59 hx rfl rfl (hb hby at_296) rfl ?_
        refine og_goto (pc' := 303) X59 hx (hb hby at_298) (by decide) (by decide) ?_
        refine og_astore (L' := #[.val (.int p0), .val (.int p1), .val (.int p2), .val (.int p3), .val (.int p4), .val (.int 1), .val (.int 1), .val (.int 0), .val (.int kd), .val (.ref nb14), .val (.ref nb18), .val (.ref nb22), .val (.ref na26), .val (.ref ch), .val (.int 1), .val (.ref nb14), .val (.ref nu56), .val (.int 1), .val (.ref na26), .unset]) X59 hx rfl rfl (hb hby at_303) rfl ?_
        refine og_aload X59 hx rfl rfl (hb hby at_305) rfl ?_
        refine og_virtual (pc' := 310) (cells' := 49) (slots' := 378) (W := 0) X59 hx hZ (rm_txt_ESE l Z a0 hw nb14 nl17 nb53 nb18 na26 ch nb26 k53 k26 gg26 cs hcs h56 n0 O F__children_nb14 E_nl17 F_modCount_nl17 F_elementData_nl17 F_size_nl17 V_nb53 E_nb18 E_na26 F_value_na26 F_coder_na26 V_nb26 E_ch S_CS) hown (ow288 hw) (ow289 hw) (own_nf hZ (ow291 hw)) (ow291 hw) (ow290 hw) (ow2 hw) (ow292 hw) (by decide) (by rw [hml]; rfl) e59 opd_31 [] [] rfl rfl rfl rfl (by decide) (by decide) rfl rfl (by decide) (by decide) E_nb14 (hb hby at_307) rfl (fun v60 T60 h60 L60 X60 e60 z60 => ?_)
        obtain ⟨na60, nb60, k60, rfl, Nq60, K60, sa60, sb60, E_na60, F_value_na60, F_coder_na60, V_nb60⟩ := z60; have N := Fr.app N Nq60
        have s_na60 : h56.size ≤ na60 := sa60
        have ne_na26_na60 : na26 ≠ na60 := Nat.ne_of_lt (Nat.lt_of_lt_of_le E_na26.lt s_na60)
        have E_na26 := E_na26.keep K60; have F_value_na26 := F_value_na26.keep K60 nin0; have F_coder_na26 := F_coder_na26.keep K60 nin0; have V_nb26 := V_nb26.keep K60 nin0
        have O := O.keep K60 all0; have hk := Nat.le_trans hk K60.1; have CR := CR.trans (CHr.keep K60 sf0 CR.1)
        refine og_astore (L' := #[.val (.int p0), .val (.int p1), .val (.int p2), .val (.int p3), .val (.int p4), .val (.int 1), .val (.int 1), .val (.int 0), .val (.int kd), .val (.ref nb14), .val (.ref nb18), .val (.ref nb22), .val (.ref na26), .val (.ref ch), .val (.int 1), .val (.ref nb14), .val (.ref nu56), .val (.int 1), .val (.ref na26), .val (.ref na60)]) X60 hx rfl rfl (hb hby at_310) rfl ?_
        refine og_iload X60 hx rfl (hb hby at_312) rfl ?_
        refine og_if_eq (pc1 := 331) (pc2 := 317) X60 hx (hb hby at_314) (by decide) (by decide) rfl (fun q => absurd q (by decide)) (fun _ => ?_)
        refine og_aload X60 hx rfl rfl (hb hby at_317) rfl ?_
        refine og_aload X60 hx rfl rfl (hb hby at_319) rfl ?_
        refine og_virtual (pc' := 324) (cells' := 49) (slots' := 378) (W := 0) X60 hx hZ (rm_eq1_1 l Z a0 hw na60 na26 nb60 nb26 k60 k26 gg26 gg26 1 (by simp) cs hcs h60 n0 O E_na60 F_value_na60 F_coder_na60 V_nb60 E_na26 F_value_na26 F_coder_na26 V_nb26 S_CS (Ne.symm ne_na26_na60)) hown (ow363 hw) (ow364 hw) (own_nf hZ (ow366 hw)) (ow366 hw) (ow365 hw) (ow9 hw) (ow367 hw) (by decide) (by rw [hml]; rfl) e60 opd_29 [(.ref na26)] [] rfl rfl rfl rfl (by decide) (by decide) rfl rfl (by decide) (by decide) E_na60 (hb hby at_321) rfl (fun v61 T61 h61 L61 X61 e61 z61 => ?_)
        obtain ⟨rfl, Nq61, hq61⟩ := z61; replace e61 := e61.trans hq61; have N := Fr.app N Nq61
        refine og_if_eq (pc1 := 331) (pc2 := 327) X61 hx (hb hby at_324) (by decide) (by decide) rfl (fun q => absurd q (by decide)) (fun _ => ?_)
        refine og_iconst (v := 1) X61 hx rfl (hb hby at_327) rfl ?_
        refine og_goto (pc' := 332) X61 hx (hb hby at_328) (by decide) (by decide) ?_
        refine og_retNW X61 hx hZ hlk hEL hS e61 es hk CR hret (by simp) (hb hby at_332) (by decide) (by decide) ?_
        exact ⟨rfl, N⟩
       ·
        refine og_if_eq (pc1 := 160) (pc2 := 152) X27 hx (hb hby at_149) (by decide) (by decide) rfl (fun q => absurd q (by decide)) (fun _ => ?_)
        refine og_aload X27 hx rfl rfl (hb hby at_152) rfl ?_
        refine og_aload X27 hx rfl rfl (hb hby at_154) rfl ?_
        refine og_virtual (pc' := 159) (cells' := 36) (slots' := 282) (W := 0) X27 hx hZ (rm_at_0 l Z a0 hw nb14 nl17 na26 de kde nb26 k26 gg26 h27 n0 O F__children_nb14 E_nl17 F_modCount_nl17 F_elementData_nl17 F_size_nl17 S_DE V_de E_na26 F_value_na26 F_coder_na26 V_nb26 g_nl17 (Ne.symm ne_nl17_na26) (Ne.symm ne_nl17_nb26) ne_nb14_nl17) hown (ow371 hw) (ow372 hw) (own_nf hZ (ow374 hw)) (ow374 hw) (ow373 hw) (ow2 hw) (ow375 hw) (by decide) (by rw [hml]; rfl) e27 opd_39 [(.ref na26)] [] rfl rfl rfl rfl (by decide) (by decide) rfl rfl (by decide) (by decide) E_nb14 (hb hby at_156) rfl (fun v62 T62 h62 L62 X62 e62 z62 => ?_)
        obtain ⟨nb62, k62, rfl, Nq62, K62, sb62, E_nl17', F_modCount_nl17', F_elementData_nl17', F_size_nl17', V_nb62, Ov_nb62⟩ := z62; have N := Fr.app N Nq62
        have s_nb62 : h27.size ≤ nb62 := sb62; have g_nb62 : n0 ≤ nb62 := Nat.le_trans (own_n0 O) s_nb62; have ne_nb14_nb62 : nb14 ≠ nb62 := Nat.ne_of_lt (Nat.lt_of_lt_of_le E_nb14.lt s_nb62); have ne_nl17_nb62 : nl17 ≠ nb62 := Nat.ne_of_lt (Nat.lt_of_lt_of_le E_nl17.lt s_nb62)
        have ne_na26_nb62 : na26 ≠ nb62 := Nat.ne_of_lt (Nat.lt_of_lt_of_le E_na26.lt s_nb62); have ne_nb26_nb62 : nb26 ≠ nb62 := Nat.ne_of_lt (Nat.lt_of_lt_of_le V_nb26.lt s_nb62)
        have sf62 : ∀ x ∈ ([nl17] : List Addr), Safe Z own_EL vm27 h27 x := (sfS (Safe.exa hZ.alike E_nl17 (by decide) (by decide)) sf0); have E_nb14 := E_nb14.keep K62; have F__children_nb14 := F__children_nb14.keep K62 (ninS ne_nb14_nl17 nin0); have E_nb18 := E_nb18.keep K62
        have E_na26 := E_na26.keep K62; have F_value_na26 := F_value_na26.keep K62 (ninS (Ne.symm ne_nl17_na26) nin0); have F_coder_na26 := F_coder_na26.keep K62 (ninS (Ne.symm ne_nl17_na26) nin0); have V_nb26 := V_nb26.keep K62 (ninS (Ne.symm ne_nl17_nb26) nin0); have E_ch := E_ch.keep K62; have O := O.keep K62 (allS g_nl17 all0)
        have hk := Nat.le_trans hk K62.1; have CR := CR.trans (CHr.keep K62 sf62 CR.1)
        have E_nl17 := E_nl17'; have F_modCount_nl17 := F_modCount_nl17'; have F_elementData_nl17 := F_elementData_nl17'; have F_size_nl17 := F_size_nl17'
        refine og_pop X62 hx rfl (hb hby at_159) rfl ?_
        refine og_iload X62 hx rfl (hb hby at_160) rfl ?_
        refine og_if_eq (pc1 := 173) (pc2 := 165) X62 hx (hb hby at_162) (by decide) (by decide) rfl (fun q => absurd q (by decide)) (fun _ => ?_)
        refine og_aload X62 hx rfl rfl (hb hby at_165) rfl ?_
        refine og_aload X62 hx rfl rfl (hb hby at_167) rfl ?_
        refine og_virtualW (pc' := 172) (cells' := 38) (slots' := 306) (W := 0) X62 hx hZ (rm_ea_1 l Z a0 hw nb14 nl17 nb18 nb62 na26 k62 Ov_nb62 h62 n0 O hEL F__children_nb14 E_nl17 F_modCount_nl17 F_elementData_nl17 F_size_nl17 E_nb18 V_nb62 g_nl17 g_nb62 ne_nb14_nl17 ne_nl17_nb62 ne_nb14_nb62) hEL hS hk CR.1 all0 hown (ow104 hw) (ow105 hw) (own_nf hZ (ow107 hw)) (ow107 hw) (ow106 hw) (ow2 hw) (ow108 hw) (by decide) (by rw [hml]; rfl) e62 opd_37 [(.ref nb18)] [] rfl rfl rfl rfl (by decide) (by decide) rfl rfl (by decide) (by decide) E_nb14 (hb hby at_169) rfl (fun v63 T63 h63 L63 kk63 X63 e63 hS hk hZ hown cr63 z63 => ?_)
        obtain ⟨rfl, Nq63, K63, E_nl17', F_modCount_nl17', F_elementData_nl17', F_size_nl17', V_nb62'⟩ := z63; have N := Fr.app N Nq63
        have E_nb14 := E_nb14.keep K63; have F__children_nb14 := F__children_nb14.keep K63 (ninS ne_nb14_nl17 (ninS ne_nb14_nb62 nin0)); have E_nb18 := E_nb18.keep K63; have E_na26 := E_na26.keep K63
        have F_value_na26 := F_value_na26.keep K63 (ninS (Ne.symm ne_nl17_na26) (ninS ne_na26_nb62 nin0)); have F_coder_na26 := F_coder_na26.keep K63 (ninS (Ne.symm ne_nl17_na26) (ninS ne_na26_nb62 nin0)); have V_nb26 := V_nb26.keep K63 (ninS (Ne.symm ne_nl17_nb26) (ninS ne_nb26_nb62 nin0)); have E_ch := E_ch.keep K63; have O := O.keep K63 (allS g_nl17 (allS g_nb62 all0))
        have CR := CR.trans cr63
        have V_nb62 := V_nb62'
        have E_nl17 := E_nl17'; have F_modCount_nl17 := F_modCount_nl17'; have F_elementData_nl17 := F_elementData_nl17'; have F_size_nl17 := F_size_nl17'
        refine og_pop X63 hx rfl (hb hby at_172) rfl ?_
        refine og_iload X63 hx rfl (hb hby at_173) rfl ?_
        refine og_if_eq (pc1 := 191) (pc2 := 178) X63 hx (hb hby at_175) (by decide) (by decide) rfl (fun q => absurd q (by decide)) (fun _ => ?_)
        refine og_iload X63 hx rfl (hb hby at_178) rfl ?_
        refine og_if_ne (pc1 := 191) (pc2 := 183) X63 hx (hb hby at_180) (by decide) (by decide) rfl (fun _ => ?_) (fun q => absurd q (by decide))
        refine og_iload X63 hx rfl (hb hby at_191) rfl ?_
        refine og_if_eq (pc1 := 200) (pc2 := 196) X63 hx (hb hby at_193) (by decide) (by decide) rfl (fun q => absurd q (by decide)) (fun _ => ?_)
        refine og_iconst (v := 1) X63 hx rfl (hb hby at_196) rfl ?_
        refine og_goto (pc' := 201) X63 hx (hb hby at_197) (by decide) (by decide) ?_
        refine og_istore (L' := #[.val (.int p0), .val (.int p1), .val (.int p2), .val (.int p3), .val (.int p4), .val (.int 1), .val (.int 1), .val (.int 1), .val (.int kd), .val (.ref nb14), .val (.ref nb18), .val (.ref nb22), .val (.ref na26), .val (.ref ch), .val (.int 1), .unset, .unset, .unset, .unset, .unset]) X63 hx rfl (hb hby at_201) rfl ?_
        refine og_aload X63 hx rfl rfl (hb hby at_203) rfl ?_
        refine og_aload X63 hx rfl rfl (hb hby at_205) rfl ?_
        refine og_virtualW (pc' := 210) (cells' := 40) (slots' := 330) (W := 0) X63 hx hZ (rm_ea_2 l Z a0 hw nb14 nl17 ch nb62 na26 nb18 k62 Ov_nb62 h63 n0 O hEL F__children_nb14 E_nl17 F_modCount_nl17 F_elementData_nl17 F_size_nl17 E_ch V_nb62 g_nl17 g_nb62 ne_nb14_nl17 ne_nl17_nb62 ne_nb14_nb62) hEL hS hk CR.1 all0 hown (ow104 hw) (ow105 hw) (own_nf hZ (ow107 hw)) (ow107 hw) (ow106 hw) (ow2 hw) (ow108 hw) (by decide) (by rw [hml]; rfl) e63 opd_37 [(.ref ch)] [] rfl rfl rfl rfl (by decide) (by decide) rfl rfl (by decide) (by decide) E_nb14 (hb hby at_207) rfl (fun v64 T64 h64 L64 kk64 X64 e64 hS hk hZ hown cr64 z64 => ?_)
        obtain ⟨rfl, Nq64, K64, E_nl17', F_modCount_nl17', F_elementData_nl17', F_size_nl17', V_nb62'⟩ := z64; have N := Fr.app N Nq64
        have E_nb14 := E_nb14.keep K64; have F__children_nb14 := F__children_nb14.keep K64 (ninS ne_nb14_nl17 (ninS ne_nb14_nb62 nin0)); have E_nb18 := E_nb18.keep K64; have E_na26 := E_na26.keep K64
        have F_value_na26 := F_value_na26.keep K64 (ninS (Ne.symm ne_nl17_na26) (ninS ne_na26_nb62 nin0)); have F_coder_na26 := F_coder_na26.keep K64 (ninS (Ne.symm ne_nl17_na26) (ninS ne_na26_nb62 nin0)); have V_nb26 := V_nb26.keep K64 (ninS (Ne.symm ne_nl17_nb26) (ninS ne_nb26_nb62 nin0)); have E_ch := E_ch.keep K64; have O := O.keep K64 (allS g_nl17 (allS g_nb62 all0))
        have CR := CR.trans cr64
        have V_nb62 := V_nb62'
        have E_nl17 := E_nl17'; have F_modCount_nl17 := F_modCount_nl17'; have F_elementData_nl17 := F_elementData_nl17'; have F_size_nl17 := F_size_nl17'
        refine og_astore (L' := #[.val (.int p0), .val (.int p1), .val (.int p2), .val (.int p3), .val (.int p4), .val (.int 1), .val (.int 1), .val (.int 1), .val (.int kd), .val (.ref nb14), .val (.ref nb18), .val (.ref nb22), .val (.ref na26), .val (.ref ch), .val (.int 1), .val (.ref nb14), .unset, .unset, .unset, .unset]) X64 hx rfl rfl (hb hby at_210) rfl ?_
        refine og_aload X64 hx rfl rfl (hb hby at_212) rfl ?_
        refine og_virtual (pc' := 217) (cells' := 44) (slots' := 349) (W := 0) X64 hx hZ (rm_els_SEE l Z a0 hw nb14 nl17 nb62 na26 nb18 ch mA mL mR k62 de kde h64 n0 O F__children_nb14 E_nl17 F_modCount_nl17 F_elementData_nl17 F_size_nl17 V_nb62 E_na26 E_nb18 E_ch S_DE V_de M_mA M_mL M_mR ne_mA_mL ne_mA_mR) hown (ow145 hw) (ow146 hw) (own_nf hZ (ow148 hw)) (ow148 hw) (ow147 hw) (ow2 hw) (ow149 hw) (by decide) (by rw [hml]; rfl) e64 opd_38 [] [] rfl rfl rfl rfl (by decide) (by decide) rfl rfl (by decide) (by decide) E_nb14 (hb hby at_214) rfl (fun v65 T65 h65 L65 X65 e65 z65 => ?_)
        obtain ⟨nu65, nl65, nb65, kn65, rfl, Nq65, K65, E_nu65, F_c_nu65, F_list_nu65, E_nl65, F_modCount_nl65, F_elementData_nl65, F_size_nl65, V_nb65⟩ := z65; have N := Fr.app N Nq65
        have E_nb14 := E_nb14.keep K65; have F__children_nb14 := F__children_nb14.keep K65 nin0; have E_nl17 := E_nl17.keep K65; have E_nb18 := E_nb18.keep K65; have E_na26 := E_na26.keep K65
        have F_value_na26 := F_value_na26.keep K65 nin0; have F_coder_na26 := F_coder_na26.keep K65 nin0; have V_nb26 := V_nb26.keep K65 nin0; have E_ch := E_ch.keep K65; have F_modCount_nl17 := F_modCount_nl17.keep K65 nin0; have F_elementData_nl17 := F_elementData_nl17.keep K65 nin0
        have F_size_nl17 := F_size_nl17.keep K65 nin0; have V_nb62 := V_nb62.keep K65 nin0; have O := O.keep K65 all0; have hk := Nat.le_trans hk K65.1; have CR := CR.trans (CHr.keep K65 sf0 CR.1)
        refine og_astore (L' := #[.val (.int p0), .val (.int p1), .val (.int p2), .val (.int p3), .val (.int p4), .val (.int 1), .val (.int 1), .val (.int 1), .val (.int kd), .val (.ref nb14), .val (.ref nb18), .val (.ref nb22), .val (.ref na26), .val (.ref ch), .val (.int 1), .val (.ref nb14), .val (.ref nu65), .unset, .unset, .unset]) X65 hx rfl rfl (hb hby at_217) rfl ?_
        refine og_aload X65 hx rfl rfl (hb hby at_219) rfl ?_
        refine og_aload X65 hx rfl rfl (hb hby at_221) rfl ?_
        refine og_acmp_ne (pc1 := 258) (pc2 := 226) X65 hx rfl rfl (hb hby at_223) (by decide) (by decide) rfl (fun q => absurd rfl q) (fun _ => ?_)
        refine og_aload X65 hx rfl rfl (hb hby at_226) rfl ?_
        refine og_interface (pc' := 233) (cells' := 44) (slots' := 349) (W := 0) X65 hx hZ (rm_usz l Z a0 hw nu65 nl65 (2 : Int32) h65 n0 O E_nu65 F_c_nu65 E_nl65 F_size_nl65) hown (ow243 hw) (ow244 hw) (ow245 hw) (ow246 hw) (ow247 hw) (ow248 hw) (ow249 hw) (ow250 hw) (ow236 hw) (ow251 hw) (by decide) (by rw [hml]; rfl) e65 opd_14 [] [] rfl rfl rfl rfl (by decide) (by decide) rfl rfl (by decide) (by decide) E_nu65 (hb hby at_228) rfl (fun v66 T66 h66 L66 X66 e66 z66 => ?_)
        obtain ⟨rfl, Nq66, hq66⟩ := z66; replace e66 := e66.trans hq66; have N := Fr.app N Nq66
        refine og_iload X66 hx rfl (hb hby at_233) rfl ?_
        refine og_iconst (v := 1) X66 hx rfl (hb hby at_235) rfl ?_
        refine og_iadd X66 hx (hb hby at_236) rfl ?_
        show OG p e below _ (T66.setTop (mkF m 237 #[.val (.int p0), .val (.int p1), .val (.int p2), .val (.int p3), .val (.int p4), .val (.int 1), .val (.int 1), .val (.int 1), .val (.int kd), .val (.ref nb14), .val (.ref nb18), .val (.ref nb22), .val (.ref na26), .val (.ref ch), .val (.int 1), .val (.ref nb14), .val (.ref nu65), .unset, .unset, .unset] [(.int 2), (.int 2)]))
        refine og_icmp_ne (pc1 := 258) (pc2 := 240) X66 hx (hb hby at_237) (by decide) (by decide) rfl (fun q => absurd q (by decide)) (fun _ => ?_)
        refine og_aload X66 hx rfl rfl (hb hby at_240) rfl ?_
        refine og_iload X66 hx rfl (hb hby at_242) rfl ?_
        refine og_interface (pc' := 249) (cells' := 44) (slots' := 349) (W := 0) X66 hx hZ (rm_ug_1_2 l Z a0 hw nu65 nl65 nb65 nb18 ch kn65 h65 n0 O F_list_nu65 E_nl65 F_elementData_nl65 F_size_nl65 V_nb65) hown (ow261 hw) (ow262 hw) (ow263 hw) (ow264 hw) (ow265 hw) (ow266 hw) (ow267 hw) (ow250 hw) (ow230 hw) (ow268 hw) (by decide) (by rw [hml]; rfl) e66 opd_10 [(.int 1)] [] rfl rfl rfl rfl (by decide) (by decide) rfl rfl (by decide) (by decide) E_nu65 (hb hby at_244) rfl (fun v67 T67 h67 L67 X67 e67 z67 => ?_)
        obtain ⟨rfl, Nq67, hq67⟩ := z67; replace e67 := e67.trans hq67; have N := Fr.app N Nq67
        refine og_aload X67 hx rfl rfl (hb hby at_249) rfl ?_
        refine og_acmp_ne (pc1 := 258) (pc2 := 254) X67 hx rfl rfl (hb hby at_251) (by decide) (by decide) rfl (fun q => absurd rfl q) (fun _ => ?_)
        refine og_iconst (v := 1) X67 hx rfl (hb hby at_254) rfl ?_
        refine og_goto (pc' := 259) X67 hx (hb hby at_255) (by decide) (by decide) ?_
        refine og_istore (L' := #[.val (.int p0), .val (.int p1), .val (.int p2), .val (.int p3), .val (.int p4), .val (.int 1), .val (.int 1), .val (.int 1), .val (.int kd), .val (.ref nb14), .val (.ref nb18), .val (.ref nb22), .val (.ref na26), .val (.ref ch), .val (.int 1), .val (.ref nb14), .val (.ref nu65), .val (.int 1), .unset, .unset]) X67 hx rfl (hb hby at_259) rfl ?_
        refine og_iload X67 hx rfl (hb hby at_261) rfl ?_
        refine og_if_eq (pc1 := 291) (pc2 := 266) X67 hx (hb hby at_263) (by decide) (by decide) rfl (fun q => absurd q (by decide)) (fun _ => ?_)
        refine og_iload X67 hx rfl (hb hby at_266) rfl ?_
        refine og_if_eq (pc1 := 291) (pc2 := 271) X67 hx (hb hby at_268) (by decide) (by decide) rfl (fun q => absurd q (by decide)) (fun _ => ?_)
        refine og_aload X67 hx rfl rfl (hb hby at_271) rfl ?_
        refine og_iconst (v := 0) X67 hx rfl (hb hby at_273) rfl ?_
        refine og_interface (pc' := 279) (cells' := 44) (slots' := 349) (W := 0) X67 hx hZ (rm_ug_0_2 l Z a0 hw nu65 nl65 nb65 nb18 ch kn65 h65 n0 O F_list_nu65 E_nl65 F_elementData_nl65 F_size_nl65 V_nb65) hown (ow261 hw) (ow262 hw) (ow263 hw) (ow264 hw) (ow265 hw) (ow266 hw) (ow267 hw) (ow250 hw) (ow230 hw) (ow268 hw) (by decide) (by rw [hml]; rfl) e67 opd_10 [(.int 0)] [] rfl rfl rfl rfl (by decide) (by decide) rfl rfl (by decide) (by decide) E_nu65 (hb hby at_274) rfl (fun v68 T68 h68 L68 X68 e68 z68 => ?_)
        obtain ⟨rfl, Nq68, hq68⟩ := z68; replace e68 := e68.trans hq68; have N := Fr.app N Nq68
        refine og_aload X68 hx rfl rfl (hb hby at_279) rfl ?_
        refine og_acmp_ne (pc1 := 288) (pc2 := 284) X68 hx rfl rfl (hb hby at_281) (by decide) (by decide) rfl (fun q => absurd rfl q) (fun _ => ?_)
        refine og_iconst (v := 1) X68 hx rfl (hb hby at_284) rfl ?_
        refine og_goto (pc' := 289) X68 hx (hb hby at_285) (by decide) (by decide) ?_
        refine og_istore (L' := #[.val (.int p0), .val (.int p1), .val (.int p2), .val (.int p3), .val (.int p4), .val (.int 1), .val (.int 1), .val (.int 1), .val (.int kd), .val (.ref nb14), .val (.ref nb18), .val (.ref nb22), .val (.ref na26), .val (.ref ch), .val (.int 1), .val (.ref nb14), .val (.ref nu65), .val (.int 1), .unset, .unset]) X68 hx rfl (hb hby at_289) rfl ?_
        refine og_iload X68 hx rfl (hb hby at_291) rfl ?_
        refine og_if_eq (pc1 := 301) (pc2 := 296) X68 hx (hb hby at_293) (by decide) (by decide) rfl (fun q => absurd q (by decide)) (fun _ => ?_)
        refine og_aload X68 hx rfl rfl (hb hby at_296) rfl ?_
        refine og_goto (pc' := 303) X68 hx (hb hby at_298) (by decide) (by decide) ?_
        refine og_astore (L' := #[.val (.int p0), .val (.int p1), .val (.int p2), .val (.int p3), .val (.int p4), .val (.int 1), .val (.int 1), .val (.int 1), .val (.int kd), .val (.ref nb14), .val (.ref nb18), .val (.ref nb22), .val (.ref na26), .val (.ref ch), .val (.int 1), .val (.ref nb14), .val (.ref nu65), .val (.int 1), .val (.ref na26), .unset]) X68 hx rfl rfl (hb hby at_303) rfl ?_
        refine og_aload X68 hx rfl rfl (hb hby at_305) rfl ?_
        refine og_virtual (pc' := 310) (cells' := 49) (slots' := 378) (W := 0) X68 hx hZ (rm_txt_SEE l Z a0 hw nb14 nl17 nb62 na26 nb18 ch nb26 k62 k26 gg26 cs hcs h65 n0 O F__children_nb14 E_nl17 F_modCount_nl17 F_elementData_nl17 F_size_nl17 V_nb62 E_na26 F_value_na26 F_coder_na26 V_nb26 E_nb18 E_ch S_CS) hown (ow288 hw) (ow289 hw) (own_nf hZ (ow291 hw)) (ow291 hw) (ow290 hw) (ow2 hw) (ow292 hw) (by decide) (by rw [hml]; rfl) e68 opd_31 [] [] rfl rfl rfl rfl (by decide) (by decide) rfl rfl (by decide) (by decide) E_nb14 (hb hby at_307) rfl (fun v69 T69 h69 L69 X69 e69 z69 => ?_)
        obtain ⟨na69, nb69, k69, rfl, Nq69, K69, sa69, sb69, E_na69, F_value_na69, F_coder_na69, V_nb69⟩ := z69; have N := Fr.app N Nq69
        have s_na69 : h65.size ≤ na69 := sa69
        have ne_na26_na69 : na26 ≠ na69 := Nat.ne_of_lt (Nat.lt_of_lt_of_le E_na26.lt s_na69)
        have E_na26 := E_na26.keep K69; have F_value_na26 := F_value_na26.keep K69 nin0; have F_coder_na26 := F_coder_na26.keep K69 nin0; have V_nb26 := V_nb26.keep K69 nin0
        have O := O.keep K69 all0; have hk := Nat.le_trans hk K69.1; have CR := CR.trans (CHr.keep K69 sf0 CR.1)
        refine og_astore (L' := #[.val (.int p0), .val (.int p1), .val (.int p2), .val (.int p3), .val (.int p4), .val (.int 1), .val (.int 1), .val (.int 1), .val (.int kd), .val (.ref nb14), .val (.ref nb18), .val (.ref nb22), .val (.ref na26), .val (.ref ch), .val (.int 1), .val (.ref nb14), .val (.ref nu65), .val (.int 1), .val (.ref na26), .val (.ref na69)]) X69 hx rfl rfl (hb hby at_310) rfl ?_
        refine og_iload X69 hx rfl (hb hby at_312) rfl ?_
        refine og_if_eq (pc1 := 331) (pc2 := 317) X69 hx (hb hby at_314) (by decide) (by decide) rfl (fun q => absurd q (by decide)) (fun _ => ?_)
        refine og_aload X69 hx rfl rfl (hb hby at_317) rfl ?_
        refine og_aload X69 hx rfl rfl (hb hby at_319) rfl ?_
        refine og_virtual (pc' := 324) (cells' := 49) (slots' := 378) (W := 0) X69 hx hZ (rm_eq1_1 l Z a0 hw na69 na26 nb69 nb26 k69 k26 gg26 gg26 1 (by simp) cs hcs h69 n0 O E_na69 F_value_na69 F_coder_na69 V_nb69 E_na26 F_value_na26 F_coder_na26 V_nb26 S_CS (Ne.symm ne_na26_na69)) hown (ow363 hw) (ow364 hw) (own_nf hZ (ow366 hw)) (ow366 hw) (ow365 hw) (ow9 hw) (ow367 hw) (by decide) (by rw [hml]; rfl) e69 opd_29 [(.ref na26)] [] rfl rfl rfl rfl (by decide) (by decide) rfl rfl (by decide) (by decide) E_na69 (hb hby at_321) rfl (fun v70 T70 h70 L70 X70 e70 z70 => ?_)
        obtain ⟨rfl, Nq70, hq70⟩ := z70; replace e70 := e70.trans hq70; have N := Fr.app N Nq70
        refine og_if_eq (pc1 := 331) (pc2 := 327) X70 hx (hb hby at_324) (by decide) (by decide) rfl (fun q => absurd q (by decide)) (fun _ => ?_)
        refine og_iconst (v := 1) X70 hx rfl (hb hby at_327) rfl ?_
        refine og_goto (pc' := 332) X70 hx (hb hby at_328) (by decide) (by decide) ?_
        refine og_retNW X70 hx hZ hlk hEL hS e70 es hk CR hret (by simp) (hb hby at_332) (by decide) (by decide) ?_
        exact ⟨rfl, N⟩
    refine og_iload X26 hx rfl (hb hby at_107) rfl ?_
    refine og_iconst (v := 1) X26 hx rfl (hb hby at_109) rfl ?_
    refine og_icmp_ne (pc1 := 120) (pc2 := 113) X26 hx (hb hby at_110) (by decide) (by decide) rfl (fun hc110 => ?_) (fun hc110 => ?_)
    ·
     refine og_iload X26 hx rfl (hb hby at_120) rfl ?_
     refine og_iconst (v := 2) X26 hx rfl (hb hby at_122) rfl ?_
     refine og_icmp_ne (pc1 := 138) (pc2 := 126) X26 hx (hb hby at_123) (by decide) (by decide) rfl (fun hc123 => ?_) (fun hc123 => ?_)
     ·
      refine og_aload X26 hx rfl rfl (hb hby at_138) rfl ?_
      refine og_astore (L' := #[.val (.int p0), .val (.int p1), .val (.int p2), .val (.int p3), .val (.int p4), .val (.int b5), .val (.int b6), .val (.int b7), .val (.int kd), .val (.ref nb14), .val (.ref nb18), .val (.ref nb22), .val (.ref na26), .val (.ref nb22), .unset, .unset, .unset, .unset, .unset, .unset]) X26 hx rfl rfl (hb hby at_140) rfl ?_
      have E_ch := E_nb22
      exact J142 T26 _ _ T25.vm _ hS hk hZ hown CR (own_mono X26 (by decide) (by decide)) e26 N O K _ E_nb14 F__children_nb14 E_nl17 F_modCount_nl17 F_elementData_nl17 F_size_nl17 E_nb18 E_nb22 E_na26 F_value_na26 F_coder_na26 V_nb26 E_ch
     ·
      subst hc123
      refine og_iload X26 hx rfl (hb hby at_126) rfl ?_
      rcases hb5 with rfl | rfl
      ·
       refine og_if_eq (pc1 := 138) (pc2 := 131) X26 hx (hb hby at_128) (by decide) (by decide) rfl (fun _ => ?_) (fun q => absurd q (by decide))
       refine og_aload X26 hx rfl rfl (hb hby at_138) rfl ?_
       refine og_astore (L' := #[.val (.int p0), .val (.int p1), .val (.int p2), .val (.int p3), .val (.int p4), .val (.int 0), .val (.int b6), .val (.int b7), .val (.int 2), .val (.ref nb14), .val (.ref nb18), .val (.ref nb22), .val (.ref na26), .val (.ref nb22), .unset, .unset, .unset, .unset, .unset, .unset]) X26 hx rfl rfl (hb hby at_140) rfl ?_
       have E_ch := E_nb22
       exact J142 T26 _ _ T25.vm _ hS hk hZ hown CR (own_mono X26 (by decide) (by decide)) e26 N O K _ E_nb14 F__children_nb14 E_nl17 F_modCount_nl17 F_elementData_nl17 F_size_nl17 E_nb18 E_nb22 E_na26 F_value_na26 F_coder_na26 V_nb26 E_ch
      ·
       refine og_if_eq (pc1 := 138) (pc2 := 131) X26 hx (hb hby at_128) (by decide) (by decide) rfl (fun q => absurd q (by decide)) (fun _ => ?_)
       refine og_aload X26 hx rfl rfl (hb hby at_131) rfl ?_
       refine og_astore (L' := #[.val (.int p0), .val (.int p1), .val (.int p2), .val (.int p3), .val (.int p4), .val (.int 1), .val (.int b6), .val (.int b7), .val (.int 2), .val (.ref nb14), .val (.ref nb18), .val (.ref nb22), .val (.ref na26), .val (.ref nb18), .unset, .unset, .unset, .unset, .unset, .unset]) X26 hx rfl rfl (hb hby at_133) rfl ?_
       refine og_goto (pc' := 142) X26 hx (hb hby at_135) (by decide) (by decide) ?_
       have E_ch := E_nb18
       exact J142 T26 _ _ T25.vm _ hS hk hZ hown CR (own_mono X26 (by decide) (by decide)) e26 N O K _ E_nb14 F__children_nb14 E_nl17 F_modCount_nl17 F_elementData_nl17 F_size_nl17 E_nb18 E_nb22 E_na26 F_value_na26 F_coder_na26 V_nb26 E_ch
    ·
     subst hc110
     refine og_aload X26 hx rfl rfl (hb hby at_113) rfl ?_
     refine og_astore (L' := #[.val (.int p0), .val (.int p1), .val (.int p2), .val (.int p3), .val (.int p4), .val (.int b5), .val (.int b6), .val (.int b7), .val (.int 1), .val (.ref nb14), .val (.ref nb18), .val (.ref nb22), .val (.ref na26), .val (.ref nb14), .unset, .unset, .unset, .unset, .unset, .unset]) X26 hx rfl rfl (hb hby at_115) rfl ?_
     refine og_goto (pc' := 142) X26 hx (hb hby at_117) (by decide) (by decide) ?_
     have E_ch := E_nb14
     exact J142 T26 _ _ T25.vm _ hS hk hZ hown CR (own_mono X26 (by decide) (by decide)) e26 N O K _ E_nb14 F__children_nb14 E_nl17 F_modCount_nl17 F_elementData_nl17 F_size_nl17 E_nb18 E_nb22 E_na26 F_value_na26 F_coder_na26 V_nb26 E_ch
   refine og_if_eq (pc1 := 36) (pc2 := 32) X12 hx (hb hby at_29) (by decide) (by decide) rfl (fun hc29 => ?_) (fun hc29 => ?_)
   ·
    refine og_iconst (v := 0) X12 hx rfl (hb hby at_36) rfl ?_
    exact J37 T12 _ _ vm12 _ hS hk hZ hown CR (own_mono X12 (by decide) (by decide)) e12 N O K _ (Or.inl rfl) 
   ·
    refine og_iconst (v := 1) X12 hx rfl (hb hby at_32) rfl ?_
    refine og_goto (pc' := 37) X12 hx (hb hby at_33) (by decide) (by decide) ?_
    exact J37 T12 _ _ vm12 _ hS hk hZ hown CR (own_mono X12 (by decide) (by decide)) e12 N O K _ (Or.inr rfl) 
  refine og_if_eq (pc1 := 23) (pc2 := 19) X11 hx (hb hby at_16) (by decide) (by decide) rfl (fun hc16 => ?_) (fun hc16 => ?_)
  ·
   refine og_iconst (v := 0) X11 hx rfl (hb hby at_23) rfl ?_
   exact J24 T11 _ _ vm11 _ hS hk hZ hown CR (own_mono X11 (by decide) (by decide)) e11 N O K _ (Or.inl rfl) 
  ·
   refine og_iconst (v := 1) X11 hx rfl (hb hby at_19) rfl ?_
   refine og_goto (pc' := 24) X11 hx (hb hby at_20) (by decide) (by decide) ?_
   exact J24 T11 _ _ vm11 _ hS hk hZ hown CR (own_mono X11 (by decide) (by decide)) e11 N O K _ (Or.inr rfl) 
 refine og_if_eq (pc1 := 10) (pc2 := 6) X0 hx (hb hby at_3) (by decide) (by decide) rfl (fun hc3 => ?_) (fun hc3 => ?_)
 ·
  refine og_iconst (v := 0) X0 hx rfl (hb hby at_10) rfl ?_
  exact J11 T0 _ _ s.vm _ hS hk hZ hown CR (own_mono X0 (by decide) (by decide)) e0 N O K _ (Or.inl rfl) 
 ·
  refine og_iconst (v := 1) X0 hx rfl (hb hby at_6) rfl ?_
  refine og_goto (pc' := 11) X0 hx (hb hby at_7) (by decide) (by decide) ?_
  exact J11 T0 _ _ s.vm _ hS hk hZ hown CR (own_mono X0 (by decide) (by decide)) e0 N O K _ (Or.inr rfl) 
theorem comes_1 {Post : Tables → Env → Array Value → State → Outcome → State → Prop} (hpost : ∀ tb e args s v u, (limb_1_1.after args s (.returned v) u = true ∧ limb_1_2.after args s (.returned v) u = true ∧ True) → ReturnedEndW s (.returned v) u (Jvm.fieldLocs frame_1_writes args s ++ Jvm.arrayLocs frame_1_arrays args s ++ Jvm.staticLocs frame_1_statics s) 88 4480 → Post tb e args s (.returned v) u) :
    ArmFor flags0 classFile x code maxLocals ret World_1 tables_1 room_1 Calls_1 rest_1 Pre_1 Post := by
  intro l hfl _ _ p e ha hc hk s m args below hf hA hF happ hP
  obtain ⟨hcalls, hrest, hpre⟩ := hP
  obtain ⟨-, -, -, hnamed, -, -, -, hat⟩ := (Spec.applies_iff hf).mp happ
  obtain ⟨hg, hn⟩ := and_e (Cond.before_iff.mp (show (Jvm.Cond.and given_1 narrow_1).before args s = true from hpre))
  obtain ⟨g2, g3⟩ := and_e hg
  obtain ⟨g4, g5⟩ := and_e g3
  obtain ⟨g6, g7⟩ := and_e g5
  obtain ⟨g8, g9⟩ := and_e g7
  obtain ⟨g10, g11⟩ := and_e g9
  obtain ⟨w0, w1, w2, w3, w4, rfl⟩ : ∃ w0 w1 w2 w3 w4 : Value, args = #[w0, w1, w2, w3, w4] := by
    have hs : args.size = 5 := by simpa [Cond.value, given_1] using g2
    obtain ⟨L⟩ := args
    match L, hs with
    | [w0, w1, w2, w3, w4], _ => exact ⟨w0, w1, w2, w3, w4, rfl⟩
  have hw := fun d (hd : d ∈ tables_1) => atoms_spec (ws := Jvm.Cond.code x code maxLocals ret :: tables_1) hat d (List.mem_cons_of_mem _ hd)
  have hfit : Fit s := fun {y c} hc i hi => by
    obtain ⟨ha, rfl⟩ := Array.getElem?_eq_some_iff.mp hc
    have q := List.all_eq_true.mp ((Array.all_eq_true_iff_forall_mem.mp hF) _ (Array.getElem_mem ha)) i (List.mem_range.mpr hi)
    simpa [Array.getElem?_eq_getElem hi] using q
  obtain ⟨hsets, hown0⟩ := atoms_of _ (rest_1_c_eq ▸ (show rest_1_c.before _ s = true from hrest))
  obtain ⟨i0, ei0⟩ := is_v g4
  obtain rfl : w0 = (.int i0) := Option.some.inj ei0
  obtain ⟨i1, ei1⟩ := is_v g6
  obtain rfl : w1 = (.int i1) := Option.some.inj ei1
  obtain ⟨i2, ei2⟩ := is_v g8
  obtain rfl : w2 = (.int i2) := Option.some.inj ei2
  obtain ⟨i3, ei3⟩ := is_v g10
  obtain rfl : w3 = (.int i3) := Option.some.inj ei3
  obtain ⟨i4, ei4⟩ := is_v g11
  obtain rfl : w4 = (.int i4) := Option.some.inj ei4
  obtain ⟨cs, ecs⟩ := is_v (Cond.before_iff.mp (hsets _ (List.mem_of_getElem? (i := 1) rfl)))
  have S_CS := Sta.start ecs (Or.inl (hsets _ (List.mem_of_getElem? (i := 0) rfl)))
  have hcs : ¬ cs = 0 := own_ne0 ecs (Cond.before_iff.mp (hsets _ (List.mem_of_getElem? (i := 2) rfl)))
  obtain ⟨de, ede⟩ := exa_v (Cond.before_iff.mp (hsets _ (List.mem_of_getElem? (i := 16) rfl)))
  have S_DE := Sta.start ede (Or.inr ⟨(ow67 hw), (hsets _ (List.mem_of_getElem? (i := 11) rfl))⟩)
  obtain ⟨cde, Ar_de⟩ := Arr.start ede (Cond.before_iff.mp (hsets _ (List.mem_of_getElem? (i := 15) rfl)))
  have V_de := own_arvstart hfit ede Ar_de (own_eqint (Cond.before_iff.mp (hsets _ (List.mem_of_getElem? (i := 17) rfl)))) (vs := []) (dv := .null) (by decide) rfl trivial
  obtain ⟨mA, M_mA, Y_mA⟩ := own_mir hcalls.1
  obtain ⟨mL, M_mL, Y_mL⟩ := own_mir hcalls.2.1
  obtain ⟨mR, M_mR, Y_mR⟩ := own_mir hcalls.2.2.1
  have ne_mA_mL := Mir.ne Y_mA Y_mL (by decide)
  have ne_mA_mR := Mir.ne Y_mA Y_mR (by decide)
  obtain ⟨n, o, h1, h2, h3, _, L, rfl, ⟨rfl, N⟩, -, hq⟩ := rm0 l s _ hw tables_1 i0 i1 i2 i3 i4 mA mL mR de cde.cls cs hcs s.heap s.heap.size (Old.start s) (own_hEL hw) S_CS S_DE V_de M_mA M_mL M_mR ne_mA_mL ne_mA_mR p e ha hc hk s m _ below hf ((Spec.applies_iff_loose hf).mp happ).1 ⟨rfl, State.Warmed39.refl s, rfl, (CHv.start (own_hEL hw) (fun p hp => own_held hcalls.2.2.2.1 p hp) (hsets _ (List.mem_of_getElem? (i := 2) rfl)) (ow21 hw) (ow17 hw)), all0⟩ trivial
  refine ⟨n, _, h1, h2, h3, hpost _ _ _ _ _ _ ⟨Cond.after_iff.mpr rfl, Cond.after_iff.mpr (eq_i res_at (Term.int_eval (1)) rfl), trivial⟩ ⟨hq.1, hq.2.1, hq.2.2.1, (hq.2.2.2.sift fun y hy => Or.inr (N y hy)).mono (by decide) (by decide)⟩⟩
theorem main_1_1 : Claimed_1_1 := comes_1 fun _ _ _ _ _ _ h hF => ⟨h.1, hF⟩
theorem main_1_2 : Claimed_1_2 := comes_1 fun _ _ _ _ _ _ h hF => ⟨h.2.1, hF⟩
end Jvm.Pilot.@@N@@
namespace Jvm.Pilot.@@N@@
open Jvm Jvm.ClassFile Sem Op Lib Jvm.Free Jvm.Stand Jvm.Pilot.@@N@@.Jvm.D
/-! MADE BY PROGRAM (witnessworld.py) out of the Statement's table words and the real class files: 42 classes; the members and pool entries that the words name. The judged class is class 1, her method 2. -/
namespace start1
open Jvm.ClassFile
def u (s : String) : CpInfo := .utf8 (stringToUtf16 s)
/-- a pool by its gaps: so many unusable entries, then the entry; so many at the end -/
def gap : Nat → List CpInfo → List CpInfo
  | 0, r => r
  | n + 1, r => .unusable :: gap n r
def poolList (es : List (Nat × CpInfo)) (last : Nat) : List CpInfo := es.foldr (fun e r => gap e.1 (e.2 :: r)) (gap last [])
def pool (es : List (Nat × CpInfo)) (last : Nat) : Array CpInfo := ⟨poolList es last⟩
def fileOf (pool : Array CpInfo) (this : Nat) (attrs : Array Attribute := #[]) (ms : Array MethodInfo := #[]) (fl : Nat := 33) (sup : Nat := 0) (ifs : Array Nat := #[]) (fds : Array FieldInfo := #[]) : ClassFile where
  minorVersion := 0
  majorVersion := 65
  constantPool := pool
  accessFlags := fl
  thisClass := this
  superClass := sup
  interfaces := ifs
  fields := fds
  methods := ms
  attributes := attrs
def plain (name : String) (sup : Option ClassId) : Class where
  name := name
  kind := .ordinary
  loader := none
  accessFlags := 33
  super := sup
  interfaces := #[]
  cf := none
  fields := #[]
  methods := #[]
  instanceTypes := #[]
  staticTypes := #[]
  resolved := #[]
  callSites := []
  init := .initialized
  statics := none
  mirror := none

def pool0 : Array CpInfo := pool [(5, u "<init>"), (0, u "()V"), (1, .class_ 10), (1, u "java/lang/Object"), (0, u "getClass"), (0, u "()Ljava/lang/Class;")] 111

def k0c0 : Code := { maxStack := 0, maxLocals := 1, code := object_method_1_code, exceptionTable := #[], attributes := #[] }
def k0m0 : Method := { name := "<init>", desc := "()V", sig := { parameters := [], returnType := none }, accessFlags := 1, code := some k0c0 }
def k0m1 : Method := { name := "getClass", desc := "()Ljava/lang/Class;", sig := { parameters := [], returnType := some (.object "java/lang/Class") }, accessFlags := 273, code := none }
/-- java/lang/Object -/
def k0 : Class := { plain "java/lang/Object" none with
  accessFlags := 33
  interfaces := #[]
  cf := some (fileOf pool0 8 #[] #[{ accessFlags := 1, nameIndex := 5, descriptorIndex := 6, attributes := #[] }, { accessFlags := 273, nameIndex := 11, descriptorIndex := 12, attributes := #[] }] 33 0 #[] #[])
  fields := #[]
  methods := #[k0m0, k0m1]
  instanceTypes := #[]
  staticTypes := #[]
  resolved := Array.replicate 124 none
  statics := none }

def pool1 : Array CpInfo := pool [(2, .class_ 4), (1, u "java/lang/Object"), (0, u "<init>"), (0, u "()V"), (0, .methodref 8 9), (0, .class_ 10), (0, .nameAndType 11 12), (0, u "java/lang/String"), (0, u "valueOf"), (0, u "(C)Ljava/lang/String;"), (0, .class_ 14), (0, u "com/example/marsh_tit/marshtit/stanza/Element"), (0, .methodref 16 17), (0, .class_ 18), (0, .nameAndType 19 20), (0, u "com/example/marsh_tit/marshtit/stanza/ElementAddPinLaw"), (0, u "s"), (0, u "(I)Ljava/lang/String;"), (0, .methodref 13 22), (0, .nameAndType 5 23), (0, u "(Ljava/lang/String;Ljava/lang/String;)V"), (0, .methodref 13 25), (0, .nameAndType 26 27), (0, u "addText"), (0, u "(Ljava/lang/String;)Lcom/example/marsh_tit/marshtit/stanza/Element;"), (0, .methodref 13 29), (0, .nameAndType 30 31), (0, u "add"), (0, u "(Lcom/example/marsh_tit/marshtit/stanza/Element;)Lcom/example/marsh_tit/marshtit/stanza/Element;"), (0, .methodref 13 33), (0, .nameAndType 34 35), (0, u "elements"), (0, u "()Ljava/util/List;"), (0, .interfaceMethodref 37 38), (0, .class_ 39), (0, .nameAndType 40 41), (0, u "java/util/List"), (0, u "size"), (0, u "()I"), (0, .interfaceMethodref 37 43), (0, .nameAndType 44 45), (0, u "get"), (0, u "(I)Ljava/lang/Object;"), (0, .string 47), (0, u ""), (0, .methodref 13 49), (0, .nameAndType 50 51), (0, u "text"), (0, u "()Ljava/lang/String;"), (0, .methodref 8 53), (0, .nameAndType 54 55), (0, u "equals"), (0, u "(Ljava/lang/Object;)Z"), (2, u "law"), (0, u "(IIIII)Z")] 3

def k1m0 : Method := { name := "<init>", desc := "()V", sig := { parameters := [], returnType := none }, accessFlags := 1, code := none }
def k1c1 : Code := { maxStack := 2, maxLocals := 1, code := method_2_code, exceptionTable := #[], attributes := #[] }
def k1m1 : Method := { name := "s", desc := "(I)Ljava/lang/String;", sig := { parameters := [.int], returnType := some (.object "java/lang/String") }, accessFlags := 10, code := some k1c1 }
def k1c2 : Code := { maxStack := 5, maxLocals := 20, code := code, exceptionTable := #[], attributes := #[] }
def k1m2 : Method := { name := "law", desc := "(IIIII)Z", sig := { parameters := [.int, .int, .int, .int, .int], returnType := some .boolean }, accessFlags := 9, code := some k1c2 }
/-- com/example/marsh_tit/marshtit/stanza/ElementAddPinLaw -/
def k1 : Class := { plain "com/example/marsh_tit/marshtit/stanza/ElementAddPinLaw" (some 0) with
  accessFlags := 49
  interfaces := #[]
  cf := some (fileOf pool1 16 #[] #[{ accessFlags := 1, nameIndex := 5, descriptorIndex := 6, attributes := #[] }, { accessFlags := 10, nameIndex := 19, descriptorIndex := 20, attributes := #[] }, { accessFlags := 9, nameIndex := 58, descriptorIndex := 59, attributes := #[] }] 49 2 #[] #[])
  fields := #[]
  methods := #[k1m0, k1m1, k1m2]
  instanceTypes := #[]
  staticTypes := #[]
  resolved := Array.replicate 63 none
  statics := none }

def pool2 : Array CpInfo := pool [(1, .methodref 2 3), (0, .class_ 4), (0, .nameAndType 5 6), (0, u "java/lang/Object"), (0, u "<init>"), (0, u "()V"), (0, .class_ 8), (0, u "java/util/LinkedHashMap"), (0, .methodref 7 3), (0, .fieldref 11 12), (0, .class_ 13), (0, .nameAndType 14 15), (0, u "com/example/marsh_tit/marshtit/stanza/Element"), (0, u "_attributes"), (0, u "Ljava/util/Map;"), (0, .class_ 17), (0, u "java/util/ArrayList"), (0, .methodref 16 3), (0, .fieldref 11 20), (0, .nameAndType 21 22), (0, u "_children"), (0, u "Ljava/util/List;"), (0, .string 24), (0, u "namespace"), (0, .methodref 26 27), (0, .class_ 28), (0, .nameAndType 29 30), (0, u "java/util/Objects"), (0, u "requireNonNull"), (0, u "(Ljava/lang/Object;Ljava/lang/String;)Ljava/lang/Object;"), (0, .class_ 32), (0, u "java/lang/String"), (0, .fieldref 11 34), (0, .nameAndType 35 36), (0, u "_namespace"), (0, u "Ljava/lang/String;"), (0, .string 38), (0, u "name"), (0, .fieldref 11 40), (0, .nameAndType 41 36), (0, u "_name"), (3, u "(Ljava/lang/Object;)Z"), (9, u "get"), (8, u "()Ljava/lang/String;"), (5, u "(Ljava/lang/String;Ljava/lang/String;)V"), (7, .string 79), (0, u "child"), (0, .interfaceMethodref 81 82), (0, .class_ 83), (0, .nameAndType 84 45), (0, u "java/util/List"), (0, u "add"), (8, .interfaceMethodref 81 94), (0, .nameAndType 95 96), (0, u "size"), (0, u "()I"), (0, .interfaceMethodref 81 98), (0, .nameAndType 55 99), (0, u "(I)Ljava/lang/Object;"), (12, .methodref 31 113), (0, .nameAndType 114 115), (0, u "isEmpty"), (0, u "()Z"), (0, .interfaceMethodref 81 117), (0, .nameAndType 118 119), (0, u "iterator"), (0, u "()Ljava/util/Iterator;"), (0, .interfaceMethodref 121 122), (0, .class_ 123), (0, .nameAndType 124 115), (0, u "java/util/Iterator"), (0, u "hasNext"), (0, .interfaceMethodref 121 126), (0, .nameAndType 127 128), (0, u "next"), (0, u "()Ljava/lang/Object;"), (0, .methodref 130 131), (0, .class_ 132), (0, .nameAndType 133 134), (0, u "java/util/Collections"), (0, u "unmodifiableList"), (0, u "(Ljava/util/List;)Ljava/util/List;"), (2, u "elements"), (0, u "()Ljava/util/List;"), (4, .class_ 144), (0, u "java/lang/StringBuilder"), (0, .methodref 143 3), (0, .methodref 143 147), (0, .nameAndType 148 149), (0, u "append"), (0, u "(Ljava/lang/String;)Ljava/lang/StringBuilder;"), (0, .methodref 143 151), (0, .nameAndType 152 64), (0, u "toString"), (91, u "(Lcom/example/marsh_tit/marshtit/stanza/Element;)Lcom/example/marsh_tit/marshtit/stanza/Element;"), (0, u "addText"), (0, u "(Ljava/lang/String;)Lcom/example/marsh_tit/marshtit/stanza/Element;"), (2, u "text")] 42

def k2c0 : Code := { maxStack := 3, maxLocals := 3, code := prog_19_method_1_code, exceptionTable := #[], attributes := #[] }
def k2m0 : Method := { name := "<init>", desc := "(Ljava/lang/String;Ljava/lang/String;)V", sig := { parameters := [(.object "java/lang/String"), (.object "java/lang/String")], returnType := none }, accessFlags := 1, code := some k2c0 }
def k2c1 : Code := { maxStack := 3, maxLocals := 2, code := prog_19_method_8_code, exceptionTable := #[], attributes := #[] }
def k2m1 : Method := { name := "add", desc := "(Lcom/example/marsh_tit/marshtit/stanza/Element;)Lcom/example/marsh_tit/marshtit/stanza/Element;", sig := { parameters := [(.object "com/example/marsh_tit/marshtit/stanza/Element")], returnType := some (.object "com/example/marsh_tit/marshtit/stanza/Element") }, accessFlags := 1, code := some k2c1 }
def k2c2 : Code := { maxStack := 4, maxLocals := 3, code := prog_19_method_10_code, exceptionTable := #[], attributes := #[] }
def k2m2 : Method := { name := "addText", desc := "(Ljava/lang/String;)Lcom/example/marsh_tit/marshtit/stanza/Element;", sig := { parameters := [(.object "java/lang/String")], returnType := some (.object "com/example/marsh_tit/marshtit/stanza/Element") }, accessFlags := 1, code := some k2c2 }
def k2c3 : Code := { maxStack := 2, maxLocals := 4, code := prog_19_method_11_code, exceptionTable := #[], attributes := #[] }
def k2m3 : Method := { name := "elements", desc := "()Ljava/util/List;", sig := { parameters := [], returnType := some (.object "java/util/List") }, accessFlags := 1, code := some k2c3 }
def k2c4 : Code := { maxStack := 2, maxLocals := 4, code := prog_19_method_13_code, exceptionTable := #[], attributes := #[] }
def k2m4 : Method := { name := "text", desc := "()Ljava/lang/String;", sig := { parameters := [], returnType := some (.object "java/lang/String") }, accessFlags := 1, code := some k2c4 }
/-- com/example/marsh_tit/marshtit/stanza/Element -/
def k2 : Class := { plain "com/example/marsh_tit/marshtit/stanza/Element" (some 0) with
  accessFlags := 49
  interfaces := #[]
  cf := some (fileOf pool2 11 #[] #[{ accessFlags := 1, nameIndex := 5, descriptorIndex := 70, attributes := #[] }, { accessFlags := 1, nameIndex := 84, descriptorIndex := 244, attributes := #[] }, { accessFlags := 1, nameIndex := 245, descriptorIndex := 246, attributes := #[] }, { accessFlags := 1, nameIndex := 137, descriptorIndex := 138, attributes := #[] }, { accessFlags := 1, nameIndex := 249, descriptorIndex := 64, attributes := #[] }] 49 2 #[] #[{ accessFlags := 18, nameIndex := 35, descriptorIndex := 36, attributes := #[] }, { accessFlags := 18, nameIndex := 41, descriptorIndex := 36, attributes := #[] }, { accessFlags := 18, nameIndex := 14, descriptorIndex := 15, attributes := #[] }, { accessFlags := 18, nameIndex := 21, descriptorIndex := 22, attributes := #[] }])
  fields := #[{ name := "_namespace", type := (.object "java/lang/String"), accessFlags := 18, slot := 0, constantValue := 0 }, { name := "_name", type := (.object "java/lang/String"), accessFlags := 18, slot := 1, constantValue := 0 }, { name := "_attributes", type := (.object "java/util/Map"), accessFlags := 18, slot := 2, constantValue := 0 }, { name := "_children", type := (.object "java/util/List"), accessFlags := 18, slot := 3, constantValue := 0 }]
  methods := #[k2m0, k2m1, k2m2, k2m3, k2m4]
  instanceTypes := #[(.object "java/lang/String"), (.object "java/lang/String"), (.object "java/util/Map"), (.object "java/util/List")]
  staticTypes := #[]
  resolved := Array.replicate 292 none
  statics := none }

def pool3 : Array CpInfo := pool [(1, .class_ 2), (0, u "java/io/Serializable"), (0, .class_ 4), (0, u "java/lang/Object")] 2

/-- java/io/Serializable -/
def k3 : Class := { plain "java/io/Serializable" (some 0) with
  accessFlags := 1537
  interfaces := #[]
  cf := some (fileOf pool3 1 #[] #[] 1537 3 #[] #[])
  fields := #[]
  methods := #[]
  instanceTypes := #[]
  staticTypes := #[]
  resolved := Array.replicate 7 none
  statics := none }

def pool4 : Array CpInfo := pool [(1, .class_ 2), (0, u "java/lang/Comparable"), (0, .class_ 4), (0, u "java/lang/Object")] 7

/-- java/lang/Comparable -/
def k4 : Class := { plain "java/lang/Comparable" (some 0) with
  accessFlags := 1537
  interfaces := #[]
  cf := some (fileOf pool4 1 #[] #[] 1537 3 #[] #[])
  fields := #[]
  methods := #[]
  instanceTypes := #[]
  staticTypes := #[]
  resolved := Array.replicate 12 none
  statics := none }

def pool5 : Array CpInfo := pool [(2, .class_ 4), (1, u "java/lang/CharSequence"), (42, .class_ 48), (0, u "java/lang/CharSequence$1CodePointIterator"), (10, .class_ 60), (0, u "java/lang/CharSequence$1CharIterator"), (5, .class_ 67), (0, u "java/lang/Object")] 63

/-- java/lang/CharSequence -/
def k5 : Class := { plain "java/lang/CharSequence" (some 0) with
  accessFlags := 1537
  interfaces := #[]
  cf := some (fileOf pool5 2 #[.nestMembers #[47, 59]] #[] 1537 66 #[] #[])
  fields := #[]
  methods := #[]
  instanceTypes := #[]
  staticTypes := #[]
  resolved := Array.replicate 131 none
  statics := none }

def pool6 : Array CpInfo := pool [(1, .class_ 2), (0, u "java/lang/constant/Constable"), (0, .class_ 4), (0, u "java/lang/Object")] 6

/-- java/lang/constant/Constable -/
def k6 : Class := { plain "java/lang/constant/Constable" (some 0) with
  accessFlags := 1537
  interfaces := #[]
  cf := some (fileOf pool6 1 #[] #[] 1537 3 #[] #[])
  fields := #[]
  methods := #[]
  instanceTypes := #[]
  staticTypes := #[]
  resolved := Array.replicate 11 none
  statics := none }

def pool7 : Array CpInfo := pool [(1, .class_ 2), (0, u "java/lang/constant/ConstantDesc"), (0, .class_ 4), (0, u "java/lang/Object")] 32

/-- java/lang/constant/ConstantDesc -/
def k7 : Class := { plain "java/lang/constant/ConstantDesc" (some 0) with
  accessFlags := 1537
  interfaces := #[]
  cf := some (fileOf pool7 1 #[] #[] 1537 3 #[] #[])
  fields := #[]
  methods := #[]
  instanceTypes := #[]
  staticTypes := #[]
  resolved := Array.replicate 37 none
  statics := none }

def pool8 : Array CpInfo := pool [(1, .methodref 2 3), (0, .class_ 4), (0, .nameAndType 5 6), (0, u "java/lang/Object"), (0, u "<init>"), (0, u "()V"), (2, .fieldref 10 11), (0, .class_ 12), (0, .nameAndType 13 14), (0, u "java/lang/String"), (0, u "value"), (0, u "[B"), (0, .fieldref 10 16), (0, .nameAndType 17 18), (0, u "coder"), (0, u "B"), (2, u "hash"), (0, u "I"), (2, u "hashIsZero"), (0, u "Z"), (11, .fieldref 10 39), (0, .nameAndType 40 26), (0, u "COMPACT_STRINGS"), (12, u "toBytes"), (0, .methodref 55 56), (0, .class_ 57), (0, .nameAndType 58 59), (0, u "java/util/Arrays"), (0, u "copyOfRange"), (0, u "([BII)[B"), (47, .class_ 109), (1, u "java/lang/StringLatin1"), (32, u "()Z"), (50, .class_ 195), (1, u "java/lang/System"), (13, .methodref 10 210), (0, .nameAndType 5 211), (0, u "([BB)V"), (0, .methodref 193 213), (0, .nameAndType 214 215), (0, u "arraycopy"), (0, u "(Ljava/lang/Object;ILjava/lang/Object;II)V"), (118, u "()I"), (0, .methodref 10 336), (0, .nameAndType 17 337), (0, u "()B"), (2, u "()[B"), (28, u "(C)Z"), (119, .methodref 10 490), (0, .nameAndType 5 491), (0, u "(Ljava/lang/AbstractStringBuilder;Ljava/lang/Void;)V"), (1, .nameAndType 494 142), (0, u "isLatin1"), (11, .nameAndType 507 334), (0, u "length"), (24, u "getBytes"), (8, .methodref 107 542), (0, .nameAndType 543 544), (0, u "equals"), (0, u "([B[B)Z"), (4, .methodref 550 506), (0, .class_ 551), (0, u "java/lang/AbstractStringBuilder"), (0, .methodref 550 553), (0, .nameAndType 554 340), (0, u "getValue"), (18, u "(Ljava/lang/Object;)Z"), (1, .class_ 576), (0, u "java/lang/CharSequence"), (22, u "CASE_INSENSITIVE_ORDER"), (0, u "Ljava/util/Comparator;"), (91, u "isEmpty"), (89, u "valueOf"), (0, u "(C)Ljava/lang/String;"), (37, u "([BIB)V"), (193, .methodref 107 1016), (0, .nameAndType 1017 369), (0, u "canEncode"), (0, .methodref 107 1019), (0, .nameAndType 53 1020), (0, u "(C)[B"), (26, .methodref 550 493), (53, u "serialPersistentFields"), (0, u "[Ljava/io/ObjectStreamField;"), (0, .class_ 1104), (0, u "java/lang/String$CaseInsensitiveComparator"), (1, .class_ 1107), (0, u "java/io/Serializable"), (0, .class_ 1109), (0, u "java/lang/Comparable"), (0, .class_ 1111), (0, u "java/lang/constant/Constable"), (0, .class_ 1113), (0, u "java/lang/constant/ConstantDesc"), (2, u "serialVersionUID"), (0, u "J"), (3, u "REPL"), (0, u "C"), (2, u "LATIN1"), (1, u "UTF16"), (105, u "(Ljava/lang/StringBuilder;)V")] 217

def k8m0 : Method := { name := "<init>", desc := "()V", sig := { parameters := [], returnType := none }, accessFlags := 1, code := none }
def k8c1 : Code := { maxStack := 3, maxLocals := 2, code := jdk_42_method_53_code, exceptionTable := #[], attributes := #[] }
def k8m1 : Method := { name := "<init>", desc := "(Ljava/lang/StringBuilder;)V", sig := { parameters := [(.object "java/lang/StringBuilder")], returnType := none }, accessFlags := 1, code := some k8c1 }
def k8c2 : Code := { maxStack := 2, maxLocals := 1, code := jdk_42_method_54_code, exceptionTable := #[], attributes := #[] }
def k8m2 : Method := { name := "length", desc := "()I", sig := { parameters := [], returnType := some .int }, accessFlags := 1, code := some k8c2 }
def k8c3 : Code := { maxStack := 1, maxLocals := 1, code := jdk_42_method_55_code, exceptionTable := #[], attributes := #[] }
def k8m3 : Method := { name := "isEmpty", desc := "()Z", sig := { parameters := [], returnType := some .boolean }, accessFlags := 1, code := some k8c3 }
def k8c4 : Code := { maxStack := 2, maxLocals := 3, code := jdk_42_method_66_code, exceptionTable := #[], attributes := #[] }
def k8m4 : Method := { name := "equals", desc := "(Ljava/lang/Object;)Z", sig := { parameters := [(.object "java/lang/Object")], returnType := some .boolean }, accessFlags := 1, code := some k8c4 }
def k8c5 : Code := { maxStack := 4, maxLocals := 1, code := jdk_42_method_139_code, exceptionTable := #[], attributes := #[] }
def k8m5 : Method := { name := "valueOf", desc := "(C)Ljava/lang/String;", sig := { parameters := [.char], returnType := some (.object "java/lang/String") }, accessFlags := 9, code := some k8c5 }
def k8c6 : Code := { maxStack := 5, maxLocals := 4, code := jdk_42_method_147_code, exceptionTable := #[], attributes := #[] }
def k8m6 : Method := { name := "getBytes", desc := "([BIB)V", sig := { parameters := [(.array .byte), .int, .byte], returnType := none }, accessFlags := 0, code := some k8c6 }
def k8c7 : Code := { maxStack := 5, maxLocals := 5, code := jdk_42_method_150_code, exceptionTable := #[], attributes := #[] }
def k8m7 : Method := { name := "<init>", desc := "(Ljava/lang/AbstractStringBuilder;Ljava/lang/Void;)V", sig := { parameters := [(.object "java/lang/AbstractStringBuilder"), (.object "java/lang/Void")], returnType := none }, accessFlags := 0, code := some k8c7 }
def k8c8 : Code := { maxStack := 2, maxLocals := 3, code := jdk_42_method_151_code, exceptionTable := #[], attributes := #[] }
def k8m8 : Method := { name := "<init>", desc := "([BB)V", sig := { parameters := [(.array .byte), .byte], returnType := none }, accessFlags := 0, code := some k8c8 }
def k8c9 : Code := { maxStack := 1, maxLocals := 1, code := jdk_42_method_152_code, exceptionTable := #[], attributes := #[] }
def k8m9 : Method := { name := "coder", desc := "()B", sig := { parameters := [], returnType := some .byte }, accessFlags := 0, code := some k8c9 }
/-- java/lang/String -/
def k8 : Class := { plain "java/lang/String" (some 0) with
  accessFlags := 49
  interfaces := #[3, 4, 5, 6, 7]
  cf := some (fileOf pool8 10 #[.nestMembers #[1103]] #[{ accessFlags := 1, nameIndex := 5, descriptorIndex := 6, attributes := #[] }, { accessFlags := 1, nameIndex := 5, descriptorIndex := 1233, attributes := #[] }, { accessFlags := 1, nameIndex := 507, descriptorIndex := 334, attributes := #[] }, { accessFlags := 1, nameIndex := 692, descriptorIndex := 142, attributes := #[] }, { accessFlags := 1, nameIndex := 543, descriptorIndex := 573, attributes := #[] }, { accessFlags := 9, nameIndex := 782, descriptorIndex := 783, attributes := #[] }, { accessFlags := 0, nameIndex := 532, descriptorIndex := 821, attributes := #[] }, { accessFlags := 0, nameIndex := 5, descriptorIndex := 491, attributes := #[] }, { accessFlags := 0, nameIndex := 5, descriptorIndex := 211, attributes := #[] }, { accessFlags := 0, nameIndex := 17, descriptorIndex := 337, attributes := #[] }] 49 2 #[1106, 1108, 575, 1110, 1112] #[{ accessFlags := 18, nameIndex := 13, descriptorIndex := 14, attributes := #[] }, { accessFlags := 18, nameIndex := 17, descriptorIndex := 18, attributes := #[] }, { accessFlags := 2, nameIndex := 21, descriptorIndex := 22, attributes := #[] }, { accessFlags := 2, nameIndex := 25, descriptorIndex := 26, attributes := #[] }, { accessFlags := 26, nameIndex := 1116, descriptorIndex := 1117, attributes := #[] }, { accessFlags := 24, nameIndex := 40, descriptorIndex := 26, attributes := #[] }, { accessFlags := 26, nameIndex := 1101, descriptorIndex := 1102, attributes := #[] }, { accessFlags := 26, nameIndex := 1121, descriptorIndex := 1122, attributes := #[] }, { accessFlags := 25, nameIndex := 599, descriptorIndex := 600, attributes := #[] }, { accessFlags := 24, nameIndex := 1125, descriptorIndex := 18, attributes := #[] }, { accessFlags := 24, nameIndex := 1127, descriptorIndex := 18, attributes := #[] }])
  fields := #[{ name := "value", type := (.array .byte), accessFlags := 18, slot := 0, constantValue := 0 }, { name := "coder", type := .byte, accessFlags := 18, slot := 1, constantValue := 0 }, { name := "hash", type := .int, accessFlags := 2, slot := 2, constantValue := 0 }, { name := "hashIsZero", type := .boolean, accessFlags := 2, slot := 3, constantValue := 0 }, { name := "serialVersionUID", type := .long, accessFlags := 26, slot := 0, constantValue := 0 }, { name := "COMPACT_STRINGS", type := .boolean, accessFlags := 24, slot := 1, constantValue := 0 }, { name := "serialPersistentFields", type := (.array (.object "java/io/ObjectStreamField")), accessFlags := 26, slot := 2, constantValue := 0 }, { name := "REPL", type := .char, accessFlags := 26, slot := 3, constantValue := 0 }, { name := "CASE_INSENSITIVE_ORDER", type := (.object "java/util/Comparator"), accessFlags := 25, slot := 4, constantValue := 0 }, { name := "LATIN1", type := .byte, accessFlags := 24, slot := 5, constantValue := 0 }, { name := "UTF16", type := .byte, accessFlags := 24, slot := 6, constantValue := 0 }]
  methods := #[k8m0, k8m1, k8m2, k8m3, k8m4, k8m5, k8m6, k8m7, k8m8, k8m9]
  instanceTypes := #[(.array .byte), .byte, .int, .boolean]
  staticTypes := #[.long, .boolean, (.array (.object "java/io/ObjectStreamField")), .char, (.object "java/util/Comparator"), .byte, .byte]
  resolved := Array.replicate 1451 none
  statics := some 0 }

def pool9 : Array CpInfo := pool [(4, .class_ 6), (1, u "java/lang/Object"), (0, u "<init>"), (0, u "()V"), (5, .class_ 16), (1, u "java/lang/StringLatin1"), (73, u "canEncode"), (14, u "(C)Z"), (15, u "$assertionsDisabled"), (0, u "Z"), (98, .class_ 223), (1, u "java/lang/StringLatin1$LinesSpliterator"), (57, u "equals"), (0, u "([B[B)Z"), (97, u "toBytes"), (1, u "(C)[B"), (7, .class_ 391), (0, u "java/lang/StringLatin1$CharsSpliterator")] 3

def k9m0 : Method := { name := "<init>", desc := "()V", sig := { parameters := [], returnType := none }, accessFlags := 0, code := none }
def k9c1 : Code := { maxStack := 2, maxLocals := 1, code := jdk_43_method_3_code, exceptionTable := #[], attributes := #[] }
def k9m1 : Method := { name := "canEncode", desc := "(C)Z", sig := { parameters := [.char], returnType := some .boolean }, accessFlags := 9, code := some k9c1 }
def k9c2 : Code := { maxStack := 3, maxLocals := 3, code := jdk_43_method_13_code, exceptionTable := #[], attributes := #[] }
def k9m2 : Method := { name := "equals", desc := "([B[B)Z", sig := { parameters := [(.array .byte), (.array .byte)], returnType := some .boolean }, accessFlags := 9, code := some k9c2 }
def k9c3 : Code := { maxStack := 4, maxLocals := 1, code := jdk_43_method_46_code, exceptionTable := #[], attributes := #[] }
def k9m3 : Method := { name := "toBytes", desc := "(C)[B", sig := { parameters := [.char], returnType := some (.array .byte) }, accessFlags := 9, code := some k9c3 }
/-- java/lang/StringLatin1 -/
def k9 : Class := { plain "java/lang/StringLatin1" (some 0) with
  accessFlags := 48
  interfaces := #[]
  cf := some (fileOf pool9 14 #[.nestMembers #[390, 221]] #[{ accessFlags := 0, nameIndex := 7, descriptorIndex := 8, attributes := #[] }, { accessFlags := 9, nameIndex := 90, descriptorIndex := 105, attributes := #[] }, { accessFlags := 9, nameIndex := 281, descriptorIndex := 282, attributes := #[] }, { accessFlags := 9, nameIndex := 380, descriptorIndex := 382, attributes := #[] }] 48 4 #[] #[{ accessFlags := 4120, nameIndex := 121, descriptorIndex := 122, attributes := #[] }])
  fields := #[{ name := "$assertionsDisabled", type := .boolean, accessFlags := 4120, slot := 0, constantValue := 0 }]
  methods := #[k9m0, k9m1, k9m2, k9m3]
  instanceTypes := #[]
  staticTypes := #[.boolean]
  resolved := Array.replicate 395 none
  statics := none }

def pool10 : Array CpInfo := pool [(2, .class_ 4), (1, u "java/util/Map"), (31, .class_ 37), (0, u "java/util/Map$Entry"), (55, .class_ 94), (0, u "java/lang/Object")] 168

/-- java/util/Map -/
def k10 : Class := { plain "java/util/Map" (some 0) with
  accessFlags := 1537
  interfaces := #[]
  cf := some (fileOf pool10 2 #[.nestMembers #[36]] #[] 1537 93 #[] #[])
  fields := #[]
  methods := #[]
  instanceTypes := #[]
  staticTypes := #[]
  resolved := Array.replicate 263 none
  statics := none }

def pool11 : Array CpInfo := pool [(1, .methodref 2 3), (0, .class_ 4), (0, .nameAndType 5 6), (0, u "java/lang/Object"), (0, u "<init>"), (0, u "()V"), (1, .class_ 10), (1, u "java/util/AbstractMap"), (42, .class_ 54), (0, u "java/util/Map"), (9, u "keySet"), (0, u "Ljava/util/Set;"), (0, .class_ 67), (0, u "java/util/AbstractMap$1"), (5, u "values"), (0, u "Ljava/util/Collection;"), (0, .class_ 76), (0, u "java/util/AbstractMap$2"), (104, .class_ 182), (0, u "java/util/AbstractMap$ViewCollection"), (0, .class_ 184), (0, u "java/util/AbstractMap$SimpleImmutableEntry"), (0, .class_ 186), (0, u "java/util/AbstractMap$SimpleEntry"), (0, .class_ 188), (0, u "java/util/AbstractMap$2$1"), (0, .class_ 190), (0, u "java/util/AbstractMap$1$1")] 5

def k11c0 : Code := { maxStack := 1, maxLocals := 1, code := jdk_71_method_1_code, exceptionTable := #[], attributes := #[] }
def k11m0 : Method := { name := "<init>", desc := "()V", sig := { parameters := [], returnType := none }, accessFlags := 4, code := some k11c0 }
/-- java/util/AbstractMap -/
def k11 : Class := { plain "java/util/AbstractMap" (some 0) with
  accessFlags := 1057
  interfaces := #[10]
  cf := some (fileOf pool11 8 #[.nestMembers #[181, 183, 185, 75, 187, 66, 189]] #[{ accessFlags := 4, nameIndex := 5, descriptorIndex := 6, attributes := #[] }] 1057 2 #[53] #[{ accessFlags := 128, nameIndex := 64, descriptorIndex := 65, attributes := #[] }, { accessFlags := 128, nameIndex := 73, descriptorIndex := 74, attributes := #[] }])
  fields := #[{ name := "keySet", type := (.object "java/util/Set"), accessFlags := 128, slot := 0, constantValue := 0 }, { name := "values", type := (.object "java/util/Collection"), accessFlags := 128, slot := 1, constantValue := 0 }]
  methods := #[k11m0]
  instanceTypes := #[(.object "java/util/Set"), (.object "java/util/Collection")]
  staticTypes := #[]
  resolved := Array.replicate 196 none
  statics := none }

def pool12 : Array CpInfo := pool [(1, .class_ 2), (0, u "java/lang/Cloneable"), (0, .class_ 4), (0, u "java/lang/Object")] 2

/-- java/lang/Cloneable -/
def k12 : Class := { plain "java/lang/Cloneable" (some 0) with
  accessFlags := 1537
  interfaces := #[]
  cf := some (fileOf pool12 1 #[] #[] 1537 3 #[] #[])
  fields := #[]
  methods := #[]
  instanceTypes := #[]
  staticTypes := #[]
  resolved := Array.replicate 7 none
  statics := none }

def pool13 : Array CpInfo := pool [(40, .class_ 41), (0, u "java/util/HashMap"), (1, .methodref 44 45), (0, .class_ 46), (0, .nameAndType 47 48), (0, u "java/util/AbstractMap"), (0, u "<init>"), (0, u "()V"), (32, .fieldref 40 82), (0, .nameAndType 83 84), (0, u "loadFactor"), (0, u "F"), (5, u "threshold"), (0, u "I"), (0, .float 1061158912), (8, .class_ 103), (1, u "java/util/Map"), (0, u "size"), (2, u "table"), (0, u "[Ljava/util/HashMap$Node;"), (14, u "entrySet"), (39, .class_ 165), (1, u "java/util/HashMap$Node"), (14, .class_ 181), (0, u "java/util/HashMap$TreeNode"), (22, u "modCount"), (37, u "Ljava/util/Set;"), (0, .class_ 244), (0, u "java/util/HashMap$KeySet"), (18, .class_ 264), (0, u "java/util/HashMap$Values"), (3, .class_ 269), (0, u "java/util/HashMap$EntrySet"), (76, .class_ 348), (1, u "java/util/HashMap$UnsafeHolder"), (43, .class_ 393), (0, u "java/lang/Cloneable"), (0, .class_ 395), (0, u "java/io/Serializable"), (0, u "serialVersionUID"), (0, u "J"), (3, u "DEFAULT_INITIAL_CAPACITY"), (1, u "MAXIMUM_CAPACITY"), (0, u "DEFAULT_LOAD_FACTOR"), (0, u "TREEIFY_THRESHOLD"), (1, u "UNTREEIFY_THRESHOLD"), (1, u "MIN_TREEIFY_CAPACITY"), (186, .class_ 597), (0, u "java/util/HashMap$EntrySpliterator"), (0, .class_ 599), (0, u "java/util/HashMap$ValueSpliterator"), (0, .class_ 601), (0, u "java/util/HashMap$KeySpliterator"), (0, .class_ 603), (0, u "java/util/HashMap$HashMapSpliterator"), (0, .class_ 605), (0, u "java/util/HashMap$EntryIterator"), (0, .class_ 607), (0, u "java/util/HashMap$ValueIterator"), (0, .class_ 609), (0, u "java/util/HashMap$KeyIterator"), (0, .class_ 611), (0, u "java/util/HashMap$HashIterator")] 17

def k13c0 : Code := { maxStack := 2, maxLocals := 1, code := jdk_69_method_7_code, exceptionTable := #[], attributes := #[] }
def k13m0 : Method := { name := "<init>", desc := "()V", sig := { parameters := [], returnType := none }, accessFlags := 1, code := some k13c0 }
/-- java/util/HashMap -/
def k13 : Class := { plain "java/util/HashMap" (some 11) with
  accessFlags := 33
  interfaces := #[10, 12, 3]
  cf := some (fileOf pool13 40 #[.nestMembers #[180, 596, 598, 600, 602, 604, 606, 608, 610, 346, 268, 263, 243, 163]] #[{ accessFlags := 1, nameIndex := 47, descriptorIndex := 48, attributes := #[] }] 33 44 #[101, 392, 394] #[{ accessFlags := 26, nameIndex := 396, descriptorIndex := 397, attributes := #[] }, { accessFlags := 24, nameIndex := 401, descriptorIndex := 91, attributes := #[] }, { accessFlags := 24, nameIndex := 403, descriptorIndex := 91, attributes := #[] }, { accessFlags := 24, nameIndex := 404, descriptorIndex := 84, attributes := #[] }, { accessFlags := 24, nameIndex := 405, descriptorIndex := 91, attributes := #[] }, { accessFlags := 24, nameIndex := 407, descriptorIndex := 91, attributes := #[] }, { accessFlags := 24, nameIndex := 409, descriptorIndex := 91, attributes := #[] }, { accessFlags := 128, nameIndex := 107, descriptorIndex := 108, attributes := #[] }, { accessFlags := 128, nameIndex := 123, descriptorIndex := 242, attributes := #[] }, { accessFlags := 128, nameIndex := 104, descriptorIndex := 91, attributes := #[] }, { accessFlags := 128, nameIndex := 204, descriptorIndex := 91, attributes := #[] }, { accessFlags := 0, nameIndex := 90, descriptorIndex := 91, attributes := #[] }, { accessFlags := 16, nameIndex := 83, descriptorIndex := 84, attributes := #[] }])
  fields := #[{ name := "serialVersionUID", type := .long, accessFlags := 26, slot := 0, constantValue := 0 }, { name := "DEFAULT_INITIAL_CAPACITY", type := .int, accessFlags := 24, slot := 1, constantValue := 0 }, { name := "MAXIMUM_CAPACITY", type := .int, accessFlags := 24, slot := 2, constantValue := 0 }, { name := "DEFAULT_LOAD_FACTOR", type := .float, accessFlags := 24, slot := 3, constantValue := 0 }, { name := "TREEIFY_THRESHOLD", type := .int, accessFlags := 24, slot := 4, constantValue := 0 }, { name := "UNTREEIFY_THRESHOLD", type := .int, accessFlags := 24, slot := 5, constantValue := 0 }, { name := "MIN_TREEIFY_CAPACITY", type := .int, accessFlags := 24, slot := 6, constantValue := 0 }, { name := "table", type := (.array (.object "java/util/HashMap$Node")), accessFlags := 128, slot := 2, constantValue := 0 }, { name := "entrySet", type := (.object "java/util/Set"), accessFlags := 128, slot := 3, constantValue := 0 }, { name := "size", type := .int, accessFlags := 128, slot := 4, constantValue := 0 }, { name := "modCount", type := .int, accessFlags := 128, slot := 5, constantValue := 0 }, { name := "threshold", type := .int, accessFlags := 0, slot := 6, constantValue := 0 }, { name := "loadFactor", type := .float, accessFlags := 16, slot := 7, constantValue := 0 }]
  methods := #[k13m0]
  instanceTypes := #[(.object "java/util/Set"), (.object "java/util/Collection"), (.array (.object "java/util/HashMap$Node")), (.object "java/util/Set"), .int, .int, .int, .float]
  staticTypes := #[.long, .int, .int, .float, .int, .int, .int]
  resolved := Array.replicate 629 none
  statics := none }

def pool14 : Array CpInfo := pool [(2, .class_ 4), (1, u "java/util/SequencedMap"), (38, .class_ 44), (0, u "java/util/SequencedMap$1SeqKeySet"), (3, .class_ 49), (0, u "java/util/SequencedMap$1SeqValues"), (1, .class_ 52), (0, u "java/util/SequencedMap$1SeqEntrySet"), (1, .class_ 55), (0, u "java/lang/Object"), (0, .class_ 57), (0, u "java/util/Map")] 48

/-- java/util/SequencedMap -/
def k14 : Class := { plain "java/util/SequencedMap" (some 0) with
  accessFlags := 1537
  interfaces := #[10]
  cf := some (fileOf pool14 2 #[.nestMembers #[51, 48, 43]] #[] 1537 54 #[56] #[])
  fields := #[]
  methods := #[]
  instanceTypes := #[]
  staticTypes := #[]
  resolved := Array.replicate 106 none
  statics := none }

def pool15 : Array CpInfo := pool [(1, .fieldref 2 3), (0, .class_ 4), (0, .nameAndType 5 6), (0, u "java/util/LinkedHashMap"), (0, u "putMode"), (0, u "I"), (2, u "head"), (0, u "Ljava/util/LinkedHashMap$Entry;"), (2, u "tail"), (1, .class_ 17), (1, u "java/util/LinkedHashMap$Entry"), (5, .class_ 25), (1, u "java/util/HashMap"), (1, u "()V"), (2, u "<init>"), (33, .fieldref 2 65), (0, .nameAndType 66 67), (0, u "accessOrder"), (0, u "Z"), (19, .methodref 23 88), (0, .nameAndType 30 27), (32, .class_ 122), (0, u "java/util/LinkedHashMap$LinkedKeySet"), (20, .class_ 144), (0, u "java/util/LinkedHashMap$LinkedValues"), (9, .class_ 155), (0, u "java/util/LinkedHashMap$LinkedEntrySet"), (44, .class_ 201), (0, u "java/util/LinkedHashMap$ReversedLinkedHashMapView"), (3, .class_ 206), (0, u "java/util/SequencedMap"), (0, u "serialVersionUID"), (0, u "J"), (5, u "PUT_NORM"), (1, u "PUT_FIRST"), (1, u "PUT_LAST"), (143, .class_ 363), (0, u "java/util/LinkedHashMap$LinkedEntryIterator"), (0, .class_ 365), (0, u "java/util/LinkedHashMap$LinkedValueIterator"), (0, .class_ 367), (0, u "java/util/LinkedHashMap$LinkedKeyIterator"), (0, .class_ 369), (0, u "java/util/LinkedHashMap$LinkedHashIterator")] 16

def k15c0 : Code := { maxStack := 2, maxLocals := 1, code := jdk_94_method_16_code, exceptionTable := #[], attributes := #[] }
def k15m0 : Method := { name := "<init>", desc := "()V", sig := { parameters := [], returnType := none }, accessFlags := 1, code := some k15c0 }
/-- java/util/LinkedHashMap -/
def k15 : Class := { plain "java/util/LinkedHashMap" (some 13) with
  accessFlags := 33
  interfaces := #[14]
  cf := some (fileOf pool15 2 #[.nestMembers #[200, 362, 364, 366, 368, 154, 143, 121, 15]] #[{ accessFlags := 1, nameIndex := 30, descriptorIndex := 27, attributes := #[] }] 33 23 #[205] #[{ accessFlags := 26, nameIndex := 207, descriptorIndex := 208, attributes := #[] }, { accessFlags := 128, nameIndex := 9, descriptorIndex := 10, attributes := #[] }, { accessFlags := 128, nameIndex := 13, descriptorIndex := 10, attributes := #[] }, { accessFlags := 16, nameIndex := 66, descriptorIndex := 67, attributes := #[] }, { accessFlags := 24, nameIndex := 214, descriptorIndex := 6, attributes := #[] }, { accessFlags := 24, nameIndex := 216, descriptorIndex := 6, attributes := #[] }, { accessFlags := 24, nameIndex := 218, descriptorIndex := 6, attributes := #[] }, { accessFlags := 128, nameIndex := 5, descriptorIndex := 6, attributes := #[] }])
  fields := #[{ name := "serialVersionUID", type := .long, accessFlags := 26, slot := 0, constantValue := 0 }, { name := "head", type := (.object "java/util/LinkedHashMap$Entry"), accessFlags := 128, slot := 8, constantValue := 0 }, { name := "tail", type := (.object "java/util/LinkedHashMap$Entry"), accessFlags := 128, slot := 9, constantValue := 0 }, { name := "accessOrder", type := .boolean, accessFlags := 16, slot := 10, constantValue := 0 }, { name := "PUT_NORM", type := .int, accessFlags := 24, slot := 1, constantValue := 0 }, { name := "PUT_FIRST", type := .int, accessFlags := 24, slot := 2, constantValue := 0 }, { name := "PUT_LAST", type := .int, accessFlags := 24, slot := 3, constantValue := 0 }, { name := "putMode", type := .int, accessFlags := 128, slot := 11, constantValue := 0 }]
  methods := #[k15m0]
  instanceTypes := #[(.object "java/util/Set"), (.object "java/util/Collection"), (.array (.object "java/util/HashMap$Node")), (.object "java/util/Set"), .int, .int, .int, .float, (.object "java/util/LinkedHashMap$Entry"), (.object "java/util/LinkedHashMap$Entry"), .boolean, .int]
  staticTypes := #[.long, .int, .int, .int]
  resolved := Array.replicate 386 none
  statics := none }

def pool16 : Array CpInfo := pool [(8, .class_ 10), (1, u "java/lang/Iterable"), (24, .class_ 36), (0, u "java/lang/Object")] 25

/-- java/lang/Iterable -/
def k16 : Class := { plain "java/lang/Iterable" (some 0) with
  accessFlags := 1537
  interfaces := #[]
  cf := some (fileOf pool16 8 #[] #[] 1537 35 #[] #[])
  fields := #[]
  methods := #[]
  instanceTypes := #[]
  staticTypes := #[]
  resolved := Array.replicate 62 none
  statics := none }

def pool17 : Array CpInfo := pool [(10, .class_ 12), (1, u "java/util/Collection"), (47, .class_ 61), (0, u "java/lang/Object"), (0, .class_ 63), (0, u "java/lang/Iterable"), (0, u "size"), (0, u "()I")] 49

def k17m0 : Method := { name := "size", desc := "()I", sig := { parameters := [], returnType := some .int }, accessFlags := 1025, code := none }
/-- java/util/Collection -/
def k17 : Class := { plain "java/util/Collection" (some 0) with
  accessFlags := 1537
  interfaces := #[16]
  cf := some (fileOf pool17 10 #[] #[{ accessFlags := 1025, nameIndex := 64, descriptorIndex := 65, attributes := #[] }] 1537 60 #[62] #[])
  fields := #[]
  methods := #[k17m0]
  instanceTypes := #[]
  staticTypes := #[]
  resolved := Array.replicate 115 none
  statics := none }

def pool18 : Array CpInfo := pool [(1, .methodref 2 3), (0, .class_ 4), (0, .nameAndType 5 6), (0, u "java/lang/Object"), (0, u "<init>"), (0, u "()V"), (1, .class_ 10), (1, u "java/util/AbstractCollection"), (66, .class_ 78), (0, u "java/util/Collection")] 81

def k18c0 : Code := { maxStack := 1, maxLocals := 1, code := jdk_22_method_1_code, exceptionTable := #[], attributes := #[] }
def k18m0 : Method := { name := "<init>", desc := "()V", sig := { parameters := [], returnType := none }, accessFlags := 4, code := some k18c0 }
/-- java/util/AbstractCollection -/
def k18 : Class := { plain "java/util/AbstractCollection" (some 0) with
  accessFlags := 1057
  interfaces := #[17]
  cf := some (fileOf pool18 8 #[] #[{ accessFlags := 4, nameIndex := 5, descriptorIndex := 6, attributes := #[] }] 1057 2 #[77] #[])
  fields := #[]
  methods := #[k18m0]
  instanceTypes := #[]
  staticTypes := #[]
  resolved := Array.replicate 160 none
  statics := none }

def pool19 : Array CpInfo := pool [(8, .class_ 10), (1, u "java/util/SequencedCollection"), (15, .class_ 27), (0, u "java/lang/Object"), (0, .class_ 29), (0, u "java/util/Collection")] 27

/-- java/util/SequencedCollection -/
def k19 : Class := { plain "java/util/SequencedCollection" (some 0) with
  accessFlags := 1537
  interfaces := #[17]
  cf := some (fileOf pool19 8 #[] #[] 1537 26 #[28] #[])
  fields := #[]
  methods := #[]
  instanceTypes := #[]
  staticTypes := #[]
  resolved := Array.replicate 57 none
  statics := none }

def pool20 : Array CpInfo := pool [(8, .class_ 10), (1, u "java/util/List"), (49, u "add"), (3, u "(Ljava/lang/Object;)Z"), (10, u "get"), (0, u "(I)Ljava/lang/Object;"), (2, u "size"), (0, u "()I"), (22, .class_ 104), (0, u "java/lang/Object"), (15, .class_ 121), (0, u "java/util/SequencedCollection"), (1, u "iterator"), (0, u "()Ljava/util/Iterator;")] 126

def k20m0 : Method := { name := "size", desc := "()I", sig := { parameters := [], returnType := some .int }, accessFlags := 1025, code := none }
def k20m1 : Method := { name := "iterator", desc := "()Ljava/util/Iterator;", sig := { parameters := [], returnType := some (.object "java/util/Iterator") }, accessFlags := 1025, code := none }
def k20m2 : Method := { name := "add", desc := "(Ljava/lang/Object;)Z", sig := { parameters := [(.object "java/lang/Object")], returnType := some .boolean }, accessFlags := 1025, code := none }
def k20m3 : Method := { name := "get", desc := "(I)Ljava/lang/Object;", sig := { parameters := [.int], returnType := some (.object "java/lang/Object") }, accessFlags := 1025, code := none }
/-- java/util/List -/
def k20 : Class := { plain "java/util/List" (some 0) with
  accessFlags := 1537
  interfaces := #[19]
  cf := some (fileOf pool20 8 #[] #[{ accessFlags := 1025, nameIndex := 79, descriptorIndex := 80, attributes := #[] }, { accessFlags := 1025, nameIndex := 123, descriptorIndex := 124, attributes := #[] }, { accessFlags := 1025, nameIndex := 60, descriptorIndex := 64, attributes := #[] }, { accessFlags := 1025, nameIndex := 75, descriptorIndex := 76, attributes := #[] }] 1537 103 #[120] #[])
  fields := #[]
  methods := #[k20m0, k20m1, k20m2, k20m3]
  instanceTypes := #[]
  staticTypes := #[]
  resolved := Array.replicate 251 none
  statics := none }

def pool21 : Array CpInfo := pool [(1, .methodref 2 3), (0, .class_ 4), (0, .nameAndType 5 6), (0, u "java/util/AbstractCollection"), (0, u "<init>"), (0, u "()V"), (0, .fieldref 8 9), (0, .class_ 10), (0, .nameAndType 11 12), (0, u "java/util/AbstractList"), (0, u "modCount"), (0, u "I"), (64, .class_ 78), (0, u "java/util/AbstractList$Itr"), (3, .class_ 83), (0, u "java/util/AbstractList$ListItr"), (9, .class_ 94), (0, u "java/util/AbstractList$RandomAccessSubList"), (3, .class_ 99), (0, u "java/util/AbstractList$SubList"), (33, .class_ 134), (0, u "java/util/List"), (73, .class_ 209), (0, u "java/util/AbstractList$SubList$1"), (0, .class_ 211), (0, u "java/util/AbstractList$RandomAccessSpliterator")] 6

def k21c0 : Code := { maxStack := 2, maxLocals := 1, code := jdk_39_method_1_code, exceptionTable := #[], attributes := #[] }
def k21m0 : Method := { name := "<init>", desc := "()V", sig := { parameters := [], returnType := none }, accessFlags := 4, code := some k21c0 }
/-- java/util/AbstractList -/
def k21 : Class := { plain "java/util/AbstractList" (some 18) with
  accessFlags := 1057
  interfaces := #[20]
  cf := some (fileOf pool21 8 #[.nestMembers #[93, 98, 208, 210, 82, 77]] #[{ accessFlags := 4, nameIndex := 5, descriptorIndex := 6, attributes := #[] }] 1057 2 #[133] #[{ accessFlags := 132, nameIndex := 11, descriptorIndex := 12, attributes := #[] }])
  fields := #[{ name := "modCount", type := .int, accessFlags := 132, slot := 0, constantValue := 0 }]
  methods := #[k21m0]
  instanceTypes := #[.int]
  staticTypes := #[]
  resolved := Array.replicate 218 none
  statics := none }

def pool22 : Array CpInfo := pool [(1, .class_ 2), (0, u "java/util/RandomAccess"), (0, .class_ 4), (0, u "java/lang/Object")] 2

/-- java/util/RandomAccess -/
def k22 : Class := { plain "java/util/RandomAccess" (some 0) with
  accessFlags := 1537
  interfaces := #[]
  cf := some (fileOf pool22 1 #[] #[] 1537 3 #[] #[])
  fields := #[]
  methods := #[]
  instanceTypes := #[]
  staticTypes := #[]
  resolved := Array.replicate 7 none
  statics := none }

def pool23 : Array CpInfo := pool [(1, .methodref 2 3), (0, .class_ 4), (0, .nameAndType 5 6), (0, u "java/util/AbstractList"), (0, u "<init>"), (0, u "()V"), (0, .class_ 8), (0, u "java/lang/Object"), (0, .fieldref 10 11), (0, .class_ 12), (0, .nameAndType 13 14), (0, u "java/util/ArrayList"), (0, u "elementData"), (0, u "[Ljava/lang/Object;"), (2, u "EMPTY_ELEMENTDATA"), (21, .fieldref 10 40), (0, .nameAndType 41 14), (0, u "DEFAULTCAPACITY_EMPTY_ELEMENTDATA"), (5, u "()[Ljava/lang/Object;"), (0, .fieldref 10 49), (0, .nameAndType 50 51), (0, u "size"), (0, u "I"), (11, .fieldref 10 64), (0, .nameAndType 65 51), (0, u "modCount"), (3, .methodref 10 70), (0, .nameAndType 71 72), (0, u "grow"), (0, u "(I)[Ljava/lang/Object;"), (6, .methodref 80 81), (0, .class_ 82), (0, .nameAndType 83 84), (0, u "java/lang/Math"), (0, u "max"), (0, u "(II)I"), (11, u "(Ljava/lang/Object;)Z"), (21, .methodref 119 120), (0, .class_ 121), (0, .nameAndType 122 84), (0, u "java/util/Objects"), (0, u "checkIndex"), (0, .methodref 10 124), (0, .nameAndType 13 125), (0, u "(I)Ljava/lang/Object;"), (3, .methodref 10 130), (0, .nameAndType 71 47), (0, .methodref 10 132), (0, .nameAndType 133 134), (0, u "add"), (0, u "(Ljava/lang/Object;[Ljava/lang/Object;I)V"), (13, .class_ 149), (0, u "java/util/List"), (16, u "iterator"), (0, u "()Ljava/util/Iterator;"), (18, u "()I"), (75, .class_ 263), (0, u "java/util/ArrayList$ListItr"), (3, .class_ 268), (0, u "java/util/ArrayList$Itr"), (0, .methodref 267 270), (0, .nameAndType 5 271), (0, u "(Ljava/util/ArrayList;)V"), (4, .class_ 277), (0, u "java/util/ArrayList$SubList"), (12, .class_ 291), (0, u "java/util/ArrayList$ArrayListSpliterator"), (37, .class_ 330), (0, u "java/util/RandomAccess"), (0, .class_ 332), (0, u "java/lang/Cloneable"), (0, .class_ 334), (0, u "java/io/Serializable"), (0, u "serialVersionUID"), (0, u "J"), (3, u "DEFAULT_CAPACITY"), (40, u "get"), (118, .class_ 501), (0, u "java/util/ArrayList$SubList$2"), (0, .class_ 503), (0, u "java/util/ArrayList$SubList$1")] 5

def k23c0 : Code := { maxStack := 2, maxLocals := 1, code := jdk_38_method_2_code, exceptionTable := #[], attributes := #[] }
def k23m0 : Method := { name := "<init>", desc := "()V", sig := { parameters := [], returnType := none }, accessFlags := 1, code := some k23c0 }
def k23c1 : Code := { maxStack := 4, maxLocals := 4, code := jdk_38_method_6_code, exceptionTable := #[], attributes := #[] }
def k23m1 : Method := { name := "grow", desc := "(I)[Ljava/lang/Object;", sig := { parameters := [.int], returnType := some (.array (.object "java/lang/Object")) }, accessFlags := 2, code := some k23c1 }
def k23c2 : Code := { maxStack := 3, maxLocals := 1, code := jdk_38_method_7_code, exceptionTable := #[], attributes := #[] }
def k23m2 : Method := { name := "grow", desc := "()[Ljava/lang/Object;", sig := { parameters := [], returnType := some (.array (.object "java/lang/Object")) }, accessFlags := 2, code := some k23c2 }
def k23c3 : Code := { maxStack := 1, maxLocals := 1, code := jdk_38_method_8_code, exceptionTable := #[], attributes := #[] }
def k23m3 : Method := { name := "size", desc := "()I", sig := { parameters := [], returnType := some .int }, accessFlags := 1, code := some k23c3 }
def k23c4 : Code := { maxStack := 2, maxLocals := 2, code := jdk_38_method_18_code, exceptionTable := #[], attributes := #[] }
def k23m4 : Method := { name := "elementData", desc := "(I)Ljava/lang/Object;", sig := { parameters := [.int], returnType := some (.object "java/lang/Object") }, accessFlags := 0, code := some k23c4 }
def k23c5 : Code := { maxStack := 2, maxLocals := 2, code := jdk_38_method_20_code, exceptionTable := #[], attributes := #[] }
def k23m5 : Method := { name := "get", desc := "(I)Ljava/lang/Object;", sig := { parameters := [.int], returnType := some (.object "java/lang/Object") }, accessFlags := 1, code := some k23c5 }
def k23c6 : Code := { maxStack := 3, maxLocals := 4, code := jdk_38_method_24_code, exceptionTable := #[], attributes := #[] }
def k23m6 : Method := { name := "add", desc := "(Ljava/lang/Object;[Ljava/lang/Object;I)V", sig := { parameters := [(.object "java/lang/Object"), (.array (.object "java/lang/Object")), .int], returnType := none }, accessFlags := 2, code := some k23c6 }
def k23c7 : Code := { maxStack := 4, maxLocals := 2, code := jdk_38_method_25_code, exceptionTable := #[], attributes := #[] }
def k23m7 : Method := { name := "add", desc := "(Ljava/lang/Object;)Z", sig := { parameters := [(.object "java/lang/Object")], returnType := some .boolean }, accessFlags := 1, code := some k23c7 }
def k23c8 : Code := { maxStack := 3, maxLocals := 1, code := jdk_38_method_55_code, exceptionTable := #[], attributes := #[] }
def k23m8 : Method := { name := "iterator", desc := "()Ljava/util/Iterator;", sig := { parameters := [], returnType := some (.object "java/util/Iterator") }, accessFlags := 1, code := some k23c8 }
/-- java/util/ArrayList -/
def k23 : Class := { plain "java/util/ArrayList" (some 21) with
  accessFlags := 33
  interfaces := #[20, 22, 12, 3]
  cf := some (fileOf pool23 10 #[.nestMembers #[290, 276, 500, 502, 262, 267]] #[{ accessFlags := 1, nameIndex := 5, descriptorIndex := 6, attributes := #[] }, { accessFlags := 2, nameIndex := 71, descriptorIndex := 72, attributes := #[] }, { accessFlags := 2, nameIndex := 71, descriptorIndex := 47, attributes := #[] }, { accessFlags := 1, nameIndex := 50, descriptorIndex := 186, attributes := #[] }, { accessFlags := 0, nameIndex := 13, descriptorIndex := 125, attributes := #[] }, { accessFlags := 1, nameIndex := 381, descriptorIndex := 125, attributes := #[] }, { accessFlags := 2, nameIndex := 133, descriptorIndex := 134, attributes := #[] }, { accessFlags := 1, nameIndex := 133, descriptorIndex := 96, attributes := #[] }, { accessFlags := 1, nameIndex := 166, descriptorIndex := 167, attributes := #[] }] 33 2 #[148, 329, 331, 333] #[{ accessFlags := 26, nameIndex := 335, descriptorIndex := 336, attributes := #[] }, { accessFlags := 26, nameIndex := 340, descriptorIndex := 51, attributes := #[] }, { accessFlags := 26, nameIndex := 17, descriptorIndex := 14, attributes := #[] }, { accessFlags := 26, nameIndex := 41, descriptorIndex := 14, attributes := #[] }, { accessFlags := 128, nameIndex := 13, descriptorIndex := 14, attributes := #[] }, { accessFlags := 2, nameIndex := 50, descriptorIndex := 51, attributes := #[] }])
  fields := #[{ name := "serialVersionUID", type := .long, accessFlags := 26, slot := 0, constantValue := 0 }, { name := "DEFAULT_CAPACITY", type := .int, accessFlags := 26, slot := 1, constantValue := 0 }, { name := "EMPTY_ELEMENTDATA", type := (.array (.object "java/lang/Object")), accessFlags := 26, slot := 2, constantValue := 0 }, { name := "DEFAULTCAPACITY_EMPTY_ELEMENTDATA", type := (.array (.object "java/lang/Object")), accessFlags := 26, slot := 3, constantValue := 0 }, { name := "elementData", type := (.array (.object "java/lang/Object")), accessFlags := 128, slot := 1, constantValue := 0 }, { name := "size", type := .int, accessFlags := 2, slot := 2, constantValue := 0 }]
  methods := #[k23m0, k23m1, k23m2, k23m3, k23m4, k23m5, k23m6, k23m7, k23m8]
  instanceTypes := #[.int, (.array (.object "java/lang/Object")), .int]
  staticTypes := #[.long, .int, (.array (.object "java/lang/Object")), (.array (.object "java/lang/Object"))]
  resolved := Array.replicate 509 none
  mirror := some 3
  statics := some 1 }

def pool24 : Array CpInfo := pool [(2, .class_ 4), (1, u "java/lang/Object"), (0, u "<init>"), (0, u "()V"), (35, .class_ 44), (1, u "java/util/Objects"), (0, u "requireNonNull"), (48, u "(Ljava/lang/Object;Ljava/lang/String;)Ljava/lang/Object;"), (10, .methodref 106 107), (0, .class_ 108), (0, .nameAndType 109 110), (0, u "jdk/internal/util/Preconditions"), (0, u "checkIndex"), (0, u "(IILjava/util/function/BiFunction;)I"), (60, u "(II)I")] 12

def k24m0 : Method := { name := "<init>", desc := "()V", sig := { parameters := [], returnType := none }, accessFlags := 2, code := none }
def k24c1 : Code := { maxStack := 3, maxLocals := 2, code := jdk_31_method_11_code, exceptionTable := #[], attributes := #[] }
def k24m1 : Method := { name := "requireNonNull", desc := "(Ljava/lang/Object;Ljava/lang/String;)Ljava/lang/Object;", sig := { parameters := [(.object "java/lang/Object"), (.object "java/lang/String")], returnType := some (.object "java/lang/Object") }, accessFlags := 9, code := some k24c1 }
def k24c2 : Code := { maxStack := 3, maxLocals := 2, code := jdk_31_method_17_code, exceptionTable := #[], attributes := #[] }
def k24m2 : Method := { name := "checkIndex", desc := "(II)I", sig := { parameters := [.int, .int], returnType := some .int }, accessFlags := 9, code := some k24c2 }
/-- java/util/Objects -/
def k24 : Class := { plain "java/util/Objects" (some 0) with
  accessFlags := 49
  interfaces := #[]
  cf := some (fileOf pool24 42 #[] #[{ accessFlags := 2, nameIndex := 5, descriptorIndex := 6, attributes := #[] }, { accessFlags := 9, nameIndex := 45, descriptorIndex := 94, attributes := #[] }, { accessFlags := 9, nameIndex := 109, descriptorIndex := 171, attributes := #[] }] 49 2 #[] #[])
  fields := #[]
  methods := #[k24m0, k24m1, k24m2]
  instanceTypes := #[]
  staticTypes := #[]
  resolved := Array.replicate 184 none
  statics := none }

def pool25 : Array CpInfo := pool [(1, .class_ 2), (0, u "java/lang/Math"), (1, .class_ 6), (1, u "java/lang/Object"), (0, u "<init>"), (0, u "()V"), (89, .class_ 100), (1, u "java/lang/Math$RandomNumberGeneratorHolder"), (71, u "negativeZeroFloatBits"), (0, u "J"), (2, u "negativeZeroDoubleBits"), (21, u "max"), (2, u "min"), (43, u "$assertionsDisabled"), (0, u "Z"), (88, u "(II)I"), (2, u "twoToTheDoubleScaleDown"), (0, u "D"), (4, u "twoToTheDoubleScaleUp"), (9, u "E"), (3, u "PI"), (2, u "TAU"), (2, u "DEGREES_TO_RADIANS"), (0, u "RADIANS_TO_DEGREES")] 94

def k25m0 : Method := { name := "<init>", desc := "()V", sig := { parameters := [], returnType := none }, accessFlags := 2, code := none }
def k25c1 : Code := { maxStack := 2, maxLocals := 2, code := jdk_29_method_65_code, exceptionTable := #[], attributes := #[] }
def k25m1 : Method := { name := "max", desc := "(II)I", sig := { parameters := [.int, .int], returnType := some .int }, accessFlags := 9, code := some k25c1 }
def k25c2 : Code := { maxStack := 2, maxLocals := 2, code := jdk_29_method_69_code, exceptionTable := #[], attributes := #[] }
def k25m2 : Method := { name := "min", desc := "(II)I", sig := { parameters := [.int, .int], returnType := some .int }, accessFlags := 9, code := some k25c2 }
/-- java/lang/Math -/
def k25 : Class := { plain "java/lang/Math" (some 0) with
  accessFlags := 49
  interfaces := #[]
  cf := some (fileOf pool25 1 #[.nestMembers #[98]] #[{ accessFlags := 2, nameIndex := 7, descriptorIndex := 8, attributes := #[] }, { accessFlags := 9, nameIndex := 198, descriptorIndex := 335, attributes := #[] }, { accessFlags := 9, nameIndex := 201, descriptorIndex := 335, attributes := #[] }] 49 4 #[] #[{ accessFlags := 25, nameIndex := 354, descriptorIndex := 339, attributes := #[] }, { accessFlags := 25, nameIndex := 358, descriptorIndex := 339, attributes := #[] }, { accessFlags := 25, nameIndex := 361, descriptorIndex := 339, attributes := #[] }, { accessFlags := 26, nameIndex := 364, descriptorIndex := 339, attributes := #[] }, { accessFlags := 26, nameIndex := 365, descriptorIndex := 339, attributes := #[] }, { accessFlags := 26, nameIndex := 172, descriptorIndex := 173, attributes := #[] }, { accessFlags := 26, nameIndex := 176, descriptorIndex := 173, attributes := #[] }, { accessFlags := 8, nameIndex := 344, descriptorIndex := 339, attributes := #[] }, { accessFlags := 8, nameIndex := 338, descriptorIndex := 339, attributes := #[] }, { accessFlags := 4120, nameIndex := 245, descriptorIndex := 246, attributes := #[] }])
  fields := #[{ name := "E", type := .double, accessFlags := 25, slot := 0, constantValue := 0 }, { name := "PI", type := .double, accessFlags := 25, slot := 1, constantValue := 0 }, { name := "TAU", type := .double, accessFlags := 25, slot := 2, constantValue := 0 }, { name := "DEGREES_TO_RADIANS", type := .double, accessFlags := 26, slot := 3, constantValue := 0 }, { name := "RADIANS_TO_DEGREES", type := .double, accessFlags := 26, slot := 4, constantValue := 0 }, { name := "negativeZeroFloatBits", type := .long, accessFlags := 26, slot := 5, constantValue := 0 }, { name := "negativeZeroDoubleBits", type := .long, accessFlags := 26, slot := 6, constantValue := 0 }, { name := "twoToTheDoubleScaleUp", type := .double, accessFlags := 8, slot := 7, constantValue := 0 }, { name := "twoToTheDoubleScaleDown", type := .double, accessFlags := 8, slot := 8, constantValue := 0 }, { name := "$assertionsDisabled", type := .boolean, accessFlags := 4120, slot := 9, constantValue := 0 }]
  methods := #[k25m0, k25m1, k25m2]
  instanceTypes := #[]
  staticTypes := #[.double, .double, .double, .double, .double, .long, .long, .double, .double, .boolean]
  resolved := Array.replicate 460 none
  statics := none }

def pool26 : Array CpInfo := pool [(16, .class_ 18), (1, u "java/util/Iterator"), (0, u "hasNext"), (0, u "()Z"), (2, u "next"), (0, u "()Ljava/lang/Object;"), (6, .class_ 32), (0, u "java/lang/Object")] 20

def k26m0 : Method := { name := "hasNext", desc := "()Z", sig := { parameters := [], returnType := some .boolean }, accessFlags := 1025, code := none }
def k26m1 : Method := { name := "next", desc := "()Ljava/lang/Object;", sig := { parameters := [], returnType := some (.object "java/lang/Object") }, accessFlags := 1025, code := none }
/-- java/util/Iterator -/
def k26 : Class := { plain "java/util/Iterator" (some 0) with
  accessFlags := 1537
  interfaces := #[]
  cf := some (fileOf pool26 16 #[] #[{ accessFlags := 1025, nameIndex := 19, descriptorIndex := 20, attributes := #[] }, { accessFlags := 1025, nameIndex := 23, descriptorIndex := 24, attributes := #[] }] 1537 31 #[] #[])
  fields := #[]
  methods := #[k26m0, k26m1]
  instanceTypes := #[]
  staticTypes := #[]
  resolved := Array.replicate 53 none
  statics := none }

def pool27 : Array CpInfo := pool [(1, .fieldref 2 3), (0, .class_ 4), (0, .nameAndType 5 6), (0, u "java/util/ArrayList$Itr"), (0, u "this$0"), (0, u "Ljava/util/ArrayList;"), (0, .methodref 8 9), (0, .class_ 10), (0, .nameAndType 11 12), (0, u "java/lang/Object"), (0, u "<init>"), (0, u "()V"), (0, .fieldref 2 14), (0, .nameAndType 15 16), (0, u "lastRet"), (0, u "I"), (0, .fieldref 18 19), (0, .class_ 20), (0, .nameAndType 21 16), (0, u "java/util/ArrayList"), (0, u "modCount"), (0, .fieldref 2 23), (0, .nameAndType 24 16), (0, u "expectedModCount"), (0, .fieldref 2 26), (0, .nameAndType 27 16), (0, u "cursor"), (0, .fieldref 18 29), (0, .nameAndType 30 16), (0, u "size"), (0, .methodref 2 32), (0, .nameAndType 33 12), (0, u "checkForComodification"), (3, .fieldref 18 38), (0, .nameAndType 39 40), (0, u "elementData"), (0, u "[Ljava/lang/Object;"), (28, .class_ 70), (0, u "java/util/Iterator"), (0, u "(Ljava/util/ArrayList;)V"), (8, u "hasNext"), (0, u "()Z"), (1, u "next"), (0, u "()Ljava/lang/Object;")] 19

def k27c0 : Code := { maxStack := 2, maxLocals := 2, code := jdk_49_method_1_code, exceptionTable := #[], attributes := #[] }
def k27m0 : Method := { name := "<init>", desc := "(Ljava/util/ArrayList;)V", sig := { parameters := [(.object "java/util/ArrayList")], returnType := none }, accessFlags := 0, code := some k27c0 }
def k27c1 : Code := { maxStack := 2, maxLocals := 1, code := jdk_49_method_2_code, exceptionTable := #[], attributes := #[] }
def k27m1 : Method := { name := "hasNext", desc := "()Z", sig := { parameters := [], returnType := some .boolean }, accessFlags := 1, code := some k27c1 }
def k27c2 : Code := { maxStack := 4, maxLocals := 3, code := jdk_49_method_3_code, exceptionTable := #[], attributes := #[] }
def k27m2 : Method := { name := "next", desc := "()Ljava/lang/Object;", sig := { parameters := [], returnType := some (.object "java/lang/Object") }, accessFlags := 1, code := some k27c2 }
def k27c3 : Code := { maxStack := 2, maxLocals := 1, code := jdk_49_method_6_code, exceptionTable := #[], attributes := #[] }
def k27m3 : Method := { name := "checkForComodification", desc := "()V", sig := { parameters := [], returnType := none }, accessFlags := 16, code := some k27c3 }
/-- java/util/ArrayList$Itr -/
def k27 : Class := { plain "java/util/ArrayList$Itr" (some 0) with
  accessFlags := 32
  interfaces := #[26]
  cf := some (fileOf pool27 2 #[.nestHost 18] #[{ accessFlags := 0, nameIndex := 11, descriptorIndex := 71, attributes := #[] }, { accessFlags := 1, nameIndex := 80, descriptorIndex := 81, attributes := #[] }, { accessFlags := 1, nameIndex := 83, descriptorIndex := 84, attributes := #[] }, { accessFlags := 16, nameIndex := 33, descriptorIndex := 12, attributes := #[] }] 32 8 #[69] #[{ accessFlags := 0, nameIndex := 27, descriptorIndex := 16, attributes := #[] }, { accessFlags := 0, nameIndex := 15, descriptorIndex := 16, attributes := #[] }, { accessFlags := 0, nameIndex := 24, descriptorIndex := 16, attributes := #[] }, { accessFlags := 4112, nameIndex := 5, descriptorIndex := 6, attributes := #[] }])
  fields := #[{ name := "cursor", type := .int, accessFlags := 0, slot := 0, constantValue := 0 }, { name := "lastRet", type := .int, accessFlags := 0, slot := 1, constantValue := 0 }, { name := "expectedModCount", type := .int, accessFlags := 0, slot := 2, constantValue := 0 }, { name := "this$0", type := (.object "java/util/ArrayList"), accessFlags := 4112, slot := 3, constantValue := 0 }]
  methods := #[k27m0, k27m1, k27m2, k27m3]
  instanceTypes := #[.int, .int, .int, (.object "java/util/ArrayList")]
  staticTypes := #[]
  resolved := Array.replicate 104 none
  statics := none }

def pool28 : Array CpInfo := pool [(2, .class_ 4), (1, u "java/lang/Object"), (0, u "<init>"), (0, u "()V"), (1, .class_ 10), (1, u "java/util/List"), (2, .class_ 14), (0, u "java/util/RandomAccess"), (4, .class_ 20), (0, u "java/util/Collections"), (63, u "r"), (0, u "Ljava/util/Random;"), (67, u "(Ljava/util/List;)V"), (9, .nameAndType 164 165), (0, u "getClass"), (0, u "()Ljava/lang/Class;"), (0, .class_ 167), (0, u "java/util/Collections$UnmodifiableCollection"), (6, .class_ 175), (0, u "java/util/Collections$UnmodifiableSequencedCollection"), (6, .class_ 183), (0, u "java/util/Collections$UnmodifiableSet"), (6, .class_ 191), (0, u "java/util/Collections$UnmodifiableSequencedSet"), (6, .class_ 199), (0, u "java/util/Collections$UnmodifiableSortedSet"), (6, .class_ 207), (0, u "java/util/Collections$UnmodifiableNavigableSet"), (3, .interfaceMethodref 8 163), (0, .class_ 213), (0, u "java/util/Collections$UnmodifiableList"), (0, .interfaceMethodref 8 163), (0, .class_ 216), (0, u "java/util/Collections$UnmodifiableRandomAccessList"), (0, .methodref 215 218), (0, .nameAndType 5 153), (4, .class_ 224), (0, u "java/util/Collections$UnmodifiableMap"), (6, .class_ 232), (0, u "java/util/Collections$UnmodifiableSequencedMap"), (4, .class_ 238), (0, u "java/util/Collections$UnmodifiableSortedMap"), (6, .class_ 246), (0, u "java/util/Collections$UnmodifiableNavigableMap"), (3, .class_ 251), (0, u "java/util/Collections$SynchronizedCollection"), (4, .class_ 257), (0, u "java/util/Collections$SynchronizedSet"), (4, .class_ 263), (0, u "java/util/Collections$SynchronizedSortedSet"), (1, .class_ 266), (0, u "java/util/Collections$SynchronizedNavigableSet"), (1, .class_ 269), (0, u "java/util/Collections$SynchronizedRandomAccessList"), (1, .class_ 272), (0, u "java/util/Collections$SynchronizedList"), (5, .class_ 279), (0, u "java/util/Collections$SynchronizedMap"), (1, .class_ 282), (0, u "java/util/Collections$SynchronizedSortedMap"), (1, .class_ 285), (0, u "java/util/Collections$SynchronizedNavigableMap"), (1, .class_ 288), (0, u "java/util/Collections$CheckedCollection"), (11, .class_ 301), (0, u "java/util/Collections$CheckedQueue"), (3, .class_ 306), (0, u "java/util/Collections$CheckedSet"), (3, .class_ 311), (0, u "java/util/Collections$CheckedSortedSet"), (3, .class_ 316), (0, u "java/util/Collections$CheckedNavigableSet"), (3, .class_ 321), (0, u "java/util/Collections$CheckedRandomAccessList"), (3, .class_ 326), (0, u "java/util/Collections$CheckedList"), (1, .class_ 329), (0, u "java/util/Collections$CheckedMap"), (3, .class_ 334), (0, u "java/util/Collections$CheckedSortedMap"), (3, .class_ 339), (0, u "java/util/Collections$CheckedNavigableMap"), (4, .class_ 346), (1, u "java/util/Collections$EmptyIterator"), (3, .class_ 352), (1, u "java/util/Collections$EmptyListIterator"), (2, .class_ 357), (1, u "java/util/Collections$EmptyEnumeration"), (4, u "EMPTY_SET"), (0, u "Ljava/util/Set;"), (6, u "EMPTY_LIST"), (0, u "Ljava/util/List;"), (2, u "EMPTY_MAP"), (0, u "Ljava/util/Map;"), (4, .class_ 381), (0, u "java/util/Collections$SingletonSet"), (2, .class_ 385), (0, u "java/util/Collections$1"), (1, .class_ 388), (0, u "java/util/Collections$2"), (1, .class_ 391), (0, u "java/util/Collections$SingletonList"), (1, .class_ 394), (0, u "java/util/Collections$SingletonMap"), (22, .class_ 418), (0, u "java/util/Collections$CopiesList"), (4, .class_ 425), (1, u "java/util/Collections$ReverseComparator"), (8, .class_ 435), (0, u "java/util/Collections$ReverseComparator2"), (6, .class_ 443), (0, u "java/util/Collections$3"), (25, .class_ 470), (0, u "java/util/Collections$SetFromMap"), (2, .class_ 474), (0, u "java/util/Collections$SequencedSetFromMap"), (3, .class_ 479), (0, u "java/util/Collections$AsLIFOQueue"), (11, .class_ 492), (0, u "java/util/Collections$EmptySet"), (1, .class_ 495), (0, u "java/util/Collections$EmptyList"), (1, .class_ 498), (0, u "java/util/Collections$EmptyMap"), (1, u "BINARYSEARCH_THRESHOLD"), (0, u "I"), (2, u "REVERSE_THRESHOLD"), (1, u "SHUFFLE_THRESHOLD"), (1, u "FILL_THRESHOLD"), (1, u "ROTATE_THRESHOLD"), (1, u "COPY_THRESHOLD"), (1, u "REPLACEALL_THRESHOLD"), (1, u "INDEXOFSUBLIST_THRESHOLD"), (129, u "unmodifiableList"), (0, u "(Ljava/util/List;)Ljava/util/List;"), (202, .class_ 851), (0, u "java/util/Collections$CheckedMap$CheckedEntrySet"), (0, .class_ 853), (0, u "java/util/Collections$CheckedMap$CheckedEntrySet$CheckedEntry"), (0, .class_ 855), (0, u "java/util/Collections$CheckedMap$CheckedEntrySet$1"), (0, .class_ 857), (0, u "java/util/Collections$CheckedList$1"), (0, .class_ 859), (0, u "java/util/Collections$CheckedCollection$1"), (0, .class_ 861), (0, u "java/util/Collections$UnmodifiableNavigableMap$EmptyNavigableMap"), (0, .class_ 863), (0, u "java/util/Collections$UnmodifiableMap$UnmodifiableEntrySet"), (0, .class_ 865), (0, u "java/util/Collections$UnmodifiableMap$UnmodifiableEntrySet$UnmodifiableEntry"), (0, .class_ 867), (0, u "java/util/Collections$UnmodifiableMap$UnmodifiableEntrySet$UnmodifiableEntrySetSpliterator"), (0, .class_ 869), (0, u "java/util/Collections$UnmodifiableMap$UnmodifiableEntrySet$1"), (0, .class_ 871), (0, u "java/util/Collections$UnmodifiableList$1"), (0, .class_ 873), (0, u "java/util/Collections$UnmodifiableNavigableSet$EmptyNavigableSet"), (0, .class_ 875), (0, u "java/util/Collections$UnmodifiableCollection$1")] 57

def k28m0 : Method := { name := "<init>", desc := "()V", sig := { parameters := [], returnType := none }, accessFlags := 2, code := none }
def k28c1 : Code := { maxStack := 3, maxLocals := 1, code := jdk_79_method_35_code, exceptionTable := #[], attributes := #[] }
def k28m1 : Method := { name := "unmodifiableList", desc := "(Ljava/util/List;)Ljava/util/List;", sig := { parameters := [(.object "java/util/List")], returnType := some (.object "java/util/List") }, accessFlags := 9, code := some k28c1 }
/-- java/util/Collections -/
def k28 : Class := { plain "java/util/Collections" (some 0) with
  accessFlags := 33
  interfaces := #[]
  cf := some (fileOf pool28 19 #[.nestMembers #[478, 473, 469, 434, 423, 417, 393, 390, 380, 497, 494, 491, 355, 350, 344, 338, 333, 328, 850, 852, 854, 320, 325, 856, 315, 310, 305, 300, 287, 858, 284, 281, 278, 268, 271, 265, 262, 256, 250, 245, 860, 237, 231, 223, 862, 864, 866, 868, 215, 212, 870, 206, 872, 198, 190, 182, 174, 166, 874, 442, 387, 384]] #[{ accessFlags := 2, nameIndex := 5, descriptorIndex := 6, attributes := #[] }, { accessFlags := 9, nameIndex := 646, descriptorIndex := 647, attributes := #[] }] 33 2 #[] #[{ accessFlags := 26, nameIndex := 500, descriptorIndex := 501, attributes := #[] }, { accessFlags := 26, nameIndex := 504, descriptorIndex := 501, attributes := #[] }, { accessFlags := 26, nameIndex := 506, descriptorIndex := 501, attributes := #[] }, { accessFlags := 26, nameIndex := 508, descriptorIndex := 501, attributes := #[] }, { accessFlags := 26, nameIndex := 510, descriptorIndex := 501, attributes := #[] }, { accessFlags := 26, nameIndex := 512, descriptorIndex := 501, attributes := #[] }, { accessFlags := 26, nameIndex := 514, descriptorIndex := 501, attributes := #[] }, { accessFlags := 26, nameIndex := 516, descriptorIndex := 501, attributes := #[] }, { accessFlags := 10, nameIndex := 84, descriptorIndex := 85, attributes := #[] }, { accessFlags := 25, nameIndex := 362, descriptorIndex := 363, attributes := #[] }, { accessFlags := 25, nameIndex := 370, descriptorIndex := 371, attributes := #[] }, { accessFlags := 25, nameIndex := 374, descriptorIndex := 375, attributes := #[] }])
  fields := #[{ name := "BINARYSEARCH_THRESHOLD", type := .int, accessFlags := 26, slot := 0, constantValue := 0 }, { name := "REVERSE_THRESHOLD", type := .int, accessFlags := 26, slot := 1, constantValue := 0 }, { name := "SHUFFLE_THRESHOLD", type := .int, accessFlags := 26, slot := 2, constantValue := 0 }, { name := "FILL_THRESHOLD", type := .int, accessFlags := 26, slot := 3, constantValue := 0 }, { name := "ROTATE_THRESHOLD", type := .int, accessFlags := 26, slot := 4, constantValue := 0 }, { name := "COPY_THRESHOLD", type := .int, accessFlags := 26, slot := 5, constantValue := 0 }, { name := "REPLACEALL_THRESHOLD", type := .int, accessFlags := 26, slot := 6, constantValue := 0 }, { name := "INDEXOFSUBLIST_THRESHOLD", type := .int, accessFlags := 26, slot := 7, constantValue := 0 }, { name := "r", type := (.object "java/util/Random"), accessFlags := 10, slot := 8, constantValue := 0 }, { name := "EMPTY_SET", type := (.object "java/util/Set"), accessFlags := 25, slot := 9, constantValue := 0 }, { name := "EMPTY_LIST", type := (.object "java/util/List"), accessFlags := 25, slot := 10, constantValue := 0 }, { name := "EMPTY_MAP", type := (.object "java/util/Map"), accessFlags := 25, slot := 11, constantValue := 0 }]
  methods := #[k28m0, k28m1]
  instanceTypes := #[]
  staticTypes := #[.int, .int, .int, .int, .int, .int, .int, .int, (.object "java/util/Random"), (.object "java/util/Set"), (.object "java/util/List"), (.object "java/util/Map")]
  resolved := Array.replicate 933 none
  statics := none }

def pool29 : Array CpInfo := pool [(1, .methodref 2 3), (0, .class_ 4), (0, .nameAndType 5 6), (0, u "java/lang/Object"), (0, u "<init>"), (0, u "()V"), (3, .fieldref 11 12), (0, .class_ 13), (0, .nameAndType 14 15), (0, u "java/util/Collections$UnmodifiableCollection"), (0, u "c"), (0, u "Ljava/util/Collection;"), (0, .interfaceMethodref 17 18), (0, .class_ 19), (0, .nameAndType 20 21), (0, u "java/util/Collection"), (0, u "size"), (0, u "()I"), (49, .class_ 72), (0, u "java/io/Serializable"), (0, u "serialVersionUID"), (0, u "J"), (5, u "(Ljava/util/Collection;)V"), (51, .class_ 133), (0, u "java/util/Collections")] 2

def k29c0 : Code := { maxStack := 2, maxLocals := 2, code := jdk_119_method_1_code, exceptionTable := #[], attributes := #[] }
def k29m0 : Method := { name := "<init>", desc := "(Ljava/util/Collection;)V", sig := { parameters := [(.object "java/util/Collection")], returnType := none }, accessFlags := 0, code := some k29c0 }
def k29c1 : Code := { maxStack := 1, maxLocals := 1, code := jdk_119_method_2_code, exceptionTable := #[], attributes := #[] }
def k29m1 : Method := { name := "size", desc := "()I", sig := { parameters := [], returnType := some .int }, accessFlags := 1, code := some k29c1 }
/-- java/util/Collections$UnmodifiableCollection -/
def k29 : Class := { plain "java/util/Collections$UnmodifiableCollection" (some 0) with
  accessFlags := 32
  interfaces := #[17, 3]
  cf := some (fileOf pool29 11 #[.nestHost 132] #[{ accessFlags := 0, nameIndex := 5, descriptorIndex := 80, attributes := #[] }, { accessFlags := 1, nameIndex := 20, descriptorIndex := 21, attributes := #[] }] 32 2 #[17, 71] #[{ accessFlags := 26, nameIndex := 73, descriptorIndex := 74, attributes := #[] }, { accessFlags := 16, nameIndex := 14, descriptorIndex := 15, attributes := #[] }])
  fields := #[{ name := "serialVersionUID", type := .long, accessFlags := 26, slot := 0, constantValue := 0 }, { name := "c", type := (.object "java/util/Collection"), accessFlags := 16, slot := 0, constantValue := 0 }]
  methods := #[k29m0, k29m1]
  instanceTypes := #[(.object "java/util/Collection")]
  staticTypes := #[.long]
  resolved := Array.replicate 136 none
  statics := none }

def pool30 : Array CpInfo := pool [(1, .methodref 2 3), (0, .class_ 4), (0, .nameAndType 5 6), (0, u "java/util/Collections$UnmodifiableCollection"), (0, u "<init>"), (0, u "(Ljava/util/Collection;)V"), (0, .fieldref 8 9), (0, .class_ 10), (0, .nameAndType 11 12), (0, u "java/util/Collections$UnmodifiableList"), (0, u "list"), (0, u "Ljava/util/List;"), (1, .class_ 16), (1, u "java/util/List"), (6, .interfaceMethodref 14 24), (0, .nameAndType 25 26), (0, u "get"), (0, u "(I)Ljava/lang/Object;"), (27, u "(Ljava/util/List;)V"), (5, u "serialVersionUID"), (0, u "J"), (59, .class_ 122), (0, u "java/util/Collections")] 4

def k30c0 : Code := { maxStack := 2, maxLocals := 2, code := jdk_120_method_1_code, exceptionTable := #[], attributes := #[] }
def k30m0 : Method := { name := "<init>", desc := "(Ljava/util/List;)V", sig := { parameters := [(.object "java/util/List")], returnType := none }, accessFlags := 0, code := some k30c0 }
def k30c1 : Code := { maxStack := 2, maxLocals := 2, code := jdk_120_method_4_code, exceptionTable := #[], attributes := #[] }
def k30m1 : Method := { name := "get", desc := "(I)Ljava/lang/Object;", sig := { parameters := [.int], returnType := some (.object "java/lang/Object") }, accessFlags := 1, code := some k30c1 }
/-- java/util/Collections$UnmodifiableList -/
def k30 : Class := { plain "java/util/Collections$UnmodifiableList" (some 29) with
  accessFlags := 32
  interfaces := #[20]
  cf := some (fileOf pool30 8 #[.nestHost 121] #[{ accessFlags := 0, nameIndex := 5, descriptorIndex := 54, attributes := #[] }, { accessFlags := 1, nameIndex := 25, descriptorIndex := 26, attributes := #[] }] 32 2 #[14] #[{ accessFlags := 26, nameIndex := 60, descriptorIndex := 61, attributes := #[] }, { accessFlags := 16, nameIndex := 11, descriptorIndex := 12, attributes := #[] }])
  fields := #[{ name := "serialVersionUID", type := .long, accessFlags := 26, slot := 0, constantValue := 0 }, { name := "list", type := (.object "java/util/List"), accessFlags := 16, slot := 1, constantValue := 0 }]
  methods := #[k30m0, k30m1]
  instanceTypes := #[(.object "java/util/Collection"), (.object "java/util/List")]
  staticTypes := #[.long]
  resolved := Array.replicate 127 none
  mirror := some 4
  statics := none }

def pool31 : Array CpInfo := pool [(1, .methodref 2 3), (0, .class_ 4), (0, .nameAndType 5 6), (0, u "java/util/Collections$UnmodifiableList"), (0, u "<init>"), (0, u "(Ljava/util/List;)V"), (0, .class_ 8), (0, u "java/util/Collections$UnmodifiableRandomAccessList"), (11, .class_ 21), (0, u "java/util/RandomAccess"), (0, u "serialVersionUID"), (0, u "J"), (23, .class_ 48), (0, u "java/util/Collections")] 3

def k31c0 : Code := { maxStack := 2, maxLocals := 2, code := jdk_121_method_1_code, exceptionTable := #[], attributes := #[] }
def k31m0 : Method := { name := "<init>", desc := "(Ljava/util/List;)V", sig := { parameters := [(.object "java/util/List")], returnType := none }, accessFlags := 0, code := some k31c0 }
/-- java/util/Collections$UnmodifiableRandomAccessList -/
def k31 : Class := { plain "java/util/Collections$UnmodifiableRandomAccessList" (some 30) with
  accessFlags := 32
  interfaces := #[22]
  cf := some (fileOf pool31 7 #[.nestHost 47] #[{ accessFlags := 0, nameIndex := 5, descriptorIndex := 6, attributes := #[] }] 32 2 #[20] #[{ accessFlags := 26, nameIndex := 22, descriptorIndex := 23, attributes := #[] }])
  fields := #[{ name := "serialVersionUID", type := .long, accessFlags := 26, slot := 0, constantValue := 0 }]
  methods := #[k31m0]
  instanceTypes := #[(.object "java/util/Collection"), (.object "java/util/List")]
  staticTypes := #[.long]
  resolved := Array.replicate 52 none
  mirror := some 5
  statics := none }

def pool32 : Array CpInfo := pool [(2, .class_ 4), (1, u "java/lang/Object"), (0, u "<init>"), (0, u "()V"), (17, .class_ 26), (1, u "jdk/internal/util/Preconditions"), (6, u "checkIndex"), (21, .class_ 56), (0, u "jdk/internal/util/Preconditions$4"), (57, .class_ 115), (0, u "jdk/internal/util/Preconditions$1"), (7, u "SIOOBE_FORMATTER"), (0, u "Ljava/util/function/BiFunction;"), (0, .class_ 126), (0, u "jdk/internal/util/Preconditions$2"), (3, u "AIOOBE_FORMATTER"), (0, .class_ 132), (0, u "jdk/internal/util/Preconditions$3"), (3, u "IOOBE_FORMATTER"), (41, u "(IILjava/util/function/BiFunction;)I")] 15

def k32m0 : Method := { name := "<init>", desc := "()V", sig := { parameters := [], returnType := none }, accessFlags := 1, code := none }
def k32c1 : Code := { maxStack := 3, maxLocals := 3, code := jdk_41_method_11_code, exceptionTable := #[], attributes := #[] }
def k32m1 : Method := { name := "checkIndex", desc := "(IILjava/util/function/BiFunction;)I", sig := { parameters := [.int, .int, (.object "java/util/function/BiFunction")], returnType := some .int }, accessFlags := 9, code := some k32c1 }
/-- jdk/internal/util/Preconditions -/
def k32 : Class := { plain "jdk/internal/util/Preconditions" (some 0) with
  accessFlags := 33
  interfaces := #[]
  cf := some (fileOf pool32 24 #[.nestMembers #[55, 131, 125, 114]] #[{ accessFlags := 1, nameIndex := 5, descriptorIndex := 6, attributes := #[] }, { accessFlags := 9, nameIndex := 33, descriptorIndex := 178, attributes := #[] }] 33 2 #[] #[{ accessFlags := 25, nameIndex := 123, descriptorIndex := 124, attributes := #[] }, { accessFlags := 25, nameIndex := 130, descriptorIndex := 124, attributes := #[] }, { accessFlags := 25, nameIndex := 136, descriptorIndex := 124, attributes := #[] }])
  fields := #[{ name := "SIOOBE_FORMATTER", type := (.object "java/util/function/BiFunction"), accessFlags := 25, slot := 0, constantValue := 0 }, { name := "AIOOBE_FORMATTER", type := (.object "java/util/function/BiFunction"), accessFlags := 25, slot := 1, constantValue := 0 }, { name := "IOOBE_FORMATTER", type := (.object "java/util/function/BiFunction"), accessFlags := 25, slot := 2, constantValue := 0 }]
  methods := #[k32m0, k32m1]
  instanceTypes := #[]
  staticTypes := #[(.object "java/util/function/BiFunction"), (.object "java/util/function/BiFunction"), (.object "java/util/function/BiFunction")]
  resolved := Array.replicate 194 none
  statics := some 2 }

def pool33 : Array CpInfo := pool [(1, .class_ 2), (0, u "java/lang/Appendable"), (0, .class_ 4), (0, u "java/lang/Object")] 9

/-- java/lang/Appendable -/
def k33 : Class := { plain "java/lang/Appendable" (some 0) with
  accessFlags := 1537
  interfaces := #[]
  cf := some (fileOf pool33 1 #[] #[] 1537 3 #[] #[])
  fields := #[]
  methods := #[]
  instanceTypes := #[]
  staticTypes := #[]
  resolved := Array.replicate 14 none
  statics := none }

def pool34 : Array CpInfo := pool [(1, .class_ 2), (0, u "java/lang/String"), (0, .methodref 4 5), (0, .class_ 6), (0, .nameAndType 7 8), (0, u "java/lang/Object"), (0, u "<init>"), (0, u "()V"), (1, .class_ 12), (1, u "java/lang/AbstractStringBuilder"), (0, u "EMPTYVALUE"), (0, u "[B"), (0, .fieldref 10 16), (0, .nameAndType 17 14), (0, u "value"), (0, .fieldref 1 19), (0, .nameAndType 20 21), (0, u "COMPACT_STRINGS"), (0, u "Z"), (0, .fieldref 10 23), (0, .nameAndType 24 25), (0, u "coder"), (0, u "B"), (6, .methodref 1 33), (0, .nameAndType 34 35), (0, u "length"), (0, u "()I"), (4, .methodref 1 41), (0, .nameAndType 24 42), (0, u "()B"), (2, u "append"), (0, u "(Ljava/lang/String;)Ljava/lang/AbstractStringBuilder;"), (1, .class_ 49), (0, u "java/lang/CharSequence"), (19, u "(Ljava/lang/String;)V"), (5, u "maybeLatin1"), (3, .fieldref 10 80), (0, .nameAndType 81 82), (0, u "count"), (0, u "I"), (2, u "isLatin1"), (0, u "()Z"), (13, .methodref 10 101), (0, .nameAndType 102 103), (0, u "ensureCapacityInternal"), (0, u "(I)V"), (104, .methodref 10 209), (0, .nameAndType 210 211), (0, u "putStringAt"), (0, u "(ILjava/lang/String;)V"), (5, u "inflateIfNeededFor"), (2, .nameAndType 221 222), (0, u "getBytes"), (0, u "([BIB)V"), (174, .methodref 10 398), (0, .nameAndType 217 69), (0, .methodref 1 220), (3, u "()[B"), (40, .class_ 445), (0, u "java/lang/Appendable"), (106, u "getValue")] 56

def k34m0 : Method := { name := "<init>", desc := "()V", sig := { parameters := [], returnType := none }, accessFlags := 0, code := none }
def k34c1 : Code := { maxStack := 2, maxLocals := 2, code := jdk_68_method_2_code, exceptionTable := #[], attributes := #[] }
def k34m1 : Method := { name := "<init>", desc := "(I)V", sig := { parameters := [.int], returnType := none }, accessFlags := 0, code := some k34c1 }
def k34c2 : Code := { maxStack := 1, maxLocals := 1, code := jdk_68_method_6_code, exceptionTable := #[], attributes := #[] }
def k34m2 : Method := { name := "length", desc := "()I", sig := { parameters := [], returnType := some .int }, accessFlags := 1, code := some k34c2 }
def k34c3 : Code := { maxStack := 4, maxLocals := 3, code := jdk_68_method_9_code, exceptionTable := #[], attributes := #[] }
def k34m3 : Method := { name := "ensureCapacityInternal", desc := "(I)V", sig := { parameters := [.int], returnType := none }, accessFlags := 2, code := some k34c3 }
def k34c4 : Code := { maxStack := 3, maxLocals := 3, code := jdk_68_method_22_code, exceptionTable := #[], attributes := #[] }
def k34m4 : Method := { name := "append", desc := "(Ljava/lang/String;)Ljava/lang/AbstractStringBuilder;", sig := { parameters := [(.object "java/lang/String")], returnType := some (.object "java/lang/AbstractStringBuilder") }, accessFlags := 1, code := some k34c4 }
def k34c5 : Code := { maxStack := 1, maxLocals := 1, code := jdk_68_method_64_code, exceptionTable := #[], attributes := #[] }
def k34m5 : Method := { name := "getValue", desc := "()[B", sig := { parameters := [], returnType := some (.array .byte) }, accessFlags := 16, code := some k34c5 }
def k34c6 : Code := { maxStack := 1, maxLocals := 1, code := jdk_68_method_68_code, exceptionTable := #[], attributes := #[] }
def k34m6 : Method := { name := "isLatin1", desc := "()Z", sig := { parameters := [], returnType := some .boolean }, accessFlags := 16, code := some k34c6 }
def k34c7 : Code := { maxStack := 2, maxLocals := 2, code := jdk_68_method_71_code, exceptionTable := #[], attributes := #[] }
def k34m7 : Method := { name := "inflateIfNeededFor", desc := "(Ljava/lang/String;)V", sig := { parameters := [(.object "java/lang/String")], returnType := none }, accessFlags := 2, code := some k34c7 }
def k34c8 : Code := { maxStack := 4, maxLocals := 3, code := jdk_68_method_73_code, exceptionTable := #[], attributes := #[] }
def k34m8 : Method := { name := "putStringAt", desc := "(ILjava/lang/String;)V", sig := { parameters := [.int, (.object "java/lang/String")], returnType := none }, accessFlags := 2, code := some k34c8 }
/-- java/lang/AbstractStringBuilder -/
def k34 : Class := { plain "java/lang/AbstractStringBuilder" (some 0) with
  accessFlags := 1056
  interfaces := #[33, 5]
  cf := some (fileOf pool34 10 #[] #[{ accessFlags := 0, nameIndex := 7, descriptorIndex := 8, attributes := #[] }, { accessFlags := 0, nameIndex := 7, descriptorIndex := 103, attributes := #[] }, { accessFlags := 1, nameIndex := 34, descriptorIndex := 35, attributes := #[] }, { accessFlags := 2, nameIndex := 102, descriptorIndex := 103, attributes := #[] }, { accessFlags := 1, nameIndex := 45, descriptorIndex := 46, attributes := #[] }, { accessFlags := 16, nameIndex := 552, descriptorIndex := 403, attributes := #[] }, { accessFlags := 16, nameIndex := 85, descriptorIndex := 86, attributes := #[] }, { accessFlags := 2, nameIndex := 217, descriptorIndex := 69, attributes := #[] }, { accessFlags := 2, nameIndex := 210, descriptorIndex := 211, attributes := #[] }] 1056 4 #[444, 48] #[{ accessFlags := 0, nameIndex := 17, descriptorIndex := 14, attributes := #[] }, { accessFlags := 0, nameIndex := 24, descriptorIndex := 25, attributes := #[] }, { accessFlags := 0, nameIndex := 75, descriptorIndex := 21, attributes := #[] }, { accessFlags := 0, nameIndex := 81, descriptorIndex := 82, attributes := #[] }, { accessFlags := 26, nameIndex := 13, descriptorIndex := 14, attributes := #[] }])
  fields := #[{ name := "value", type := (.array .byte), accessFlags := 0, slot := 0, constantValue := 0 }, { name := "coder", type := .byte, accessFlags := 0, slot := 1, constantValue := 0 }, { name := "maybeLatin1", type := .boolean, accessFlags := 0, slot := 2, constantValue := 0 }, { name := "count", type := .int, accessFlags := 0, slot := 3, constantValue := 0 }, { name := "EMPTYVALUE", type := (.array .byte), accessFlags := 26, slot := 0, constantValue := 0 }]
  methods := #[k34m0, k34m1, k34m2, k34m3, k34m4, k34m5, k34m6, k34m7, k34m8]
  instanceTypes := #[(.array .byte), .byte, .boolean, .int]
  staticTypes := #[(.array .byte)]
  resolved := Array.replicate 609 none
  statics := none }

def pool35 : Array CpInfo := pool [(1, .methodref 2 3), (0, .class_ 4), (0, .nameAndType 5 6), (0, u "java/lang/AbstractStringBuilder"), (0, u "<init>"), (0, u "(I)V"), (11, .class_ 20), (1, u "java/lang/String"), (3, .class_ 26), (1, u "java/lang/StringBuilder"), (0, u "append"), (0, u "(Ljava/lang/String;)Ljava/lang/StringBuilder;"), (0, .methodref 2 30), (0, .nameAndType 27 31), (0, u "(Ljava/lang/String;)Ljava/lang/AbstractStringBuilder;"), (105, .methodref 18 138), (0, .nameAndType 5 139), (0, u "(Ljava/lang/StringBuilder;)V"), (5, u "()V"), (10, u "()I"), (186, .methodref 2 344), (0, .nameAndType 345 156), (0, u "length"), (3, .class_ 350), (0, u "java/lang/Appendable"), (0, .class_ 352), (0, u "java/io/Serializable"), (0, .class_ 354), (0, u "java/lang/Comparable"), (0, .class_ 356), (0, u "java/lang/CharSequence"), (0, u "serialVersionUID"), (0, u "J"), (40, u "toString"), (0, u "()Ljava/lang/String;")] 21

def k35c0 : Code := { maxStack := 2, maxLocals := 1, code := jdk_67_method_1_code, exceptionTable := #[], attributes := #[] }
def k35m0 : Method := { name := "<init>", desc := "()V", sig := { parameters := [], returnType := none }, accessFlags := 1, code := some k35c0 }
def k35c1 : Code := { maxStack := 2, maxLocals := 2, code := jdk_67_method_7_code, exceptionTable := #[], attributes := #[] }
def k35m1 : Method := { name := "append", desc := "(Ljava/lang/String;)Ljava/lang/StringBuilder;", sig := { parameters := [(.object "java/lang/String")], returnType := some (.object "java/lang/StringBuilder") }, accessFlags := 1, code := some k35c1 }
def k35c2 : Code := { maxStack := 3, maxLocals := 1, code := jdk_67_method_42_code, exceptionTable := #[], attributes := #[] }
def k35m2 : Method := { name := "toString", desc := "()Ljava/lang/String;", sig := { parameters := [], returnType := some (.object "java/lang/String") }, accessFlags := 1, code := some k35c2 }
def k35c3 : Code := { maxStack := 1, maxLocals := 1, code := jdk_67_method_93_code, exceptionTable := #[], attributes := #[] }
def k35m3 : Method := { name := "length", desc := "()I", sig := { parameters := [], returnType := some .int }, accessFlags := 4161, code := some k35c3 }
/-- java/lang/StringBuilder -/
def k35 : Class := { plain "java/lang/StringBuilder" (some 34) with
  accessFlags := 49
  interfaces := #[33, 3, 4, 5]
  cf := some (fileOf pool35 24 #[] #[{ accessFlags := 1, nameIndex := 5, descriptorIndex := 145, attributes := #[] }, { accessFlags := 1, nameIndex := 27, descriptorIndex := 28, attributes := #[] }, { accessFlags := 1, nameIndex := 399, descriptorIndex := 400, attributes := #[] }, { accessFlags := 4161, nameIndex := 345, descriptorIndex := 156, attributes := #[] }] 49 2 #[349, 351, 353, 355] #[{ accessFlags := 24, nameIndex := 357, descriptorIndex := 358, attributes := #[] }])
  fields := #[{ name := "serialVersionUID", type := .long, accessFlags := 24, slot := 0, constantValue := 0 }]
  methods := #[k35m0, k35m1, k35m2, k35m3]
  instanceTypes := #[(.array .byte), .byte, .boolean, .int]
  staticTypes := #[.long]
  resolved := Array.replicate 422 none
  statics := none }

def pool36 : Array CpInfo := pool [(2, .class_ 4), (1, u "java/lang/Object"), (0, u "<init>"), (0, u "()V"), (7, .class_ 16), (1, u "java/util/Arrays"), (57, .class_ 76), (1, u "java/util/Arrays$NaturalOrder"), (36, .class_ 115), (1, u "java/util/Arrays$LegacyMergeSort"), (1, u "Z"), (21, u "copyOfRange"), (10, .methodref 151 152), (0, .class_ 153), (0, .nameAndType 154 155), (0, u "java/lang/System"), (0, u "arraycopy"), (0, u "(Ljava/lang/Object;ILjava/lang/Object;II)V"), (148, .methodref 305 306), (0, .class_ 307), (0, .nameAndType 308 309), (0, u "java/lang/Math"), (0, u "min"), (0, u "(II)I"), (29, .methodref 14 340), (0, .nameAndType 341 342), (0, u "copyOfRangeByte"), (0, u "([BII)[B"), (0, .methodref 14 344), (0, .nameAndType 345 346), (0, u "checkLength"), (0, u "(II)V"), (28, .class_ 376), (0, u "java/util/Arrays$ArrayList"), (68, u "$assertionsDisabled"), (269, u "MIN_ARRAY_SORT_GRAN"), (0, u "I"), (2, u "INSERTIONSORT_THRESHOLD"), (255, .class_ 976), (0, u "java/util/Arrays$ArrayItr")] 52

def k36m0 : Method := { name := "<init>", desc := "()V", sig := { parameters := [], returnType := none }, accessFlags := 2, code := none }
def k36c1 : Code := { maxStack := 4, maxLocals := 2, code := jdk_65_method_131_code, exceptionTable := #[], attributes := #[] }
def k36m1 : Method := { name := "checkLength", desc := "(II)V", sig := { parameters := [.int, .int], returnType := none }, accessFlags := 10, code := some k36c1 }
def k36c2 : Code := { maxStack := 3, maxLocals := 3, code := jdk_65_method_132_code, exceptionTable := #[], attributes := #[] }
def k36m2 : Method := { name := "copyOfRange", desc := "([BII)[B", sig := { parameters := [(.array .byte), .int, .int], returnType := some (.array .byte) }, accessFlags := 9, code := some k36c2 }
def k36c3 : Code := { maxStack := 6, maxLocals := 5, code := jdk_65_method_133_code, exceptionTable := #[], attributes := #[] }
def k36m3 : Method := { name := "copyOfRangeByte", desc := "([BII)[B", sig := { parameters := [(.array .byte), .int, .int], returnType := some (.array .byte) }, accessFlags := 10, code := some k36c3 }
/-- java/util/Arrays -/
def k36 : Class := { plain "java/util/Arrays" (some 0) with
  accessFlags := 49
  interfaces := #[]
  cf := some (fileOf pool36 14 #[.nestMembers #[975, 375, 113, 74]] #[{ accessFlags := 2, nameIndex := 5, descriptorIndex := 6, attributes := #[] }, { accessFlags := 10, nameIndex := 345, descriptorIndex := 346, attributes := #[] }, { accessFlags := 9, nameIndex := 139, descriptorIndex := 342, attributes := #[] }, { accessFlags := 10, nameIndex := 341, descriptorIndex := 342, attributes := #[] }] 49 2 #[] #[{ accessFlags := 26, nameIndex := 715, descriptorIndex := 716, attributes := #[] }, { accessFlags := 26, nameIndex := 719, descriptorIndex := 716, attributes := #[] }, { accessFlags := 4120, nameIndex := 445, descriptorIndex := 117, attributes := #[] }])
  fields := #[{ name := "MIN_ARRAY_SORT_GRAN", type := .int, accessFlags := 26, slot := 0, constantValue := 0 }, { name := "INSERTIONSORT_THRESHOLD", type := .int, accessFlags := 26, slot := 1, constantValue := 0 }, { name := "$assertionsDisabled", type := .boolean, accessFlags := 4120, slot := 2, constantValue := 0 }]
  methods := #[k36m0, k36m1, k36m2, k36m3]
  instanceTypes := #[]
  staticTypes := #[.int, .int, .boolean]
  resolved := Array.replicate 1029 none
  statics := none }

def pool37 : Array CpInfo := pool [(2, .class_ 4), (1, u "java/lang/Object"), (0, u "<init>"), (0, u "()V"), (1, .class_ 10), (1, u "java/lang/System"), (0, u "allowSecurityManager"), (0, u "I"), (16, u "cons"), (0, u "Ljava/io/Console;"), (77, .class_ 110), (1, u "java/lang/System$CallersHolder"), (43, u "initialErrStream"), (0, u "Ljava/io/PrintStream;"), (19, u "security"), (0, u "Ljava/lang/SecurityManager;"), (31, .class_ 209), (0, u "java/lang/System$1"), (7, u "props"), (0, u "Ljava/util/Properties;"), (2, u "lineSeparator"), (0, u "Ljava/lang/String;"), (96, .class_ 321), (1, u "java/lang/System$LoggerFinder"), (5, .class_ 328), (0, u "java/lang/System$Logger"), (67, u "err"), (2, u "out"), (91, u "notSupportedJnuEncoding"), (15, u "in"), (17, u "initialIn"), (0, u "Ljava/io/InputStream;"), (35, u "bootLayer"), (0, u "Ljava/lang/ModuleLayer;"), (99, .class_ 664), (0, u "java/lang/System$2"), (9, u "NEVER"), (2, u "MAYBE"), (49, u "arraycopy"), (0, u "(Ljava/lang/Object;ILjava/lang/Object;II)V"), (72, .class_ 802), (0, u "java/lang/System$Logger$Level")] 31

def k37m0 : Method := { name := "<init>", desc := "()V", sig := { parameters := [], returnType := none }, accessFlags := 2, code := none }
def k37m1 : Method := { name := "arraycopy", desc := "(Ljava/lang/Object;ILjava/lang/Object;II)V", sig := { parameters := [(.object "java/lang/Object"), .int, (.object "java/lang/Object"), .int, .int], returnType := none }, accessFlags := 265, code := none }
/-- java/lang/System -/
def k37 : Class := { plain "java/lang/System" (some 0) with
  accessFlags := 49
  interfaces := #[]
  cf := some (fileOf pool37 8 #[.nestMembers #[319, 327, 801, 108, 663, 208]] #[{ accessFlags := 2, nameIndex := 5, descriptorIndex := 6, attributes := #[] }, { accessFlags := 265, nameIndex := 727, descriptorIndex := 728, attributes := #[] }] 49 2 #[] #[{ accessFlags := 25, nameIndex := 507, descriptorIndex := 526, attributes := #[] }, { accessFlags := 25, nameIndex := 399, descriptorIndex := 155, attributes := #[] }, { accessFlags := 25, nameIndex := 396, descriptorIndex := 155, attributes := #[] }, { accessFlags := 10, nameIndex := 525, descriptorIndex := 526, attributes := #[] }, { accessFlags := 26, nameIndex := 674, descriptorIndex := 12, attributes := #[] }, { accessFlags := 26, nameIndex := 677, descriptorIndex := 12, attributes := #[] }, { accessFlags := 10, nameIndex := 11, descriptorIndex := 12, attributes := #[] }, { accessFlags := 74, nameIndex := 175, descriptorIndex := 176, attributes := #[] }, { accessFlags := 10, nameIndex := 491, descriptorIndex := 222, attributes := #[] }, { accessFlags := 74, nameIndex := 29, descriptorIndex := 30, attributes := #[] }, { accessFlags := 74, nameIndex := 154, descriptorIndex := 155, attributes := #[] }, { accessFlags := 10, nameIndex := 217, descriptorIndex := 218, attributes := #[] }, { accessFlags := 10, nameIndex := 221, descriptorIndex := 222, attributes := #[] }, { accessFlags := 8, nameIndex := 562, descriptorIndex := 563, attributes := #[] }])
  fields := #[{ name := "in", type := (.object "java/io/InputStream"), accessFlags := 25, slot := 0, constantValue := 0 }, { name := "out", type := (.object "java/io/PrintStream"), accessFlags := 25, slot := 1, constantValue := 0 }, { name := "err", type := (.object "java/io/PrintStream"), accessFlags := 25, slot := 2, constantValue := 0 }, { name := "initialIn", type := (.object "java/io/InputStream"), accessFlags := 10, slot := 3, constantValue := 0 }, { name := "NEVER", type := .int, accessFlags := 26, slot := 4, constantValue := 0 }, { name := "MAYBE", type := .int, accessFlags := 26, slot := 5, constantValue := 0 }, { name := "allowSecurityManager", type := .int, accessFlags := 10, slot := 6, constantValue := 0 }, { name := "security", type := (.object "java/lang/SecurityManager"), accessFlags := 74, slot := 7, constantValue := 0 }, { name := "notSupportedJnuEncoding", type := (.object "java/lang/String"), accessFlags := 10, slot := 8, constantValue := 0 }, { name := "cons", type := (.object "java/io/Console"), accessFlags := 74, slot := 9, constantValue := 0 }, { name := "initialErrStream", type := (.object "java/io/PrintStream"), accessFlags := 74, slot := 10, constantValue := 0 }, { name := "props", type := (.object "java/util/Properties"), accessFlags := 10, slot := 11, constantValue := 0 }, { name := "lineSeparator", type := (.object "java/lang/String"), accessFlags := 10, slot := 12, constantValue := 0 }, { name := "bootLayer", type := (.object "java/lang/ModuleLayer"), accessFlags := 8, slot := 13, constantValue := 0 }]
  methods := #[k37m0, k37m1]
  instanceTypes := #[]
  staticTypes := #[(.object "java/io/InputStream"), (.object "java/io/PrintStream"), (.object "java/io/PrintStream"), (.object "java/io/InputStream"), .int, .int, .int, (.object "java/lang/SecurityManager"), (.object "java/lang/String"), (.object "java/io/Console"), (.object "java/io/PrintStream"), (.object "java/util/Properties"), (.object "java/lang/String"), (.object "java/lang/ModuleLayer")]
  resolved := Array.replicate 834 none
  statics := none }

def pool38 : Array CpInfo := pool [(9, u "<init>"), (6, .class_ 18), (1, u "java/lang/Object"), (0, u "()V"), (1, .class_ 23), (1, u "jdk/internal/util/ArraysSupport"), (0, u "LOG2_ARRAY_LONG_INDEX_SCALE"), (0, u "I"), (2, u "U"), (0, u "Ljdk/internal/misc/Unsafe;"), (8, u "BIG_ENDIAN"), (0, u "Z"), (8, u "LOG2_BYTE_BIT_SIZE"), (4, u "LOG2_ARRAY_INT_INDEX_SCALE"), (54, u "JLA"), (0, u "Ljdk/internal/access/JavaLangAccess;"), (11, u "LOG2_ARRAY_BOOLEAN_INDEX_SCALE"), (9, u "LOG2_ARRAY_BYTE_INDEX_SCALE"), (5, u "LOG2_ARRAY_CHAR_INDEX_SCALE"), (5, u "LOG2_ARRAY_SHORT_INDEX_SCALE"), (18, u "LOG2_ARRAY_FLOAT_INDEX_SCALE"), (24, u "LOG2_ARRAY_DOUBLE_INDEX_SCALE"), (89, u "T_BOOLEAN"), (2, u "T_CHAR"), (1, u "T_FLOAT"), (1, u "T_DOUBLE"), (1, u "T_BYTE"), (1, u "T_SHORT"), (1, u "T_INT"), (1, u "T_LONG"), (1, u "SOFT_MAX_ARRAY_LENGTH")] 83

def k38m0 : Method := { name := "<init>", desc := "()V", sig := { parameters := [], returnType := none }, accessFlags := 2, code := none }
/-- jdk/internal/util/ArraysSupport -/
def k38 : Class := { plain "jdk/internal/util/ArraysSupport" (some 0) with
  accessFlags := 33
  interfaces := #[]
  cf := some (fileOf pool38 21 #[] #[{ accessFlags := 2, nameIndex := 9, descriptorIndex := 19, attributes := #[] }] 33 16 #[] #[{ accessFlags := 24, nameIndex := 28, descriptorIndex := 29, attributes := #[] }, { accessFlags := 26, nameIndex := 38, descriptorIndex := 39, attributes := #[] }, { accessFlags := 25, nameIndex := 121, descriptorIndex := 25, attributes := #[] }, { accessFlags := 25, nameIndex := 131, descriptorIndex := 25, attributes := #[] }, { accessFlags := 25, nameIndex := 137, descriptorIndex := 25, attributes := #[] }, { accessFlags := 25, nameIndex := 143, descriptorIndex := 25, attributes := #[] }, { accessFlags := 25, nameIndex := 53, descriptorIndex := 25, attributes := #[] }, { accessFlags := 25, nameIndex := 24, descriptorIndex := 25, attributes := #[] }, { accessFlags := 25, nameIndex := 162, descriptorIndex := 25, attributes := #[] }, { accessFlags := 25, nameIndex := 187, descriptorIndex := 25, attributes := #[] }, { accessFlags := 26, nameIndex := 48, descriptorIndex := 25, attributes := #[] }, { accessFlags := 25, nameIndex := 277, descriptorIndex := 25, attributes := #[] }, { accessFlags := 25, nameIndex := 280, descriptorIndex := 25, attributes := #[] }, { accessFlags := 25, nameIndex := 282, descriptorIndex := 25, attributes := #[] }, { accessFlags := 25, nameIndex := 284, descriptorIndex := 25, attributes := #[] }, { accessFlags := 25, nameIndex := 286, descriptorIndex := 25, attributes := #[] }, { accessFlags := 25, nameIndex := 288, descriptorIndex := 25, attributes := #[] }, { accessFlags := 25, nameIndex := 290, descriptorIndex := 25, attributes := #[] }, { accessFlags := 25, nameIndex := 292, descriptorIndex := 25, attributes := #[] }, { accessFlags := 26, nameIndex := 108, descriptorIndex := 109, attributes := #[] }, { accessFlags := 25, nameIndex := 294, descriptorIndex := 25, attributes := #[] }])
  fields := #[{ name := "U", type := (.object "jdk/internal/misc/Unsafe"), accessFlags := 24, slot := 0, constantValue := 0 }, { name := "BIG_ENDIAN", type := .boolean, accessFlags := 26, slot := 1, constantValue := 0 }, { name := "LOG2_ARRAY_BOOLEAN_INDEX_SCALE", type := .int, accessFlags := 25, slot := 2, constantValue := 0 }, { name := "LOG2_ARRAY_BYTE_INDEX_SCALE", type := .int, accessFlags := 25, slot := 3, constantValue := 0 }, { name := "LOG2_ARRAY_CHAR_INDEX_SCALE", type := .int, accessFlags := 25, slot := 4, constantValue := 0 }, { name := "LOG2_ARRAY_SHORT_INDEX_SCALE", type := .int, accessFlags := 25, slot := 5, constantValue := 0 }, { name := "LOG2_ARRAY_INT_INDEX_SCALE", type := .int, accessFlags := 25, slot := 6, constantValue := 0 }, { name := "LOG2_ARRAY_LONG_INDEX_SCALE", type := .int, accessFlags := 25, slot := 7, constantValue := 0 }, { name := "LOG2_ARRAY_FLOAT_INDEX_SCALE", type := .int, accessFlags := 25, slot := 8, constantValue := 0 }, { name := "LOG2_ARRAY_DOUBLE_INDEX_SCALE", type := .int, accessFlags := 25, slot := 9, constantValue := 0 }, { name := "LOG2_BYTE_BIT_SIZE", type := .int, accessFlags := 26, slot := 10, constantValue := 0 }, { name := "T_BOOLEAN", type := .int, accessFlags := 25, slot := 11, constantValue := 0 }, { name := "T_CHAR", type := .int, accessFlags := 25, slot := 12, constantValue := 0 }, { name := "T_FLOAT", type := .int, accessFlags := 25, slot := 13, constantValue := 0 }, { name := "T_DOUBLE", type := .int, accessFlags := 25, slot := 14, constantValue := 0 }, { name := "T_BYTE", type := .int, accessFlags := 25, slot := 15, constantValue := 0 }, { name := "T_SHORT", type := .int, accessFlags := 25, slot := 16, constantValue := 0 }, { name := "T_INT", type := .int, accessFlags := 25, slot := 17, constantValue := 0 }, { name := "T_LONG", type := .int, accessFlags := 25, slot := 18, constantValue := 0 }, { name := "JLA", type := (.object "jdk/internal/access/JavaLangAccess"), accessFlags := 26, slot := 19, constantValue := 0 }, { name := "SOFT_MAX_ARRAY_LENGTH", type := .int, accessFlags := 25, slot := 20, constantValue := 0 }]
  methods := #[k38m0]
  instanceTypes := #[]
  staticTypes := #[(.object "jdk/internal/misc/Unsafe"), .boolean, .int, .int, .int, .int, .int, .int, .int, .int, .int, .int, .int, .int, .int, .int, .int, .int, .int, (.object "jdk/internal/access/JavaLangAccess"), .int]
  resolved := Array.replicate 378 none
  statics := none }

/-- the primitive byte -/
def k39 : Class := { plain "byte" none with kind := .primitive 'B', accessFlags := 0x411 }
/-- [B -/
def k40 : Class := { plain "[B" (some 0) with kind := .array 39 .byte, interfaces := #[12, 3], accessFlags := 1041 }

/-- [Ljava/lang/Object; -/
def k41 : Class := { plain "[Ljava/lang/Object;" (some 0) with kind := .array 0 (.object "java/lang/Object"), interfaces := #[12, 3], accessFlags := 1041 }

def heap : Heap := #[{ cls := 8, slots := #[.long 0, .int 1, .null, .int 0, .null, .int 0, .int 0], vm := .statics 8 },
  { cls := 23, slots := #[.long 0, .int 0, .ref 6, .ref 7], vm := .statics 23 },
  { cls := 32, slots := #[.null, .null, .null], vm := .statics 32 },
  { cls := 0, slots := #[], vm := .mirror 23 },
  { cls := 0, slots := #[], vm := .mirror 30 },
  { cls := 0, slots := #[], vm := .mirror 31 },
  { cls := 41, slots := #[], vm := .none },
  { cls := 41, slots := #[], vm := .none }]
def classes : Array Class := #[k0, k1, k2, k3, k4, k5, k6, k7, k8, k9, k10, k11, k12, k13, k14, k15, k16, k17, k18, k19, k20, k21, k22, k23, k24, k25, k26, k27, k28, k29, k30, k31, k32, k33, k34, k35, k36, k37, k38, k39, k40, k41]
def interned : List (Array UInt16 × Addr) := []
def slotsUsed : Nat := 14
def theMethod : MethodId := ⟨1, 2⟩
def args0 : Array Value := #[.int 5, .int 5, .int 5, .int 5, .int 5]
def aboutOver (below : List Frame) : State where
  vm := { classes := classes, interned := interned.toArray }
  heap := heap
  slotsUsed := slotsUsed
  threads := #[{ frames := .invoking theMethod args0 :: below }]
def below0 : List Frame := [.native { method := ⟨0, 0⟩, args := #[] }]
def about1 : State := aboutOver below0
def p0 : Program := .bare "" "" ""
def e0 : Env := launch0.env 0 0 0
theorem w_frames : about1.frames = Frame.invoking theMethod args0 :: below0 := rfl
set_option maxRecDepth 65536 in
theorem w_args : argsFit about1.vm theMethod args0 = true := by decide +kernel
set_option maxRecDepth 65536 in
theorem w_heap : heapFits about1 = true := by decide +kernel
set_option maxRecDepth 65536 in
theorem w_runnable : about1.curStatus? = some .runnable := by decide +kernel
set_option maxRecDepth 65536 in
theorem w_alone : about1.alone = true := by decide +kernel
set_option maxRecDepth 65536 in
theorem w_named : about1.methodNamed? x = some theMethod := by decide +kernel
set_option maxRecDepth 65536 in
theorem w_hears : about1.hears theMethod below0 = true := by decide +kernel
set_option maxRecDepth 65536 in
theorem w_ripe : about1.ripe theMethod args0 below0 = true := by decide +kernel
theorem w_running : about1.status = .running := rfl
set_option maxRecDepth 65536 in
theorem w_room : about1.hasRoom e0.platform room_1 = true :=
  launch0.hasRoom_least _ room_1 (by decide +kernel) (by decide +kernel) (by decide +kernel) (by decide +kernel) (by decide +kernel) (by decide +kernel)
theorem allAtoms_all (ts : List Jvm.Cond) (a : Array Jvm.Value) (st : Jvm.State) : (allAtoms ts).before a st = ts.all (fun c => c.before a st) := by
  induction ts with
  | nil => rfl
  | cons c t ih =>
    show (Jvm.Cond.and c (allAtoms t)).before a st = _
    rw [Jvm.Cond.before_and, ih, List.all_cons]
def words1 : List Jvm.Cond := Jvm.Cond.code x code maxLocals ret :: tables_1
/-- a 'code' word, met by the world's own term for the bytes: nothing is compared byte by byte -/
theorem code_word {y : MethodName} {bytes : ByteArray} {mx : Nat} {rt : Option FieldType} {a : Array Value} {s : State} {m : MethodId} {meth : Method} {c : Code} (h1 : s.methodNamed? y = some m) (h2 : s.vm.method? m = some meth) (h3 : meth.code = some c) (h4 : c.code = bytes)
    (h5 : (c.maxLocals == mx && c.exceptionTable.isEmpty && decide (c.maxStack ≤ mostOperands) && decide (meth.sig.returnType = rt) && !meth.locks && decide (parseMethodDescriptor y.desc = some meth.sig)) = true) : (Jvm.Cond.code y bytes mx rt).before a s = true := by
  simp only [Bool.and_eq_true, beq_iff_eq, Bool.not_eq_true', decide_eq_true_eq] at h5
  obtain ⟨⟨⟨⟨⟨g1, g2⟩, g3⟩, g4⟩, g5⟩, g6⟩ := h5
  simp [Cond.before, Cond.holds, Cond.value, h1, h2, h3, h4, g1, g2, g3, g4, g5, g6]
def isCode : Jvm.Cond → Bool
  | .code _ _ _ _ => true
  | _ => false
theorem all_split {L : List Jvm.Cond} {P : Jvm.Cond → Bool} (h1 : L.all (fun c => isCode c || P c) = true) (h2 : ∀ c ∈ L.filter isCode, P c = true) : L.all P = true := by
  refine List.all_eq_true.mpr fun c hc => ?_
  have h := List.all_eq_true.mp h1 c hc
  rcases Bool.eq_false_or_eq_true (isCode c) with hi | hi
  · exact h2 c (List.mem_filter.mpr ⟨hc, hi⟩)
  · simpa [hi] using h
set_option maxRecDepth 65536 in
theorem w_c0 : (Jvm.Cond.code x code maxLocals ret).before args0 about1 = true := code_word (m := ⟨1, 2⟩) (meth := k1m2) (c := k1c2) (by decide +kernel) rfl rfl rfl (by decide +kernel)
set_option maxRecDepth 65536 in
theorem w_c1 : (Jvm.Cond.code ({ cls := "com/example/marsh_tit/marshtit/stanza/ElementAddPinLaw", name := "s", desc := "(I)Ljava/lang/String;" } : Jvm.MethodName) method_2_code (1 : Nat) (Option.some (Jvm.ClassFile.FieldType.object "java/lang/String"))).before args0 about1 = true := code_word (m := ⟨1, 1⟩) (meth := k1m1) (c := k1c1) (by decide +kernel) rfl rfl rfl (by decide +kernel)
set_option maxRecDepth 65536 in
theorem w_c2 : (Jvm.Cond.code ({ cls := "java/lang/String", name := "valueOf", desc := "(C)Ljava/lang/String;" } : Jvm.MethodName) jdk_42_method_139_code (1 : Nat) (Option.some (Jvm.ClassFile.FieldType.object "java/lang/String"))).before args0 about1 = true := code_word (m := ⟨8, 5⟩) (meth := k8m5) (c := k8c5) (by decide +kernel) rfl rfl rfl (by decide +kernel)
set_option maxRecDepth 65536 in
theorem w_c3 : (Jvm.Cond.code ({ cls := "java/lang/StringLatin1", name := "canEncode", desc := "(C)Z" } : Jvm.MethodName) jdk_43_method_3_code (1 : Nat) (Option.some Jvm.ClassFile.FieldType.boolean)).before args0 about1 = true := code_word (m := ⟨9, 1⟩) (meth := k9m1) (c := k9c1) (by decide +kernel) rfl rfl rfl (by decide +kernel)
set_option maxRecDepth 65536 in
theorem w_c4 : (Jvm.Cond.code ({ cls := "java/lang/StringLatin1", name := "toBytes", desc := "(C)[B" } : Jvm.MethodName) jdk_43_method_46_code (1 : Nat) (Option.some (Jvm.ClassFile.FieldType.array Jvm.ClassFile.FieldType.byte))).before args0 about1 = true := code_word (m := ⟨9, 3⟩) (meth := k9m3) (c := k9c3) (by decide +kernel) rfl rfl rfl (by decide +kernel)
set_option maxRecDepth 65536 in
theorem w_c5 : (Jvm.Cond.code ({ cls := "java/lang/String", name := "<init>", desc := "([BB)V" } : Jvm.MethodName) jdk_42_method_151_code (3 : Nat) (Option.none : Option Jvm.ClassFile.FieldType)).before args0 about1 = true := code_word (m := ⟨8, 8⟩) (meth := k8m8) (c := k8c8) (by decide +kernel) rfl rfl rfl (by decide +kernel)
set_option maxRecDepth 65536 in
theorem w_c6 : (Jvm.Cond.code ({ cls := "java/lang/Object", name := "<init>", desc := "()V" } : Jvm.MethodName) object_method_1_code (1 : Nat) (Option.none : Option Jvm.ClassFile.FieldType)).before args0 about1 = true := code_word (m := ⟨0, 0⟩) (meth := k0m0) (c := k0c0) (by decide +kernel) rfl rfl rfl (by decide +kernel)
set_option maxRecDepth 65536 in
theorem w_c7 : (Jvm.Cond.code ({ cls := "com/example/marsh_tit/marshtit/stanza/Element", name := "<init>", desc := "(Ljava/lang/String;Ljava/lang/String;)V" } : Jvm.MethodName) prog_19_method_1_code (3 : Nat) (Option.none : Option Jvm.ClassFile.FieldType)).before args0 about1 = true := code_word (m := ⟨2, 0⟩) (meth := k2m0) (c := k2c0) (by decide +kernel) rfl rfl rfl (by decide +kernel)
set_option maxRecDepth 65536 in
theorem w_c8 : (Jvm.Cond.code ({ cls := "java/util/LinkedHashMap", name := "<init>", desc := "()V" } : Jvm.MethodName) jdk_94_method_16_code (1 : Nat) (Option.none : Option Jvm.ClassFile.FieldType)).before args0 about1 = true := code_word (m := ⟨15, 0⟩) (meth := k15m0) (c := k15c0) (by decide +kernel) rfl rfl rfl (by decide +kernel)
set_option maxRecDepth 65536 in
theorem w_c9 : (Jvm.Cond.code ({ cls := "java/util/HashMap", name := "<init>", desc := "()V" } : Jvm.MethodName) jdk_69_method_7_code (1 : Nat) (Option.none : Option Jvm.ClassFile.FieldType)).before args0 about1 = true := code_word (m := ⟨13, 0⟩) (meth := k13m0) (c := k13c0) (by decide +kernel) rfl rfl rfl (by decide +kernel)
set_option maxRecDepth 65536 in
theorem w_c10 : (Jvm.Cond.code ({ cls := "java/util/AbstractMap", name := "<init>", desc := "()V" } : Jvm.MethodName) jdk_71_method_1_code (1 : Nat) (Option.none : Option Jvm.ClassFile.FieldType)).before args0 about1 = true := code_word (m := ⟨11, 0⟩) (meth := k11m0) (c := k11c0) (by decide +kernel) rfl rfl rfl (by decide +kernel)
set_option maxRecDepth 65536 in
theorem w_c11 : (Jvm.Cond.code ({ cls := "java/util/ArrayList", name := "<init>", desc := "()V" } : Jvm.MethodName) jdk_38_method_2_code (1 : Nat) (Option.none : Option Jvm.ClassFile.FieldType)).before args0 about1 = true := code_word (m := ⟨23, 0⟩) (meth := k23m0) (c := k23c0) (by decide +kernel) rfl rfl rfl (by decide +kernel)
set_option maxRecDepth 65536 in
theorem w_c12 : (Jvm.Cond.code ({ cls := "java/util/AbstractList", name := "<init>", desc := "()V" } : Jvm.MethodName) jdk_39_method_1_code (1 : Nat) (Option.none : Option Jvm.ClassFile.FieldType)).before args0 about1 = true := code_word (m := ⟨21, 0⟩) (meth := k21m0) (c := k21c0) (by decide +kernel) rfl rfl rfl (by decide +kernel)
set_option maxRecDepth 65536 in
theorem w_c13 : (Jvm.Cond.code ({ cls := "java/util/AbstractCollection", name := "<init>", desc := "()V" } : Jvm.MethodName) jdk_22_method_1_code (1 : Nat) (Option.none : Option Jvm.ClassFile.FieldType)).before args0 about1 = true := code_word (m := ⟨18, 0⟩) (meth := k18m0) (c := k18c0) (by decide +kernel) rfl rfl rfl (by decide +kernel)
set_option maxRecDepth 65536 in
theorem w_c14 : (Jvm.Cond.code ({ cls := "java/util/Objects", name := "requireNonNull", desc := "(Ljava/lang/Object;Ljava/lang/String;)Ljava/lang/Object;" } : Jvm.MethodName) jdk_31_method_11_code (2 : Nat) (Option.some (Jvm.ClassFile.FieldType.object "java/lang/Object"))).before args0 about1 = true := code_word (m := ⟨24, 1⟩) (meth := k24m1) (c := k24c1) (by decide +kernel) rfl rfl rfl (by decide +kernel)
set_option maxRecDepth 65536 in
theorem w_c15 : (Jvm.Cond.code ({ cls := "com/example/marsh_tit/marshtit/stanza/Element", name := "add", desc := "(Lcom/example/marsh_tit/marshtit/stanza/Element;)Lcom/example/marsh_tit/marshtit/stanza/Element;" } : Jvm.MethodName) prog_19_method_8_code (2 : Nat) (Option.some (Jvm.ClassFile.FieldType.object "com/example/marsh_tit/marshtit/stanza/Element"))).before args0 about1 = true := code_word (m := ⟨2, 1⟩) (meth := k2m1) (c := k2c1) (by decide +kernel) rfl rfl rfl (by decide +kernel)
set_option maxRecDepth 65536 in
theorem w_c16 : (Jvm.Cond.code ({ cls := "java/util/ArrayList", name := "add", desc := "(Ljava/lang/Object;)Z" } : Jvm.MethodName) jdk_38_method_25_code (2 : Nat) (Option.some Jvm.ClassFile.FieldType.boolean)).before args0 about1 = true := code_word (m := ⟨23, 7⟩) (meth := k23m7) (c := k23c7) (by decide +kernel) rfl rfl rfl (by decide +kernel)
set_option maxRecDepth 65536 in
theorem w_c17 : (Jvm.Cond.code ({ cls := "java/util/ArrayList", name := "add", desc := "(Ljava/lang/Object;[Ljava/lang/Object;I)V" } : Jvm.MethodName) jdk_38_method_24_code (4 : Nat) (Option.none : Option Jvm.ClassFile.FieldType)).before args0 about1 = true := code_word (m := ⟨23, 6⟩) (meth := k23m6) (c := k23c6) (by decide +kernel) rfl rfl rfl (by decide +kernel)
set_option maxRecDepth 65536 in
theorem w_c18 : (Jvm.Cond.code ({ cls := "java/util/ArrayList", name := "grow", desc := "()[Ljava/lang/Object;" } : Jvm.MethodName) jdk_38_method_7_code (1 : Nat) (Option.some (Jvm.ClassFile.FieldType.array (Jvm.ClassFile.FieldType.object "java/lang/Object")))).before args0 about1 = true := code_word (m := ⟨23, 2⟩) (meth := k23m2) (c := k23c2) (by decide +kernel) rfl rfl rfl (by decide +kernel)
set_option maxRecDepth 65536 in
theorem w_c19 : (Jvm.Cond.code ({ cls := "java/util/ArrayList", name := "grow", desc := "(I)[Ljava/lang/Object;" } : Jvm.MethodName) jdk_38_method_6_code (4 : Nat) (Option.some (Jvm.ClassFile.FieldType.array (Jvm.ClassFile.FieldType.object "java/lang/Object")))).before args0 about1 = true := code_word (m := ⟨23, 1⟩) (meth := k23m1) (c := k23c1) (by decide +kernel) rfl rfl rfl (by decide +kernel)
set_option maxRecDepth 65536 in
theorem w_c20 : (Jvm.Cond.code ({ cls := "java/lang/Math", name := "max", desc := "(II)I" } : Jvm.MethodName) jdk_29_method_65_code (2 : Nat) (Option.some Jvm.ClassFile.FieldType.int)).before args0 about1 = true := code_word (m := ⟨25, 1⟩) (meth := k25m1) (c := k25c1) (by decide +kernel) rfl rfl rfl (by decide +kernel)
set_option maxRecDepth 65536 in
theorem w_c21 : (Jvm.Cond.code ({ cls := "com/example/marsh_tit/marshtit/stanza/Element", name := "elements", desc := "()Ljava/util/List;" } : Jvm.MethodName) prog_19_method_11_code (4 : Nat) (Option.some (Jvm.ClassFile.FieldType.object "java/util/List"))).before args0 about1 = true := code_word (m := ⟨2, 3⟩) (meth := k2m3) (c := k2c3) (by decide +kernel) rfl rfl rfl (by decide +kernel)
set_option maxRecDepth 65536 in
theorem w_c22 : (Jvm.Cond.code ({ cls := "java/util/ArrayList", name := "iterator", desc := "()Ljava/util/Iterator;" } : Jvm.MethodName) jdk_38_method_55_code (1 : Nat) (Option.some (Jvm.ClassFile.FieldType.object "java/util/Iterator"))).before args0 about1 = true := code_word (m := ⟨23, 8⟩) (meth := k23m8) (c := k23c8) (by decide +kernel) rfl rfl rfl (by decide +kernel)
set_option maxRecDepth 65536 in
theorem w_c23 : (Jvm.Cond.code ({ cls := "java/util/ArrayList$Itr", name := "<init>", desc := "(Ljava/util/ArrayList;)V" } : Jvm.MethodName) jdk_49_method_1_code (2 : Nat) (Option.none : Option Jvm.ClassFile.FieldType)).before args0 about1 = true := code_word (m := ⟨27, 0⟩) (meth := k27m0) (c := k27c0) (by decide +kernel) rfl rfl rfl (by decide +kernel)
set_option maxRecDepth 65536 in
theorem w_c24 : (Jvm.Cond.code ({ cls := "java/util/ArrayList$Itr", name := "hasNext", desc := "()Z" } : Jvm.MethodName) jdk_49_method_2_code (1 : Nat) (Option.some Jvm.ClassFile.FieldType.boolean)).before args0 about1 = true := code_word (m := ⟨27, 1⟩) (meth := k27m1) (c := k27c1) (by decide +kernel) rfl rfl rfl (by decide +kernel)
set_option maxRecDepth 65536 in
theorem w_c25 : (Jvm.Cond.code ({ cls := "java/util/ArrayList$Itr", name := "next", desc := "()Ljava/lang/Object;" } : Jvm.MethodName) jdk_49_method_3_code (3 : Nat) (Option.some (Jvm.ClassFile.FieldType.object "java/lang/Object"))).before args0 about1 = true := code_word (m := ⟨27, 2⟩) (meth := k27m2) (c := k27c2) (by decide +kernel) rfl rfl rfl (by decide +kernel)
set_option maxRecDepth 65536 in
theorem w_c26 : (Jvm.Cond.code ({ cls := "java/util/ArrayList$Itr", name := "checkForComodification", desc := "()V" } : Jvm.MethodName) jdk_49_method_6_code (1 : Nat) (Option.none : Option Jvm.ClassFile.FieldType)).before args0 about1 = true := code_word (m := ⟨27, 3⟩) (meth := k27m3) (c := k27c3) (by decide +kernel) rfl rfl rfl (by decide +kernel)
set_option maxRecDepth 65536 in
theorem w_c27 : (Jvm.Cond.code ({ cls := "java/util/Collections", name := "unmodifiableList", desc := "(Ljava/util/List;)Ljava/util/List;" } : Jvm.MethodName) jdk_79_method_35_code (1 : Nat) (Option.some (Jvm.ClassFile.FieldType.object "java/util/List"))).before args0 about1 = true := code_word (m := ⟨28, 1⟩) (meth := k28m1) (c := k28c1) (by decide +kernel) rfl rfl rfl (by decide +kernel)
set_option maxRecDepth 65536 in
theorem w_c28 : (Jvm.Cond.code ({ cls := "java/util/Collections$UnmodifiableRandomAccessList", name := "<init>", desc := "(Ljava/util/List;)V" } : Jvm.MethodName) jdk_121_method_1_code (2 : Nat) (Option.none : Option Jvm.ClassFile.FieldType)).before args0 about1 = true := code_word (m := ⟨31, 0⟩) (meth := k31m0) (c := k31c0) (by decide +kernel) rfl rfl rfl (by decide +kernel)
set_option maxRecDepth 65536 in
theorem w_c29 : (Jvm.Cond.code ({ cls := "java/util/Collections$UnmodifiableList", name := "<init>", desc := "(Ljava/util/List;)V" } : Jvm.MethodName) jdk_120_method_1_code (2 : Nat) (Option.none : Option Jvm.ClassFile.FieldType)).before args0 about1 = true := code_word (m := ⟨30, 0⟩) (meth := k30m0) (c := k30c0) (by decide +kernel) rfl rfl rfl (by decide +kernel)
set_option maxRecDepth 65536 in
theorem w_c30 : (Jvm.Cond.code ({ cls := "java/util/Collections$UnmodifiableCollection", name := "<init>", desc := "(Ljava/util/Collection;)V" } : Jvm.MethodName) jdk_119_method_1_code (2 : Nat) (Option.none : Option Jvm.ClassFile.FieldType)).before args0 about1 = true := code_word (m := ⟨29, 0⟩) (meth := k29m0) (c := k29c0) (by decide +kernel) rfl rfl rfl (by decide +kernel)
set_option maxRecDepth 65536 in
theorem w_c31 : (Jvm.Cond.code ({ cls := "java/util/Collections$UnmodifiableCollection", name := "size", desc := "()I" } : Jvm.MethodName) jdk_119_method_2_code (1 : Nat) (Option.some Jvm.ClassFile.FieldType.int)).before args0 about1 = true := code_word (m := ⟨29, 1⟩) (meth := k29m1) (c := k29c1) (by decide +kernel) rfl rfl rfl (by decide +kernel)
set_option maxRecDepth 65536 in
theorem w_c32 : (Jvm.Cond.code ({ cls := "java/util/ArrayList", name := "size", desc := "()I" } : Jvm.MethodName) jdk_38_method_8_code (1 : Nat) (Option.some Jvm.ClassFile.FieldType.int)).before args0 about1 = true := code_word (m := ⟨23, 3⟩) (meth := k23m3) (c := k23c3) (by decide +kernel) rfl rfl rfl (by decide +kernel)
set_option maxRecDepth 65536 in
theorem w_c33 : (Jvm.Cond.code ({ cls := "java/util/Collections$UnmodifiableList", name := "get", desc := "(I)Ljava/lang/Object;" } : Jvm.MethodName) jdk_120_method_4_code (2 : Nat) (Option.some (Jvm.ClassFile.FieldType.object "java/lang/Object"))).before args0 about1 = true := code_word (m := ⟨30, 1⟩) (meth := k30m1) (c := k30c1) (by decide +kernel) rfl rfl rfl (by decide +kernel)
set_option maxRecDepth 65536 in
theorem w_c34 : (Jvm.Cond.code ({ cls := "java/util/ArrayList", name := "get", desc := "(I)Ljava/lang/Object;" } : Jvm.MethodName) jdk_38_method_20_code (2 : Nat) (Option.some (Jvm.ClassFile.FieldType.object "java/lang/Object"))).before args0 about1 = true := code_word (m := ⟨23, 5⟩) (meth := k23m5) (c := k23c5) (by decide +kernel) rfl rfl rfl (by decide +kernel)
set_option maxRecDepth 65536 in
theorem w_c35 : (Jvm.Cond.code ({ cls := "java/util/Objects", name := "checkIndex", desc := "(II)I" } : Jvm.MethodName) jdk_31_method_17_code (2 : Nat) (Option.some Jvm.ClassFile.FieldType.int)).before args0 about1 = true := code_word (m := ⟨24, 2⟩) (meth := k24m2) (c := k24c2) (by decide +kernel) rfl rfl rfl (by decide +kernel)
set_option maxRecDepth 65536 in
theorem w_c36 : (Jvm.Cond.code ({ cls := "jdk/internal/util/Preconditions", name := "checkIndex", desc := "(IILjava/util/function/BiFunction;)I" } : Jvm.MethodName) jdk_41_method_11_code (3 : Nat) (Option.some Jvm.ClassFile.FieldType.int)).before args0 about1 = true := code_word (m := ⟨32, 1⟩) (meth := k32m1) (c := k32c1) (by decide +kernel) rfl rfl rfl (by decide +kernel)
set_option maxRecDepth 65536 in
theorem w_c37 : (Jvm.Cond.code ({ cls := "java/util/ArrayList", name := "elementData", desc := "(I)Ljava/lang/Object;" } : Jvm.MethodName) jdk_38_method_18_code (2 : Nat) (Option.some (Jvm.ClassFile.FieldType.object "java/lang/Object"))).before args0 about1 = true := code_word (m := ⟨23, 4⟩) (meth := k23m4) (c := k23c4) (by decide +kernel) rfl rfl rfl (by decide +kernel)
set_option maxRecDepth 65536 in
theorem w_c38 : (Jvm.Cond.code ({ cls := "com/example/marsh_tit/marshtit/stanza/Element", name := "text", desc := "()Ljava/lang/String;" } : Jvm.MethodName) prog_19_method_13_code (4 : Nat) (Option.some (Jvm.ClassFile.FieldType.object "java/lang/String"))).before args0 about1 = true := code_word (m := ⟨2, 4⟩) (meth := k2m4) (c := k2c4) (by decide +kernel) rfl rfl rfl (by decide +kernel)
set_option maxRecDepth 65536 in
theorem w_c39 : (Jvm.Cond.code ({ cls := "java/lang/StringBuilder", name := "<init>", desc := "()V" } : Jvm.MethodName) jdk_67_method_1_code (1 : Nat) (Option.none : Option Jvm.ClassFile.FieldType)).before args0 about1 = true := code_word (m := ⟨35, 0⟩) (meth := k35m0) (c := k35c0) (by decide +kernel) rfl rfl rfl (by decide +kernel)
set_option maxRecDepth 65536 in
theorem w_c40 : (Jvm.Cond.code ({ cls := "java/lang/AbstractStringBuilder", name := "<init>", desc := "(I)V" } : Jvm.MethodName) jdk_68_method_2_code (2 : Nat) (Option.none : Option Jvm.ClassFile.FieldType)).before args0 about1 = true := code_word (m := ⟨34, 1⟩) (meth := k34m1) (c := k34c1) (by decide +kernel) rfl rfl rfl (by decide +kernel)
set_option maxRecDepth 65536 in
theorem w_c41 : (Jvm.Cond.code ({ cls := "java/lang/StringBuilder", name := "toString", desc := "()Ljava/lang/String;" } : Jvm.MethodName) jdk_67_method_42_code (1 : Nat) (Option.some (Jvm.ClassFile.FieldType.object "java/lang/String"))).before args0 about1 = true := code_word (m := ⟨35, 2⟩) (meth := k35m2) (c := k35c2) (by decide +kernel) rfl rfl rfl (by decide +kernel)
set_option maxRecDepth 65536 in
theorem w_c42 : (Jvm.Cond.code ({ cls := "java/lang/String", name := "<init>", desc := "(Ljava/lang/StringBuilder;)V" } : Jvm.MethodName) jdk_42_method_53_code (2 : Nat) (Option.none : Option Jvm.ClassFile.FieldType)).before args0 about1 = true := code_word (m := ⟨8, 1⟩) (meth := k8m1) (c := k8c1) (by decide +kernel) rfl rfl rfl (by decide +kernel)
set_option maxRecDepth 65536 in
theorem w_c43 : (Jvm.Cond.code ({ cls := "java/lang/String", name := "<init>", desc := "(Ljava/lang/AbstractStringBuilder;Ljava/lang/Void;)V" } : Jvm.MethodName) jdk_42_method_150_code (5 : Nat) (Option.none : Option Jvm.ClassFile.FieldType)).before args0 about1 = true := code_word (m := ⟨8, 7⟩) (meth := k8m7) (c := k8c7) (by decide +kernel) rfl rfl rfl (by decide +kernel)
set_option maxRecDepth 65536 in
theorem w_c44 : (Jvm.Cond.code ({ cls := "java/lang/AbstractStringBuilder", name := "getValue", desc := "()[B" } : Jvm.MethodName) jdk_68_method_64_code (1 : Nat) (Option.some (Jvm.ClassFile.FieldType.array Jvm.ClassFile.FieldType.byte))).before args0 about1 = true := code_word (m := ⟨34, 5⟩) (meth := k34m5) (c := k34c5) (by decide +kernel) rfl rfl rfl (by decide +kernel)
set_option maxRecDepth 65536 in
theorem w_c45 : (Jvm.Cond.code ({ cls := "java/lang/StringBuilder", name := "length", desc := "()I" } : Jvm.MethodName) jdk_67_method_93_code (1 : Nat) (Option.some Jvm.ClassFile.FieldType.int)).before args0 about1 = true := code_word (m := ⟨35, 3⟩) (meth := k35m3) (c := k35c3) (by decide +kernel) rfl rfl rfl (by decide +kernel)
set_option maxRecDepth 65536 in
theorem w_c46 : (Jvm.Cond.code ({ cls := "java/lang/AbstractStringBuilder", name := "length", desc := "()I" } : Jvm.MethodName) jdk_68_method_6_code (1 : Nat) (Option.some Jvm.ClassFile.FieldType.int)).before args0 about1 = true := code_word (m := ⟨34, 2⟩) (meth := k34m2) (c := k34c2) (by decide +kernel) rfl rfl rfl (by decide +kernel)
set_option maxRecDepth 65536 in
theorem w_c47 : (Jvm.Cond.code ({ cls := "java/lang/AbstractStringBuilder", name := "isLatin1", desc := "()Z" } : Jvm.MethodName) jdk_68_method_68_code (1 : Nat) (Option.some Jvm.ClassFile.FieldType.boolean)).before args0 about1 = true := code_word (m := ⟨34, 6⟩) (meth := k34m6) (c := k34c6) (by decide +kernel) rfl rfl rfl (by decide +kernel)
set_option maxRecDepth 65536 in
theorem w_c48 : (Jvm.Cond.code ({ cls := "java/util/Arrays", name := "copyOfRange", desc := "([BII)[B" } : Jvm.MethodName) jdk_65_method_132_code (3 : Nat) (Option.some (Jvm.ClassFile.FieldType.array Jvm.ClassFile.FieldType.byte))).before args0 about1 = true := code_word (m := ⟨36, 2⟩) (meth := k36m2) (c := k36c2) (by decide +kernel) rfl rfl rfl (by decide +kernel)
set_option maxRecDepth 65536 in
theorem w_c49 : (Jvm.Cond.code ({ cls := "java/util/Arrays", name := "copyOfRangeByte", desc := "([BII)[B" } : Jvm.MethodName) jdk_65_method_133_code (5 : Nat) (Option.some (Jvm.ClassFile.FieldType.array Jvm.ClassFile.FieldType.byte))).before args0 about1 = true := code_word (m := ⟨36, 3⟩) (meth := k36m3) (c := k36c3) (by decide +kernel) rfl rfl rfl (by decide +kernel)
set_option maxRecDepth 65536 in
theorem w_c50 : (Jvm.Cond.code ({ cls := "java/util/Arrays", name := "checkLength", desc := "(II)V" } : Jvm.MethodName) jdk_65_method_131_code (2 : Nat) (Option.none : Option Jvm.ClassFile.FieldType)).before args0 about1 = true := code_word (m := ⟨36, 1⟩) (meth := k36m1) (c := k36c1) (by decide +kernel) rfl rfl rfl (by decide +kernel)
set_option maxRecDepth 65536 in
theorem w_c51 : (Jvm.Cond.code ({ cls := "java/lang/Math", name := "min", desc := "(II)I" } : Jvm.MethodName) jdk_29_method_69_code (2 : Nat) (Option.some Jvm.ClassFile.FieldType.int)).before args0 about1 = true := code_word (m := ⟨25, 2⟩) (meth := k25m2) (c := k25c2) (by decide +kernel) rfl rfl rfl (by decide +kernel)
set_option maxRecDepth 65536 in
theorem w_c52 : (Jvm.Cond.code ({ cls := "java/lang/String", name := "equals", desc := "(Ljava/lang/Object;)Z" } : Jvm.MethodName) jdk_42_method_66_code (3 : Nat) (Option.some Jvm.ClassFile.FieldType.boolean)).before args0 about1 = true := code_word (m := ⟨8, 4⟩) (meth := k8m4) (c := k8c4) (by decide +kernel) rfl rfl rfl (by decide +kernel)
set_option maxRecDepth 65536 in
theorem w_c53 : (Jvm.Cond.code ({ cls := "java/lang/StringLatin1", name := "equals", desc := "([B[B)Z" } : Jvm.MethodName) jdk_43_method_13_code (3 : Nat) (Option.some Jvm.ClassFile.FieldType.boolean)).before args0 about1 = true := code_word (m := ⟨9, 2⟩) (meth := k9m2) (c := k9c2) (by decide +kernel) rfl rfl rfl (by decide +kernel)
set_option maxRecDepth 65536 in
theorem w_c54 : (Jvm.Cond.code ({ cls := "com/example/marsh_tit/marshtit/stanza/Element", name := "addText", desc := "(Ljava/lang/String;)Lcom/example/marsh_tit/marshtit/stanza/Element;" } : Jvm.MethodName) prog_19_method_10_code (3 : Nat) (Option.some (Jvm.ClassFile.FieldType.object "com/example/marsh_tit/marshtit/stanza/Element"))).before args0 about1 = true := code_word (m := ⟨2, 2⟩) (meth := k2m2) (c := k2c2) (by decide +kernel) rfl rfl rfl (by decide +kernel)
set_option maxRecDepth 65536 in
theorem w_c55 : (Jvm.Cond.code ({ cls := "java/lang/String", name := "isEmpty", desc := "()Z" } : Jvm.MethodName) jdk_42_method_55_code (1 : Nat) (Option.some Jvm.ClassFile.FieldType.boolean)).before args0 about1 = true := code_word (m := ⟨8, 3⟩) (meth := k8m3) (c := k8c3) (by decide +kernel) rfl rfl rfl (by decide +kernel)
set_option maxRecDepth 65536 in
theorem w_c56 : (Jvm.Cond.code ({ cls := "java/lang/StringBuilder", name := "append", desc := "(Ljava/lang/String;)Ljava/lang/StringBuilder;" } : Jvm.MethodName) jdk_67_method_7_code (2 : Nat) (Option.some (Jvm.ClassFile.FieldType.object "java/lang/StringBuilder"))).before args0 about1 = true := code_word (m := ⟨35, 1⟩) (meth := k35m1) (c := k35c1) (by decide +kernel) rfl rfl rfl (by decide +kernel)
set_option maxRecDepth 65536 in
theorem w_c57 : (Jvm.Cond.code ({ cls := "java/lang/AbstractStringBuilder", name := "append", desc := "(Ljava/lang/String;)Ljava/lang/AbstractStringBuilder;" } : Jvm.MethodName) jdk_68_method_22_code (3 : Nat) (Option.some (Jvm.ClassFile.FieldType.object "java/lang/AbstractStringBuilder"))).before args0 about1 = true := code_word (m := ⟨34, 4⟩) (meth := k34m4) (c := k34c4) (by decide +kernel) rfl rfl rfl (by decide +kernel)
set_option maxRecDepth 65536 in
theorem w_c58 : (Jvm.Cond.code ({ cls := "java/lang/String", name := "length", desc := "()I" } : Jvm.MethodName) jdk_42_method_54_code (1 : Nat) (Option.some Jvm.ClassFile.FieldType.int)).before args0 about1 = true := code_word (m := ⟨8, 2⟩) (meth := k8m2) (c := k8c2) (by decide +kernel) rfl rfl rfl (by decide +kernel)
set_option maxRecDepth 65536 in
theorem w_c59 : (Jvm.Cond.code ({ cls := "java/lang/String", name := "coder", desc := "()B" } : Jvm.MethodName) jdk_42_method_152_code (1 : Nat) (Option.some Jvm.ClassFile.FieldType.byte)).before args0 about1 = true := code_word (m := ⟨8, 9⟩) (meth := k8m9) (c := k8c9) (by decide +kernel) rfl rfl rfl (by decide +kernel)
set_option maxRecDepth 65536 in
theorem w_c60 : (Jvm.Cond.code ({ cls := "java/lang/AbstractStringBuilder", name := "ensureCapacityInternal", desc := "(I)V" } : Jvm.MethodName) jdk_68_method_9_code (3 : Nat) (Option.none : Option Jvm.ClassFile.FieldType)).before args0 about1 = true := code_word (m := ⟨34, 3⟩) (meth := k34m3) (c := k34c3) (by decide +kernel) rfl rfl rfl (by decide +kernel)
set_option maxRecDepth 65536 in
theorem w_c61 : (Jvm.Cond.code ({ cls := "java/lang/AbstractStringBuilder", name := "putStringAt", desc := "(ILjava/lang/String;)V" } : Jvm.MethodName) jdk_68_method_73_code (3 : Nat) (Option.none : Option Jvm.ClassFile.FieldType)).before args0 about1 = true := code_word (m := ⟨34, 8⟩) (meth := k34m8) (c := k34c8) (by decide +kernel) rfl rfl rfl (by decide +kernel)
set_option maxRecDepth 65536 in
theorem w_c62 : (Jvm.Cond.code ({ cls := "java/lang/AbstractStringBuilder", name := "inflateIfNeededFor", desc := "(Ljava/lang/String;)V" } : Jvm.MethodName) jdk_68_method_71_code (2 : Nat) (Option.none : Option Jvm.ClassFile.FieldType)).before args0 about1 = true := code_word (m := ⟨34, 7⟩) (meth := k34m7) (c := k34c7) (by decide +kernel) rfl rfl rfl (by decide +kernel)
set_option maxRecDepth 65536 in
theorem w_c63 : (Jvm.Cond.code ({ cls := "java/lang/String", name := "getBytes", desc := "([BIB)V" } : Jvm.MethodName) jdk_42_method_147_code (4 : Nat) (Option.none : Option Jvm.ClassFile.FieldType)).before args0 about1 = true := code_word (m := ⟨8, 6⟩) (meth := k8m6) (c := k8c6) (by decide +kernel) rfl rfl rfl (by decide +kernel)
def codes1 : List Jvm.Cond := [Jvm.Cond.code x code maxLocals ret, Jvm.Cond.code ({ cls := "com/example/marsh_tit/marshtit/stanza/ElementAddPinLaw", name := "s", desc := "(I)Ljava/lang/String;" } : Jvm.MethodName) method_2_code (1 : Nat) (Option.some (Jvm.ClassFile.FieldType.object "java/lang/String")), Jvm.Cond.code ({ cls := "java/lang/String", name := "valueOf", desc := "(C)Ljava/lang/String;" } : Jvm.MethodName) jdk_42_method_139_code (1 : Nat) (Option.some (Jvm.ClassFile.FieldType.object "java/lang/String")), Jvm.Cond.code ({ cls := "java/lang/StringLatin1", name := "canEncode", desc := "(C)Z" } : Jvm.MethodName) jdk_43_method_3_code (1 : Nat) (Option.some Jvm.ClassFile.FieldType.boolean), Jvm.Cond.code ({ cls := "java/lang/StringLatin1", name := "toBytes", desc := "(C)[B" } : Jvm.MethodName) jdk_43_method_46_code (1 : Nat) (Option.some (Jvm.ClassFile.FieldType.array Jvm.ClassFile.FieldType.byte)), Jvm.Cond.code ({ cls := "java/lang/String", name := "<init>", desc := "([BB)V" } : Jvm.MethodName) jdk_42_method_151_code (3 : Nat) (Option.none : Option Jvm.ClassFile.FieldType), Jvm.Cond.code ({ cls := "java/lang/Object", name := "<init>", desc := "()V" } : Jvm.MethodName) object_method_1_code (1 : Nat) (Option.none : Option Jvm.ClassFile.FieldType), Jvm.Cond.code ({ cls := "com/example/marsh_tit/marshtit/stanza/Element", name := "<init>", desc := "(Ljava/lang/String;Ljava/lang/String;)V" } : Jvm.MethodName) prog_19_method_1_code (3 : Nat) (Option.none : Option Jvm.ClassFile.FieldType), Jvm.Cond.code ({ cls := "java/util/LinkedHashMap", name := "<init>", desc := "()V" } : Jvm.MethodName) jdk_94_method_16_code (1 : Nat) (Option.none : Option Jvm.ClassFile.FieldType), Jvm.Cond.code ({ cls := "java/util/HashMap", name := "<init>", desc := "()V" } : Jvm.MethodName) jdk_69_method_7_code (1 : Nat) (Option.none : Option Jvm.ClassFile.FieldType), Jvm.Cond.code ({ cls := "java/util/AbstractMap", name := "<init>", desc := "()V" } : Jvm.MethodName) jdk_71_method_1_code (1 : Nat) (Option.none : Option Jvm.ClassFile.FieldType), Jvm.Cond.code ({ cls := "java/util/ArrayList", name := "<init>", desc := "()V" } : Jvm.MethodName) jdk_38_method_2_code (1 : Nat) (Option.none : Option Jvm.ClassFile.FieldType), Jvm.Cond.code ({ cls := "java/util/AbstractList", name := "<init>", desc := "()V" } : Jvm.MethodName) jdk_39_method_1_code (1 : Nat) (Option.none : Option Jvm.ClassFile.FieldType), Jvm.Cond.code ({ cls := "java/util/AbstractCollection", name := "<init>", desc := "()V" } : Jvm.MethodName) jdk_22_method_1_code (1 : Nat) (Option.none : Option Jvm.ClassFile.FieldType), Jvm.Cond.code ({ cls := "java/util/Objects", name := "requireNonNull", desc := "(Ljava/lang/Object;Ljava/lang/String;)Ljava/lang/Object;" } : Jvm.MethodName) jdk_31_method_11_code (2 : Nat) (Option.some (Jvm.ClassFile.FieldType.object "java/lang/Object")), Jvm.Cond.code ({ cls := "com/example/marsh_tit/marshtit/stanza/Element", name := "add", desc := "(Lcom/example/marsh_tit/marshtit/stanza/Element;)Lcom/example/marsh_tit/marshtit/stanza/Element;" } : Jvm.MethodName) prog_19_method_8_code (2 : Nat) (Option.some (Jvm.ClassFile.FieldType.object "com/example/marsh_tit/marshtit/stanza/Element")), Jvm.Cond.code ({ cls := "java/util/ArrayList", name := "add", desc := "(Ljava/lang/Object;)Z" } : Jvm.MethodName) jdk_38_method_25_code (2 : Nat) (Option.some Jvm.ClassFile.FieldType.boolean), Jvm.Cond.code ({ cls := "java/util/ArrayList", name := "add", desc := "(Ljava/lang/Object;[Ljava/lang/Object;I)V" } : Jvm.MethodName) jdk_38_method_24_code (4 : Nat) (Option.none : Option Jvm.ClassFile.FieldType), Jvm.Cond.code ({ cls := "java/util/ArrayList", name := "grow", desc := "()[Ljava/lang/Object;" } : Jvm.MethodName) jdk_38_method_7_code (1 : Nat) (Option.some (Jvm.ClassFile.FieldType.array (Jvm.ClassFile.FieldType.object "java/lang/Object"))), Jvm.Cond.code ({ cls := "java/util/ArrayList", name := "grow", desc := "(I)[Ljava/lang/Object;" } : Jvm.MethodName) jdk_38_method_6_code (4 : Nat) (Option.some (Jvm.ClassFile.FieldType.array (Jvm.ClassFile.FieldType.object "java/lang/Object"))), Jvm.Cond.code ({ cls := "java/lang/Math", name := "max", desc := "(II)I" } : Jvm.MethodName) jdk_29_method_65_code (2 : Nat) (Option.some Jvm.ClassFile.FieldType.int), Jvm.Cond.code ({ cls := "com/example/marsh_tit/marshtit/stanza/Element", name := "elements", desc := "()Ljava/util/List;" } : Jvm.MethodName) prog_19_method_11_code (4 : Nat) (Option.some (Jvm.ClassFile.FieldType.object "java/util/List")), Jvm.Cond.code ({ cls := "java/util/ArrayList", name := "iterator", desc := "()Ljava/util/Iterator;" } : Jvm.MethodName) jdk_38_method_55_code (1 : Nat) (Option.some (Jvm.ClassFile.FieldType.object "java/util/Iterator")), Jvm.Cond.code ({ cls := "java/util/ArrayList$Itr", name := "<init>", desc := "(Ljava/util/ArrayList;)V" } : Jvm.MethodName) jdk_49_method_1_code (2 : Nat) (Option.none : Option Jvm.ClassFile.FieldType), Jvm.Cond.code ({ cls := "java/util/ArrayList$Itr", name := "hasNext", desc := "()Z" } : Jvm.MethodName) jdk_49_method_2_code (1 : Nat) (Option.some Jvm.ClassFile.FieldType.boolean), Jvm.Cond.code ({ cls := "java/util/ArrayList$Itr", name := "next", desc := "()Ljava/lang/Object;" } : Jvm.MethodName) jdk_49_method_3_code (3 : Nat) (Option.some (Jvm.ClassFile.FieldType.object "java/lang/Object")), Jvm.Cond.code ({ cls := "java/util/ArrayList$Itr", name := "checkForComodification", desc := "()V" } : Jvm.MethodName) jdk_49_method_6_code (1 : Nat) (Option.none : Option Jvm.ClassFile.FieldType), Jvm.Cond.code ({ cls := "java/util/Collections", name := "unmodifiableList", desc := "(Ljava/util/List;)Ljava/util/List;" } : Jvm.MethodName) jdk_79_method_35_code (1 : Nat) (Option.some (Jvm.ClassFile.FieldType.object "java/util/List")), Jvm.Cond.code ({ cls := "java/util/Collections$UnmodifiableRandomAccessList", name := "<init>", desc := "(Ljava/util/List;)V" } : Jvm.MethodName) jdk_121_method_1_code (2 : Nat) (Option.none : Option Jvm.ClassFile.FieldType), Jvm.Cond.code ({ cls := "java/util/Collections$UnmodifiableList", name := "<init>", desc := "(Ljava/util/List;)V" } : Jvm.MethodName) jdk_120_method_1_code (2 : Nat) (Option.none : Option Jvm.ClassFile.FieldType), Jvm.Cond.code ({ cls := "java/util/Collections$UnmodifiableCollection", name := "<init>", desc := "(Ljava/util/Collection;)V" } : Jvm.MethodName) jdk_119_method_1_code (2 : Nat) (Option.none : Option Jvm.ClassFile.FieldType), Jvm.Cond.code ({ cls := "java/util/Collections$UnmodifiableCollection", name := "size", desc := "()I" } : Jvm.MethodName) jdk_119_method_2_code (1 : Nat) (Option.some Jvm.ClassFile.FieldType.int), Jvm.Cond.code ({ cls := "java/util/ArrayList", name := "size", desc := "()I" } : Jvm.MethodName) jdk_38_method_8_code (1 : Nat) (Option.some Jvm.ClassFile.FieldType.int), Jvm.Cond.code ({ cls := "java/util/Collections$UnmodifiableList", name := "get", desc := "(I)Ljava/lang/Object;" } : Jvm.MethodName) jdk_120_method_4_code (2 : Nat) (Option.some (Jvm.ClassFile.FieldType.object "java/lang/Object")), Jvm.Cond.code ({ cls := "java/util/ArrayList", name := "get", desc := "(I)Ljava/lang/Object;" } : Jvm.MethodName) jdk_38_method_20_code (2 : Nat) (Option.some (Jvm.ClassFile.FieldType.object "java/lang/Object")), Jvm.Cond.code ({ cls := "java/util/Objects", name := "checkIndex", desc := "(II)I" } : Jvm.MethodName) jdk_31_method_17_code (2 : Nat) (Option.some Jvm.ClassFile.FieldType.int), Jvm.Cond.code ({ cls := "jdk/internal/util/Preconditions", name := "checkIndex", desc := "(IILjava/util/function/BiFunction;)I" } : Jvm.MethodName) jdk_41_method_11_code (3 : Nat) (Option.some Jvm.ClassFile.FieldType.int), Jvm.Cond.code ({ cls := "java/util/ArrayList", name := "elementData", desc := "(I)Ljava/lang/Object;" } : Jvm.MethodName) jdk_38_method_18_code (2 : Nat) (Option.some (Jvm.ClassFile.FieldType.object "java/lang/Object")), Jvm.Cond.code ({ cls := "com/example/marsh_tit/marshtit/stanza/Element", name := "text", desc := "()Ljava/lang/String;" } : Jvm.MethodName) prog_19_method_13_code (4 : Nat) (Option.some (Jvm.ClassFile.FieldType.object "java/lang/String")), Jvm.Cond.code ({ cls := "java/lang/StringBuilder", name := "<init>", desc := "()V" } : Jvm.MethodName) jdk_67_method_1_code (1 : Nat) (Option.none : Option Jvm.ClassFile.FieldType), Jvm.Cond.code ({ cls := "java/lang/AbstractStringBuilder", name := "<init>", desc := "(I)V" } : Jvm.MethodName) jdk_68_method_2_code (2 : Nat) (Option.none : Option Jvm.ClassFile.FieldType), Jvm.Cond.code ({ cls := "java/lang/StringBuilder", name := "toString", desc := "()Ljava/lang/String;" } : Jvm.MethodName) jdk_67_method_42_code (1 : Nat) (Option.some (Jvm.ClassFile.FieldType.object "java/lang/String")), Jvm.Cond.code ({ cls := "java/lang/String", name := "<init>", desc := "(Ljava/lang/StringBuilder;)V" } : Jvm.MethodName) jdk_42_method_53_code (2 : Nat) (Option.none : Option Jvm.ClassFile.FieldType), Jvm.Cond.code ({ cls := "java/lang/String", name := "<init>", desc := "(Ljava/lang/AbstractStringBuilder;Ljava/lang/Void;)V" } : Jvm.MethodName) jdk_42_method_150_code (5 : Nat) (Option.none : Option Jvm.ClassFile.FieldType), Jvm.Cond.code ({ cls := "java/lang/AbstractStringBuilder", name := "getValue", desc := "()[B" } : Jvm.MethodName) jdk_68_method_64_code (1 : Nat) (Option.some (Jvm.ClassFile.FieldType.array Jvm.ClassFile.FieldType.byte)), Jvm.Cond.code ({ cls := "java/lang/StringBuilder", name := "length", desc := "()I" } : Jvm.MethodName) jdk_67_method_93_code (1 : Nat) (Option.some Jvm.ClassFile.FieldType.int), Jvm.Cond.code ({ cls := "java/lang/AbstractStringBuilder", name := "length", desc := "()I" } : Jvm.MethodName) jdk_68_method_6_code (1 : Nat) (Option.some Jvm.ClassFile.FieldType.int), Jvm.Cond.code ({ cls := "java/lang/AbstractStringBuilder", name := "isLatin1", desc := "()Z" } : Jvm.MethodName) jdk_68_method_68_code (1 : Nat) (Option.some Jvm.ClassFile.FieldType.boolean), Jvm.Cond.code ({ cls := "java/util/Arrays", name := "copyOfRange", desc := "([BII)[B" } : Jvm.MethodName) jdk_65_method_132_code (3 : Nat) (Option.some (Jvm.ClassFile.FieldType.array Jvm.ClassFile.FieldType.byte)), Jvm.Cond.code ({ cls := "java/util/Arrays", name := "copyOfRangeByte", desc := "([BII)[B" } : Jvm.MethodName) jdk_65_method_133_code (5 : Nat) (Option.some (Jvm.ClassFile.FieldType.array Jvm.ClassFile.FieldType.byte)), Jvm.Cond.code ({ cls := "java/util/Arrays", name := "checkLength", desc := "(II)V" } : Jvm.MethodName) jdk_65_method_131_code (2 : Nat) (Option.none : Option Jvm.ClassFile.FieldType), Jvm.Cond.code ({ cls := "java/lang/Math", name := "min", desc := "(II)I" } : Jvm.MethodName) jdk_29_method_69_code (2 : Nat) (Option.some Jvm.ClassFile.FieldType.int), Jvm.Cond.code ({ cls := "java/lang/String", name := "equals", desc := "(Ljava/lang/Object;)Z" } : Jvm.MethodName) jdk_42_method_66_code (3 : Nat) (Option.some Jvm.ClassFile.FieldType.boolean), Jvm.Cond.code ({ cls := "java/lang/StringLatin1", name := "equals", desc := "([B[B)Z" } : Jvm.MethodName) jdk_43_method_13_code (3 : Nat) (Option.some Jvm.ClassFile.FieldType.boolean), Jvm.Cond.code ({ cls := "com/example/marsh_tit/marshtit/stanza/Element", name := "addText", desc := "(Ljava/lang/String;)Lcom/example/marsh_tit/marshtit/stanza/Element;" } : Jvm.MethodName) prog_19_method_10_code (3 : Nat) (Option.some (Jvm.ClassFile.FieldType.object "com/example/marsh_tit/marshtit/stanza/Element")), Jvm.Cond.code ({ cls := "java/lang/String", name := "isEmpty", desc := "()Z" } : Jvm.MethodName) jdk_42_method_55_code (1 : Nat) (Option.some Jvm.ClassFile.FieldType.boolean), Jvm.Cond.code ({ cls := "java/lang/StringBuilder", name := "append", desc := "(Ljava/lang/String;)Ljava/lang/StringBuilder;" } : Jvm.MethodName) jdk_67_method_7_code (2 : Nat) (Option.some (Jvm.ClassFile.FieldType.object "java/lang/StringBuilder")), Jvm.Cond.code ({ cls := "java/lang/AbstractStringBuilder", name := "append", desc := "(Ljava/lang/String;)Ljava/lang/AbstractStringBuilder;" } : Jvm.MethodName) jdk_68_method_22_code (3 : Nat) (Option.some (Jvm.ClassFile.FieldType.object "java/lang/AbstractStringBuilder")), Jvm.Cond.code ({ cls := "java/lang/String", name := "length", desc := "()I" } : Jvm.MethodName) jdk_42_method_54_code (1 : Nat) (Option.some Jvm.ClassFile.FieldType.int), Jvm.Cond.code ({ cls := "java/lang/String", name := "coder", desc := "()B" } : Jvm.MethodName) jdk_42_method_152_code (1 : Nat) (Option.some Jvm.ClassFile.FieldType.byte), Jvm.Cond.code ({ cls := "java/lang/AbstractStringBuilder", name := "ensureCapacityInternal", desc := "(I)V" } : Jvm.MethodName) jdk_68_method_9_code (3 : Nat) (Option.none : Option Jvm.ClassFile.FieldType), Jvm.Cond.code ({ cls := "java/lang/AbstractStringBuilder", name := "putStringAt", desc := "(ILjava/lang/String;)V" } : Jvm.MethodName) jdk_68_method_73_code (3 : Nat) (Option.none : Option Jvm.ClassFile.FieldType), Jvm.Cond.code ({ cls := "java/lang/AbstractStringBuilder", name := "inflateIfNeededFor", desc := "(Ljava/lang/String;)V" } : Jvm.MethodName) jdk_68_method_71_code (2 : Nat) (Option.none : Option Jvm.ClassFile.FieldType), Jvm.Cond.code ({ cls := "java/lang/String", name := "getBytes", desc := "([BIB)V" } : Jvm.MethodName) jdk_42_method_147_code (4 : Nat) (Option.none : Option Jvm.ClassFile.FieldType)]
set_option maxRecDepth 65536 in
theorem codes_eq : words1.filter isCode = codes1 := rfl
theorem w_codes : ∀ c ∈ words1.filter isCode, c.before args0 about1 = true := by
  rw [codes_eq]
  intro c hc
  simp only [codes1, List.mem_cons, List.not_mem_nil, or_false] at hc
  rcases hc with rfl | rfl | rfl | rfl | rfl | rfl | rfl | rfl | rfl | rfl | rfl | rfl | rfl | rfl | rfl | rfl | rfl | rfl | rfl | rfl | rfl | rfl | rfl | rfl | rfl | rfl | rfl | rfl | rfl | rfl | rfl | rfl | rfl | rfl | rfl | rfl | rfl | rfl | rfl | rfl | rfl | rfl | rfl | rfl | rfl | rfl | rfl | rfl | rfl | rfl | rfl | rfl | rfl | rfl | rfl | rfl | rfl | rfl | rfl | rfl | rfl | rfl | rfl | rfl
  · exact w_c0
  · exact w_c1
  · exact w_c2
  · exact w_c3
  · exact w_c4
  · exact w_c5
  · exact w_c6
  · exact w_c7
  · exact w_c8
  · exact w_c9
  · exact w_c10
  · exact w_c11
  · exact w_c12
  · exact w_c13
  · exact w_c14
  · exact w_c15
  · exact w_c16
  · exact w_c17
  · exact w_c18
  · exact w_c19
  · exact w_c20
  · exact w_c21
  · exact w_c22
  · exact w_c23
  · exact w_c24
  · exact w_c25
  · exact w_c26
  · exact w_c27
  · exact w_c28
  · exact w_c29
  · exact w_c30
  · exact w_c31
  · exact w_c32
  · exact w_c33
  · exact w_c34
  · exact w_c35
  · exact w_c36
  · exact w_c37
  · exact w_c38
  · exact w_c39
  · exact w_c40
  · exact w_c41
  · exact w_c42
  · exact w_c43
  · exact w_c44
  · exact w_c45
  · exact w_c46
  · exact w_c47
  · exact w_c48
  · exact w_c49
  · exact w_c50
  · exact w_c51
  · exact w_c52
  · exact w_c53
  · exact w_c54
  · exact w_c55
  · exact w_c56
  · exact w_c57
  · exact w_c58
  · exact w_c59
  · exact w_c60
  · exact w_c61
  · exact w_c62
  · exact w_c63
set_option maxRecDepth 65536 in
theorem w_t1 : (words1.take 24).all (fun c => isCode c || c.before args0 about1) = true := by decide +kernel
set_option maxRecDepth 65536 in
theorem w_t2 : ((words1.drop 24).take 24).all (fun c => isCode c || c.before args0 about1) = true := by decide +kernel
set_option maxRecDepth 65536 in
theorem w_t3 : (((words1.drop 24).drop 24).take 24).all (fun c => isCode c || c.before args0 about1) = true := by decide +kernel
set_option maxRecDepth 65536 in
theorem w_t4 : ((((words1.drop 24).drop 24).drop 24).take 24).all (fun c => isCode c || c.before args0 about1) = true := by decide +kernel
set_option maxRecDepth 65536 in
theorem w_t5 : (((((words1.drop 24).drop 24).drop 24).drop 24).take 24).all (fun c => isCode c || c.before args0 about1) = true := by decide +kernel
set_option maxRecDepth 65536 in
theorem w_t6 : ((((((words1.drop 24).drop 24).drop 24).drop 24).drop 24).take 24).all (fun c => isCode c || c.before args0 about1) = true := by decide +kernel
set_option maxRecDepth 65536 in
theorem w_t7 : (((((((words1.drop 24).drop 24).drop 24).drop 24).drop 24).drop 24).take 24).all (fun c => isCode c || c.before args0 about1) = true := by decide +kernel
set_option maxRecDepth 65536 in
theorem w_t8 : ((((((((words1.drop 24).drop 24).drop 24).drop 24).drop 24).drop 24).drop 24).take 24).all (fun c => isCode c || c.before args0 about1) = true := by decide +kernel
set_option maxRecDepth 65536 in
theorem w_t9 : (((((((((words1.drop 24).drop 24).drop 24).drop 24).drop 24).drop 24).drop 24).drop 24).take 24).all (fun c => isCode c || c.before args0 about1) = true := by decide +kernel
set_option maxRecDepth 65536 in
theorem w_t10 : ((((((((((words1.drop 24).drop 24).drop 24).drop 24).drop 24).drop 24).drop 24).drop 24).drop 24).take 24).all (fun c => isCode c || c.before args0 about1) = true := by decide +kernel
set_option maxRecDepth 65536 in
theorem w_t11 : (((((((((((words1.drop 24).drop 24).drop 24).drop 24).drop 24).drop 24).drop 24).drop 24).drop 24).drop 24).take 24).all (fun c => isCode c || c.before args0 about1) = true := by decide +kernel
set_option maxRecDepth 65536 in
theorem w_t12 : ((((((((((((words1.drop 24).drop 24).drop 24).drop 24).drop 24).drop 24).drop 24).drop 24).drop 24).drop 24).drop 24).take 24).all (fun c => isCode c || c.before args0 about1) = true := by decide +kernel
set_option maxRecDepth 65536 in
theorem w_t13 : (((((((((((((words1.drop 24).drop 24).drop 24).drop 24).drop 24).drop 24).drop 24).drop 24).drop 24).drop 24).drop 24).drop 24).take 24).all (fun c => isCode c || c.before args0 about1) = true := by decide +kernel
set_option maxRecDepth 65536 in
theorem w_t14 : ((((((((((((((words1.drop 24).drop 24).drop 24).drop 24).drop 24).drop 24).drop 24).drop 24).drop 24).drop 24).drop 24).drop 24).drop 24).take 24).all (fun c => isCode c || c.before args0 about1) = true := by decide +kernel
set_option maxRecDepth 65536 in
theorem w_t15 : (((((((((((((((words1.drop 24).drop 24).drop 24).drop 24).drop 24).drop 24).drop 24).drop 24).drop 24).drop 24).drop 24).drop 24).drop 24).drop 24).take 24).all (fun c => isCode c || c.before args0 about1) = true := by decide +kernel
set_option maxRecDepth 65536 in
theorem w_t16 : ((((((((((((((((words1.drop 24).drop 24).drop 24).drop 24).drop 24).drop 24).drop 24).drop 24).drop 24).drop 24).drop 24).drop 24).drop 24).drop 24).drop 24).take 24).all (fun c => isCode c || c.before args0 about1) = true := by decide +kernel
set_option maxRecDepth 65536 in
theorem w_t17 : (((((((((((((((((words1.drop 24).drop 24).drop 24).drop 24).drop 24).drop 24).drop 24).drop 24).drop 24).drop 24).drop 24).drop 24).drop 24).drop 24).drop 24).drop 24).take 24).all (fun c => isCode c || c.before args0 about1) = true := by decide +kernel
set_option maxRecDepth 65536 in
theorem w_t18 : (((((((((((((((((words1.drop 24).drop 24).drop 24).drop 24).drop 24).drop 24).drop 24).drop 24).drop 24).drop 24).drop 24).drop 24).drop 24).drop 24).drop 24).drop 24).drop 24).all (fun c => isCode c || c.before args0 about1) = true := by decide +kernel
theorem w_tables : (allAtoms (Jvm.Cond.code x code maxLocals ret :: tables_1)).before args0 about1 = true := by
  rw [allAtoms_all]
  show words1.all (fun c => c.before args0 about1) = true
  refine all_split ?_ w_codes
  rw [← List.take_append_drop 24 words1, List.all_append, w_t1, ← List.take_append_drop 24 (words1.drop 24), List.all_append, w_t2, ← List.take_append_drop 24 ((words1.drop 24).drop 24), List.all_append, w_t3, ← List.take_append_drop 24 (((words1.drop 24).drop 24).drop 24), List.all_append, w_t4, ← List.take_append_drop 24 ((((words1.drop 24).drop 24).drop 24).drop 24), List.all_append, w_t5, ← List.take_append_drop 24 (((((words1.drop 24).drop 24).drop 24).drop 24).drop 24), List.all_append, w_t6, ← List.take_append_drop 24 ((((((words1.drop 24).drop 24).drop 24).drop 24).drop 24).drop 24), List.all_append, w_t7, ← List.take_append_drop 24 (((((((words1.drop 24).drop 24).drop 24).drop 24).drop 24).drop 24).drop 24), List.all_append, w_t8, ← List.take_append_drop 24 ((((((((words1.drop 24).drop 24).drop 24).drop 24).drop 24).drop 24).drop 24).drop 24), List.all_append, w_t9, ← List.take_append_drop 24 (((((((((words1.drop 24).drop 24).drop 24).drop 24).drop 24).drop 24).drop 24).drop 24).drop 24), List.all_append, w_t10, ← List.take_append_drop 24 ((((((((((words1.drop 24).drop 24).drop 24).drop 24).drop 24).drop 24).drop 24).drop 24).drop 24).drop 24), List.all_append, w_t11, ← List.take_append_drop 24 (((((((((((words1.drop 24).drop 24).drop 24).drop 24).drop 24).drop 24).drop 24).drop 24).drop 24).drop 24).drop 24), List.all_append, w_t12, ← List.take_append_drop 24 ((((((((((((words1.drop 24).drop 24).drop 24).drop 24).drop 24).drop 24).drop 24).drop 24).drop 24).drop 24).drop 24).drop 24), List.all_append, w_t13, ← List.take_append_drop 24 (((((((((((((words1.drop 24).drop 24).drop 24).drop 24).drop 24).drop 24).drop 24).drop 24).drop 24).drop 24).drop 24).drop 24).drop 24), List.all_append, w_t14, ← List.take_append_drop 24 ((((((((((((((words1.drop 24).drop 24).drop 24).drop 24).drop 24).drop 24).drop 24).drop 24).drop 24).drop 24).drop 24).drop 24).drop 24).drop 24), List.all_append, w_t15, ← List.take_append_drop 24 (((((((((((((((words1.drop 24).drop 24).drop 24).drop 24).drop 24).drop 24).drop 24).drop 24).drop 24).drop 24).drop 24).drop 24).drop 24).drop 24).drop 24), List.all_append, w_t16, ← List.take_append_drop 24 ((((((((((((((((words1.drop 24).drop 24).drop 24).drop 24).drop 24).drop 24).drop 24).drop 24).drop 24).drop 24).drop 24).drop 24).drop 24).drop 24).drop 24).drop 24), List.all_append, w_t17, w_t18]
  rfl
set_option maxRecDepth 65536 in
theorem w_rest : rest_1_c.before args0 about1 = true := by decide +kernel
set_option maxRecDepth 65536 in
theorem w_case : (Jvm.Cond.and given_1 narrow_1).before args0 about1 = true := by decide +kernel
set_option maxRecDepth 65536 in
theorem w_consts : constsHeld consts_1 about1 := Jvm.Lit.constsHeldB_iff.mp (by decide +kernel)
theorem w_applies : (headSpec (Jvm.Cond.code x code maxLocals ret :: tables_1) room_1).applies x e0.platform about1 = true :=
  (Spec.applies_iff w_frames).mpr ⟨w_running, w_runnable, w_alone, w_named, w_hears, w_ripe, w_room, w_tables⟩
theorem atStart : AtStart classFile x code maxLocals ret World_1 tables_1 room_1 Calls_1 rest_1 Pre_1 launch0 p0 e0 about1 theMethod args0 below0 :=
  ⟨lists_1, trivial, launch0.admits_env _ _ _, launch0.least_env, fairChoices_fair.cas, fairChoices_fair.clock, w_frames, w_args, w_heap, w_applies, ⟨⟨23, k23, 3, by decide +kernel, rfl, rfl, _, rfl, rfl⟩, ⟨⟨30, k30, 4, by decide +kernel, rfl, rfl, _, rfl, rfl⟩, ⟨⟨31, k31, 5, by decide +kernel, rfl, rfl, _, rfl, rfl⟩, ⟨w_consts, trivial⟩⟩⟩⟩, w_rest, w_case⟩
end start1
theorem witness_1 : WitnessClaimed_1 := ⟨start1.p0, start1.e0, start1.about1, start1.theMethod, start1.args0, start1.below0, start1.atStart⟩
end Jvm.Pilot.@@N@@
