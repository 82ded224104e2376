import JvmDerived
import JvmDerived.Pilot.@@N@@Statement
import JvmDerived.Pilot.@@N@@Code
set_option linter.unusedVariables false
set_option linter.unusedSimpArgs false
namespace Jvm.RoadKit
open Sem ClassFile Op Lib Jvm.Stand Jvm.Free Jvm.LawKit
section New
variable {p : Program} {l : Launch} {e : Env} {R : Room} {s : State} {m : MethodId} {args : Array Value} {below : List Frame} {meth : Method} {c : Code} {T : State} {locs : List Loc} {cells slots : Nat}
theorem retI (X : Stand p l e R s m args below meth c T locs cells slots) (hx : p.tables.exec = Jvm.exec) {pc : Nat} {Ls : Array Slot} {z : Int32} {rest : List Value} (hret : meth.sig.returnType = some .int) (hd : decode c.code pc = .ok (.ireturn, 1)) {fs : List Frame}
  (hl : ∀ (f : JFrame) (acts : List Action), f.method = m → f.locked = none → f.entered = [] → (doReturn e (T.setTop f) acts (some (.int z))).1 = T.setFrames fs) : Steps p.tables e below (T.setTop (mkF m pc Ls (.int z :: rest))) (T.setFrames fs) := by
 have hm' : T.vm.method? m = some meth := X.method'
 have hn : narrow .int (.int z) = .int z := rfl
 show Steps p.tables e below (T.setTop { method := m, pc := pc, locals := Ls, stack := _ :: rest, locked := none }) _
 jvm_step X.here [X.here.top, hx, hd, hm', hret, hn]
 first | (intro acts; rw [hl _ acts rfl rfl rfl]) | rw [hl _ _ rfl rfl rfl]
 exact Steps.refl _
end New
end Jvm.RoadKit
namespace Jvm.Pilot.@@N@@
set_option maxRecDepth 65536
set_option maxHeartbeats 40000000
open Jvm Jvm.ClassFile Sem Op Lib Jvm.Free Jvm.Stand Jvm.LawKit Jvm.RoadKit Bundle Jvm.Pilot.@@N@@.Jvm.D
section OwnKit
variable {p : Program} {l : Launch} {e : Env} {R : Room} {s : State} {m : MethodId} {args : Array Value} {below : List Frame} {meth : Method} {c : Code} {T : State} {locs : List Loc} {cells slots : Nat} {Z : State} {a0 : Array Value} {h : Heap} {P : Outcome → State → Prop} {pc pc' pc1 pc2 : Nat} {L L' : Array Slot} {S : List Value}
/-- the run from U comes to an end that P holds of -/
def OG (p : Program) (e : Env) (below : List Frame) (P : Outcome → State → Prop) (U : State) : Prop := ∃ s₂ o, Steps p.tables e below U s₂ ∧ s₂.status = .running ∧ Ended s₂ below o ∧ P o s₂
theorem OG.of {U U' : State} (k : ∀ t, Steps p.tables e below U' t → Steps p.tables e below U t) (h : OG p e below P U') : OG p e below P U := by
 obtain ⟨t, o, h1, h2⟩ := h; exact ⟨t, o, k t h1, h2⟩
theorem OG.cast {g g' : JFrame} (q : g = g') (k : OG p e below P (T.setTop g')) : OG p e below P (T.setTop g) := q ▸ k
theorem own_mono (X : Stand p l e R s m args below meth c T locs cells slots) {c' n' : Nat} (h1 : cells ≤ c') (h2 : slots ≤ n') : Stand p l e R s m args below meth c T locs c' n' :=
 ⟨X.admits, X.cas, X.clock, X.frames, X.room, X.hears, X.method, X.code, X.here, X.tail, X.warmed, X.limits, X.bytes, X.same.mono h1 h2⟩
theorem og_iadd (X : Stand p l e R s m args below meth c T locs cells slots) (hx : p.tables.exec = Jvm.exec) {x y : Int32} (hd : decode c.code pc = .ok (.iadd, 1)) (hp : pc + 1 = pc') (k : OG p e below P (T.setTop (mkF m pc' L (.int (x + y) :: S)))) : OG p e below P (T.setTop (mkF m pc L (.int y :: .int x :: S))) := by
 subst hp; exact OG.of (fun t k => XS.iadd X.here hx rfl hd rfl k) k
theorem og_isub (X : Stand p l e R s m args below meth c T locs cells slots) (hx : p.tables.exec = Jvm.exec) {x y : Int32} (hd : decode c.code pc = .ok (.isub, 1)) (hp : pc + 1 = pc') (k : OG p e below P (T.setTop (mkF m pc' L (.int (x - y) :: S)))) : OG p e below P (T.setTop (mkF m pc L (.int y :: .int x :: S))) := by
 subst hp; exact OG.of (fun t k => XS.isub X.here hx rfl hd rfl k) k
theorem og_imul (X : Stand p l e R s m args below meth c T locs cells slots) (hx : p.tables.exec = Jvm.exec) {x y : Int32} (hd : decode c.code pc = .ok (.imul, 1)) (hp : pc + 1 = pc') (k : OG p e below P (T.setTop (mkF m pc' L (.int (x * y) :: S)))) : OG p e below P (T.setTop (mkF m pc L (.int y :: .int x :: S))) := by
 subst hp; exact OG.of (fun t k => XS.imul X.here hx rfl hd rfl k) k
theorem og_iand (X : Stand p l e R s m args below meth c T locs cells slots) (hx : p.tables.exec = Jvm.exec) {x y : Int32} (hd : decode c.code pc = .ok (.iand, 1)) (hp : pc + 1 = pc') (k : OG p e below P (T.setTop (mkF m pc' L (.int (x &&& y) :: S)))) : OG p e below P (T.setTop (mkF m pc L (.int y :: .int x :: S))) := by
 subst hp; exact OG.of (fun t k => XS.iand X.here hx rfl hd rfl k) k
theorem og_idiv (X : Stand p l e R s m args below meth c T locs cells slots) (hx : p.tables.exec = Jvm.exec) {x y : Int32} (hy : y ≠ 0) (hd : decode c.code pc = .ok (.idiv, 1)) (hp : pc + 1 = pc') (k : OG p e below P (T.setTop (mkF m pc' L (.int (x / y) :: S)))) : OG p e below P (T.setTop (mkF m pc L (.int y :: .int x :: S))) := by
 subst hp; exact OG.of (fun t k => XS.idiv X.here hx rfl hd rfl hy k) k
theorem og_irem (X : Stand p l e R s m args below meth c T locs cells slots) (hx : p.tables.exec = Jvm.exec) {x y : Int32} (hy : y ≠ 0) (hd : decode c.code pc = .ok (.irem, 1)) (hp : pc + 1 = pc') (k : OG p e below P (T.setTop (mkF m pc' L (.int (x % y) :: S)))) : OG p e below P (T.setTop (mkF m pc L (.int y :: .int x :: S))) := by
 subst hp; exact OG.of (fun t k => iremM X hx rfl hd rfl hy k) k
theorem og_ishl (X : Stand p l e R s m args below meth c T locs cells slots) (hx : p.tables.exec = Jvm.exec) {x y : Int32} (hd : decode c.code pc = .ok (.ishl, 1)) (hp : pc + 1 = pc') (k : OG p e below P (T.setTop (mkF m pc' L (.int (x <<< (y &&& 31)) :: S)))) : OG p e below P (T.setTop (mkF m pc L (.int y :: .int x :: S))) := by
 subst hp; exact OG.of (fun t k => XS.ishl X.here hx rfl hd rfl k) k
theorem og_ishr (X : Stand p l e R s m args below meth c T locs cells slots) (hx : p.tables.exec = Jvm.exec) {x y : Int32} (hd : decode c.code pc = .ok (.ishr, 1)) (hp : pc + 1 = pc') (k : OG p e below P (T.setTop (mkF m pc' L (.int (x >>> (y &&& 31)) :: S)))) : OG p e below P (T.setTop (mkF m pc L (.int y :: .int x :: S))) := by
 subst hp; exact OG.of (fun t k => XS.ishr X.here hx rfl hd rfl k) k
theorem og_ineg (X : Stand p l e R s m args below meth c T locs cells slots) (hx : p.tables.exec = Jvm.exec) {x : Int32} (hd : decode c.code pc = .ok (.ineg, 1)) (hp : pc + 1 = pc') (k : OG p e below P (T.setTop (mkF m pc' L (.int (-x) :: S)))) : OG p e below P (T.setTop (mkF m pc L (.int x :: S))) := by
 subst hp; exact OG.of (fun t k => XS.ineg X.here hx rfl hd rfl k) k
theorem og_i2b (X : Stand p l e R s m args below meth c T locs cells slots) (hx : p.tables.exec = Jvm.exec) {x : Int32} (hd : decode c.code pc = .ok (.i2b, 1)) (hp : pc + 1 = pc') (k : OG p e below P (T.setTop (mkF m pc' L (.int (x.toInt8.toInt32) :: S)))) : OG p e below P (T.setTop (mkF m pc L (.int x :: S))) := by
 subst hp; exact OG.of (fun t k => XS.i2b X.here hx rfl hd rfl k) k
theorem og_i2c (X : Stand p l e R s m args below meth c T locs cells slots) (hx : p.tables.exec = Jvm.exec) {x : Int32} (hd : decode c.code pc = .ok (.i2c, 1)) (hp : pc + 1 = pc') (k : OG p e below P (T.setTop (mkF m pc' L (.int (x.toUInt32.toUInt16.toUInt32.toInt32) :: S)))) : OG p e below P (T.setTop (mkF m pc L (.int x :: S))) := by
 subst hp; exact OG.of (fun t k => XS.i2c X.here hx rfl hd rfl k) k
theorem og_iconst (X : Stand p l e R s m args below meth c T locs cells slots) (hx : p.tables.exec = Jvm.exec) {i : Int} {v : Int32} (hv : Int32.ofInt i = v) (hd : decode c.code pc = .ok (.iconst i, 1)) (hp : pc + 1 = pc') (k : OG p e below P (T.setTop (mkF m pc' L (.int v :: S)))) : OG p e below P (T.setTop (mkF m pc L S)) := by
 subst hp; exact OG.of (fun t k => XS.iconst X.here hx rfl hd (hv ▸ k)) k
theorem og_bipush (X : Stand p l e R s m args below meth c T locs cells slots) (hx : p.tables.exec = Jvm.exec) {i : Int} {v : Int32} (hv : (Int8.ofInt i).toInt32 = v) (hd : decode c.code pc = .ok (.bipush i, 2)) (hp : pc + 2 = pc') (k : OG p e below P (T.setTop (mkF m pc' L (.int v :: S)))) : OG p e below P (T.setTop (mkF m pc L S)) := by
 subst hp; exact OG.of (fun t k => XS.bipush X.here hx rfl hd (hv ▸ k)) k
theorem og_sipush (X : Stand p l e R s m args below meth c T locs cells slots) (hx : p.tables.exec = Jvm.exec) {i : Int} {v : Int32} (hv : (Int16.ofInt i).toInt32 = v) (hd : decode c.code pc = .ok (.sipush i, 3)) (hp : pc + 3 = pc') (k : OG p e below P (T.setTop (mkF m pc' L (.int v :: S)))) : OG p e below P (T.setTop (mkF m pc L S)) := by
 subst hp; exact OG.of (fun t k => XS.sipush X.here hx rfl hd (hv ▸ k)) k
theorem og_aconst_null (X : Stand p l e R s m args below meth c T locs cells slots) (hx : p.tables.exec = Jvm.exec)  (hd : decode c.code pc = .ok (.aconst_null, 1)) (hp : pc + 1 = pc') (k : OG p e below P (T.setTop (mkF m pc' L (.null :: S)))) : OG p e below P (T.setTop (mkF m pc L S)) := by
 subst hp; exact OG.of (fun t k => XS.aconstNull X.here hx rfl hd k) k
theorem og_iload (X : Stand p l e R s m args below meth c T locs cells slots) (hx : p.tables.exec = Jvm.exec) {j : Nat} {v : Int32} (hl : L[j]? = some (.val (.int v))) (hd : decode c.code pc = .ok (.iload j, 2)) (hp : pc + 2 = pc') (k : OG p e below P (T.setTop (mkF m pc' L (.int v :: S)))) : OG p e below P (T.setTop (mkF m pc L S)) := by
 subst hp; exact OG.of (fun t k => XS.iload X.here hx rfl hd hl k) k
theorem og_iloadN (X : Stand p l e R s m args below meth c T locs cells slots) (hx : p.tables.exec = Jvm.exec) {j : Fin 4} {v : Int32} (hl : L[j.val]? = some (.val (.int v))) (hd : decode c.code pc = .ok (.iload_n j, 1)) (hp : pc + 1 = pc') (k : OG p e below P (T.setTop (mkF m pc' L (.int v :: S)))) : OG p e below P (T.setTop (mkF m pc L S)) := by
 subst hp; exact OG.of (fun t k => XS.iloadN X.here hx rfl hd hl k) k
theorem og_istore (X : Stand p l e R s m args below meth c T locs cells slots) (hx : p.tables.exec = Jvm.exec) {j : Nat} {v : Int32} (hl : storeLocals L j (.int v) = some L') (hd : decode c.code pc = .ok (.istore j, 2)) (hp : pc + 2 = pc') (k : OG p e below P (T.setTop (mkF m pc' L' S))) : OG p e below P (T.setTop (mkF m pc L (.int v :: S))) := by
 subst hp; exact OG.of (fun t k => XS.istore X.here hx rfl hd rfl hl k) k
theorem og_istoreN (X : Stand p l e R s m args below meth c T locs cells slots) (hx : p.tables.exec = Jvm.exec) {j : Fin 4} {v : Int32} (hl : storeLocals L j.val (.int v) = some L') (hd : decode c.code pc = .ok (.istore_n j, 1)) (hp : pc + 1 = pc') (k : OG p e below P (T.setTop (mkF m pc' L' S))) : OG p e below P (T.setTop (mkF m pc L (.int v :: S))) := by
 subst hp; exact OG.of (fun t k => XS.istoreN X.here hx rfl hd rfl hl k) k
theorem og_aload (X : Stand p l e R s m args below meth c T locs cells slots) (hx : p.tables.exec = Jvm.exec) {j : Nat} {v : Value} (hl : L[j]? = some (.val v)) (hv : v.isRef = true) (hd : decode c.code pc = .ok (.aload j, 2)) (hp : pc + 2 = pc') (k : OG p e below P (T.setTop (mkF m pc' L (v :: S)))) : OG p e below P (T.setTop (mkF m pc L S)) := by
 subst hp; exact OG.of (fun t k => XS.aload X.here hx rfl hd hl hv k) k
theorem og_aloadN (X : Stand p l e R s m args below meth c T locs cells slots) (hx : p.tables.exec = Jvm.exec) {j : Fin 4} {v : Value} (hl : L[j.val]? = some (.val v)) (hv : v.isRef = true) (hd : decode c.code pc = .ok (.aload_n j, 1)) (hp : pc + 1 = pc') (k : OG p e below P (T.setTop (mkF m pc' L (v :: S)))) : OG p e below P (T.setTop (mkF m pc L S)) := by
 subst hp; exact OG.of (fun t k => XS.aloadN X.here hx rfl hd hl hv k) k
theorem og_astore (X : Stand p l e R s m args below meth c T locs cells slots) (hx : p.tables.exec = Jvm.exec) {j : Nat} {v : Value} (hv : v.isRef = true) (hl : storeLocals L j v = some L') (hd : decode c.code pc = .ok (.astore j, 2)) (hp : pc + 2 = pc') (k : OG p e below P (T.setTop (mkF m pc' L' S))) : OG p e below P (T.setTop (mkF m pc L (v :: S))) := by
 subst hp; exact OG.of (fun t k => XS.astore X.here hx rfl hd rfl hv hl k) k
theorem og_astoreN (X : Stand p l e R s m args below meth c T locs cells slots) (hx : p.tables.exec = Jvm.exec) {j : Fin 4} {v : Value} (hv : v.isRef = true) (hl : storeLocals L j.val v = some L') (hd : decode c.code pc = .ok (.astore_n j, 1)) (hp : pc + 1 = pc') (k : OG p e below P (T.setTop (mkF m pc' L' S))) : OG p e below P (T.setTop (mkF m pc L (v :: S))) := by
 subst hp; exact OG.of (fun t k => XS.astoreN X.here hx rfl hd rfl hv hl k) k
theorem og_iinc (X : Stand p l e R s m args below meth c T locs cells slots) (hx : p.tables.exec = Jvm.exec) {j : Nat} {i : Int} {v w : Int32} (h1 : L[j]? = some (.val (.int v))) (hv : Int32.ofInt i = w) (hl : storeLocals L j (.int (v + w)) = some L') (hd : decode c.code pc = .ok (.iinc j i, 3)) (hp : pc + 3 = pc') (k : OG p e below P (T.setTop (mkF m pc' L' S))) : OG p e below P (T.setTop (mkF m pc L S)) := by
 subst hp; exact OG.of (fun t k => XS.iinc X.here hx rfl hd h1 (hv.symm ▸ hl) k) k
theorem og_dup (X : Stand p l e R s m args below meth c T locs cells slots) (hx : p.tables.exec = Jvm.exec) {v : Value} (hv : v.category = 1) (hd : decode c.code pc = .ok (.dup, 1)) (hp : pc + 1 = pc') (k : OG p e below P (T.setTop (mkF m pc' L (v :: v :: S)))) : OG p e below P (T.setTop (mkF m pc L (v :: S))) := by
 subst hp; exact OG.of (fun t k => XS.dup X.here hx rfl hd rfl hv k) k
theorem og_pop (X : Stand p l e R s m args below meth c T locs cells slots) (hx : p.tables.exec = Jvm.exec) {v : Value} (hv : v.category = 1) (hd : decode c.code pc = .ok (.pop, 1)) (hp : pc + 1 = pc') (k : OG p e below P (T.setTop (mkF m pc' L S))) : OG p e below P (T.setTop (mkF m pc L (v :: S))) := by
 subst hp; exact OG.of (fun t k => XS.pop X.here hx rfl hd rfl hv k) k
theorem og_dup_x1 (X : Stand p l e R s m args below meth c T locs cells slots) (hx : p.tables.exec = Jvm.exec) {v w : Value} (hv : v.category = 1) (hw : w.category = 1) (hd : decode c.code pc = .ok (.dup_x1, 1)) (hp : pc + 1 = pc') (k : OG p e below P (T.setTop (mkF m pc' L (v :: w :: v :: S)))) : OG p e below P (T.setTop (mkF m pc L (v :: w :: S))) := by
 subst hp; exact OG.of (fun t k => XS.dupX1 X.here hx rfl hd rfl hv hw k) k
theorem og_goto (X : Stand p l e R s m args below meth c T locs cells slots) (hx : p.tables.exec = Jvm.exec) {o : Int} (hd : decode c.code pc = .ok (.goto o, 3)) (ho : 0 ≤ (pc : Int) + o) (hp : ((pc : Int) + o).toNat = pc') (k : OG p e below P (T.setTop (mkF m pc' L S))) : OG p e below P (T.setTop (mkF m pc L S)) :=
 OG.of (fun t k => XS.goto X.here hx rfl rfl hd ho hp k) k
theorem og_icmp_lt (X : Stand p l e R s m args below meth c T locs cells slots) (hx : p.tables.exec = Jvm.exec) {x y : Int32} {o : Int} (hd : decode c.code pc = .ok (.if_icmp .lt o, 3)) (ho : 0 ≤ (pc : Int) + o) (hp1 : ((pc : Int) + o).toNat = pc1) (hp2 : pc + 3 = pc2) (k1 : x < y → OG p e below P (T.setTop (mkF m pc1 L S))) (k2 : ¬ x < y → OG p e below P (T.setTop (mkF m pc2 L S))) : OG p e below P (T.setTop (mkF m pc L (.int y :: .int x :: S))) := by
  subst hp2; by_cases q : x < y
  · exact OG.of (fun t k => XS.icmpYes X.here hx rfl rfl hd rfl ((tlt q).1) ho hp1 k) (k1 q)
  · exact OG.of (fun t k => XS.icmpNo X.here hx rfl hd rfl ((flt q).1) k) (k2 q)
theorem og_if_lt (X : Stand p l e R s m args below meth c T locs cells slots) (hx : p.tables.exec = Jvm.exec) {x : Int32} {o : Int} (hd : decode c.code pc = .ok (.ifCond .lt o, 3)) (ho : 0 ≤ (pc : Int) + o) (hp1 : ((pc : Int) + o).toNat = pc1) (hp2 : pc + 3 = pc2) (k1 : x < (0 : Int32) → OG p e below P (T.setTop (mkF m pc1 L S))) (k2 : ¬ x < (0 : Int32) → OG p e below P (T.setTop (mkF m pc2 L S))) : OG p e below P (T.setTop (mkF m pc L (.int x :: S))) := by
  subst hp2; by_cases q : x < (0 : Int32)
  · exact OG.of (fun t k => XS.ifYes X.here hx rfl rfl hd rfl ((if0 _ _).trans (tlt q).1) ho hp1 k) (k1 q)
  · exact OG.of (fun t k => XS.ifNo X.here hx rfl hd rfl ((if0 _ _).trans (flt q).1) k) (k2 q)
theorem og_icmp_ge (X : Stand p l e R s m args below meth c T locs cells slots) (hx : p.tables.exec = Jvm.exec) {x y : Int32} {o : Int} (hd : decode c.code pc = .ok (.if_icmp .ge o, 3)) (ho : 0 ≤ (pc : Int) + o) (hp1 : ((pc : Int) + o).toNat = pc1) (hp2 : pc + 3 = pc2) (k1 : ¬ x < y → OG p e below P (T.setTop (mkF m pc1 L S))) (k2 : x < y → OG p e below P (T.setTop (mkF m pc2 L S))) : OG p e below P (T.setTop (mkF m pc L (.int y :: .int x :: S))) := by
  subst hp2; by_cases q : x < y
  · exact OG.of (fun t k => XS.icmpNo X.here hx rfl hd rfl ((tlt q).2.1) k) (k2 q)
  · exact OG.of (fun t k => XS.icmpYes X.here hx rfl rfl hd rfl ((flt q).2.1) ho hp1 k) (k1 q)
theorem og_if_ge (X : Stand p l e R s m args below meth c T locs cells slots) (hx : p.tables.exec = Jvm.exec) {x : Int32} {o : Int} (hd : decode c.code pc = .ok (.ifCond .ge o, 3)) (ho : 0 ≤ (pc : Int) + o) (hp1 : ((pc : Int) + o).toNat = pc1) (hp2 : pc + 3 = pc2) (k1 : ¬ x < (0 : Int32) → OG p e below P (T.setTop (mkF m pc1 L S))) (k2 : x < (0 : Int32) → OG p e below P (T.setTop (mkF m pc2 L S))) : OG p e below P (T.setTop (mkF m pc L (.int x :: S))) := by
  subst hp2; by_cases q : x < (0 : Int32)
  · exact OG.of (fun t k => XS.ifNo X.here hx rfl hd rfl ((if0 _ _).trans (tlt q).2.1) k) (k2 q)
  · exact OG.of (fun t k => XS.ifYes X.here hx rfl rfl hd rfl ((if0 _ _).trans (flt q).2.1) ho hp1 k) (k1 q)
theorem og_icmp_gt (X : Stand p l e R s m args below meth c T locs cells slots) (hx : p.tables.exec = Jvm.exec) {x y : Int32} {o : Int} (hd : decode c.code pc = .ok (.if_icmp .gt o, 3)) (ho : 0 ≤ (pc : Int) + o) (hp1 : ((pc : Int) + o).toNat = pc1) (hp2 : pc + 3 = pc2) (k1 : y < x → OG p e below P (T.setTop (mkF m pc1 L S))) (k2 : ¬ y < x → OG p e below P (T.setTop (mkF m pc2 L S))) : OG p e below P (T.setTop (mkF m pc L (.int y :: .int x :: S))) := by
  subst hp2; by_cases q : y < x
  · exact OG.of (fun t k => XS.icmpYes X.here hx rfl rfl hd rfl ((tlt q).2.2.1) ho hp1 k) (k1 q)
  · exact OG.of (fun t k => XS.icmpNo X.here hx rfl hd rfl ((flt q).2.2.1) k) (k2 q)
theorem og_icmp_le (X : Stand p l e R s m args below meth c T locs cells slots) (hx : p.tables.exec = Jvm.exec) {x y : Int32} {o : Int} (hd : decode c.code pc = .ok (.if_icmp .le o, 3)) (ho : 0 ≤ (pc : Int) + o) (hp1 : ((pc : Int) + o).toNat = pc1) (hp2 : pc + 3 = pc2) (k1 : ¬ y < x → OG p e below P (T.setTop (mkF m pc1 L S))) (k2 : y < x → OG p e below P (T.setTop (mkF m pc2 L S))) : OG p e below P (T.setTop (mkF m pc L (.int y :: .int x :: S))) := by
  subst hp2; by_cases q : y < x
  · exact OG.of (fun t k => XS.icmpNo X.here hx rfl hd rfl ((tlt q).2.2.2) k) (k2 q)
  · exact OG.of (fun t k => XS.icmpYes X.here hx rfl rfl hd rfl ((flt q).2.2.2) ho hp1 k) (k1 q)
theorem og_if_le (X : Stand p l e R s m args below meth c T locs cells slots) (hx : p.tables.exec = Jvm.exec) {x : Int32} {o : Int} (hd : decode c.code pc = .ok (.ifCond .le o, 3)) (ho : 0 ≤ (pc : Int) + o) (hp1 : ((pc : Int) + o).toNat = pc1) (hp2 : pc + 3 = pc2) (k1 : ¬ (0 : Int32) < x → OG p e below P (T.setTop (mkF m pc1 L S))) (k2 : (0 : Int32) < x → OG p e below P (T.setTop (mkF m pc2 L S))) : OG p e below P (T.setTop (mkF m pc L (.int x :: S))) := by
  subst hp2; by_cases q : (0 : Int32) < x
  · exact OG.of (fun t k => XS.ifNo X.here hx rfl hd rfl ((if0 _ _).trans (tlt q).2.2.2) k) (k2 q)
  · exact OG.of (fun t k => XS.ifYes X.here hx rfl rfl hd rfl ((if0 _ _).trans (flt q).2.2.2) ho hp1 k) (k1 q)
theorem og_icmp_eq (X : Stand p l e R s m args below meth c T locs cells slots) (hx : p.tables.exec = Jvm.exec) {x y : Int32} {o : Int} (hd : decode c.code pc = .ok (.if_icmp .eq o, 3)) (ho : 0 ≤ (pc : Int) + o) (hp1 : ((pc : Int) + o).toNat = pc1) (hp2 : pc + 3 = pc2) (k1 : x = y → OG p e below P (T.setTop (mkF m pc1 L S))) (k2 : ¬ x = y → OG p e below P (T.setTop (mkF m pc2 L S))) : OG p e below P (T.setTop (mkF m pc L (.int y :: .int x :: S))) := by
  subst hp2; by_cases q : x = y
  · exact OG.of (fun t k => XS.icmpYes X.here hx rfl rfl hd rfl ((teq q).1) ho hp1 k) (k1 q)
  · exact OG.of (fun t k => XS.icmpNo X.here hx rfl hd rfl ((feq q).1) k) (k2 q)
theorem og_if_eq (X : Stand p l e R s m args below meth c T locs cells slots) (hx : p.tables.exec = Jvm.exec) {x : Int32} {o : Int} (hd : decode c.code pc = .ok (.ifCond .eq o, 3)) (ho : 0 ≤ (pc : Int) + o) (hp1 : ((pc : Int) + o).toNat = pc1) (hp2 : pc + 3 = pc2) (k1 : x = (0 : Int32) → OG p e below P (T.setTop (mkF m pc1 L S))) (k2 : ¬ x = (0 : Int32) → OG p e below P (T.setTop (mkF m pc2 L S))) : OG p e below P (T.setTop (mkF m pc L (.int x :: S))) := by
  subst hp2; by_cases q : x = (0 : Int32)
  · exact OG.of (fun t k => XS.ifYes X.here hx rfl rfl hd rfl ((if0 _ _).trans (teq q).1) ho hp1 k) (k1 q)
  · exact OG.of (fun t k => XS.ifNo X.here hx rfl hd rfl ((if0 _ _).trans (feq q).1) k) (k2 q)
theorem og_icmp_ne (X : Stand p l e R s m args below meth c T locs cells slots) (hx : p.tables.exec = Jvm.exec) {x y : Int32} {o : Int} (hd : decode c.code pc = .ok (.if_icmp .ne o, 3)) (ho : 0 ≤ (pc : Int) + o) (hp1 : ((pc : Int) + o).toNat = pc1) (hp2 : pc + 3 = pc2) (k1 : ¬ x = y → OG p e below P (T.setTop (mkF m pc1 L S))) (k2 : x = y → OG p e below P (T.setTop (mkF m pc2 L S))) : OG p e below P (T.setTop (mkF m pc L (.int y :: .int x :: S))) := by
  subst hp2; by_cases q : x = y
  · exact OG.of (fun t k => XS.icmpNo X.here hx rfl hd rfl ((teq q).2) k) (k2 q)
  · exact OG.of (fun t k => XS.icmpYes X.here hx rfl rfl hd rfl ((feq q).2) ho hp1 k) (k1 q)
theorem og_if_ne (X : Stand p l e R s m args below meth c T locs cells slots) (hx : p.tables.exec = Jvm.exec) {x : Int32} {o : Int} (hd : decode c.code pc = .ok (.ifCond .ne o, 3)) (ho : 0 ≤ (pc : Int) + o) (hp1 : ((pc : Int) + o).toNat = pc1) (hp2 : pc + 3 = pc2) (k1 : ¬ x = (0 : Int32) → OG p e below P (T.setTop (mkF m pc1 L S))) (k2 : x = (0 : Int32) → OG p e below P (T.setTop (mkF m pc2 L S))) : OG p e below P (T.setTop (mkF m pc L (.int x :: S))) := by
  subst hp2; by_cases q : x = (0 : Int32)
  · exact OG.of (fun t k => XS.ifNo X.here hx rfl hd rfl ((if0 _ _).trans (teq q).2) k) (k2 q)
  · exact OG.of (fun t k => XS.ifYes X.here hx rfl rfl hd rfl ((if0 _ _).trans (feq q).2) ho hp1 k) (k1 q)
theorem og_ifnull (X : Stand p l e R s m args below meth c T locs cells slots) (hx : p.tables.exec = Jvm.exec) {v : Value} (hv : v.isRef = true) {o : Int} (hd : decode c.code pc = .ok (.ifnull o, 3)) (ho : 0 ≤ (pc : Int) + o) (hp1 : ((pc : Int) + o).toNat = pc1) (hp2 : pc + 3 = pc2) (k1 : v = .null → OG p e below P (T.setTop (mkF m pc1 L S))) (k2 : v ≠ .null → OG p e below P (T.setTop (mkF m pc2 L S))) : OG p e below P (T.setTop (mkF m pc L (v :: S))) := by
  subst hp2; rcases ref_cases hv with rfl | ⟨b, rfl⟩
  · exact OG.of (fun t k => XS.ifnullYes X.here hx rfl rfl hd rfl ho hp1 k) (k1 rfl)
  · exact OG.of (fun t k => XS.ifnullNo X.here hx rfl hd rfl k) (k2 nofun)
theorem og_ifnonnull (X : Stand p l e R s m args below meth c T locs cells slots) (hx : p.tables.exec = Jvm.exec) {v : Value} (hv : v.isRef = true) {o : Int} (hd : decode c.code pc = .ok (.ifnonnull o, 3)) (ho : 0 ≤ (pc : Int) + o) (hp1 : ((pc : Int) + o).toNat = pc1) (hp2 : pc + 3 = pc2) (k1 : v ≠ .null → OG p e below P (T.setTop (mkF m pc1 L S))) (k2 : v = .null → OG p e below P (T.setTop (mkF m pc2 L S))) : OG p e below P (T.setTop (mkF m pc L (v :: S))) := by
  subst hp2; rcases ref_cases hv with rfl | ⟨b, rfl⟩
  · exact OG.of (fun t k => XS.ifnonnullNo X.here hx rfl hd rfl k) (k2 rfl)
  · exact OG.of (fun t k => XS.ifnonnullYes X.here hx rfl rfl hd rfl ho hp1 k) (k1 nofun)
theorem og_ldc (X : Stand p l e R s m args below meth c T locs cells slots) (hx : p.tables.exec = Jvm.exec) (hZ : Z.Warmed39 s.vm) {own : String} {index : Nat} {v : Int32} (hown : s.vm.findClass own = some m.cls) (w : (Cond.constant own index v).before a0 Z = true) (hd : decode c.code pc = .ok (.ldc index, 2)) (hp : pc + 2 = pc') (k : OG p e below P (T.setTop (mkF m pc' L (.int v :: S)))) : OG p e below P (T.setTop (mkF m pc L S)) := by
 subst hp; exact OG.of (X.ldcInt hx hown (mvT hZ w) (g := mkF m pc L S) rfl hd) k
theorem og_getstatic (X : Stand p l e R s m args below meth c T locs cells slots) (hx : p.tables.exec = Jvm.exec) (hZ : Z.Warmed39 s.vm) {own R0 O n d host : String} {index : Nat} (hown : s.vm.findClass own = some m.cls) (w : (Cond.fieldLink own index R0 n d).before a0 Z = true ∨ (Cond.fieldLinkNest own index R0 n d host).before a0 Z = true) (via : Via Z R0 O n d) (eT : T.heap = h) {v : Value} (F : Sta Z h O n d v) (hd : decode c.code pc = .ok (.getstatic index, 3)) (hp : pc + 3 = pc') (k : ∀ T', Stand p l e R s m args below meth c T' locs cells slots → T'.heap = h → OG p e below P (T'.setTop (mkF m pc' L (v :: S)))) : OG p e below P (T.setTop (mkF m pc L S)) := by
 subst hp; obtain ⟨T', X', e', st⟩ := getS2 X hx hZ hown w via eT F (g := mkF m pc L S) rfl hd
 exact OG.of st (k T' X' e')
theorem og_getfield (X : Stand p l e R s m args below meth c T locs cells slots) (hx : p.tables.exec = Jvm.exec) (hZ : Z.Warmed39 s.vm) {own R0 O n d host : String} {index : Nat} (hown : s.vm.findClass own = some m.cls) (w : (Cond.fieldLink own index R0 n d).before a0 Z = true ∨ (Cond.fieldLinkNest own index R0 n d host).before a0 Z = true) (via : Via Z R0 O n d) (eT : T.heap = h) {a : Addr} {v : Value} (F : Fld Z h a O n d v) (hd : decode c.code pc = .ok (.getfield index, 3)) (hp : pc + 3 = pc') (k : ∀ T', Stand p l e R s m args below meth c T' locs cells slots → T'.heap = h → OG p e below P (T'.setTop (mkF m pc' L (v :: S)))) : OG p e below P (T.setTop (mkF m pc L (.ref a :: S))) := by
 subst hp; obtain ⟨T', X', e', st⟩ := getF X hx hZ hown w via eT F (g := mkF m pc L (.ref a :: S)) rfl rfl hd
 exact OG.of st (k T' X' e')
theorem og_putfield (X : Stand p l e R s m args below meth c T locs cells slots) (hx : p.tables.exec = Jvm.exec) (hZ : Z.Warmed39 s.vm) {C : String} {kk : Nat} {ty : FieldType} {own R0 O n d host : String} {index : Nat} (hown : s.vm.findClass own = some m.cls) (w : (Cond.fieldLink own index R0 n d).before a0 Z = true ∨ (Cond.fieldLinkNest own index R0 n d host).before a0 Z = true) (via : Via Z R0 O n d) (eT : T.heap = h) {a : Addr} {v old : Value} (F : Fld Z h a O n d old) (E : Exa Z h a C) (Ly : (Cond.lays C O n d).before a0 Z = true ∨ ((Cond.laysFinal C O n d).before a0 Z = true ∧ own = O ∧ meth.name = "<init>")) (wi : (Cond.instantiable C kk).before a0 Z = true) (hty : parseFieldDescriptor d = some ty) (hn : narrow ty v = v) (hf : fits ty v = true) (hd : decode c.code pc = .ok (.putfield index, 3)) (hp : pc + 3 = pc') (k : ∀ T' h', Stand p l e R s m args below meth c T' (locs ++ [⟨a, Jvm.RoadKit.slotOf Z O n d⟩]) cells slots → T'.heap = h' → Wr h h' a (Jvm.RoadKit.slotOf Z O n d) v → OG p e below P (T'.setTop (mkF m pc' L S))) : OG p e below P (T.setTop (mkF m pc L (v :: .ref a :: S))) := by
 subst hp; obtain ⟨T', h', X', e', W', st⟩ := putF X hx hZ hown w via eT F E Ly wi hty hn hf (g := mkF m pc L (v :: .ref a :: S)) rfl rfl hd
 exact OG.of st (k T' h' X' e' W')
theorem og_new (X : Stand p l e R s m args below meth c T locs cells slots) (hx : p.tables.exec = Jvm.exec) (hZ : Z.Warmed39 s.vm) {own C : String} {index n : Nat} {cells' slots' : Nat} (hown : s.vm.findClass own = some m.cls) (w : (Cond.classLink own index C).before a0 Z = true) (wi : (Cond.instantiable C n).before a0 Z = true) (wz : (Cond.initialized C).before a0 Z = true) (eT : T.heap = h) (hd : decode c.code pc = .ok (.new index, 3)) (hp : pc + 3 = pc') (hc' : cells + 1 = cells') (hs' : slots + n = slots') (hc : cells' ≤ R.cells) (hl : slots' ≤ R.slots) (k : ∀ T' h' a, Stand p l e R s m args below meth c T' locs cells' slots' → T'.heap = h' → Ext h h' → a = h.size → Exa Z h' a C → (∀ {O nm d : String} {ty : FieldType}, Laid Z a0 C O nm d → parseFieldDescriptor d = some ty → Fld Z h' a O nm d (defaultValue ty)) → (∃ cell : Cell, h'[a]? = some cell ∧ cell.vm = .none ∧ cell.monitor = {}) → OG p e below P (T'.setTop (mkF m pc' L (.ref a :: S)))) : OG p e below P (T.setTop (mkF m pc L S)) := by
 subst hp hc' hs'; obtain ⟨T', h', X', e', E', A', D', B', st⟩ := newO X hx hZ hown w wi wz eT (g := mkF m pc L S) rfl hd hc hl
 exact OG.of st (k T' h' _ X' e' E' rfl A' D' B')
theorem og_newarray (X : Stand p l e R s m args below meth c T locs cells slots) (hx : p.tables.exec = Jvm.exec) (hZ : Z.Warmed39 s.vm) {aty : ArrayType} {ty : FieldType} {cells' slots' : Nat} (hty : newarray.typeOf aty = ty) (w : (Cond.arrayClass ty).before a0 Z = true) (eT : T.heap = h) {n : Int32} (hn : ¬ n < 0) {cap : Nat} (hcap : n.toNatClampNeg ≤ cap) (hb : cap * 8 ≤ 536870912) (hd : decode c.code pc = .ok (.newarray aty, 2)) (hp : pc + 2 = pc') (hc' : cells + 1 = cells') (hs' : slots + cap = slots') (hc : cells' ≤ R.cells) (hl : slots' ≤ R.slots) (k : ∀ T' h' a kA, Stand p l e R s m args below meth c T' locs cells' slots' → T'.heap = h' → Ext h h' → a = h.size → Arv Z h' a kA ty n [] (defaultValue ty) → OG p e below P (T'.setTop (mkF m pc' L (.ref a :: S)))) : OG p e below P (T.setTop (mkF m pc L (.int n :: S))) := by
 subst hp hc' hs' hty; obtain ⟨T', h', kA, X', e', E', A', st⟩ := newP X hx hZ w eT (g := mkF m pc L (.int n :: S)) rfl hd rfl hn hcap hb hc hl
 exact OG.of st (k T' h' _ kA X' e' E' rfl (Arv.new A' hn))
theorem og_bastore (X : Stand p l e R s m args below meth c T locs cells slots) (hx : p.tables.exec = Jvm.exec) (hZ : Z.Warmed39 s.vm) (eT : T.heap = h) {a : Addr} {kA : ClassId} {j x z : Int32} {vs : List Value} {dv : Value} (F : Arv Z h a kA .byte z vs dv) (q : ¬ j < 0 ∧ j < z) (i : Nat) (hj : j.toNatClampNeg = i) (hi : i < vs.length) (hd : decode c.code pc = .ok (.bastore, 1)) (hp : pc + 1 = pc') (k : ∀ T' h', Stand p l e R s m args below meth c T' (locs ++ [⟨a, j.toNatClampNeg⟩]) cells slots → T'.heap = h' → Wr h h' a j.toNatClampNeg (.int (nar .byte x)) → Arv Z h' a kA .byte z (vs.set i (.int (nar .byte x))) dv → OG p e below P (T'.setTop (mkF m pc' L S))) : OG p e below P (T.setTop (mkF m pc L (.int x :: .int j :: .ref a :: S))) := by
 subst hp; obtain ⟨cl, A, q1, S1, q3, H, G⟩ := F
 obtain ⟨T', h', X', e', W', st⟩ := stB X hx hZ eT A (j := j) (inb_of S1 q) (g := mkF m pc L (.int x :: .int j :: .ref a :: S)) rfl rfl hd
 exact OG.of st (k T' h' X' e' W' (Arv.set A q1 S1 q3 H G (fits_nar_byte _) W' i hj hi))
theorem og_baload (X : Stand p l e R s m args below meth c T locs cells slots) (hx : p.tables.exec = Jvm.exec) (hZ : Z.Warmed39 s.vm) (eT : T.heap = h) {a : Addr} {kA : ClassId} {j z : Int32} {vs : List Value} {dv v : Value} (F : Arv Z h a kA .byte z vs dv) (q : ¬ j < 0 ∧ j < z) (hv : vs.getD j.toNatClampNeg dv = v) (hd : decode c.code pc = .ok (.baload, 1)) (hp : pc + 1 = pc') (k : OG p e below P (T.setTop (mkF m pc' L (v :: S)))) : OG p e below P (T.setTop (mkF m pc L (.int j :: .ref a :: S))) := by
 subst hp; obtain ⟨cl, A, q1, S1, q3, H, G⟩ := F
 exact OG.of (fun t k => X.baloadBytes hx (j := j) (v := v) (by rw [eT]; exact A.1) (State.isArrayOf_alike hZ.alike A.2.1) A.2.2 (inb_of S1 q) (H.at (inb_of S1 q) hv) (g := mkF m pc L (.int j :: .ref a :: S)) rfl rfl hd t k) k
theorem og_arraylength (X : Stand p l e R s m args below meth c T locs cells slots) (hx : p.tables.exec = Jvm.exec) (hZ : Z.Warmed39 s.vm) (eT : T.heap = h) {a : Addr} {kA : ClassId} {z : Int32} {vs : List Value} {dv : Value} {ty : FieldType} (F : Arv Z h a kA ty z vs dv) (hd : decode c.code pc = .ok (.arraylength, 1)) (hp : pc + 1 = pc') (k : OG p e below P (T.setTop (mkF m pc' L (.int z :: S)))) : OG p e below P (T.setTop (mkF m pc L (.ref a :: S))) := by
 subst hp; obtain ⟨cl, A, q1, S1, q3, H, G⟩ := F
 refine OG.of (fun t k => X.arraylength hx (by rw [eT]; exact A.1) (State.isArrayOf_alike hZ.alike A.2.1) (g := mkF m pc L (.ref a :: S)) rfl rfl hd t k) ?_
 rw [len_of S1 q3]; exact k
theorem og_initO (X : Stand p l e R s m args below meth c T locs cells slots) (hx : p.tables.exec = Jvm.exec) (hZ : Z.Warmed39 s.vm) {own : String} {idx : Nat} (hml : L.size = c.maxLocals) (hown : s.vm.findClass own = some m.cls) (w1 : (Cond.methodLink own idx Lib.objectInit).before a0 Z = true) (w2 : (Cond.instanceMethod Lib.objectInit).before a0 Z = true) (w3 : (Cond.code Lib.objectInit ⟨#[0xb1]⟩ 1 none).before a0 Z = true) (eT : T.heap = h) {a : Addr} {W : Nat} (hW : (S.map fun v => v.category).sum = W) (hf : 1 ≤ R.frames) (hl : W + 12 ≤ R.locals) (hd : decode c.code pc = .ok (.invokespecial idx, 3)) (hp : pc + 3 = pc') (k : ∀ T', Stand p l e R s m args below meth c T' locs cells slots → T'.heap = h → OG p e below P (T'.setTop (mkF m pc' L S))) : OG p e below P (T.setTop (mkF m pc L (.ref a :: S))) := by
 subst hp; obtain ⟨T', X', e', st⟩ := initO X hx hZ hown w1 w2 w3 eT (g := mkF m pc L (.ref a :: S)) rfl hml rfl hd hf (W := W) (by show 2 * 0 + _ ≤ _; rw [hW]; omega) hl
 exact OG.of st (k T' X' e')
theorem og_arraycopy (X : Stand p l e R s m args below meth c T locs cells slots) (hx : p.tables.exec = Jvm.exec) (hZ : Z.Warmed39 s.vm) {own : String} {index : Nat} (hml : L.size = c.maxLocals) (hown : s.vm.findClass own = some m.cls) (w1 : (Cond.methodLink own index Jvm.Stand.acN).before a0 Z = true) (w2 : (Cond.native Jvm.Stand.acN).before a0 Z = true) (w3 : (Cond.static Jvm.Stand.acN).before a0 Z = true) (w4 : (Cond.initialized "java/lang/System").before a0 Z = true) (eT : T.heap = h) {a b : Addr} {kA kB : ClassId} {ty : FieldType} {z z' sp dp nn : Int32} {vs vd us : List Value} {dv dd : Value} (A : Arv Z h a kA ty z vs dv) (B : Arv Z h b kB ty z' vd dd) (hty : refKind ty = false) (h1 : ¬ sp < 0) (h2 : ¬ dp < 0) (h3 : ¬ nn < 0) (h4 : sp.toNatClampNeg + nn.toNatClampNeg ≤ z.toNatClampNeg) (h5 : dp.toNatClampNeg + nn.toNatClampNeg ≤ z'.toNatClampNeg) (hus : us = (List.range nn.toNatClampNeg).map fun i => vs.getD (sp.toNatClampNeg + i) dv) (hl : dp.toNatClampNeg + nn.toNatClampNeg ≤ vd.length) {n0 : Nat} (N : Fr n0 locs) (ge : n0 ≤ b) {W : Nat} (hW : (S.map fun v => v.category).sum = W) (hf : 1 ≤ R.frames) (hlo : W + (nativeFrameWords "java/lang/System" "arraycopy" 5 + 11) ≤ R.locals) (hd : decode c.code pc = .ok (.invokestatic index, 3)) (hp : pc + 3 = pc') (k : ∀ T' h' l', Stand p l e R s m args below meth c T' l' cells slots → T'.heap = h' → Fr n0 l' → Keep h h' [b] → Arv Z h' b kB ty z' (vd.take dp.toNatClampNeg ++ us ++ vd.drop (dp.toNatClampNeg + nn.toNatClampNeg)) dd → OG p e below P (T'.setTop (mkF m pc' L S))) : OG p e below P (T.setTop (mkF m pc L (.int nn :: .int dp :: .ref b :: .int sp :: .ref a :: S))) := by
 subst hp; obtain ⟨T', h', l', X', e', N', K', V', st⟩ := cpA X hx hZ hown w1 w2 w3 w4 eT A B (Or.inl ⟨rfl, hty⟩) h1 h2 h3 h4 h5 hus hl N ge (g := mkF m pc L (.int nn :: .int dp :: .ref b :: .int sp :: .ref a :: S)) rfl hml rfl hd hf (W := W) (by show 2 * 0 + _ ≤ _; rw [hW]; omega) hlo
 exact OG.of st (k T' h' l' X' e' N' K' V')
theorem og_newarrayE (X : Stand p l e R s m args below meth c T locs cells slots) (hx : p.tables.exec = Jvm.exec) (hZ : Z.Warmed39 s.vm) {aty : ArrayType} {ty : FieldType} {cells' slots' : Nat} (hty : newarray.typeOf aty = ty) (w : (Cond.arrayClass ty).before a0 Z = true) (eT : T.heap = h) {n : Int32} (hn : ¬ n < 0) {cap : Nat} (hcap : n.toNatClampNeg ≤ cap) (hb : cap * 8 ≤ 536870912) {ad : String} (had : "[" ++ ty.toString = ad) (hd : decode c.code pc = .ok (.newarray aty, 2)) (hp : pc + 2 = pc') (hc' : cells + 1 = cells') (hs' : slots + cap = slots') (hc : cells' ≤ R.cells) (hl : slots' ≤ R.slots) (k : ∀ T' h' a kA, Stand p l e R s m args below meth c T' locs cells' slots' → T'.heap = h' → Ext h h' → a = h.size → Arv Z h' a kA ty n [] (defaultValue ty) → Exa Z h' a ad → OG p e below P (T'.setTop (mkF m pc' L (.ref a :: S)))) : OG p e below P (T.setTop (mkF m pc L (.int n :: S))) := by
 subst hp hc' hs' hty; obtain ⟨T', h', kA, X', e', E', A', EA, st⟩ := newPE X hx hZ w eT (g := mkF m pc L (.int n :: S)) rfl hd rfl hn hcap hb hc hl had
 exact OG.of st (k T' h' _ kA X' e' E' rfl (Arv.new A' hn) EA)
theorem og_clone (X : Stand p l e R s m args below meth c T locs cells slots) (hx : p.tables.exec = Jvm.exec) (hZ : Z.Warmed39 s.vm) {own ad : String} {index : Nat} (hml : L.size = c.maxLocals) (hown : s.vm.findClass own = some m.cls) (w1 : (Cond.methodLink own index ⟨ad, "clone", "()Ljava/lang/Object;"⟩).before a0 Z = true) (w2 : (Cond.sameMethod ad "java/lang/Object" "clone" "()Ljava/lang/Object;").before a0 Z = true) (w3 : (Cond.native ⟨"java/lang/Object", "clone", "()Ljava/lang/Object;"⟩).before a0 Z = true) (w4 : (Cond.instanceMethod ⟨"java/lang/Object", "clone", "()Ljava/lang/Object;"⟩).before a0 Z = true) (w5 : (Cond.selects ad ⟨ad, "clone", "()Ljava/lang/Object;"⟩ ⟨"java/lang/Object", "clone", "()Ljava/lang/Object;"⟩).before a0 Z = true) (w6 : (Cond.castable ad "java/lang/Cloneable").before a0 Z = true) (eT : T.heap = h) {a : Addr} {kA : ClassId} {z : Int32} {vs : List Value} {dv : Value} {ty : FieldType} (F : Arv Z h a kA ty z vs dv) (E : Exa Z h a ad) {W cap cells' slots' : Nat} (hW : (S.map fun v => v.category).sum = W) (hf : 1 ≤ R.frames) (hl : W + 14 ≤ R.locals) (hcap : z.toNatClampNeg ≤ cap) (hc' : cells + 1 = cells') (hs' : slots + cap = slots') (hc : cells' ≤ R.cells) (hs : slots' ≤ R.slots) (hd : decode c.code pc = .ok (.invokevirtual index, 3)) (hp : pc + 3 = pc') (k : ∀ T' h' b, Stand p l e R s m args below meth c T' locs cells' slots' → T'.heap = h' → Ext h h' → b = h.size → Arv Z h' b kA ty z vs dv → Exa Z h' b ad → OG p e below P (T'.setTop (mkF m pc' L (.ref b :: S)))) : OG p e below P (T.setTop (mkF m pc L (.ref a :: S))) := by
 subst hp hc' hs'; obtain ⟨T', h', X', e', E', V', A', st⟩ := cloneH X hx hZ hown w1 w2 w3 w4 w5 w6 eT F.arh E (g := mkF m pc L (.ref a :: S)) rfl hml rfl hd hf (W := W) (by show 2 * 0 + _ ≤ _; rw [hW]; omega) hl hcap hc hs
 exact OG.of st (k T' h' _ X' e' E' rfl V' A')
def Con (l : Launch) (Z : State) (y : MethodName) (bytes : ByteArray) (maxL : Nat) (ret : Option FieldType) (rm : Room) (as' : Array Value) (h : Heap) (Q : Option Value → Heap → List Loc → Prop) : Prop :=
 MetFree l y (head1 [Cond.code y bytes maxL ret] rm) (fun a U => a = as' ∧ Z.Warmed39 U.vm ∧ U.heap = h) (fun _ _ _ _ _ => True) (fun _ U o U' => ∃ v L, o = .returned v ∧ Q v U'.heap L ∧ FrameEnd U o U' L rm.cells rm.slots)
abbrev OFin (s : State) (Q : Option Value → Heap → List Loc → Prop) (k n : Nat) (o : Outcome) (t : State) : Prop := ∃ v L, o = .returned v ∧ Q v t.heap L ∧ FrameEnd s o t L k n
theorem own_start {y : MethodName} {bytes : ByteArray} {maxL : Nat} {ret : Option FieldType} {rm : Room} {as' : Array Value} {ws : List Cond} {Q : Option Value → Heap → List Loc → Prop} {kc ks : Nat} (hpn : plainFor y = true)
  (body : ∀ (p : Program) (e : Env) (s : State) (m : MethodId) (below : List Frame) (meth : Method) (c : Code) (T : State), Stand p l e rm s m as' below meth c T [] 0 0 → p.tables.exec = Jvm.exec → c.code = bytes → c.maxLocals = maxL → Z.Warmed39 s.vm → s.vm.findClass y.cls = some m.cls → meth.name = y.name → meth.sig.returnType = ret → meth.locks = false → T.heap = h → OG p e below (OFin s Q kc ks) (T.setTop (entryFrame m as' maxL))) :
  MetFree l y (head1 (Cond.code y bytes maxL ret :: ws) rm) (fun a U => a = as' ∧ Z.Warmed39 U.vm ∧ U.heap = h) (fun _ _ _ _ _ => True) (fun _ U o U' => ∃ v L, o = .returned v ∧ Q v U'.heap L ∧ FrameEnd U o U' L kc ks) := by
 refine MetFree.of_bodySF hpn hisR ?_
 intro p e s m args below meth c s₁ Bd hml0 hP hK
 obtain ⟨rfl, hZ, hh⟩ := hP
 exact body p e s m below meth c s₁ (Stand.of_body Bd) Bd.exec Bd.bytes hml0 hZ (findClass_of_methodNamed Bd.named) (name_of_methodNamed Bd.named Bd.method).1 Bd.returns Bd.notSynchronized (by rw [← hh, Bd.state]; rfl)
theorem own_startC {y : MethodName} {bytes : ByteArray} {maxL : Nat} {ret : Option FieldType} {rm : Room} {as' : Array Value} {Q : Option Value → Heap → List Loc → Prop} (hpn : plainFor y = true)
  (body : ∀ (p : Program) (e : Env) (s : State) (m : MethodId) (below : List Frame) (meth : Method) (c : Code) (T : State), Stand p l e rm s m as' below meth c T [] 0 0 → p.tables.exec = Jvm.exec → c.code = bytes → c.maxLocals = maxL → Z.Warmed39 s.vm → s.vm.findClass y.cls = some m.cls → meth.name = y.name → meth.sig.returnType = ret → meth.locks = false → T.heap = h → OG p e below (OFin s Q rm.cells rm.slots) (T.setTop (entryFrame m as' maxL))) : Con l Z y bytes maxL ret rm as' h Q := own_start (Q := Q) hpn body
theorem og_ret (X : Stand p l e R s m args below meth c T locs cells slots) (hlk : meth.locks = false) {Q : Option Value → Heap → List Loc → Prop} {kc ks : Nat} {g : JFrame} (v : Option Value) (hv : meth.sig.returnType = none → v = none)
  (st : ∀ fs, (∀ (f : JFrame) (acts : List Action), f.method = m → f.locked = none → f.entered = [] → (doReturn e (T.setTop f) acts v).1 = T.setFrames fs) → Steps p.tables e below (T.setTop g) (T.setFrames fs)) (hc : cells ≤ kc) (hs : slots ≤ ks) (hQ : Q v T.heap locs) : OG p e below (OFin s Q kc ks) (T.setTop g) := by
 obtain ⟨fs, hr, hrun, hended, hW, hsame⟩ := X.leave hv hlk
 exact ⟨_, _, st fs hr, hrun, hended, v, locs, rfl, hQ, ⟨_, rfl⟩, hW, hsame.mono hc hs⟩
theorem og_retI (X : Stand p l e R s m args below meth c T locs cells slots) (hx : p.tables.exec = Jvm.exec) (hlk : meth.locks = false) (hret : meth.sig.returnType = some .int) {Q : Option Value → Heap → List Loc → Prop} {kc ks : Nat} {z : Int32} (hd : decode c.code pc = .ok (.ireturn, 1)) (hc : cells ≤ kc) (hs : slots ≤ ks) (hQ : Q (some (.int z)) T.heap locs) : OG p e below (OFin s Q kc ks) (T.setTop (mkF m pc L (.int z :: S))) :=
 og_ret X hlk (some (.int z)) (fun q => by rw [hret] at q; cases q) (fun fs hr => retI X hx hret hd hr) hc hs hQ
theorem og_retN (X : Stand p l e R s m args below meth c T locs cells slots) (hx : p.tables.exec = Jvm.exec) (hlk : meth.locks = false) {t : FieldType} (hret : meth.sig.returnType = some t) (ht : t = .boolean ∨ t = .byte ∨ t = .char ∨ t = .short) {Q : Option Value → Heap → List Loc → Prop} {kc ks : Nat} {z : Int32} (hd : decode c.code pc = .ok (.ireturn, 1)) (hc : cells ≤ kc) (hs : slots ≤ ks) (hQ : Q (some (.int (nar t z))) T.heap locs) : OG p e below (OFin s Q kc ks) (T.setTop (mkF m pc L (.int z :: S))) :=
 og_ret X hlk (some (.int (nar t z))) (fun q => by rw [hret] at q; cases q) (fun fs hr => retN X hx hret ht hd hr) hc hs hQ
theorem og_retR (X : Stand p l e R s m args below meth c T locs cells slots) (hx : p.tables.exec = Jvm.exec) (hlk : meth.locks = false) {t : FieldType} (hret : meth.sig.returnType = some t) (ht : t.isReference = true) {Q : Option Value → Heap → List Loc → Prop} {kc ks : Nat} {v : Value} (hv : v.isRef = true) (hn : narrow t v = v) (hd : decode c.code pc = .ok (.areturn, 1)) (hc : cells ≤ kc) (hs : slots ≤ ks) (hQ : Q (some v) T.heap locs) : OG p e below (OFin s Q kc ks) (T.setTop (mkF m pc L (v :: S))) :=
 og_ret X hlk (some v) (fun q => by rw [hret] at q; cases q) (fun fs hr => retOut X hx hret hn (Or.inr (Or.inr (Or.inr (Or.inr ⟨rfl, ht, hv⟩)))) hd hr) hc hs hQ
theorem og_retV (X : Stand p l e R s m args below meth c T locs cells slots) (hx : p.tables.exec = Jvm.exec) (hlk : meth.locks = false) (hret : meth.sig.returnType = none) {Q : Option Value → Heap → List Loc → Prop} {kc ks : Nat} (hd : decode c.code pc = .ok (.return_, 1)) (hc : cells ≤ kc) (hs : slots ≤ ks) (hQ : Q none T.heap locs) : OG p e below (OFin s Q kc ks) (T.setTop (mkF m pc L [])) :=
 og_ret X hlk none (fun _ => rfl) (fun fs hr => X.returnOut hx hret hd hr) hc hs hQ
theorem og_static (X : Stand p l e R s m args below meth c T locs cells slots) (hx : p.tables.exec = Jvm.exec) (hZ : Z.Warmed39 s.vm) {own : String} {index : Nat} {y : MethodName} {bytes : ByteArray} {maxL : Nat} {ret : Option FieldType} {rm : Room} {as' : Array Value} {Q : Option Value → Heap → List Loc → Prop} {W cells' slots' : Nat} (hM : Con l Z y bytes maxL ret rm as' h Q) (hown : s.vm.findClass own = some m.cls) (w1 : (Cond.methodLink own index y).before a0 Z = true) (w2 : (Cond.static y).before a0 Z = true) (wz : (Cond.initialized y.cls).before a0 Z = true) (wc : (Cond.code y bytes maxL ret).before a0 Z = true) (hy : y.cls ≠ "java/lang/invoke/MethodHandle" ∧ y.cls ≠ "java/lang/invoke/VarHandle") (hml : L.size = c.maxLocals) (eT : T.heap = h) {ps : List FieldType} {rt : Option FieldType} (hpd : parseMethodDescriptor y.desc = some ⟨ps, rt⟩) (argsL rest : List Value) (hll : argsL.length = ps.length) (has : argsL.toArray = as') (hst : S = argsL.reverse ++ rest) (hW : (rest.map fun v => v.category).sum = W) (hf : rm.frames + 1 ≤ R.frames) (hl : W + (maxL + 11) + rm.locals ≤ R.locals) (hc' : cells + rm.cells = cells') (hs' : slots + rm.slots = slots') (hc : cells' ≤ R.cells) (hs : slots' ≤ R.slots) (hd : decode c.code pc = .ok (.invokestatic index, 3)) (hp : pc + 3 = pc') (k : ∀ v T' h' Lc, Stand p l e R s m args below meth c T' (locs ++ Lc) cells' slots' → T'.heap = h' → Q v h' Lc → OG p e below P (T'.setTop (mkF m pc' L (v.toList ++ rest)))) : OG p e below P (T.setTop (mkF m pc L S)) := by
 subst hp hst hc' hs' has
 obtain ⟨v, _, ⟨T1, L1, k1, n1⟩, -, X1, ⟨Lc, hQ, l1, y1, z1⟩, st⟩ := Jvm.LawKit.callS X hx (y := y) hown (mvT hZ w1) (mvT hZ w2) (mvT hZ wz) (mvT hZ wc) hy (backOf (W := W) hM hZ wc wz hf hl) (g := mkF m pc L (argsL.reverse ++ rest)) rfl hml (argsL := argsL) (rest := rest) (lenOf hpd hll) rfl (by show 2 * 0 + _ ≤ _; rw [hW]; omega) hd (fun _ _ => ⟨rfl, eT, hc, hs⟩)
 dsimp only [Pt.U, Pt.locs, Pt.cells, Pt.slots] at X1 l1 y1 z1 st hQ
 subst l1 y1 z1
 exact OG.of st (k v T1 _ Lc X1 rfl hQ)
theorem og_special (X : Stand p l e R s m args below meth c T locs cells slots) (hx : p.tables.exec = Jvm.exec) (hZ : Z.Warmed39 s.vm) {own : String} {index : Nat} {y : MethodName} {bytes : ByteArray} {maxL : Nat} {rm : Room} {as' : Array Value} {Q : Option Value → Heap → List Loc → Prop} {W cells' slots' : Nat} (hM : Con l Z y bytes maxL none rm as' h Q) (hin : y.name = "<init>") (hown : s.vm.findClass own = some m.cls) (w1 : (Cond.methodLink own index y).before a0 Z = true) (w2 : (Cond.instanceMethod y).before a0 Z = true) (wz : (Cond.initialized y.cls).before a0 Z = true) (wc : (Cond.code y bytes maxL none).before a0 Z = true) (hy : y.cls ≠ "java/lang/invoke/MethodHandle" ∧ y.cls ≠ "java/lang/invoke/VarHandle") (hml : L.size = c.maxLocals) (eT : T.heap = h) {ps : List FieldType} {rt : Option FieldType} (hpd : parseMethodDescriptor y.desc = some ⟨ps, rt⟩) {a : Addr} (argsL rest : List Value) (hll : argsL.length = ps.length) (has : (.ref a :: argsL).toArray = as') (hst : S = argsL.reverse ++ .ref a :: rest) (hW : (rest.map fun v => v.category).sum = W) (hf : rm.frames + 1 ≤ R.frames) (hl : W + (maxL + 11) + rm.locals ≤ R.locals) (hc' : cells + rm.cells = cells') (hs' : slots + rm.slots = slots') (hc : cells' ≤ R.cells) (hs : slots' ≤ R.slots) (hd : decode c.code pc = .ok (.invokespecial index, 3)) (hp : pc + 3 = pc') (k : ∀ v T' h' Lc, Stand p l e R s m args below meth c T' (locs ++ Lc) cells' slots' → T'.heap = h' → Q v h' Lc → OG p e below P (T'.setTop (mkF m pc' L (v.toList ++ rest)))) : OG p e below P (T.setTop (mkF m pc L S)) := by
 subst hp hst hc' hs' has
 obtain ⟨v, _, ⟨T1, L1, k1, n1⟩, -, X1, ⟨Lc, hQ, l1, y1, z1⟩, st⟩ := X.specialBack hx (y := y) hin hown (mvT hZ w1) (mvT hZ w2) (mvT hZ wc) hy (backOf (W := W) hM hZ wc wz hf hl) (g := mkF m pc L (argsL.reverse ++ .ref a :: rest)) rfl hml (Steps.refl _) (a := a) (argsL := argsL) (rest := rest) (lenOf hpd hll) rfl (by show 2 * 0 + _ ≤ _; rw [hW]; omega) hd (fun _ _ => ⟨rfl, eT, hc, hs⟩)
 dsimp only [Pt.U, Pt.locs, Pt.cells, Pt.slots] at X1 l1 y1 z1 st hQ
 subst l1 y1 z1
 exact OG.of (fun t k => st.trans k) (k v T1 _ Lc X1 rfl hQ)
theorem og_virtual (X : Stand p l e R s m args below meth c T locs cells slots) (hx : p.tables.exec = Jvm.exec) (hZ : Z.Warmed39 s.vm) {own C : String} {index : Nat} {y z : MethodName} {bytes : ByteArray} {maxL : Nat} {ret : Option FieldType} {rm : Room} {as' : Array Value} {Q : Option Value → Heap → List Loc → Prop} {W cells' slots' : Nat} (hM : Con l Z z bytes maxL ret rm as' h Q) (hown : s.vm.findClass own = some m.cls) (w1 : (Cond.methodLink own index y).before a0 Z = true) (w2 : (Cond.declares y).before a0 Z = true) (hnf : NotFace s y) (w3 : (Cond.selects C y z).before a0 Z = true) (w4 : (Cond.instanceMethod z).before a0 Z = true) (wz : (Cond.initialized z.cls).before a0 Z = true) (wc : (Cond.code z bytes maxL ret).before a0 Z = true) (hy : y.cls ≠ "java/lang/invoke/MethodHandle" ∧ y.cls ≠ "java/lang/invoke/VarHandle") (hml : L.size = c.maxLocals) (eT : T.heap = h) {ps : List FieldType} {rt : Option FieldType} (hpd : parseMethodDescriptor y.desc = some ⟨ps, rt⟩) {a : Addr} (argsL rest : List Value) (hll : argsL.length = ps.length) (has : (.ref a :: argsL).toArray = as') (hst : S = argsL.reverse ++ .ref a :: rest) (hW : (rest.map fun v => v.category).sum = W) (hf : rm.frames + 1 ≤ R.frames) (hl : W + (maxL + 11) + rm.locals ≤ R.locals) (hc' : cells + rm.cells = cells') (hs' : slots + rm.slots = slots') (hc : cells' ≤ R.cells) (hs : slots' ≤ R.slots) (E : Exa Z h a C) (hd : decode c.code pc = .ok (.invokevirtual index, 3)) (hp : pc + 3 = pc') (k : ∀ v T' h' Lc, Stand p l e R s m args below meth c T' (locs ++ Lc) cells' slots' → T'.heap = h' → Q v h' Lc → OG p e below P (T'.setTop (mkF m pc' L (v.toList ++ rest)))) : OG p e below P (T.setTop (mkF m pc L S)) := by
 subst hp hst hc' hs' has
 obtain ⟨cq, kq, qa, qb, qc⟩ := isOf hZ eT E
 obtain ⟨v, _, ⟨T1, L1, k1, n1⟩, -, X1, ⟨Lc, hQ, l1, y1, z1⟩, st⟩ := X.virtualBack hx (y := y) (z := z) hown (mvT hZ w1) (mvT hZ w2) hnf (mvT hZ w3) (mvT hZ w4) hy (backOf (W := W) hM hZ wc wz hf hl) qa qc (g := mkF m pc L (argsL.reverse ++ .ref a :: rest)) rfl hml (Steps.refl _) (argsL := argsL) (rest := rest) (lenOf hpd hll) rfl (by show 2 * 0 + _ ≤ _; rw [hW]; omega) hd (fun _ _ => ⟨rfl, eT, hc, hs⟩)
 dsimp only [Pt.U, Pt.locs, Pt.cells, Pt.slots] at X1 l1 y1 z1 st hQ
 subst l1 y1 z1
 exact OG.of (fun t k => st.trans k) (k v T1 _ Lc X1 rfl hQ)
theorem own_nf (hZ : Z.Warmed39 s.vm) {C : String} {y : MethodName} (w : (Cond.selects C y y).before a0 Z = true) : NotFace s y := notFace_of_selects (args := #[]) (mvT hZ w)
theorem own_n0 {n0 : Nat} (O : Old Z n0 h) : n0 ≤ h.size := O.1 ▸ O.2.1
theorem own_eqint {args : Array Value} {t : Term} {n : Int32} (q : (Cond.eq t (Term.int n)).value args s none s [] = some true) : t.eval args s none [] s = some (.int n) := by
  simp only [Cond.value, Term.eval] at q
  cases ht : t.eval args s none [] s with
  | none => simp [ht] at q
  | some x => cases x <;> simp [ht] at q ⊢; exact q
theorem own_nfc {y y' : MethodName} {C : String} {a0 : Array Value} (w : (Cond.declares y').before a0 Z = true) (w' : (Cond.selects C y' y').before a0 Z = true) (e : y.cls = y'.cls) : NotFace Z y := fun r0 hn => by
 obtain ⟨r1, r, hn', -⟩ := Cond.declares_spec w
 obtain ⟨k, hk, hi⟩ := notFace_of_selects w' r1 hn'
 have a := findClass_of_methodNamed hn
 have b := findClass_of_methodNamed hn'
 rw [e] at a
 have q : r0.cls = r1.cls := Option.some.inj (a.symm.trans b)
 exact ⟨k, by rw [q]; exact hk, hi⟩
theorem own_sameM {y : MethodName} {a0 : Array Value} (w : (Cond.declares y).before a0 Z = true) (nf : NotFace Z y) (hy : y.cls ≠ "java/lang/invoke/MethodHandle" ∧ y.cls ≠ "java/lang/invoke/VarHandle") : (Cond.sameMethod y.cls y.cls y.name y.desc).before a0 Z = true := by
 obtain ⟨r0, r, hn, hrm, -, -⟩ := Cond.declares_spec w
 obtain ⟨kr, hkr, hni⟩ := nf r0 hn
 have hc := findClass_of_methodNamed hn
 have hf := State.methodFound?_of_named hn hy
 simp [Cond.before, Cond.holds, Cond.value, hc, hf, hn, hkr, hni]
theorem own_selfp {y : MethodName} {C : String} {a0 : Array Value} (w : (Cond.selects C y y).before a0 Z = true) (wi : (Cond.instanceMethod y).before a0 Z = true) (wp : (Cond.privateMethod y).before a0 Z = true) (hy : y.cls ≠ "java/lang/invoke/MethodHandle" ∧ y.cls ≠ "java/lang/invoke/VarHandle") : (Cond.selects y.cls y y).before a0 Z = true := by
 obtain ⟨c2, r2, m2, -, -, q3, -, k, hk, hki⟩ := Cond.selects_spec w
 exact selects_self_of_private (findClass_of_methodNamed q3) hk hki (Cond.privateMethod_at wp) wi hy
theorem og_super (X : Stand p l e R s m args below meth c T locs cells slots) (hx : p.tables.exec = Jvm.exec) (hZ : Z.Warmed39 s.vm) {own K : String} {index : Nat} {y : MethodName} {bytes : ByteArray} {maxL : Nat} {ret : Option FieldType} {rm : Room} {as' : Array Value} {Q : Option Value → Heap → List Loc → Prop} {W cells' slots' : Nat} (hM : Con l Z y bytes maxL ret rm as' h Q) (hown : s.vm.findClass own = some m.cls) (w1 : (Cond.methodLink own index y).before a0 Z = true) (w2 : (Cond.sameMethod y.cls y.cls y.name y.desc).before a0 Z = true) (w3 : (Cond.instanceMethod y).before a0 Z = true) (w4 : (Cond.superclass own y.cls).before a0 Z = true) (hn : y.name ≠ "<init>") (wz : (Cond.initialized y.cls).before a0 Z = true) (wc : (Cond.code y bytes maxL ret).before a0 Z = true) (hy : y.cls ≠ "java/lang/invoke/MethodHandle" ∧ y.cls ≠ "java/lang/invoke/VarHandle") (hml : L.size = c.maxLocals) (eT : T.heap = h) {ps : List FieldType} {rt : Option FieldType} (hpd : parseMethodDescriptor y.desc = some ⟨ps, rt⟩) {a : Addr} (argsL rest : List Value) (hll : argsL.length = ps.length) (has : (.ref a :: argsL).toArray = as') (hst : S = argsL.reverse ++ .ref a :: rest) (hW : (rest.map fun v => v.category).sum = W) (hf : rm.frames + 1 ≤ R.frames) (hl : W + (maxL + 11) + rm.locals ≤ R.locals) (hc' : cells + rm.cells = cells') (hs' : slots + rm.slots = slots') (hc : cells' ≤ R.cells) (hs : slots' ≤ R.slots) (E : Exa Z h a K) (hd : decode c.code pc = .ok (.invokespecial index, 3)) (hp : pc + 3 = pc') (k : ∀ v T' h' Lc, Stand p l e R s m args below meth c T' (locs ++ Lc) cells' slots' → T'.heap = h' → Q v h' Lc → OG p e below P (T'.setTop (mkF m pc' L (v.toList ++ rest)))) : OG p e below P (T.setTop (mkF m pc L S)) := by
 subst hp hst hc' hs' has
 obtain ⟨v, _, ⟨T1, L1, k1, n1⟩, -, X1, ⟨Lc, hQ, l1, y1, z1⟩, st⟩ := superBack X hx hZ (y := y) hown w1 w2 w3 w4 hn (backOf (W := W) hM hZ wc wz hf hl) eT (Ins.self E) (g := mkF m pc L (argsL.reverse ++ .ref a :: rest)) rfl hml wc (argsL := argsL) (rest := rest) (lenOf hpd hll) rfl (by show 2 * 0 + _ ≤ _; rw [hW]; omega) hd (fun _ _ => ⟨rfl, eT, hc, hs⟩)
 dsimp only [Pt.U, Pt.locs, Pt.cells, Pt.slots] at X1 l1 y1 z1 st hQ
 subst l1 y1 z1
 exact OG.of (fun t k => st.trans k) (k v T1 _ Lc X1 rfl hQ)
theorem og_private (X : Stand p l e R s m args below meth c T locs cells slots) (hx : p.tables.exec = Jvm.exec) (hZ : Z.Warmed39 s.vm) {own : String} {index : Nat} {y : MethodName} {bytes : ByteArray} {maxL : Nat} {ret : Option FieldType} {rm : Room} {as' : Array Value} {Q : Option Value → Heap → List Loc → Prop} {W cells' slots' : Nat} (hM : Con l Z y bytes maxL ret rm as' h Q) (hown : s.vm.findClass own = some m.cls) (w1 : (Cond.methodLink own index y).before a0 Z = true) (w2 : (Cond.instanceMethod y).before a0 Z = true) (w3 : (Cond.selects y.cls y y).before a0 Z = true) (w4 : (Cond.privateMethod y).before a0 Z = true) (wz : (Cond.initialized y.cls).before a0 Z = true) (wc : (Cond.code y bytes maxL ret).before a0 Z = true) (hy : y.cls ≠ "java/lang/invoke/MethodHandle" ∧ y.cls ≠ "java/lang/invoke/VarHandle") (hml : L.size = c.maxLocals) (eT : T.heap = h) {ps : List FieldType} {rt : Option FieldType} (hpd : parseMethodDescriptor y.desc = some ⟨ps, rt⟩) {a : Addr} (argsL rest : List Value) (hll : argsL.length = ps.length) (has : (.ref a :: argsL).toArray = as') (hst : S = argsL.reverse ++ .ref a :: rest) (hW : (rest.map fun v => v.category).sum = W) (hf : rm.frames + 1 ≤ R.frames) (hl : W + (maxL + 11) + rm.locals ≤ R.locals) (hc' : cells + rm.cells = cells') (hs' : slots + rm.slots = slots') (hc : cells' ≤ R.cells) (hs : slots' ≤ R.slots) {C : String} (E : Exa Z h a C) (hd : decode c.code pc = .ok (.invokevirtual index, 3)) (hp : pc + 3 = pc') (k : ∀ v T' h' Lc, Stand p l e R s m args below meth c T' (locs ++ Lc) cells' slots' → T'.heap = h' → Q v h' Lc → OG p e below P (T'.setTop (mkF m pc' L (v.toList ++ rest)))) : OG p e below P (T.setTop (mkF m pc L S)) := by
 subst hp hst hc' hs' has
 obtain ⟨cq, q1, q2⟩ := E.cell
 obtain ⟨v, _, ⟨T1, L1, k1, n1⟩, -, X1, ⟨Lc, hQ, l1, y1, z1⟩, st⟩ := X.privateBack hx (y := y) hown (mvT hZ w1) (mvT hZ w2) (mvT hZ w3) (Cond.privateMethod_at (mvP hZ w4 (args := #[]))) (mvT hZ wc) hy (backOf (W := W) hM hZ wc wz hf hl) (g := mkF m pc L (argsL.reverse ++ .ref a :: rest)) rfl hml (Steps.refl _) (a := a) (by rw [eT]; exact q1) q2 (argsL := argsL) (rest := rest) (lenOf hpd hll) rfl (by show 2 * 0 + _ ≤ _; rw [hW]; omega) hd (fun _ _ => ⟨rfl, eT, hc, hs⟩)
 dsimp only [Pt.U, Pt.locs, Pt.cells, Pt.slots] at X1 l1 y1 z1 st hQ
 subst l1 y1 z1
 exact OG.of (fun t k => st.trans k) (k v T1 _ Lc X1 rfl hQ)
end OwnKit
abbrev HW (a0 : Array Value) (Z : State) : Prop := ∀ d ∈ tables_1, d.before a0 Z = true
theorem mg {c : Jvm.Cond} (i : Nat) (h : tables_1[i]? = some c) : c ∈ tables_1 := List.mem_of_getElem? h
section Words
variable {a0 : Array Value} {Z : State} (hw : HW a0 Z)
def ow0 := hw _ (mg 0 rfl)
def ow1 := hw _ (mg 1 rfl)
def ow2 := hw _ (mg 2 rfl)
def ow3 := hw _ (mg 3 rfl)
def ow4 := hw _ (mg 4 rfl)
def ow5 := hw _ (mg 5 rfl)
def ow6 := hw _ (mg 6 rfl)
def ow7 := hw _ (mg 7 rfl)
def ow8 := hw _ (mg 8 rfl)
def ow9 := hw _ (mg 9 rfl)
def ow10 := hw _ (mg 10 rfl)
def ow11 := hw _ (mg 11 rfl)
def ow12 := hw _ (mg 12 rfl)
def ow15 := hw _ (mg 15 rfl)
def ow16 := hw _ (mg 16 rfl)
def ow17 := hw _ (mg 17 rfl)
def ow18 := hw _ (mg 18 rfl)
def ow19 := hw _ (mg 19 rfl)
def ow20 := hw _ (mg 20 rfl)
def ow21 := hw _ (mg 21 rfl)
def ow22 := hw _ (mg 22 rfl)
def ow23 := hw _ (mg 23 rfl)
def ow24 := hw _ (mg 24 rfl)
def ow25 := hw _ (mg 25 rfl)
def ow26 := hw _ (mg 26 rfl)
def ow27 := hw _ (mg 27 rfl)
def ow28 := hw _ (mg 28 rfl)
def ow29 := hw _ (mg 29 rfl)
def ow30 := hw _ (mg 30 rfl)
def ow31 := hw _ (mg 31 rfl)
def ow32 := hw _ (mg 32 rfl)
def ow33 := hw _ (mg 33 rfl)
def ow34 := hw _ (mg 34 rfl)
def ow35 := hw _ (mg 35 rfl)
def ow36 := hw _ (mg 36 rfl)
def ow37 := hw _ (mg 37 rfl)
def ow38 := hw _ (mg 38 rfl)
def ow39 := hw _ (mg 39 rfl)
def ow40 := hw _ (mg 40 rfl)
def ow41 := hw _ (mg 41 rfl)
def ow42 := hw _ (mg 42 rfl)
def ow43 := hw _ (mg 43 rfl)
def ow44 := hw _ (mg 44 rfl)
def ow45 := hw _ (mg 45 rfl)
def ow46 := hw _ (mg 46 rfl)
def ow47 := hw _ (mg 47 rfl)
def ow48 := hw _ (mg 48 rfl)
def ow49 := hw _ (mg 49 rfl)
def ow50 := hw _ (mg 50 rfl)
def ow51 := hw _ (mg 51 rfl)
def ow52 := hw _ (mg 52 rfl)
def ow54 := hw _ (mg 54 rfl)
def ow55 := hw _ (mg 55 rfl)
def ow56 := hw _ (mg 56 rfl)
def ow57 := hw _ (mg 57 rfl)
def ow58 := hw _ (mg 58 rfl)
def ow59 := hw _ (mg 59 rfl)
def ow60 := hw _ (mg 60 rfl)
def ow61 := hw _ (mg 61 rfl)
def ow62 := hw _ (mg 62 rfl)
def ow63 := hw _ (mg 63 rfl)
def ow64 := hw _ (mg 64 rfl)
def ow65 := hw _ (mg 65 rfl)
def ow66 := hw _ (mg 66 rfl)
def ow67 := hw _ (mg 67 rfl)
def ow68 := hw _ (mg 68 rfl)
def ow69 := hw _ (mg 69 rfl)
def ow70 := hw _ (mg 70 rfl)
def ow71 := hw _ (mg 71 rfl)
def ow72 := hw _ (mg 72 rfl)
def ow73 := hw _ (mg 73 rfl)
def ow74 := hw _ (mg 74 rfl)
def ow75 := hw _ (mg 75 rfl)
def ow76 := hw _ (mg 76 rfl)
def ow77 := hw _ (mg 77 rfl)
def ow78 := hw _ (mg 78 rfl)
def ow79 := hw _ (mg 79 rfl)
def ow80 := hw _ (mg 80 rfl)
def ow81 := hw _ (mg 81 rfl)
def ow82 := hw _ (mg 82 rfl)
def ow83 := hw _ (mg 83 rfl)
def ow84 := hw _ (mg 84 rfl)
def ow85 := hw _ (mg 85 rfl)
def ow86 := hw _ (mg 86 rfl)
def ow87 := hw _ (mg 87 rfl)
def ow88 := hw _ (mg 88 rfl)
def ow89 := hw _ (mg 89 rfl)
def ow90 := hw _ (mg 90 rfl)
def ow91 := hw _ (mg 91 rfl)
def ow92 := hw _ (mg 92 rfl)
def ow93 := hw _ (mg 93 rfl)
def ow94 := hw _ (mg 94 rfl)
def ow95 := hw _ (mg 95 rfl)
def ow96 := hw _ (mg 96 rfl)
def ow97 := hw _ (mg 97 rfl)
def ow98 := hw _ (mg 98 rfl)
def ow99 := hw _ (mg 99 rfl)
def ow100 := hw _ (mg 100 rfl)
def ow101 := hw _ (mg 101 rfl)
def ow102 := hw _ (mg 102 rfl)
def ow103 := hw _ (mg 103 rfl)
def ow104 := hw _ (mg 104 rfl)
def ow105 := hw _ (mg 105 rfl)
def ow106 := hw _ (mg 106 rfl)
def ow107 := hw _ (mg 107 rfl)
def ow108 := hw _ (mg 108 rfl)
def ow109 := hw _ (mg 109 rfl)
def ow110 := hw _ (mg 110 rfl)
def ow111 := hw _ (mg 111 rfl)
def ow112 := hw _ (mg 112 rfl)
def ow113 := hw _ (mg 113 rfl)
def ow114 := hw _ (mg 114 rfl)
def ow115 := hw _ (mg 115 rfl)
def ow116 := hw _ (mg 116 rfl)
def ow117 := hw _ (mg 117 rfl)
def ow118 := hw _ (mg 118 rfl)
def ow119 := hw _ (mg 119 rfl)
def ow120 := hw _ (mg 120 rfl)
def ow121 := hw _ (mg 121 rfl)
def ow122 := hw _ (mg 122 rfl)
def ow123 := hw _ (mg 123 rfl)
def ow124 := hw _ (mg 124 rfl)
def ow125 := hw _ (mg 125 rfl)
def ow126 := hw _ (mg 126 rfl)
def ow127 := hw _ (mg 127 rfl)
def ow128 := hw _ (mg 128 rfl)
def ow129 := hw _ (mg 129 rfl)
def ow130 := hw _ (mg 130 rfl)
def ow131 := hw _ (mg 131 rfl)
def ow132 := hw _ (mg 132 rfl)
def ow133 := hw _ (mg 133 rfl)
def ow134 := hw _ (mg 134 rfl)
def ow135 := hw _ (mg 135 rfl)
def ow136 := hw _ (mg 136 rfl)
def ow137 := hw _ (mg 137 rfl)
def ow138 := hw _ (mg 138 rfl)
def ow139 := hw _ (mg 139 rfl)
def ow140 := hw _ (mg 140 rfl)
def ow141 := hw _ (mg 141 rfl)
def ow142 := hw _ (mg 142 rfl)
def ow143 := hw _ (mg 143 rfl)
def ow144 := hw _ (mg 144 rfl)
def ow145 := hw _ (mg 145 rfl)
def ow146 := hw _ (mg 146 rfl)
def ow147 := hw _ (mg 147 rfl)
def ow148 := hw _ (mg 148 rfl)
def ow149 := hw _ (mg 149 rfl)
def ow150 := hw _ (mg 150 rfl)
def ow151 := hw _ (mg 151 rfl)
def ow152 := hw _ (mg 152 rfl)
def ow153 := hw _ (mg 153 rfl)
def ow154 := hw _ (mg 154 rfl)
def ow155 := hw _ (mg 155 rfl)
def ow156 := hw _ (mg 156 rfl)
def ow157 := hw _ (mg 157 rfl)
def ow158 := hw _ (mg 158 rfl)
def ow160 := hw _ (mg 160 rfl)
def ow161 := hw _ (mg 161 rfl)
def ow162 := hw _ (mg 162 rfl)
def ow163 := hw _ (mg 163 rfl)
def ow164 := hw _ (mg 164 rfl)
def ow166 := hw _ (mg 166 rfl)
def ow167 := hw _ (mg 167 rfl)
def ow168 := hw _ (mg 168 rfl)
def ow169 := hw _ (mg 169 rfl)
def ow170 := hw _ (mg 170 rfl)
def ow171 := hw _ (mg 171 rfl)
def ow172 := hw _ (mg 172 rfl)
def ow173 := hw _ (mg 173 rfl)
def ow174 := hw _ (mg 174 rfl)
def ow175 := hw _ (mg 175 rfl)
def ow176 := hw _ (mg 176 rfl)
def ow177 := hw _ (mg 177 rfl)
def ow178 := hw _ (mg 178 rfl)
def ow179 := hw _ (mg 179 rfl)
def ow180 := hw _ (mg 180 rfl)
def ow181 := hw _ (mg 181 rfl)
def ow182 := hw _ (mg 182 rfl)
def ow183 := hw _ (mg 183 rfl)
def ow184 := hw _ (mg 184 rfl)
def ow185 := hw _ (mg 185 rfl)
def ow186 := hw _ (mg 186 rfl)
def ow187 := hw _ (mg 187 rfl)
def ow188 := hw _ (mg 188 rfl)
def ow189 := hw _ (mg 189 rfl)
def ow190 := hw _ (mg 190 rfl)
def ow191 := hw _ (mg 191 rfl)
def ow192 := hw _ (mg 192 rfl)
def ow193 := hw _ (mg 193 rfl)
def ow194 := hw _ (mg 194 rfl)
def ow195 := hw _ (mg 195 rfl)
def ow196 := hw _ (mg 196 rfl)
def ow197 := hw _ (mg 197 rfl)
def ow198 := hw _ (mg 198 rfl)
def ow199 := hw _ (mg 199 rfl)
def ow200 := hw _ (mg 200 rfl)
def ow201 := hw _ (mg 201 rfl)
def ow202 := hw _ (mg 202 rfl)
def ow203 := hw _ (mg 203 rfl)
def ow204 := hw _ (mg 204 rfl)
def ow205 := hw _ (mg 205 rfl)
def ow206 := hw _ (mg 206 rfl)
def ow207 := hw _ (mg 207 rfl)
def ow208 := hw _ (mg 208 rfl)
def ow209 := hw _ (mg 209 rfl)
def ow210 := hw _ (mg 210 rfl)
def ow211 := hw _ (mg 211 rfl)
def ow212 := hw _ (mg 212 rfl)
def ow213 := hw _ (mg 213 rfl)
def ow214 := hw _ (mg 214 rfl)
def ow215 := hw _ (mg 215 rfl)
def ow216 := hw _ (mg 216 rfl)
def ow217 := hw _ (mg 217 rfl)
def ow218 := hw _ (mg 218 rfl)
def ow219 := hw _ (mg 219 rfl)
def ow220 := hw _ (mg 220 rfl)
def ow221 := hw _ (mg 221 rfl)
def ow222 := hw _ (mg 222 rfl)
def ow223 := hw _ (mg 223 rfl)
def ow224 := hw _ (mg 224 rfl)
end Words
theorem opd_0 : parseMethodDescriptor "()B" = some ⟨[], some .byte⟩ := by decide +kernel
theorem opd_1 : parseMethodDescriptor "(I)I" = some ⟨[.int], some .int⟩ := by decide +kernel
theorem opd_2 : parseMethodDescriptor "(II[B)I" = some ⟨[.int, .int, (.array .byte)], some .int⟩ := by decide +kernel
theorem opd_3 : parseMethodDescriptor "([BB)V" = some ⟨[(.array .byte), .byte], none⟩ := by decide +kernel
theorem opd_4 : parseMethodDescriptor "(I)V" = some ⟨[.int], none⟩ := by decide +kernel
theorem opd_5 : parseMethodDescriptor "(II)I" = some ⟨[.int, .int], some .int⟩ := by decide +kernel
theorem opd_6 : parseMethodDescriptor "(III)I" = some ⟨[.int, .int, .int], some .int⟩ := by decide +kernel
theorem opd_7 : parseMethodDescriptor "([BI)[B" = some ⟨[(.array .byte), .int], some (.array .byte)⟩ := by decide +kernel
theorem opd_8 : parseMethodDescriptor "()Z" = some ⟨[], some .boolean⟩ := by decide +kernel
theorem opd_9 : parseMethodDescriptor "(C)Z" = some ⟨[.char], some .boolean⟩ := by decide +kernel
theorem opd_10 : parseMethodDescriptor "(C)Ljava/lang/AbstractStringBuilder;" = some ⟨[.char], some (.object "java/lang/AbstractStringBuilder")⟩ := by decide +kernel
theorem opd_11 : parseMethodDescriptor "(Ljava/lang/String;)V" = some ⟨[(.object "java/lang/String")], none⟩ := by decide +kernel
theorem opd_12 : parseMethodDescriptor "([BIB)V" = some ⟨[(.array .byte), .int, .byte], none⟩ := by decide +kernel
theorem opd_13 : parseMethodDescriptor "()I" = some ⟨[], some .int⟩ := by decide +kernel
theorem opd_14 : parseMethodDescriptor "(ILjava/lang/String;)V" = some ⟨[.int, (.object "java/lang/String")], none⟩ := by decide +kernel
theorem opd_15 : parseMethodDescriptor "(Ljava/lang/String;)Ljava/lang/AbstractStringBuilder;" = some ⟨[(.object "java/lang/String")], some (.object "java/lang/AbstractStringBuilder")⟩ := by decide +kernel
theorem opd_16 : parseMethodDescriptor "(II)V" = some ⟨[.int, .int], none⟩ := by decide +kernel
theorem opd_17 : parseMethodDescriptor "([BII)[B" = some ⟨[(.array .byte), .int, .int], some (.array .byte)⟩ := by decide +kernel
theorem opd_18 : parseMethodDescriptor "()[B" = some ⟨[], some (.array .byte)⟩ := by decide +kernel
theorem opd_19 : parseMethodDescriptor "(Ljava/lang/AbstractStringBuilder;Ljava/lang/Void;)V" = some ⟨[(.object "java/lang/AbstractStringBuilder"), (.object "java/lang/Void")], none⟩ := by decide +kernel
theorem opd_20 : parseMethodDescriptor "(Ljava/lang/StringBuilder;)V" = some ⟨[(.object "java/lang/StringBuilder")], none⟩ := by decide +kernel
theorem opd_21 : parseMethodDescriptor "(I)Ljava/lang/String;" = some ⟨[.int], some (.object "java/lang/String")⟩ := by decide +kernel
theorem opd_22 : parseMethodDescriptor "(C)Ljava/lang/StringBuilder;" = some ⟨[.char], some (.object "java/lang/StringBuilder")⟩ := by decide +kernel
theorem opd_23 : parseMethodDescriptor "(Ljava/lang/String;)Ljava/lang/StringBuilder;" = some ⟨[(.object "java/lang/String")], some (.object "java/lang/StringBuilder")⟩ := by decide +kernel
theorem opd_24 : parseMethodDescriptor "(Ljava/lang/StringBuilder;II)V" = some ⟨[(.object "java/lang/StringBuilder"), .int, .int], none⟩ := by decide +kernel
theorem opd_25 : parseMethodDescriptor "(Ljava/lang/StringBuilder;I)V" = some ⟨[(.object "java/lang/StringBuilder"), .int], none⟩ := by decide +kernel
theorem opd_26 : parseMethodDescriptor "()Ljava/lang/String;" = some ⟨[], some (.object "java/lang/String")⟩ := by decide +kernel
theorem opd_27 : parseMethodDescriptor "(IILjava/util/function/BiFunction;)I" = some ⟨[.int, .int, (.object "java/util/function/BiFunction")], some .int⟩ := by decide +kernel
theorem opd_28 : parseMethodDescriptor "([BI)C" = some ⟨[(.array .byte), .int], some .char⟩ := by decide +kernel
theorem opd_29 : parseMethodDescriptor "(I)C" = some ⟨[.int], some .char⟩ := by decide +kernel
theorem opd_30 : parseMethodDescriptor "(Ljava/lang/String;IIIII)Z" = some ⟨[(.object "java/lang/String"), .int, .int, .int, .int, .int], some .boolean⟩ := by decide +kernel
theorem d1_0 : decode prog_2_method_3_code 0 = .ok (.new 7, 3) := by decide +kernel
theorem d1_3 : decode prog_2_method_3_code 3 = .ok (.dup, 1) := by decide +kernel
theorem d1_4 : decode prog_2_method_3_code 4 = .ok (.iconst 4, 1) := by decide +kernel
theorem d1_5 : decode prog_2_method_3_code 5 = .ok (.invokespecial 9, 3) := by decide +kernel
theorem d1_8 : decode prog_2_method_3_code 8 = .ok (.astore_n 1, 1) := by decide +kernel
theorem d1_9 : decode prog_2_method_3_code 9 = .ok (.aload_n 1, 1) := by decide +kernel
theorem d1_10 : decode prog_2_method_3_code 10 = .ok (.iload_n 0, 1) := by decide +kernel
theorem d1_11 : decode prog_2_method_3_code 11 = .ok (.invokestatic 22, 3) := by decide +kernel
theorem d1_14 : decode prog_2_method_3_code 14 = .ok (.aload_n 1, 1) := by decide +kernel
theorem d1_15 : decode prog_2_method_3_code 15 = .ok (.invokevirtual 18, 3) := by decide +kernel
theorem d1_18 : decode prog_2_method_3_code 18 = .ok (.areturn, 1) := by decide +kernel
theorem d2_0 : decode jdk_67_method_2_code 0 = .ok (.aload_n 0, 1) := by decide +kernel
theorem d2_1 : decode jdk_67_method_2_code 1 = .ok (.iload_n 1, 1) := by decide +kernel
theorem d2_2 : decode jdk_67_method_2_code 2 = .ok (.invokespecial 1, 3) := by decide +kernel
theorem d2_5 : decode jdk_67_method_2_code 5 = .ok (.return_, 1) := by decide +kernel
theorem d3_0 : decode jdk_68_method_2_code 0 = .ok (.aload_n 0, 1) := by decide +kernel
theorem d3_1 : decode jdk_68_method_2_code 1 = .ok (.invokespecial 3, 3) := by decide +kernel
theorem d3_4 : decode jdk_68_method_2_code 4 = .ok (.getstatic 18, 3) := by decide +kernel
theorem d3_7 : decode jdk_68_method_2_code 7 = .ok (.ifCond .eq 18, 3) := by decide +kernel
theorem d3_10 : decode jdk_68_method_2_code 10 = .ok (.aload_n 0, 1) := by decide +kernel
theorem d3_11 : decode jdk_68_method_2_code 11 = .ok (.iload_n 1, 1) := by decide +kernel
theorem d3_12 : decode jdk_68_method_2_code 12 = .ok (.newarray .byte, 2) := by decide +kernel
theorem d3_14 : decode jdk_68_method_2_code 14 = .ok (.putfield 15, 3) := by decide +kernel
theorem d3_17 : decode jdk_68_method_2_code 17 = .ok (.aload_n 0, 1) := by decide +kernel
theorem d3_18 : decode jdk_68_method_2_code 18 = .ok (.iconst 0, 1) := by decide +kernel
theorem d3_19 : decode jdk_68_method_2_code 19 = .ok (.putfield 22, 3) := by decide +kernel
theorem d3_22 : decode jdk_68_method_2_code 22 = .ok (.goto 16, 3) := by decide +kernel
theorem d3_38 : decode jdk_68_method_2_code 38 = .ok (.return_, 1) := by decide +kernel
theorem d5_0 : decode prog_2_method_10_code 0 = .ok (.iload_n 1, 1) := by decide +kernel
theorem d5_1 : decode prog_2_method_10_code 1 = .ok (.ifCond .ge 10, 3) := by decide +kernel
theorem d5_4 : decode prog_2_method_10_code 4 = .ok (.aload_n 0, 1) := by decide +kernel
theorem d5_5 : decode prog_2_method_10_code 5 = .ok (.bipush 45, 2) := by decide +kernel
theorem d5_7 : decode prog_2_method_10_code 7 = .ok (.invokevirtual 86, 3) := by decide +kernel
theorem d5_10 : decode prog_2_method_10_code 10 = .ok (.pop, 1) := by decide +kernel
theorem d5_11 : decode prog_2_method_10_code 11 = .ok (.aload_n 0, 1) := by decide +kernel
theorem d5_12 : decode prog_2_method_10_code 12 = .ok (.iload_n 1, 1) := by decide +kernel
theorem d5_13 : decode prog_2_method_10_code 13 = .ok (.invokestatic 104, 3) := by decide +kernel
theorem d5_16 : decode prog_2_method_10_code 16 = .ok (.iconst 4, 1) := by decide +kernel
theorem d5_17 : decode prog_2_method_10_code 17 = .ok (.invokestatic 97, 3) := by decide +kernel
theorem d5_20 : decode prog_2_method_10_code 20 = .ok (.return_, 1) := by decide +kernel
theorem d6_0 : decode jdk_29_method_59_code 0 = .ok (.iload_n 0, 1) := by decide +kernel
theorem d6_1 : decode jdk_29_method_59_code 1 = .ok (.ifCond .ge 8, 3) := by decide +kernel
theorem d6_4 : decode jdk_29_method_59_code 4 = .ok (.iload_n 0, 1) := by decide +kernel
theorem d6_5 : decode jdk_29_method_59_code 5 = .ok (.ineg, 1) := by decide +kernel
theorem d6_6 : decode jdk_29_method_59_code 6 = .ok (.goto 4, 3) := by decide +kernel
theorem d6_9 : decode jdk_29_method_59_code 9 = .ok (.iload_n 0, 1) := by decide +kernel
theorem d6_10 : decode jdk_29_method_59_code 10 = .ok (.ireturn, 1) := by decide +kernel
theorem d7_0 : decode prog_2_method_14_code 0 = .ok (.iload_n 1, 1) := by decide +kernel
theorem d7_1 : decode prog_2_method_14_code 1 = .ok (.invokestatic 128, 3) := by decide +kernel
theorem d7_4 : decode prog_2_method_14_code 4 = .ok (.astore_n 3, 1) := by decide +kernel
theorem d7_5 : decode prog_2_method_14_code 5 = .ok (.iload_n 2, 1) := by decide +kernel
theorem d7_6 : decode prog_2_method_14_code 6 = .ok (.aload_n 3, 1) := by decide +kernel
theorem d7_7 : decode prog_2_method_14_code 7 = .ok (.invokevirtual 133, 3) := by decide +kernel
theorem d7_10 : decode prog_2_method_14_code 10 = .ok (.isub, 1) := by decide +kernel
theorem d7_11 : decode prog_2_method_14_code 11 = .ok (.istore 4, 2) := by decide +kernel
theorem d7_13 : decode prog_2_method_14_code 13 = .ok (.iload 4, 2) := by decide +kernel
theorem d7_15 : decode prog_2_method_14_code 15 = .ok (.ifCond .le 16, 3) := by decide +kernel
theorem d7_18 : decode prog_2_method_14_code 18 = .ok (.aload_n 0, 1) := by decide +kernel
theorem d7_19 : decode prog_2_method_14_code 19 = .ok (.bipush 48, 2) := by decide +kernel
theorem d7_21 : decode prog_2_method_14_code 21 = .ok (.invokevirtual 86, 3) := by decide +kernel
theorem d7_24 : decode prog_2_method_14_code 24 = .ok (.pop, 1) := by decide +kernel
theorem d7_25 : decode prog_2_method_14_code 25 = .ok (.iinc 4 (-1), 3) := by decide +kernel
theorem d7_28 : decode prog_2_method_14_code 28 = .ok (.goto (-15), 3) := by decide +kernel
theorem d7_31 : decode prog_2_method_14_code 31 = .ok (.aload_n 0, 1) := by decide +kernel
theorem d7_32 : decode prog_2_method_14_code 32 = .ok (.aload_n 3, 1) := by decide +kernel
theorem d7_33 : decode prog_2_method_14_code 33 = .ok (.invokevirtual 138, 3) := by decide +kernel
theorem d7_36 : decode prog_2_method_14_code 36 = .ok (.pop, 1) := by decide +kernel
theorem d7_37 : decode prog_2_method_14_code 37 = .ok (.return_, 1) := by decide +kernel
theorem d8_0 : decode jdk_33_method_10_code 0 = .ok (.iload_n 0, 1) := by decide +kernel
theorem d8_1 : decode jdk_33_method_10_code 1 = .ok (.invokestatic 72, 3) := by decide +kernel
theorem d8_4 : decode jdk_33_method_10_code 4 = .ok (.istore_n 1, 1) := by decide +kernel
theorem d8_5 : decode jdk_33_method_10_code 5 = .ok (.getstatic 13, 3) := by decide +kernel
theorem d8_8 : decode jdk_33_method_10_code 8 = .ok (.ifCond .eq 24, 3) := by decide +kernel
theorem d8_11 : decode jdk_33_method_10_code 11 = .ok (.iload_n 1, 1) := by decide +kernel
theorem d8_12 : decode jdk_33_method_10_code 12 = .ok (.newarray .byte, 2) := by decide +kernel
theorem d8_14 : decode jdk_33_method_10_code 14 = .ok (.astore_n 2, 1) := by decide +kernel
theorem d8_15 : decode jdk_33_method_10_code 15 = .ok (.iload_n 0, 1) := by decide +kernel
theorem d8_16 : decode jdk_33_method_10_code 16 = .ok (.iload_n 1, 1) := by decide +kernel
theorem d8_17 : decode jdk_33_method_10_code 17 = .ok (.aload_n 2, 1) := by decide +kernel
theorem d8_18 : decode jdk_33_method_10_code 18 = .ok (.invokestatic 75, 3) := by decide +kernel
theorem d8_21 : decode jdk_33_method_10_code 21 = .ok (.pop, 1) := by decide +kernel
theorem d8_22 : decode jdk_33_method_10_code 22 = .ok (.new 5, 3) := by decide +kernel
theorem d8_25 : decode jdk_33_method_10_code 25 = .ok (.dup, 1) := by decide +kernel
theorem d8_26 : decode jdk_33_method_10_code 26 = .ok (.aload_n 2, 1) := by decide +kernel
theorem d8_27 : decode jdk_33_method_10_code 27 = .ok (.iconst 0, 1) := by decide +kernel
theorem d8_28 : decode jdk_33_method_10_code 28 = .ok (.invokespecial 65, 3) := by decide +kernel
theorem d8_31 : decode jdk_33_method_10_code 31 = .ok (.areturn, 1) := by decide +kernel
theorem d9_0 : decode jdk_33_method_13_code 0 = .ok (.iconst 1, 1) := by decide +kernel
theorem d9_1 : decode jdk_33_method_13_code 1 = .ok (.istore_n 1, 1) := by decide +kernel
theorem d9_2 : decode jdk_33_method_13_code 2 = .ok (.iload_n 0, 1) := by decide +kernel
theorem d9_3 : decode jdk_33_method_13_code 3 = .ok (.ifCond .lt 8, 3) := by decide +kernel
theorem d9_6 : decode jdk_33_method_13_code 6 = .ok (.iconst 0, 1) := by decide +kernel
theorem d9_7 : decode jdk_33_method_13_code 7 = .ok (.istore_n 1, 1) := by decide +kernel
theorem d9_8 : decode jdk_33_method_13_code 8 = .ok (.iload_n 0, 1) := by decide +kernel
theorem d9_9 : decode jdk_33_method_13_code 9 = .ok (.ineg, 1) := by decide +kernel
theorem d9_10 : decode jdk_33_method_13_code 10 = .ok (.istore_n 0, 1) := by decide +kernel
theorem d9_11 : decode jdk_33_method_13_code 11 = .ok (.bipush (-10), 2) := by decide +kernel
theorem d9_13 : decode jdk_33_method_13_code 13 = .ok (.istore_n 2, 1) := by decide +kernel
theorem d9_14 : decode jdk_33_method_13_code 14 = .ok (.iconst 1, 1) := by decide +kernel
theorem d9_15 : decode jdk_33_method_13_code 15 = .ok (.istore_n 3, 1) := by decide +kernel
theorem d9_16 : decode jdk_33_method_13_code 16 = .ok (.iload_n 3, 1) := by decide +kernel
theorem d9_17 : decode jdk_33_method_13_code 17 = .ok (.bipush 10, 2) := by decide +kernel
theorem d9_19 : decode jdk_33_method_13_code 19 = .ok (.if_icmp .ge 23, 3) := by decide +kernel
theorem d9_22 : decode jdk_33_method_13_code 22 = .ok (.iload_n 0, 1) := by decide +kernel
theorem d9_23 : decode jdk_33_method_13_code 23 = .ok (.iload_n 2, 1) := by decide +kernel
theorem d9_24 : decode jdk_33_method_13_code 24 = .ok (.if_icmp .le 7, 3) := by decide +kernel
theorem d9_27 : decode jdk_33_method_13_code 27 = .ok (.iload_n 3, 1) := by decide +kernel
theorem d9_28 : decode jdk_33_method_13_code 28 = .ok (.iload_n 1, 1) := by decide +kernel
theorem d9_29 : decode jdk_33_method_13_code 29 = .ok (.iadd, 1) := by decide +kernel
theorem d9_30 : decode jdk_33_method_13_code 30 = .ok (.ireturn, 1) := by decide +kernel
theorem d9_31 : decode jdk_33_method_13_code 31 = .ok (.bipush 10, 2) := by decide +kernel
theorem d9_33 : decode jdk_33_method_13_code 33 = .ok (.iload_n 2, 1) := by decide +kernel
theorem d9_34 : decode jdk_33_method_13_code 34 = .ok (.imul, 1) := by decide +kernel
theorem d9_35 : decode jdk_33_method_13_code 35 = .ok (.istore_n 2, 1) := by decide +kernel
theorem d9_36 : decode jdk_33_method_13_code 36 = .ok (.iinc 3 1, 3) := by decide +kernel
theorem d9_39 : decode jdk_33_method_13_code 39 = .ok (.goto (-23), 3) := by decide +kernel
theorem d9_42 : decode jdk_33_method_13_code 42 = .ok (.bipush 10, 2) := by decide +kernel
theorem d9_44 : decode jdk_33_method_13_code 44 = .ok (.iload_n 1, 1) := by decide +kernel
theorem d9_45 : decode jdk_33_method_13_code 45 = .ok (.iadd, 1) := by decide +kernel
theorem d9_46 : decode jdk_33_method_13_code 46 = .ok (.ireturn, 1) := by decide +kernel
theorem d10_0 : decode jdk_33_method_12_code 0 = .ok (.iload_n 1, 1) := by decide +kernel
theorem d10_1 : decode jdk_33_method_12_code 1 = .ok (.istore 5, 2) := by decide +kernel
theorem d10_3 : decode jdk_33_method_12_code 3 = .ok (.iload_n 0, 1) := by decide +kernel
theorem d10_4 : decode jdk_33_method_12_code 4 = .ok (.ifCond .ge 7, 3) := by decide +kernel
theorem d10_11 : decode jdk_33_method_12_code 11 = .ok (.iconst 0, 1) := by decide +kernel
theorem d10_12 : decode jdk_33_method_12_code 12 = .ok (.istore 6, 2) := by decide +kernel
theorem d10_14 : decode jdk_33_method_12_code 14 = .ok (.iload 6, 2) := by decide +kernel
theorem d10_16 : decode jdk_33_method_12_code 16 = .ok (.ifCond .ne 6, 3) := by decide +kernel
theorem d10_19 : decode jdk_33_method_12_code 19 = .ok (.iload_n 0, 1) := by decide +kernel
theorem d10_20 : decode jdk_33_method_12_code 20 = .ok (.ineg, 1) := by decide +kernel
theorem d10_21 : decode jdk_33_method_12_code 21 = .ok (.istore_n 0, 1) := by decide +kernel
theorem d10_22 : decode jdk_33_method_12_code 22 = .ok (.iload_n 0, 1) := by decide +kernel
theorem d10_23 : decode jdk_33_method_12_code 23 = .ok (.bipush (-100), 2) := by decide +kernel
theorem d10_25 : decode jdk_33_method_12_code 25 = .ok (.if_icmp .gt 47, 3) := by decide +kernel
theorem d10_28 : decode jdk_33_method_12_code 28 = .ok (.iload_n 0, 1) := by decide +kernel
theorem d10_29 : decode jdk_33_method_12_code 29 = .ok (.bipush 100, 2) := by decide +kernel
theorem d10_31 : decode jdk_33_method_12_code 31 = .ok (.idiv, 1) := by decide +kernel
theorem d10_32 : decode jdk_33_method_12_code 32 = .ok (.istore_n 3, 1) := by decide +kernel
theorem d10_33 : decode jdk_33_method_12_code 33 = .ok (.iload_n 3, 1) := by decide +kernel
theorem d10_34 : decode jdk_33_method_12_code 34 = .ok (.bipush 100, 2) := by decide +kernel
theorem d10_36 : decode jdk_33_method_12_code 36 = .ok (.imul, 1) := by decide +kernel
theorem d10_37 : decode jdk_33_method_12_code 37 = .ok (.iload_n 0, 1) := by decide +kernel
theorem d10_38 : decode jdk_33_method_12_code 38 = .ok (.isub, 1) := by decide +kernel
theorem d10_39 : decode jdk_33_method_12_code 39 = .ok (.istore 4, 2) := by decide +kernel
theorem d10_41 : decode jdk_33_method_12_code 41 = .ok (.iload_n 3, 1) := by decide +kernel
theorem d10_42 : decode jdk_33_method_12_code 42 = .ok (.istore_n 0, 1) := by decide +kernel
theorem d10_43 : decode jdk_33_method_12_code 43 = .ok (.aload_n 2, 1) := by decide +kernel
theorem d10_44 : decode jdk_33_method_12_code 44 = .ok (.iinc 5 (-1), 3) := by decide +kernel
theorem d10_47 : decode jdk_33_method_12_code 47 = .ok (.iload 5, 2) := by decide +kernel
theorem d10_49 : decode jdk_33_method_12_code 49 = .ok (.getstatic 83, 3) := by decide +kernel
theorem d10_52 : decode jdk_33_method_12_code 52 = .ok (.iload 4, 2) := by decide +kernel
theorem d10_54 : decode jdk_33_method_12_code 54 = .ok (.baload, 1) := by decide +kernel
theorem d10_55 : decode jdk_33_method_12_code 55 = .ok (.bastore, 1) := by decide +kernel
theorem d10_56 : decode jdk_33_method_12_code 56 = .ok (.aload_n 2, 1) := by decide +kernel
theorem d10_57 : decode jdk_33_method_12_code 57 = .ok (.iinc 5 (-1), 3) := by decide +kernel
theorem d10_60 : decode jdk_33_method_12_code 60 = .ok (.iload 5, 2) := by decide +kernel
theorem d10_62 : decode jdk_33_method_12_code 62 = .ok (.getstatic 87, 3) := by decide +kernel
theorem d10_65 : decode jdk_33_method_12_code 65 = .ok (.iload 4, 2) := by decide +kernel
theorem d10_67 : decode jdk_33_method_12_code 67 = .ok (.baload, 1) := by decide +kernel
theorem d10_68 : decode jdk_33_method_12_code 68 = .ok (.bastore, 1) := by decide +kernel
theorem d10_69 : decode jdk_33_method_12_code 69 = .ok (.goto (-47), 3) := by decide +kernel
theorem d10_72 : decode jdk_33_method_12_code 72 = .ok (.aload_n 2, 1) := by decide +kernel
theorem d10_73 : decode jdk_33_method_12_code 73 = .ok (.iinc 5 (-1), 3) := by decide +kernel
theorem d10_76 : decode jdk_33_method_12_code 76 = .ok (.iload 5, 2) := by decide +kernel
theorem d10_78 : decode jdk_33_method_12_code 78 = .ok (.getstatic 83, 3) := by decide +kernel
theorem d10_81 : decode jdk_33_method_12_code 81 = .ok (.iload_n 0, 1) := by decide +kernel
theorem d10_82 : decode jdk_33_method_12_code 82 = .ok (.ineg, 1) := by decide +kernel
theorem d10_83 : decode jdk_33_method_12_code 83 = .ok (.baload, 1) := by decide +kernel
theorem d10_84 : decode jdk_33_method_12_code 84 = .ok (.bastore, 1) := by decide +kernel
theorem d10_85 : decode jdk_33_method_12_code 85 = .ok (.iload_n 0, 1) := by decide +kernel
theorem d10_86 : decode jdk_33_method_12_code 86 = .ok (.bipush (-9), 2) := by decide +kernel
theorem d10_88 : decode jdk_33_method_12_code 88 = .ok (.if_icmp .ge 16, 3) := by decide +kernel
theorem d10_91 : decode jdk_33_method_12_code 91 = .ok (.aload_n 2, 1) := by decide +kernel
theorem d10_92 : decode jdk_33_method_12_code 92 = .ok (.iinc 5 (-1), 3) := by decide +kernel
theorem d10_95 : decode jdk_33_method_12_code 95 = .ok (.iload 5, 2) := by decide +kernel
theorem d10_97 : decode jdk_33_method_12_code 97 = .ok (.getstatic 87, 3) := by decide +kernel
theorem d10_100 : decode jdk_33_method_12_code 100 = .ok (.iload_n 0, 1) := by decide +kernel
theorem d10_101 : decode jdk_33_method_12_code 101 = .ok (.ineg, 1) := by decide +kernel
theorem d10_102 : decode jdk_33_method_12_code 102 = .ok (.baload, 1) := by decide +kernel
theorem d10_103 : decode jdk_33_method_12_code 103 = .ok (.bastore, 1) := by decide +kernel
theorem d10_104 : decode jdk_33_method_12_code 104 = .ok (.iload 6, 2) := by decide +kernel
theorem d10_106 : decode jdk_33_method_12_code 106 = .ok (.ifCond .eq 12, 3) := by decide +kernel
theorem d10_118 : decode jdk_33_method_12_code 118 = .ok (.iload 5, 2) := by decide +kernel
theorem d10_120 : decode jdk_33_method_12_code 120 = .ok (.ireturn, 1) := by decide +kernel
theorem d11_0 : decode jdk_42_method_151_code 0 = .ok (.aload_n 0, 1) := by decide +kernel
theorem d11_1 : decode jdk_42_method_151_code 1 = .ok (.invokespecial 1, 3) := by decide +kernel
theorem d11_4 : decode jdk_42_method_151_code 4 = .ok (.aload_n 0, 1) := by decide +kernel
theorem d11_5 : decode jdk_42_method_151_code 5 = .ok (.aload_n 1, 1) := by decide +kernel
theorem d11_6 : decode jdk_42_method_151_code 6 = .ok (.putfield 9, 3) := by decide +kernel
theorem d11_9 : decode jdk_42_method_151_code 9 = .ok (.aload_n 0, 1) := by decide +kernel
theorem d11_10 : decode jdk_42_method_151_code 10 = .ok (.iload_n 2, 1) := by decide +kernel
theorem d11_11 : decode jdk_42_method_151_code 11 = .ok (.putfield 15, 3) := by decide +kernel
theorem d11_14 : decode jdk_42_method_151_code 14 = .ok (.return_, 1) := by decide +kernel
theorem d12_0 : decode jdk_42_method_54_code 0 = .ok (.aload_n 0, 1) := by decide +kernel
theorem d12_1 : decode jdk_42_method_54_code 1 = .ok (.getfield 9, 3) := by decide +kernel
theorem d12_4 : decode jdk_42_method_54_code 4 = .ok (.arraylength, 1) := by decide +kernel
theorem d12_5 : decode jdk_42_method_54_code 5 = .ok (.aload_n 0, 1) := by decide +kernel
theorem d12_6 : decode jdk_42_method_54_code 6 = .ok (.invokevirtual 335, 3) := by decide +kernel
theorem d12_9 : decode jdk_42_method_54_code 9 = .ok (.ishr, 1) := by decide +kernel
theorem d12_10 : decode jdk_42_method_54_code 10 = .ok (.ireturn, 1) := by decide +kernel
theorem d13_0 : decode jdk_42_method_152_code 0 = .ok (.getstatic 38, 3) := by decide +kernel
theorem d13_3 : decode jdk_42_method_152_code 3 = .ok (.ifCond .eq 10, 3) := by decide +kernel
theorem d13_6 : decode jdk_42_method_152_code 6 = .ok (.aload_n 0, 1) := by decide +kernel
theorem d13_7 : decode jdk_42_method_152_code 7 = .ok (.getfield 15, 3) := by decide +kernel
theorem d13_10 : decode jdk_42_method_152_code 10 = .ok (.goto 4, 3) := by decide +kernel
theorem d13_14 : decode jdk_42_method_152_code 14 = .ok (.ireturn, 1) := by decide +kernel
theorem d14_0 : decode jdk_67_method_14_code 0 = .ok (.aload_n 0, 1) := by decide +kernel
theorem d14_1 : decode jdk_67_method_14_code 1 = .ok (.iload_n 1, 1) := by decide +kernel
theorem d14_2 : decode jdk_67_method_14_code 2 = .ok (.invokespecial 50, 3) := by decide +kernel
theorem d14_5 : decode jdk_67_method_14_code 5 = .ok (.pop, 1) := by decide +kernel
theorem d14_6 : decode jdk_67_method_14_code 6 = .ok (.aload_n 0, 1) := by decide +kernel
theorem d14_7 : decode jdk_67_method_14_code 7 = .ok (.areturn, 1) := by decide +kernel
theorem d15_0 : decode jdk_68_method_31_code 0 = .ok (.aload_n 0, 1) := by decide +kernel
theorem d15_1 : decode jdk_68_method_31_code 1 = .ok (.aload_n 0, 1) := by decide +kernel
theorem d15_2 : decode jdk_68_method_31_code 2 = .ok (.getfield 79, 3) := by decide +kernel
theorem d15_5 : decode jdk_68_method_31_code 5 = .ok (.iconst 1, 1) := by decide +kernel
theorem d15_6 : decode jdk_68_method_31_code 6 = .ok (.iadd, 1) := by decide +kernel
theorem d15_7 : decode jdk_68_method_31_code 7 = .ok (.invokevirtual 100, 3) := by decide +kernel
theorem d15_10 : decode jdk_68_method_31_code 10 = .ok (.aload_n 0, 1) := by decide +kernel
theorem d15_11 : decode jdk_68_method_31_code 11 = .ok (.invokevirtual 83, 3) := by decide +kernel
theorem d15_14 : decode jdk_68_method_31_code 14 = .ok (.ifCond .eq 31, 3) := by decide +kernel
theorem d15_17 : decode jdk_68_method_31_code 17 = .ok (.iload_n 1, 1) := by decide +kernel
theorem d15_18 : decode jdk_68_method_31_code 18 = .ok (.invokestatic 191, 3) := by decide +kernel
theorem d15_21 : decode jdk_68_method_31_code 21 = .ok (.ifCond .eq 24, 3) := by decide +kernel
theorem d15_24 : decode jdk_68_method_31_code 24 = .ok (.aload_n 0, 1) := by decide +kernel
theorem d15_25 : decode jdk_68_method_31_code 25 = .ok (.getfield 15, 3) := by decide +kernel
theorem d15_28 : decode jdk_68_method_31_code 28 = .ok (.aload_n 0, 1) := by decide +kernel
theorem d15_29 : decode jdk_68_method_31_code 29 = .ok (.dup, 1) := by decide +kernel
theorem d15_30 : decode jdk_68_method_31_code 30 = .ok (.getfield 79, 3) := by decide +kernel
theorem d15_33 : decode jdk_68_method_31_code 33 = .ok (.dup_x1, 1) := by decide +kernel
theorem d15_34 : decode jdk_68_method_31_code 34 = .ok (.iconst 1, 1) := by decide +kernel
theorem d15_35 : decode jdk_68_method_31_code 35 = .ok (.iadd, 1) := by decide +kernel
theorem d15_36 : decode jdk_68_method_31_code 36 = .ok (.putfield 79, 3) := by decide +kernel
theorem d15_39 : decode jdk_68_method_31_code 39 = .ok (.iload_n 1, 1) := by decide +kernel
theorem d15_40 : decode jdk_68_method_31_code 40 = .ok (.i2b, 1) := by decide +kernel
theorem d15_41 : decode jdk_68_method_31_code 41 = .ok (.bastore, 1) := by decide +kernel
theorem d15_42 : decode jdk_68_method_31_code 42 = .ok (.goto 33, 3) := by decide +kernel
theorem d15_75 : decode jdk_68_method_31_code 75 = .ok (.aload_n 0, 1) := by decide +kernel
theorem d15_76 : decode jdk_68_method_31_code 76 = .ok (.areturn, 1) := by decide +kernel
theorem d16_0 : decode jdk_68_method_9_code 0 = .ok (.aload_n 0, 1) := by decide +kernel
theorem d16_1 : decode jdk_68_method_9_code 1 = .ok (.getfield 15, 3) := by decide +kernel
theorem d16_4 : decode jdk_68_method_9_code 4 = .ok (.arraylength, 1) := by decide +kernel
theorem d16_5 : decode jdk_68_method_9_code 5 = .ok (.aload_n 0, 1) := by decide +kernel
theorem d16_6 : decode jdk_68_method_9_code 6 = .ok (.getfield 22, 3) := by decide +kernel
theorem d16_9 : decode jdk_68_method_9_code 9 = .ok (.ishr, 1) := by decide +kernel
theorem d16_10 : decode jdk_68_method_9_code 10 = .ok (.istore_n 2, 1) := by decide +kernel
theorem d16_11 : decode jdk_68_method_9_code 11 = .ok (.iload_n 1, 1) := by decide +kernel
theorem d16_12 : decode jdk_68_method_9_code 12 = .ok (.iload_n 2, 1) := by decide +kernel
theorem d16_13 : decode jdk_68_method_9_code 13 = .ok (.isub, 1) := by decide +kernel
theorem d16_14 : decode jdk_68_method_9_code 14 = .ok (.ifCond .le 24, 3) := by decide +kernel
theorem d16_17 : decode jdk_68_method_9_code 17 = .ok (.aload_n 0, 1) := by decide +kernel
theorem d16_18 : decode jdk_68_method_9_code 18 = .ok (.aload_n 0, 1) := by decide +kernel
theorem d16_19 : decode jdk_68_method_9_code 19 = .ok (.getfield 15, 3) := by decide +kernel
theorem d16_22 : decode jdk_68_method_9_code 22 = .ok (.aload_n 0, 1) := by decide +kernel
theorem d16_23 : decode jdk_68_method_9_code 23 = .ok (.iload_n 1, 1) := by decide +kernel
theorem d16_24 : decode jdk_68_method_9_code 24 = .ok (.invokevirtual 104, 3) := by decide +kernel
theorem d16_27 : decode jdk_68_method_9_code 27 = .ok (.aload_n 0, 1) := by decide +kernel
theorem d16_28 : decode jdk_68_method_9_code 28 = .ok (.getfield 22, 3) := by decide +kernel
theorem d16_31 : decode jdk_68_method_9_code 31 = .ok (.ishl, 1) := by decide +kernel
theorem d16_32 : decode jdk_68_method_9_code 32 = .ok (.invokestatic 108, 3) := by decide +kernel
theorem d16_35 : decode jdk_68_method_9_code 35 = .ok (.putfield 15, 3) := by decide +kernel
theorem d16_38 : decode jdk_68_method_9_code 38 = .ok (.return_, 1) := by decide +kernel
theorem d17_0 : decode jdk_68_method_68_code 0 = .ok (.getstatic 18, 3) := by decide +kernel
theorem d17_3 : decode jdk_68_method_68_code 3 = .ok (.ifCond .eq 14, 3) := by decide +kernel
theorem d17_6 : decode jdk_68_method_68_code 6 = .ok (.aload_n 0, 1) := by decide +kernel
theorem d17_7 : decode jdk_68_method_68_code 7 = .ok (.getfield 22, 3) := by decide +kernel
theorem d17_10 : decode jdk_68_method_68_code 10 = .ok (.ifCond .ne 7, 3) := by decide +kernel
theorem d17_13 : decode jdk_68_method_68_code 13 = .ok (.iconst 1, 1) := by decide +kernel
theorem d17_14 : decode jdk_68_method_68_code 14 = .ok (.goto 4, 3) := by decide +kernel
theorem d17_18 : decode jdk_68_method_68_code 18 = .ok (.ireturn, 1) := by decide +kernel
theorem d18_0 : decode jdk_43_method_3_code 0 = .ok (.iload_n 0, 1) := by decide +kernel
theorem d18_1 : decode jdk_43_method_3_code 1 = .ok (.sipush 255, 3) := by decide +kernel
theorem d18_4 : decode jdk_43_method_3_code 4 = .ok (.if_icmp .gt 7, 3) := by decide +kernel
theorem d18_7 : decode jdk_43_method_3_code 7 = .ok (.iconst 1, 1) := by decide +kernel
theorem d18_8 : decode jdk_43_method_3_code 8 = .ok (.goto 4, 3) := by decide +kernel
theorem d18_12 : decode jdk_43_method_3_code 12 = .ok (.ireturn, 1) := by decide +kernel
theorem d19_0 : decode jdk_67_method_7_code 0 = .ok (.aload_n 0, 1) := by decide +kernel
theorem d19_1 : decode jdk_67_method_7_code 1 = .ok (.aload_n 1, 1) := by decide +kernel
theorem d19_2 : decode jdk_67_method_7_code 2 = .ok (.invokespecial 29, 3) := by decide +kernel
theorem d19_5 : decode jdk_67_method_7_code 5 = .ok (.pop, 1) := by decide +kernel
theorem d19_6 : decode jdk_67_method_7_code 6 = .ok (.aload_n 0, 1) := by decide +kernel
theorem d19_7 : decode jdk_67_method_7_code 7 = .ok (.areturn, 1) := by decide +kernel
theorem d20_0 : decode jdk_68_method_22_code 0 = .ok (.aload_n 1, 1) := by decide +kernel
theorem d20_1 : decode jdk_68_method_22_code 1 = .ok (.ifnonnull 8, 3) := by decide +kernel
theorem d20_9 : decode jdk_68_method_22_code 9 = .ok (.aload_n 1, 1) := by decide +kernel
theorem d20_10 : decode jdk_68_method_22_code 10 = .ok (.invokevirtual 32, 3) := by decide +kernel
theorem d20_13 : decode jdk_68_method_22_code 13 = .ok (.istore_n 2, 1) := by decide +kernel
theorem d20_14 : decode jdk_68_method_22_code 14 = .ok (.aload_n 0, 1) := by decide +kernel
theorem d20_15 : decode jdk_68_method_22_code 15 = .ok (.aload_n 0, 1) := by decide +kernel
theorem d20_16 : decode jdk_68_method_22_code 16 = .ok (.getfield 79, 3) := by decide +kernel
theorem d20_19 : decode jdk_68_method_22_code 19 = .ok (.iload_n 2, 1) := by decide +kernel
theorem d20_20 : decode jdk_68_method_22_code 20 = .ok (.iadd, 1) := by decide +kernel
theorem d20_21 : decode jdk_68_method_22_code 21 = .ok (.invokevirtual 100, 3) := by decide +kernel
theorem d20_24 : decode jdk_68_method_22_code 24 = .ok (.aload_n 0, 1) := by decide +kernel
theorem d20_25 : decode jdk_68_method_22_code 25 = .ok (.aload_n 0, 1) := by decide +kernel
theorem d20_26 : decode jdk_68_method_22_code 26 = .ok (.getfield 79, 3) := by decide +kernel
theorem d20_29 : decode jdk_68_method_22_code 29 = .ok (.aload_n 1, 1) := by decide +kernel
theorem d20_30 : decode jdk_68_method_22_code 30 = .ok (.invokevirtual 208, 3) := by decide +kernel
theorem d20_33 : decode jdk_68_method_22_code 33 = .ok (.aload_n 0, 1) := by decide +kernel
theorem d20_34 : decode jdk_68_method_22_code 34 = .ok (.dup, 1) := by decide +kernel
theorem d20_35 : decode jdk_68_method_22_code 35 = .ok (.getfield 79, 3) := by decide +kernel
theorem d20_38 : decode jdk_68_method_22_code 38 = .ok (.iload_n 2, 1) := by decide +kernel
theorem d20_39 : decode jdk_68_method_22_code 39 = .ok (.iadd, 1) := by decide +kernel
theorem d20_40 : decode jdk_68_method_22_code 40 = .ok (.putfield 79, 3) := by decide +kernel
theorem d20_43 : decode jdk_68_method_22_code 43 = .ok (.aload_n 0, 1) := by decide +kernel
theorem d20_44 : decode jdk_68_method_22_code 44 = .ok (.areturn, 1) := by decide +kernel
theorem d21_0 : decode jdk_68_method_73_code 0 = .ok (.aload_n 0, 1) := by decide +kernel
theorem d21_1 : decode jdk_68_method_73_code 1 = .ok (.aload_n 2, 1) := by decide +kernel
theorem d21_2 : decode jdk_68_method_73_code 2 = .ok (.invokevirtual 397, 3) := by decide +kernel
theorem d21_5 : decode jdk_68_method_73_code 5 = .ok (.aload_n 2, 1) := by decide +kernel
theorem d21_6 : decode jdk_68_method_73_code 6 = .ok (.aload_n 0, 1) := by decide +kernel
theorem d21_7 : decode jdk_68_method_73_code 7 = .ok (.getfield 15, 3) := by decide +kernel
theorem d21_10 : decode jdk_68_method_73_code 10 = .ok (.iload_n 1, 1) := by decide +kernel
theorem d21_11 : decode jdk_68_method_73_code 11 = .ok (.aload_n 0, 1) := by decide +kernel
theorem d21_12 : decode jdk_68_method_73_code 12 = .ok (.getfield 22, 3) := by decide +kernel
theorem d21_15 : decode jdk_68_method_73_code 15 = .ok (.invokevirtual 399, 3) := by decide +kernel
theorem d21_18 : decode jdk_68_method_73_code 18 = .ok (.return_, 1) := by decide +kernel
theorem d22_0 : decode jdk_68_method_71_code 0 = .ok (.getstatic 18, 3) := by decide +kernel
theorem d22_3 : decode jdk_68_method_71_code 3 = .ok (.ifCond .eq 18, 3) := by decide +kernel
theorem d22_6 : decode jdk_68_method_71_code 6 = .ok (.aload_n 0, 1) := by decide +kernel
theorem d22_7 : decode jdk_68_method_71_code 7 = .ok (.getfield 22, 3) := by decide +kernel
theorem d22_10 : decode jdk_68_method_71_code 10 = .ok (.aload_n 1, 1) := by decide +kernel
theorem d22_11 : decode jdk_68_method_71_code 11 = .ok (.invokevirtual 40, 3) := by decide +kernel
theorem d22_14 : decode jdk_68_method_71_code 14 = .ok (.if_icmp .eq 7, 3) := by decide +kernel
theorem d22_21 : decode jdk_68_method_71_code 21 = .ok (.return_, 1) := by decide +kernel
theorem d23_0 : decode jdk_42_method_147_code 0 = .ok (.aload_n 0, 1) := by decide +kernel
theorem d23_1 : decode jdk_42_method_147_code 1 = .ok (.invokevirtual 335, 3) := by decide +kernel
theorem d23_4 : decode jdk_42_method_147_code 4 = .ok (.iload_n 3, 1) := by decide +kernel
theorem d23_5 : decode jdk_42_method_147_code 5 = .ok (.if_icmp .ne 23, 3) := by decide +kernel
theorem d23_8 : decode jdk_42_method_147_code 8 = .ok (.aload_n 0, 1) := by decide +kernel
theorem d23_9 : decode jdk_42_method_147_code 9 = .ok (.getfield 9, 3) := by decide +kernel
theorem d23_12 : decode jdk_42_method_147_code 12 = .ok (.iconst 0, 1) := by decide +kernel
theorem d23_13 : decode jdk_42_method_147_code 13 = .ok (.aload_n 1, 1) := by decide +kernel
theorem d23_14 : decode jdk_42_method_147_code 14 = .ok (.iload_n 2, 1) := by decide +kernel
theorem d23_15 : decode jdk_42_method_147_code 15 = .ok (.iload_n 3, 1) := by decide +kernel
theorem d23_16 : decode jdk_42_method_147_code 16 = .ok (.ishl, 1) := by decide +kernel
theorem d23_17 : decode jdk_42_method_147_code 17 = .ok (.aload_n 0, 1) := by decide +kernel
theorem d23_18 : decode jdk_42_method_147_code 18 = .ok (.getfield 9, 3) := by decide +kernel
theorem d23_21 : decode jdk_42_method_147_code 21 = .ok (.arraylength, 1) := by decide +kernel
theorem d23_22 : decode jdk_42_method_147_code 22 = .ok (.invokestatic 212, 3) := by decide +kernel
theorem d23_25 : decode jdk_42_method_147_code 25 = .ok (.goto 18, 3) := by decide +kernel
theorem d23_43 : decode jdk_42_method_147_code 43 = .ok (.return_, 1) := by decide +kernel
theorem d24_0 : decode jdk_67_method_42_code 0 = .ok (.new 18, 3) := by decide +kernel
theorem d24_3 : decode jdk_67_method_42_code 3 = .ok (.dup, 1) := by decide +kernel
theorem d24_4 : decode jdk_67_method_42_code 4 = .ok (.aload_n 0, 1) := by decide +kernel
theorem d24_5 : decode jdk_67_method_42_code 5 = .ok (.invokespecial 137, 3) := by decide +kernel
theorem d24_8 : decode jdk_67_method_42_code 8 = .ok (.areturn, 1) := by decide +kernel
theorem d25_0 : decode jdk_42_method_53_code 0 = .ok (.aload_n 0, 1) := by decide +kernel
theorem d25_1 : decode jdk_42_method_53_code 1 = .ok (.aload_n 1, 1) := by decide +kernel
theorem d25_2 : decode jdk_42_method_53_code 2 = .ok (.aconst_null, 1) := by decide +kernel
theorem d25_3 : decode jdk_42_method_53_code 3 = .ok (.invokespecial 489, 3) := by decide +kernel
theorem d25_6 : decode jdk_42_method_53_code 6 = .ok (.return_, 1) := by decide +kernel
theorem d26_0 : decode jdk_42_method_150_code 0 = .ok (.aload_n 0, 1) := by decide +kernel
theorem d26_1 : decode jdk_42_method_150_code 1 = .ok (.invokespecial 1, 3) := by decide +kernel
theorem d26_4 : decode jdk_42_method_150_code 4 = .ok (.aload_n 1, 1) := by decide +kernel
theorem d26_5 : decode jdk_42_method_150_code 5 = .ok (.invokevirtual 552, 3) := by decide +kernel
theorem d26_8 : decode jdk_42_method_150_code 8 = .ok (.astore_n 3, 1) := by decide +kernel
theorem d26_9 : decode jdk_42_method_150_code 9 = .ok (.aload_n 1, 1) := by decide +kernel
theorem d26_10 : decode jdk_42_method_150_code 10 = .ok (.invokevirtual 549, 3) := by decide +kernel
theorem d26_13 : decode jdk_42_method_150_code 13 = .ok (.istore 4, 2) := by decide +kernel
theorem d26_15 : decode jdk_42_method_150_code 15 = .ok (.aload_n 1, 1) := by decide +kernel
theorem d26_16 : decode jdk_42_method_150_code 16 = .ok (.invokevirtual 1047, 3) := by decide +kernel
theorem d26_19 : decode jdk_42_method_150_code 19 = .ok (.ifCond .eq 22, 3) := by decide +kernel
theorem d26_22 : decode jdk_42_method_150_code 22 = .ok (.aload_n 0, 1) := by decide +kernel
theorem d26_23 : decode jdk_42_method_150_code 23 = .ok (.iconst 0, 1) := by decide +kernel
theorem d26_24 : decode jdk_42_method_150_code 24 = .ok (.putfield 15, 3) := by decide +kernel
theorem d26_27 : decode jdk_42_method_150_code 27 = .ok (.aload_n 0, 1) := by decide +kernel
theorem d26_28 : decode jdk_42_method_150_code 28 = .ok (.aload_n 3, 1) := by decide +kernel
theorem d26_29 : decode jdk_42_method_150_code 29 = .ok (.iconst 0, 1) := by decide +kernel
theorem d26_30 : decode jdk_42_method_150_code 30 = .ok (.iload 4, 2) := by decide +kernel
theorem d26_32 : decode jdk_42_method_150_code 32 = .ok (.invokestatic 54, 3) := by decide +kernel
theorem d26_35 : decode jdk_42_method_150_code 35 = .ok (.putfield 9, 3) := by decide +kernel
theorem d26_38 : decode jdk_42_method_150_code 38 = .ok (.goto 59, 3) := by decide +kernel
theorem d26_97 : decode jdk_42_method_150_code 97 = .ok (.return_, 1) := by decide +kernel
theorem d27_0 : decode jdk_68_method_64_code 0 = .ok (.aload_n 0, 1) := by decide +kernel
theorem d27_1 : decode jdk_68_method_64_code 1 = .ok (.getfield 15, 3) := by decide +kernel
theorem d27_4 : decode jdk_68_method_64_code 4 = .ok (.areturn, 1) := by decide +kernel
theorem d28_0 : decode jdk_67_method_93_code 0 = .ok (.aload_n 0, 1) := by decide +kernel
theorem d28_1 : decode jdk_67_method_93_code 1 = .ok (.invokespecial 343, 3) := by decide +kernel
theorem d28_4 : decode jdk_67_method_93_code 4 = .ok (.ireturn, 1) := by decide +kernel
theorem d29_0 : decode jdk_68_method_6_code 0 = .ok (.aload_n 0, 1) := by decide +kernel
theorem d29_1 : decode jdk_68_method_6_code 1 = .ok (.getfield 79, 3) := by decide +kernel
theorem d29_4 : decode jdk_68_method_6_code 4 = .ok (.ireturn, 1) := by decide +kernel
theorem d30_0 : decode jdk_65_method_132_code 0 = .ok (.iload_n 1, 1) := by decide +kernel
theorem d30_1 : decode jdk_65_method_132_code 1 = .ok (.ifCond .ne 9, 3) := by decide +kernel
theorem d30_4 : decode jdk_65_method_132_code 4 = .ok (.iload_n 2, 1) := by decide +kernel
theorem d30_5 : decode jdk_65_method_132_code 5 = .ok (.aload_n 0, 1) := by decide +kernel
theorem d30_6 : decode jdk_65_method_132_code 6 = .ok (.arraylength, 1) := by decide +kernel
theorem d30_7 : decode jdk_65_method_132_code 7 = .ok (.if_icmp .eq 10, 3) := by decide +kernel
theorem d30_10 : decode jdk_65_method_132_code 10 = .ok (.aload_n 0, 1) := by decide +kernel
theorem d30_11 : decode jdk_65_method_132_code 11 = .ok (.iload_n 1, 1) := by decide +kernel
theorem d30_12 : decode jdk_65_method_132_code 12 = .ok (.iload_n 2, 1) := by decide +kernel
theorem d30_13 : decode jdk_65_method_132_code 13 = .ok (.invokestatic 339, 3) := by decide +kernel
theorem d30_16 : decode jdk_65_method_132_code 16 = .ok (.areturn, 1) := by decide +kernel
theorem d30_17 : decode jdk_65_method_132_code 17 = .ok (.aload_n 0, 1) := by decide +kernel
theorem d30_18 : decode jdk_65_method_132_code 18 = .ok (.invokevirtual 310, 3) := by decide +kernel
theorem d30_21 : decode jdk_65_method_132_code 21 = .ok (.checkcast 311, 3) := by decide +kernel
theorem d30_24 : decode jdk_65_method_132_code 24 = .ok (.areturn, 1) := by decide +kernel
theorem d31_0 : decode method_3_code 0 = .ok (.iload 4, 2) := by decide +kernel
theorem d31_2 : decode method_3_code 2 = .ok (.iload_n 2, 1) := by decide +kernel
theorem d31_3 : decode method_3_code 3 = .ok (.if_icmp .lt 5, 3) := by decide +kernel
theorem d31_6 : decode method_3_code 6 = .ok (.iconst 1, 1) := by decide +kernel
theorem d31_7 : decode method_3_code 7 = .ok (.ireturn, 1) := by decide +kernel
theorem d31_8 : decode method_3_code 8 = .ok (.aload_n 0, 1) := by decide +kernel
theorem d31_9 : decode method_3_code 9 = .ok (.iload_n 1, 1) := by decide +kernel
theorem d31_10 : decode method_3_code 10 = .ok (.iconst 1, 1) := by decide +kernel
theorem d31_11 : decode method_3_code 11 = .ok (.isub, 1) := by decide +kernel
theorem d31_12 : decode method_3_code 12 = .ok (.iload 4, 2) := by decide +kernel
theorem d31_14 : decode method_3_code 14 = .ok (.isub, 1) := by decide +kernel
theorem d31_15 : decode method_3_code 15 = .ok (.invokevirtual 27, 3) := by decide +kernel
theorem d31_18 : decode method_3_code 18 = .ok (.istore 6, 2) := by decide +kernel
theorem d31_20 : decode method_3_code 20 = .ok (.iload 6, 2) := by decide +kernel
theorem d31_22 : decode method_3_code 22 = .ok (.bipush 48, 2) := by decide +kernel
theorem d31_24 : decode method_3_code 24 = .ok (.iload_n 3, 1) := by decide +kernel
theorem d31_25 : decode method_3_code 25 = .ok (.iload 5, 2) := by decide +kernel
theorem d31_27 : decode method_3_code 27 = .ok (.idiv, 1) := by decide +kernel
theorem d31_28 : decode method_3_code 28 = .ok (.bipush 10, 2) := by decide +kernel
theorem d31_30 : decode method_3_code 30 = .ok (.irem, 1) := by decide +kernel
theorem d31_31 : decode method_3_code 31 = .ok (.iadd, 1) := by decide +kernel
theorem d31_32 : decode method_3_code 32 = .ok (.i2c, 1) := by decide +kernel
theorem d31_33 : decode method_3_code 33 = .ok (.if_icmp .ne 7, 3) := by decide +kernel
theorem d31_36 : decode method_3_code 36 = .ok (.iconst 1, 1) := by decide +kernel
theorem d31_37 : decode method_3_code 37 = .ok (.goto 4, 3) := by decide +kernel
theorem d31_41 : decode method_3_code 41 = .ok (.ireturn, 1) := by decide +kernel
theorem d32_0 : decode jdk_42_method_56_code 0 = .ok (.aload_n 0, 1) := by decide +kernel
theorem d32_1 : decode jdk_42_method_56_code 1 = .ok (.invokevirtual 492, 3) := by decide +kernel
theorem d32_4 : decode jdk_42_method_56_code 4 = .ok (.ifCond .eq 12, 3) := by decide +kernel
theorem d32_7 : decode jdk_42_method_56_code 7 = .ok (.aload_n 0, 1) := by decide +kernel
theorem d32_8 : decode jdk_42_method_56_code 8 = .ok (.getfield 9, 3) := by decide +kernel
theorem d32_11 : decode jdk_42_method_56_code 11 = .ok (.iload_n 1, 1) := by decide +kernel
theorem d32_12 : decode jdk_42_method_56_code 12 = .ok (.invokestatic 495, 3) := by decide +kernel
theorem d32_15 : decode jdk_42_method_56_code 15 = .ok (.ireturn, 1) := by decide +kernel
theorem d33_0 : decode jdk_42_method_154_code 0 = .ok (.getstatic 38, 3) := by decide +kernel
theorem d33_3 : decode jdk_42_method_154_code 3 = .ok (.ifCond .eq 14, 3) := by decide +kernel
theorem d33_6 : decode jdk_42_method_154_code 6 = .ok (.aload_n 0, 1) := by decide +kernel
theorem d33_7 : decode jdk_42_method_154_code 7 = .ok (.getfield 15, 3) := by decide +kernel
theorem d33_10 : decode jdk_42_method_154_code 10 = .ok (.ifCond .ne 7, 3) := by decide +kernel
theorem d33_13 : decode jdk_42_method_154_code 13 = .ok (.iconst 1, 1) := by decide +kernel
theorem d33_14 : decode jdk_42_method_154_code 14 = .ok (.goto 4, 3) := by decide +kernel
theorem d33_18 : decode jdk_42_method_154_code 18 = .ok (.ireturn, 1) := by decide +kernel
theorem d34_0 : decode jdk_43_method_2_code 0 = .ok (.iload_n 1, 1) := by decide +kernel
theorem d34_1 : decode jdk_43_method_2_code 1 = .ok (.aload_n 0, 1) := by decide +kernel
theorem d34_2 : decode jdk_43_method_2_code 2 = .ok (.arraylength, 1) := by decide +kernel
theorem d34_3 : decode jdk_43_method_2_code 3 = .ok (.invokestatic 9, 3) := by decide +kernel
theorem d34_6 : decode jdk_43_method_2_code 6 = .ok (.aload_n 0, 1) := by decide +kernel
theorem d34_7 : decode jdk_43_method_2_code 7 = .ok (.iload_n 1, 1) := by decide +kernel
theorem d34_8 : decode jdk_43_method_2_code 8 = .ok (.baload, 1) := by decide +kernel
theorem d34_9 : decode jdk_43_method_2_code 9 = .ok (.sipush 255, 3) := by decide +kernel
theorem d34_12 : decode jdk_43_method_2_code 12 = .ok (.iand, 1) := by decide +kernel
theorem d34_13 : decode jdk_43_method_2_code 13 = .ok (.i2c, 1) := by decide +kernel
theorem d34_14 : decode jdk_43_method_2_code 14 = .ok (.ireturn, 1) := by decide +kernel
theorem d35_0 : decode jdk_42_method_155_code 0 = .ok (.iload_n 0, 1) := by decide +kernel
theorem d35_1 : decode jdk_42_method_155_code 1 = .ok (.iload_n 1, 1) := by decide +kernel
theorem d35_2 : decode jdk_42_method_155_code 2 = .ok (.getstatic 1053, 3) := by decide +kernel
theorem d35_5 : decode jdk_42_method_155_code 5 = .ok (.invokestatic 1059, 3) := by decide +kernel
theorem d35_8 : decode jdk_42_method_155_code 8 = .ok (.pop, 1) := by decide +kernel
theorem d35_9 : decode jdk_42_method_155_code 9 = .ok (.return_, 1) := by decide +kernel
theorem d36_0 : decode jdk_41_method_11_code 0 = .ok (.iload_n 0, 1) := by decide +kernel
theorem d36_1 : decode jdk_41_method_11_code 1 = .ok (.ifCond .lt 8, 3) := by decide +kernel
theorem d36_4 : decode jdk_41_method_11_code 4 = .ok (.iload_n 0, 1) := by decide +kernel
theorem d36_5 : decode jdk_41_method_11_code 5 = .ok (.iload_n 1, 1) := by decide +kernel
theorem d36_6 : decode jdk_41_method_11_code 6 = .ok (.if_icmp .lt 10, 3) := by decide +kernel
theorem d36_16 : decode jdk_41_method_11_code 16 = .ok (.iload_n 0, 1) := by decide +kernel
theorem d36_17 : decode jdk_41_method_11_code 17 = .ok (.ireturn, 1) := by decide +kernel
theorem d37_0 : decode jdk_68_method_10_code 0 = .ok (.aload_n 0, 1) := by decide +kernel
theorem d37_1 : decode jdk_68_method_10_code 1 = .ok (.getfield 15, 3) := by decide +kernel
theorem d37_4 : decode jdk_68_method_10_code 4 = .ok (.arraylength, 1) := by decide +kernel
theorem d37_5 : decode jdk_68_method_10_code 5 = .ok (.istore_n 2, 1) := by decide +kernel
theorem d37_6 : decode jdk_68_method_10_code 6 = .ok (.iload_n 1, 1) := by decide +kernel
theorem d37_7 : decode jdk_68_method_10_code 7 = .ok (.aload_n 0, 1) := by decide +kernel
theorem d37_8 : decode jdk_68_method_10_code 8 = .ok (.getfield 22, 3) := by decide +kernel
theorem d37_11 : decode jdk_68_method_10_code 11 = .ok (.ishl, 1) := by decide +kernel
theorem d37_12 : decode jdk_68_method_10_code 12 = .ok (.istore_n 3, 1) := by decide +kernel
theorem d37_13 : decode jdk_68_method_10_code 13 = .ok (.iload_n 3, 1) := by decide +kernel
theorem d37_14 : decode jdk_68_method_10_code 14 = .ok (.iload_n 2, 1) := by decide +kernel
theorem d37_15 : decode jdk_68_method_10_code 15 = .ok (.isub, 1) := by decide +kernel
theorem d37_16 : decode jdk_68_method_10_code 16 = .ok (.istore 4, 2) := by decide +kernel
theorem d37_18 : decode jdk_68_method_10_code 18 = .ok (.iload_n 2, 1) := by decide +kernel
theorem d37_19 : decode jdk_68_method_10_code 19 = .ok (.iload 4, 2) := by decide +kernel
theorem d37_21 : decode jdk_68_method_10_code 21 = .ok (.iload_n 2, 1) := by decide +kernel
theorem d37_22 : decode jdk_68_method_10_code 22 = .ok (.iconst 2, 1) := by decide +kernel
theorem d37_23 : decode jdk_68_method_10_code 23 = .ok (.aload_n 0, 1) := by decide +kernel
theorem d37_24 : decode jdk_68_method_10_code 24 = .ok (.getfield 22, 3) := by decide +kernel
theorem d37_27 : decode jdk_68_method_10_code 27 = .ok (.ishl, 1) := by decide +kernel
theorem d37_28 : decode jdk_68_method_10_code 28 = .ok (.iadd, 1) := by decide +kernel
theorem d37_29 : decode jdk_68_method_10_code 29 = .ok (.invokestatic 114, 3) := by decide +kernel
theorem d37_32 : decode jdk_68_method_10_code 32 = .ok (.istore 5, 2) := by decide +kernel
theorem d37_34 : decode jdk_68_method_10_code 34 = .ok (.iload 5, 2) := by decide +kernel
theorem d37_36 : decode jdk_68_method_10_code 36 = .ok (.ldc 39, 2) := by decide +kernel
theorem d37_38 : decode jdk_68_method_10_code 38 = .ok (.if_icmp .ne 13, 3) := by decide +kernel
theorem d37_51 : decode jdk_68_method_10_code 51 = .ok (.iload 5, 2) := by decide +kernel
theorem d37_53 : decode jdk_68_method_10_code 53 = .ok (.aload_n 0, 1) := by decide +kernel
theorem d37_54 : decode jdk_68_method_10_code 54 = .ok (.getfield 22, 3) := by decide +kernel
theorem d37_57 : decode jdk_68_method_10_code 57 = .ok (.ishr, 1) := by decide +kernel
theorem d37_58 : decode jdk_68_method_10_code 58 = .ok (.ireturn, 1) := by decide +kernel
theorem d38_0 : decode jdk_48_method_27_code 0 = .ok (.iload_n 0, 1) := by decide +kernel
theorem d38_1 : decode jdk_48_method_27_code 1 = .ok (.iload_n 1, 1) := by decide +kernel
theorem d38_2 : decode jdk_48_method_27_code 2 = .ok (.iload_n 2, 1) := by decide +kernel
theorem d38_3 : decode jdk_48_method_27_code 3 = .ok (.invokestatic 194, 3) := by decide +kernel
theorem d38_6 : decode jdk_48_method_27_code 6 = .ok (.iadd, 1) := by decide +kernel
theorem d38_7 : decode jdk_48_method_27_code 7 = .ok (.istore_n 3, 1) := by decide +kernel
theorem d38_8 : decode jdk_48_method_27_code 8 = .ok (.iconst 0, 1) := by decide +kernel
theorem d38_9 : decode jdk_48_method_27_code 9 = .ok (.iload_n 3, 1) := by decide +kernel
theorem d38_10 : decode jdk_48_method_27_code 10 = .ok (.if_icmp .ge 11, 3) := by decide +kernel
theorem d38_13 : decode jdk_48_method_27_code 13 = .ok (.iload_n 3, 1) := by decide +kernel
theorem d38_14 : decode jdk_48_method_27_code 14 = .ok (.ldc 200, 2) := by decide +kernel
theorem d38_16 : decode jdk_48_method_27_code 16 = .ok (.if_icmp .gt 5, 3) := by decide +kernel
theorem d38_19 : decode jdk_48_method_27_code 19 = .ok (.iload_n 3, 1) := by decide +kernel
theorem d38_20 : decode jdk_48_method_27_code 20 = .ok (.ireturn, 1) := by decide +kernel
theorem d39_0 : decode jdk_29_method_65_code 0 = .ok (.iload_n 0, 1) := by decide +kernel
theorem d39_1 : decode jdk_29_method_65_code 1 = .ok (.iload_n 1, 1) := by decide +kernel
theorem d39_2 : decode jdk_29_method_65_code 2 = .ok (.if_icmp .lt 7, 3) := by decide +kernel
theorem d39_5 : decode jdk_29_method_65_code 5 = .ok (.iload_n 0, 1) := by decide +kernel
theorem d39_6 : decode jdk_29_method_65_code 6 = .ok (.goto 4, 3) := by decide +kernel
theorem d39_9 : decode jdk_29_method_65_code 9 = .ok (.iload_n 1, 1) := by decide +kernel
theorem d39_10 : decode jdk_29_method_65_code 10 = .ok (.ireturn, 1) := by decide +kernel
theorem d40_0 : decode jdk_65_method_121_code 0 = .ok (.iload_n 1, 1) := by decide +kernel
theorem d40_1 : decode jdk_65_method_121_code 1 = .ok (.aload_n 0, 1) := by decide +kernel
theorem d40_2 : decode jdk_65_method_121_code 2 = .ok (.arraylength, 1) := by decide +kernel
theorem d40_3 : decode jdk_65_method_121_code 3 = .ok (.if_icmp .ne 11, 3) := by decide +kernel
theorem d40_14 : decode jdk_65_method_121_code 14 = .ok (.iload_n 1, 1) := by decide +kernel
theorem d40_15 : decode jdk_65_method_121_code 15 = .ok (.newarray .byte, 2) := by decide +kernel
theorem d40_17 : decode jdk_65_method_121_code 17 = .ok (.astore_n 2, 1) := by decide +kernel
theorem d40_18 : decode jdk_65_method_121_code 18 = .ok (.aload_n 0, 1) := by decide +kernel
theorem d40_19 : decode jdk_65_method_121_code 19 = .ok (.iconst 0, 1) := by decide +kernel
theorem d40_20 : decode jdk_65_method_121_code 20 = .ok (.aload_n 2, 1) := by decide +kernel
theorem d40_21 : decode jdk_65_method_121_code 21 = .ok (.iconst 0, 1) := by decide +kernel
theorem d40_22 : decode jdk_65_method_121_code 22 = .ok (.aload_n 0, 1) := by decide +kernel
theorem d40_23 : decode jdk_65_method_121_code 23 = .ok (.arraylength, 1) := by decide +kernel
theorem d40_24 : decode jdk_65_method_121_code 24 = .ok (.iload_n 1, 1) := by decide +kernel
theorem d40_25 : decode jdk_65_method_121_code 25 = .ok (.invokestatic 304, 3) := by decide +kernel
theorem d40_28 : decode jdk_65_method_121_code 28 = .ok (.invokestatic 150, 3) := by decide +kernel
theorem d40_31 : decode jdk_65_method_121_code 31 = .ok (.aload_n 2, 1) := by decide +kernel
theorem d40_32 : decode jdk_65_method_121_code 32 = .ok (.areturn, 1) := by decide +kernel
theorem d41_0 : decode jdk_29_method_69_code 0 = .ok (.iload_n 0, 1) := by decide +kernel
theorem d41_1 : decode jdk_29_method_69_code 1 = .ok (.iload_n 1, 1) := by decide +kernel
theorem d41_2 : decode jdk_29_method_69_code 2 = .ok (.if_icmp .gt 7, 3) := by decide +kernel
theorem d41_5 : decode jdk_29_method_69_code 5 = .ok (.iload_n 0, 1) := by decide +kernel
theorem d41_6 : decode jdk_29_method_69_code 6 = .ok (.goto 4, 3) := by decide +kernel
theorem d41_9 : decode jdk_29_method_69_code 9 = .ok (.iload_n 1, 1) := by decide +kernel
theorem d41_10 : decode jdk_29_method_69_code 10 = .ok (.ireturn, 1) := by decide +kernel
theorem d42_0 : decode jdk_65_method_133_code 0 = .ok (.iload_n 1, 1) := by decide +kernel
theorem d42_1 : decode jdk_65_method_133_code 1 = .ok (.iload_n 2, 1) := by decide +kernel
theorem d42_2 : decode jdk_65_method_133_code 2 = .ok (.invokestatic 343, 3) := by decide +kernel
theorem d42_5 : decode jdk_65_method_133_code 5 = .ok (.iload_n 2, 1) := by decide +kernel
theorem d42_6 : decode jdk_65_method_133_code 6 = .ok (.iload_n 1, 1) := by decide +kernel
theorem d42_7 : decode jdk_65_method_133_code 7 = .ok (.isub, 1) := by decide +kernel
theorem d42_8 : decode jdk_65_method_133_code 8 = .ok (.istore_n 3, 1) := by decide +kernel
theorem d42_9 : decode jdk_65_method_133_code 9 = .ok (.iload_n 3, 1) := by decide +kernel
theorem d42_10 : decode jdk_65_method_133_code 10 = .ok (.newarray .byte, 2) := by decide +kernel
theorem d42_12 : decode jdk_65_method_133_code 12 = .ok (.astore 4, 2) := by decide +kernel
theorem d42_14 : decode jdk_65_method_133_code 14 = .ok (.aload_n 0, 1) := by decide +kernel
theorem d42_15 : decode jdk_65_method_133_code 15 = .ok (.iload_n 1, 1) := by decide +kernel
theorem d42_16 : decode jdk_65_method_133_code 16 = .ok (.aload 4, 2) := by decide +kernel
theorem d42_18 : decode jdk_65_method_133_code 18 = .ok (.iconst 0, 1) := by decide +kernel
theorem d42_19 : decode jdk_65_method_133_code 19 = .ok (.aload_n 0, 1) := by decide +kernel
theorem d42_20 : decode jdk_65_method_133_code 20 = .ok (.arraylength, 1) := by decide +kernel
theorem d42_21 : decode jdk_65_method_133_code 21 = .ok (.iload_n 1, 1) := by decide +kernel
theorem d42_22 : decode jdk_65_method_133_code 22 = .ok (.isub, 1) := by decide +kernel
theorem d42_23 : decode jdk_65_method_133_code 23 = .ok (.iload_n 3, 1) := by decide +kernel
theorem d42_24 : decode jdk_65_method_133_code 24 = .ok (.invokestatic 304, 3) := by decide +kernel
theorem d42_27 : decode jdk_65_method_133_code 27 = .ok (.invokestatic 150, 3) := by decide +kernel
theorem d42_30 : decode jdk_65_method_133_code 30 = .ok (.aload 4, 2) := by decide +kernel
theorem d42_32 : decode jdk_65_method_133_code 32 = .ok (.areturn, 1) := by decide +kernel
theorem d43_0 : decode jdk_65_method_131_code 0 = .ok (.iload_n 1, 1) := by decide +kernel
theorem d43_1 : decode jdk_65_method_131_code 1 = .ok (.iload_n 0, 1) := by decide +kernel
theorem d43_2 : decode jdk_65_method_131_code 2 = .ok (.if_icmp .ge 35, 3) := by decide +kernel
theorem d43_37 : decode jdk_65_method_131_code 37 = .ok (.return_, 1) := by decide +kernel
theorem oef0 (m : MethodId) (x0 : Addr) : entryFrame m #[(.ref x0)] 1 = mkF m 0 #[.val (.ref x0)] [] := by first | (simp [entryFrame, mkF, argsToLocals, Value.category]; done) | rfl
theorem oef1 (m : MethodId) (x0 : Int32) : entryFrame m #[(.int x0)] 4 = mkF m 0 #[.val (.int x0), .unset, .unset, .unset] [] := by first | (simp [entryFrame, mkF, argsToLocals, Value.category]; done) | rfl
theorem oef2 (m : MethodId) (x0 : Int32) (x1 : Int32) (x2 : Addr) : entryFrame m #[(.int x0), (.int x1), (.ref x2)] 7 = mkF m 0 #[.val (.int x0), .val (.int x1), .val (.ref x2), .unset, .unset, .unset, .unset] [] := by first | (simp [entryFrame, mkF, argsToLocals, Value.category]; done) | rfl
theorem oef3 (m : MethodId) (x0 : Addr) (x1 : Addr) (x2 : Int32) : entryFrame m #[(.ref x0), (.ref x1), (.int x2)] 3 = mkF m 0 #[.val (.ref x0), .val (.ref x1), .val (.int x2)] [] := by first | (simp [entryFrame, mkF, argsToLocals, Value.category]; done) | rfl
theorem oef4 (m : MethodId) (x0 : Int32) : entryFrame m #[(.int x0)] 3 = mkF m 0 #[.val (.int x0), .unset, .unset] [] := by first | (simp [entryFrame, mkF, argsToLocals, Value.category]; done) | rfl
theorem oef5 (m : MethodId) (x0 : Addr) (x1 : Int32) : entryFrame m #[(.ref x0), (.int x1)] 2 = mkF m 0 #[.val (.ref x0), .val (.int x1)] [] := by first | (simp [entryFrame, mkF, argsToLocals, Value.category]; done) | rfl
theorem oef6 (m : MethodId) (x0 : Addr) (x1 : Int32) : entryFrame m #[(.ref x0), (.int x1)] 3 = mkF m 0 #[.val (.ref x0), .val (.int x1), .unset] [] := by first | (simp [entryFrame, mkF, argsToLocals, Value.category]; done) | rfl
theorem oef7 (m : MethodId) (x0 : Int32) (x1 : Int32) : entryFrame m #[(.int x0), (.int x1)] 2 = mkF m 0 #[.val (.int x0), .val (.int x1)] [] := by first | (simp [entryFrame, mkF, argsToLocals, Value.category]; done) | rfl
theorem oef8 (m : MethodId) (x0 : Int32) (x1 : Int32) (x2 : Int32) : entryFrame m #[(.int x0), (.int x1), (.int x2)] 4 = mkF m 0 #[.val (.int x0), .val (.int x1), .val (.int x2), .unset] [] := by first | (simp [entryFrame, mkF, argsToLocals, Value.category]; done) | rfl
theorem oef9 (m : MethodId) (x0 : Addr) (x1 : Int32) : entryFrame m #[(.ref x0), (.int x1)] 6 = mkF m 0 #[.val (.ref x0), .val (.int x1), .unset, .unset, .unset, .unset] [] := by first | (simp [entryFrame, mkF, argsToLocals, Value.category]; done) | rfl
theorem oef10 (m : MethodId) (x0 : Int32) : entryFrame m #[(.int x0)] 1 = mkF m 0 #[.val (.int x0)] [] := by first | (simp [entryFrame, mkF, argsToLocals, Value.category]; done) | rfl
theorem oef11 (m : MethodId) (x0 : Addr) (x1 : Addr) (x2 : Int32) (x3 : Int32) : entryFrame m #[(.ref x0), (.ref x1), (.int x2), (.int x3)] 4 = mkF m 0 #[.val (.ref x0), .val (.ref x1), .val (.int x2), .val (.int x3)] [] := by first | (simp [entryFrame, mkF, argsToLocals, Value.category]; done) | rfl
theorem oef12 (m : MethodId) (x0 : Addr) (x1 : Addr) : entryFrame m #[(.ref x0), (.ref x1)] 2 = mkF m 0 #[.val (.ref x0), .val (.ref x1)] [] := by first | (simp [entryFrame, mkF, argsToLocals, Value.category]; done) | rfl
theorem oef13 (m : MethodId) (x0 : Addr) (x1 : Int32) (x2 : Addr) : entryFrame m #[(.ref x0), (.int x1), (.ref x2)] 3 = mkF m 0 #[.val (.ref x0), .val (.int x1), .val (.ref x2)] [] := by first | (simp [entryFrame, mkF, argsToLocals, Value.category]; done) | rfl
theorem oef14 (m : MethodId) (x0 : Addr) (x1 : Addr) : entryFrame m #[(.ref x0), (.ref x1)] 3 = mkF m 0 #[.val (.ref x0), .val (.ref x1), .unset] [] := by first | (simp [entryFrame, mkF, argsToLocals, Value.category]; done) | rfl
theorem oef15 (m : MethodId) (x0 : Addr) (x1 : Int32) (x2 : Int32) : entryFrame m #[(.ref x0), (.int x1), (.int x2)] 3 = mkF m 0 #[.val (.ref x0), .val (.int x1), .val (.int x2)] [] := by first | (simp [entryFrame, mkF, argsToLocals, Value.category]; done) | rfl
theorem oef16 (m : MethodId) (x0 : Addr) (x1 : Int32) (x2 : Int32) : entryFrame m #[(.ref x0), (.int x1), (.int x2)] 5 = mkF m 0 #[.val (.ref x0), .val (.int x1), .val (.int x2), .unset, .unset] [] := by first | (simp [entryFrame, mkF, argsToLocals, Value.category]; done) | rfl
theorem oef17 (m : MethodId) (x0 : Addr) (x1 : Addr) : entryFrame m #[(.ref x0), (.ref x1), .null] 5 = mkF m 0 #[.val (.ref x0), .val (.ref x1), .val .null, .unset, .unset] [] := by first | (simp [entryFrame, mkF, argsToLocals, Value.category]; done) | rfl
theorem oef18 (m : MethodId) (x0 : Int32) : entryFrame m #[(.int x0)] 2 = mkF m 0 #[.val (.int x0), .unset] [] := by first | (simp [entryFrame, mkF, argsToLocals, Value.category]; done) | rfl
theorem oef19 (m : MethodId) (x0 : Int32) (x1 : Int32) (x2 : Value) (hx2 : x2.isRef = true) : entryFrame m #[(.int x0), (.int x1), x2] 3 = mkF m 0 #[.val (.int x0), .val (.int x1), .val x2] [] := by rcases ref_cases hx2 with rfl | ⟨_, rfl⟩ <;> first | (simp [entryFrame, mkF, argsToLocals, Value.category]; done) | rfl
theorem oef20 (m : MethodId) (x0 : Addr) (x1 : Int32) (x2 : Int32) (x3 : Int32) (x4 : Int32) (x5 : Int32) : entryFrame m #[(.ref x0), (.int x1), (.int x2), (.int x3), (.int x4), (.int x5)] 7 = mkF m 0 #[.val (.ref x0), .val (.int x1), .val (.int x2), .val (.int x3), .val (.int x4), .val (.int x5), .unset] [] := by first | (simp [entryFrame, mkF, argsToLocals, Value.category]; done) | rfl
theorem oef21 (m : MethodId) (x0 : Int32) (x1 : Int32) : entryFrame m #[(.int x0), (.int x1)] maxLocals = mkF m 0 #[.val (.int x0), .val (.int x1), .unset, .unset, .unset, .unset, .unset, .unset] [] := by first | (simp [entryFrame, mkF, argsToLocals, Value.category, maxLocals]; done) | rfl
theorem opn_0 : plainFor x = true := plainFor_of_name (by first | (simp [plainName, overriddenIn]; done) | decide +kernel)
theorem opn_1 : plainFor (⟨"com/example/neith/neith/io/DateTimeText", "year", "(I)Ljava/lang/String;"⟩ : MethodName) = true := plainFor_of_name (by first | (simp [plainName, overriddenIn]; done) | decide +kernel)
theorem opn_2 : plainFor (⟨"java/lang/StringBuilder", "<init>", "(I)V"⟩ : MethodName) = true := plainFor_of_name (by first | (simp [plainName, overriddenIn]; done) | decide +kernel)
theorem opn_3 : plainFor (⟨"java/lang/AbstractStringBuilder", "<init>", "(I)V"⟩ : MethodName) = true := plainFor_of_name (by first | (simp [plainName, overriddenIn]; done) | decide +kernel)
theorem opn_5 : plainFor (⟨"com/example/neith/neith/io/DateTimeText", "appendYear", "(Ljava/lang/StringBuilder;I)V"⟩ : MethodName) = true := plainFor_of_name (by first | (simp [plainName, overriddenIn]; done) | decide +kernel)
theorem opn_6 : plainFor (⟨"java/lang/Math", "abs", "(I)I"⟩ : MethodName) = true := Jvm.Free.JP.mathPlain rfl (by decide +kernel)
theorem opn_7 : plainFor (⟨"com/example/neith/neith/io/DateTimeText", "appendNumber", "(Ljava/lang/StringBuilder;II)V"⟩ : MethodName) = true := plainFor_of_name (by first | (simp [plainName, overriddenIn]; done) | decide +kernel)
theorem opn_8 : plainFor (⟨"java/lang/Integer", "toString", "(I)Ljava/lang/String;"⟩ : MethodName) = true := plainFor_of_name (by first | (simp [plainName, overriddenIn]; done) | decide +kernel)
theorem opn_9 : plainFor (⟨"java/lang/Integer", "stringSize", "(I)I"⟩ : MethodName) = true := plainFor_of_name (by first | (simp [plainName, overriddenIn]; done) | decide +kernel)
theorem opn_10 : plainFor (⟨"java/lang/Integer", "getChars", "(II[B)I"⟩ : MethodName) = true := plainFor_of_name (by first | (simp [plainName, overriddenIn]; done) | decide +kernel)
theorem opn_11 : plainFor (⟨"java/lang/String", "<init>", "([BB)V"⟩ : MethodName) = true := plainFor_of_name (by first | (simp [plainName, overriddenIn]; done) | decide +kernel)
theorem opn_12 : plainFor (⟨"java/lang/String", "length", "()I"⟩ : MethodName) = true := plainFor_of_name (by first | (simp [plainName, overriddenIn]; done) | decide +kernel)
theorem opn_13 : plainFor (⟨"java/lang/String", "coder", "()B"⟩ : MethodName) = true := plainFor_of_name (by first | (simp [plainName, overriddenIn]; done) | decide +kernel)
theorem opn_14 : plainFor (⟨"java/lang/StringBuilder", "append", "(C)Ljava/lang/StringBuilder;"⟩ : MethodName) = true := plainFor_of_name (by first | (simp [plainName, overriddenIn]; done) | decide +kernel)
theorem opn_15 : plainFor (⟨"java/lang/AbstractStringBuilder", "append", "(C)Ljava/lang/AbstractStringBuilder;"⟩ : MethodName) = true := plainFor_of_name (by first | (simp [plainName, overriddenIn]; done) | decide +kernel)
theorem opn_16 : plainFor (⟨"java/lang/AbstractStringBuilder", "ensureCapacityInternal", "(I)V"⟩ : MethodName) = true := plainFor_of_name (by first | (simp [plainName, overriddenIn]; done) | decide +kernel)
theorem opn_17 : plainFor (⟨"java/lang/AbstractStringBuilder", "isLatin1", "()Z"⟩ : MethodName) = true := plainFor_of_name (by first | (simp [plainName, overriddenIn]; done) | decide +kernel)
theorem opn_18 : plainFor (⟨"java/lang/StringLatin1", "canEncode", "(C)Z"⟩ : MethodName) = true := plainFor_of_name (by first | (simp [plainName, overriddenIn]; done) | decide +kernel)
theorem opn_19 : plainFor (⟨"java/lang/StringBuilder", "append", "(Ljava/lang/String;)Ljava/lang/StringBuilder;"⟩ : MethodName) = true := plainFor_of_name (by first | (simp [plainName, overriddenIn]; done) | decide +kernel)
theorem opn_20 : plainFor (⟨"java/lang/AbstractStringBuilder", "append", "(Ljava/lang/String;)Ljava/lang/AbstractStringBuilder;"⟩ : MethodName) = true := plainFor_of_name (by first | (simp [plainName, overriddenIn]; done) | decide +kernel)
theorem opn_21 : plainFor (⟨"java/lang/AbstractStringBuilder", "putStringAt", "(ILjava/lang/String;)V"⟩ : MethodName) = true := plainFor_of_name (by first | (simp [plainName, overriddenIn]; done) | decide +kernel)
theorem opn_22 : plainFor (⟨"java/lang/AbstractStringBuilder", "inflateIfNeededFor", "(Ljava/lang/String;)V"⟩ : MethodName) = true := plainFor_of_name (by first | (simp [plainName, overriddenIn]; done) | decide +kernel)
theorem opn_23 : plainFor (⟨"java/lang/String", "getBytes", "([BIB)V"⟩ : MethodName) = true := plainFor_of_name (by first | (simp [plainName, overriddenIn]; done) | decide +kernel)
theorem opn_24 : plainFor (⟨"java/lang/StringBuilder", "toString", "()Ljava/lang/String;"⟩ : MethodName) = true := plainFor_of_name (by first | (simp [plainName, overriddenIn]; done) | decide +kernel)
theorem opn_25 : plainFor (⟨"java/lang/String", "<init>", "(Ljava/lang/StringBuilder;)V"⟩ : MethodName) = true := plainFor_of_name (by first | (simp [plainName, overriddenIn]; done) | decide +kernel)
theorem opn_26 : plainFor (⟨"java/lang/String", "<init>", "(Ljava/lang/AbstractStringBuilder;Ljava/lang/Void;)V"⟩ : MethodName) = true := plainFor_of_name (by first | (simp [plainName, overriddenIn]; done) | decide +kernel)
theorem opn_27 : plainFor (⟨"java/lang/AbstractStringBuilder", "getValue", "()[B"⟩ : MethodName) = true := plainFor_of_name (by first | (simp [plainName, overriddenIn]; done) | decide +kernel)
theorem opn_28 : plainFor (⟨"java/lang/StringBuilder", "length", "()I"⟩ : MethodName) = true := plainFor_of_name (by first | (simp [plainName, overriddenIn]; done) | decide +kernel)
theorem opn_29 : plainFor (⟨"java/lang/AbstractStringBuilder", "length", "()I"⟩ : MethodName) = true := plainFor_of_name (by first | (simp [plainName, overriddenIn]; done) | decide +kernel)
theorem opn_30 : plainFor (⟨"java/util/Arrays", "copyOfRange", "([BII)[B"⟩ : MethodName) = true := plainFor_of_name (by first | (simp [plainName, overriddenIn]; done) | decide +kernel)
theorem opn_31 : plainFor (⟨"com/example/neith/neith/io/DateTimeTextYearPinLaw", "digitAt", "(Ljava/lang/String;IIIII)Z"⟩ : MethodName) = true := plainFor_of_name (by first | (simp [plainName, overriddenIn]; done) | decide +kernel)
theorem opn_32 : plainFor (⟨"java/lang/String", "charAt", "(I)C"⟩ : MethodName) = true := plainFor_of_name (by first | (simp [plainName, overriddenIn]; done) | decide +kernel)
theorem opn_33 : plainFor (⟨"java/lang/String", "isLatin1", "()Z"⟩ : MethodName) = true := plainFor_of_name (by first | (simp [plainName, overriddenIn]; done) | decide +kernel)
theorem opn_34 : plainFor (⟨"java/lang/StringLatin1", "charAt", "([BI)C"⟩ : MethodName) = true := plainFor_of_name (by first | (simp [plainName, overriddenIn]; done) | decide +kernel)
theorem opn_35 : plainFor (⟨"java/lang/String", "checkIndex", "(II)V"⟩ : MethodName) = true := plainFor_of_name (by first | (simp [plainName, overriddenIn]; done) | decide +kernel)
theorem opn_36 : plainFor (⟨"jdk/internal/util/Preconditions", "checkIndex", "(IILjava/util/function/BiFunction;)I"⟩ : MethodName) = true := plainFor_of_name (by first | (simp [plainName, overriddenIn]; done) | decide +kernel)
theorem opn_37 : plainFor (⟨"java/lang/AbstractStringBuilder", "newCapacity", "(I)I"⟩ : MethodName) = true := plainFor_of_name (by first | (simp [plainName, overriddenIn]; done) | decide +kernel)
theorem opn_38 : plainFor (⟨"jdk/internal/util/ArraysSupport", "newLength", "(III)I"⟩ : MethodName) = true := plainFor_of_name (by first | (simp [plainName, overriddenIn]; done) | decide +kernel)
theorem opn_39 : plainFor (⟨"java/lang/Math", "max", "(II)I"⟩ : MethodName) = true := Jvm.Free.JP.mathPlain rfl (by decide +kernel)
theorem opn_40 : plainFor (⟨"java/util/Arrays", "copyOf", "([BI)[B"⟩ : MethodName) = true := plainFor_of_name (by first | (simp [plainName, overriddenIn]; done) | decide +kernel)
theorem opn_41 : plainFor (⟨"java/lang/Math", "min", "(II)I"⟩ : MethodName) = true := Jvm.Free.JP.mathPlain rfl (by decide +kernel)
theorem opn_42 : plainFor (⟨"java/util/Arrays", "copyOfRangeByte", "([BII)[B"⟩ : MethodName) = true := plainFor_of_name (by first | (simp [plainName, overriddenIn]; done) | decide +kernel)
theorem opn_43 : plainFor (⟨"java/util/Arrays", "checkLength", "(II)V"⟩ : MethodName) = true := plainFor_of_name (by first | (simp [plainName, overriddenIn]; done) | decide +kernel)
theorem own_nb (x : Int32) : nar .byte (x.toInt8.toInt32) = x.toInt8.toInt32 := by
 show x.toInt8.toInt32.toInt8.toInt32 = x.toInt8.toInt32
 simp
theorem own_strarr {Z : State} {h : Heap} {a b : Addr} {C : String} {k : ClassId} {ty : FieldType} {z : Int32} {vs : List Value} {dv : Value} {a0 : Array Value} {n : Nat} (E : Exa Z h a C) (A : Arv Z h b k ty z vs dv) (w : (Cond.instantiable C n).before a0 Z = true) (q : a = b) : False := by
 obtain ⟨cl, A, -⟩ := A
 exact ne_arr E w A q
theorem own_ne0 {args : Array Value} {s : State} {t : Term} {x : Int32} (e : t.eval args s none [] s = some (.int x)) (h : (Cond.not (Cond.eq t (Term.int 0))).value args s none s [] = some true) : ¬ x = 0 := by
 have h := not_v h
 simp only [Cond.value, Term.eval, e] at h
 simpa using h
theorem own_byte {c : Int32} (h : 0 ≤ c.toInt ∧ c.toInt ≤ 255) : ∃ n : Fin 256, c = Int32.ofNat n.val := by
 refine ⟨⟨c.toInt.toNat, by omega⟩, ?_⟩
 apply Int32.toInt_inj.mp
 rw [Int32.toInt_ofNat_of_lt (by omega)]
 show c.toInt = ((c.toInt.toNat : Nat) : Int)
 omega
theorem own_ch {c : Int32} (h : 0 ≤ c.toInt ∧ c.toInt ≤ 255) : nar .char ((c.toInt8.toInt32 &&& 255).toUInt32.toUInt16.toUInt32.toInt32) = c := by
 obtain ⟨n, rfl⟩ := own_byte h
 revert n; decide +kernel
theorem own_nc {c : Int32} (h : 0 ≤ c.toInt ∧ c.toInt ≤ 255) : nar .char c = c := by
 obtain ⟨n, rfl⟩ := own_byte h
 revert n; decide +kernel
theorem own_shr0 (x : Int32) : x >>> ((0 : Int32) &&& 31) = x := by
 have h := c_ishr x 0 0 (by decide)
 apply Int32.toInt_inj.mp
 rw [h]; simp
theorem own_le255 {c : Int32} (h : 0 ≤ c.toInt ∧ c.toInt ≤ 255) : ¬ (255 : Int32) < c := by
 rw [Int32.lt_iff_toInt_lt]
 have e : (255 : Int32).toInt = 255 := by decide
 omega
theorem own_shl0 (x : Int32) : x <<< ((0 : Int32) &&& 31) = x := by
 apply Int32.toBitVec_inj.mp
 simp
abbrev own_tab (vs : List Value) (f : Int32 → Int32) : Prop := ∀ r : Int32, 0 ≤ r.toInt → r.toInt < 100 → vs.getD r.toNatClampNeg (.int 0) = .int (f r)
def own_sz (A : Int) (kk : Int32) : Prop := (kk = 1 ∧ A < 10) ∨ (kk = 2 ∧ 10 ≤ A ∧ A < 100) ∨ (kk = 3 ∧ 100 ≤ A ∧ A < 1000) ∨ (kk = 4 ∧ 1000 ≤ A ∧ A < 10000) ∨ (kk = 5 ∧ 10000 ≤ A ∧ A < 100000) ∨ (kk = 6 ∧ 100000 ≤ A ∧ A < 1000000) ∨ (kk = 7 ∧ 1000000 ≤ A ∧ A < 10000000) ∨ (kk = 8 ∧ 10000000 ≤ A ∧ A < 100000000) ∨ (kk = 9 ∧ 100000000 ≤ A ∧ A < 1000000000) ∨ (kk = 10 ∧ 1000000000 ≤ A)
def own_ds (A : Int) (kk : Int32) (gl : List Value) : Prop := (kk = 1 ∧ ∃ g0 : Int32, gl = [.int g0] ∧ g0.toInt = 48 + A / 1 % 10 ∧ A < 10) ∨ (kk = 2 ∧ ∃ g0 g1 : Int32, gl = [.int g1, .int g0] ∧ g0.toInt = 48 + A / 1 % 10 ∧ g1.toInt = 48 + A / 10 % 10 ∧ 10 ≤ A ∧ A < 100) ∨ (kk = 3 ∧ ∃ g0 g1 g2 : Int32, gl = [.int g2, .int g1, .int g0] ∧ g0.toInt = 48 + A / 1 % 10 ∧ g1.toInt = 48 + A / 10 % 10 ∧ g2.toInt = 48 + A / 100 % 10 ∧ 100 ≤ A ∧ A < 1000) ∨ (kk = 4 ∧ ∃ g0 g1 g2 g3 : Int32, gl = [.int g3, .int g2, .int g1, .int g0] ∧ g0.toInt = 48 + A / 1 % 10 ∧ g1.toInt = 48 + A / 10 % 10 ∧ g2.toInt = 48 + A / 100 % 10 ∧ g3.toInt = 48 + A / 1000 % 10 ∧ 1000 ≤ A ∧ A < 10000) ∨ (kk = 5 ∧ ∃ g0 g1 g2 g3 g4 : Int32, gl = [.int g4, .int g3, .int g2, .int g1, .int g0] ∧ g0.toInt = 48 + A / 1 % 10 ∧ g1.toInt = 48 + A / 10 % 10 ∧ g2.toInt = 48 + A / 100 % 10 ∧ g3.toInt = 48 + A / 1000 % 10 ∧ g4.toInt = 48 + A / 10000 % 10 ∧ 10000 ≤ A ∧ A < 100000) ∨ (kk = 6 ∧ ∃ g0 g1 g2 g3 g4 g5 : Int32, gl = [.int g5, .int g4, .int g3, .int g2, .int g1, .int g0] ∧ g0.toInt = 48 + A / 1 % 10 ∧ g1.toInt = 48 + A / 10 % 10 ∧ g2.toInt = 48 + A / 100 % 10 ∧ g3.toInt = 48 + A / 1000 % 10 ∧ g4.toInt = 48 + A / 10000 % 10 ∧ g5.toInt = 48 + A / 100000 % 10 ∧ 100000 ≤ A ∧ A < 1000000) ∨ (kk = 7 ∧ ∃ g0 g1 g2 g3 g4 g5 g6 : Int32, gl = [.int g6, .int g5, .int g4, .int g3, .int g2, .int g1, .int g0] ∧ g0.toInt = 48 + A / 1 % 10 ∧ g1.toInt = 48 + A / 10 % 10 ∧ g2.toInt = 48 + A / 100 % 10 ∧ g3.toInt = 48 + A / 1000 % 10 ∧ g4.toInt = 48 + A / 10000 % 10 ∧ g5.toInt = 48 + A / 100000 % 10 ∧ g6.toInt = 48 + A / 1000000 % 10 ∧ 1000000 ≤ A ∧ A < 10000000) ∨ (kk = 8 ∧ ∃ g0 g1 g2 g3 g4 g5 g6 g7 : Int32, gl = [.int g7, .int g6, .int g5, .int g4, .int g3, .int g2, .int g1, .int g0] ∧ g0.toInt = 48 + A / 1 % 10 ∧ g1.toInt = 48 + A / 10 % 10 ∧ g2.toInt = 48 + A / 100 % 10 ∧ g3.toInt = 48 + A / 1000 % 10 ∧ g4.toInt = 48 + A / 10000 % 10 ∧ g5.toInt = 48 + A / 100000 % 10 ∧ g6.toInt = 48 + A / 1000000 % 10 ∧ g7.toInt = 48 + A / 10000000 % 10 ∧ 10000000 ≤ A ∧ A < 100000000) ∨ (kk = 9 ∧ ∃ g0 g1 g2 g3 g4 g5 g6 g7 g8 : Int32, gl = [.int g8, .int g7, .int g6, .int g5, .int g4, .int g3, .int g2, .int g1, .int g0] ∧ g0.toInt = 48 + A / 1 % 10 ∧ g1.toInt = 48 + A / 10 % 10 ∧ g2.toInt = 48 + A / 100 % 10 ∧ g3.toInt = 48 + A / 1000 % 10 ∧ g4.toInt = 48 + A / 10000 % 10 ∧ g5.toInt = 48 + A / 100000 % 10 ∧ g6.toInt = 48 + A / 1000000 % 10 ∧ g7.toInt = 48 + A / 10000000 % 10 ∧ g8.toInt = 48 + A / 100000000 % 10 ∧ 100000000 ≤ A ∧ A < 1000000000) ∨ (kk = 10 ∧ ∃ g0 g1 g2 g3 g4 g5 g6 g7 g8 g9 : Int32, gl = [.int g9, .int g8, .int g7, .int g6, .int g5, .int g4, .int g3, .int g2, .int g1, .int g0] ∧ g0.toInt = 48 + A / 1 % 10 ∧ g1.toInt = 48 + A / 10 % 10 ∧ g2.toInt = 48 + A / 100 % 10 ∧ g3.toInt = 48 + A / 1000 % 10 ∧ g4.toInt = 48 + A / 10000 % 10 ∧ g5.toInt = 48 + A / 100000 % 10 ∧ g6.toInt = 48 + A / 1000000 % 10 ∧ g7.toInt = 48 + A / 10000000 % 10 ∧ g8.toInt = 48 + A / 100000000 % 10 ∧ g9.toInt = 48 + A / 1000000000 % 10 ∧ 1000000000 ≤ A)
def own_cap (tt zz : Int32) (mm : Nat) : Prop := (tt = 5 ∧ zz = 10 ∧ mm = 6) ∨ (tt = 6 ∧ zz = 10 ∧ mm = 6) ∨ (tt = 7 ∧ zz = 10 ∧ mm = 6) ∨ (tt = 8 ∧ zz = 10 ∧ mm = 6) ∨ (tt = 9 ∧ zz = 10 ∧ mm = 6) ∨ (tt = 10 ∧ zz = 10 ∧ mm = 6) ∨ (tt = 11 ∧ zz = 11 ∧ mm = 7)
abbrev own_pad (m : Nat) (l : List Value) : List Value := l ++ List.replicate m (.int 0)
def own_cz (zz nn : Int32) (vs : List Value) : Prop := (zz = 4 ∧ nn = 4 ∧ ∃ v0 v1 v2 v3 : Int32, vs = [.int v0, .int v1, .int v2, .int v3]) ∨ (zz = 10 ∧ nn = 5 ∧ ∃ v0 v1 v2 v3 v4 v5 v6 v7 v8 v9 : Int32, vs = [.int v0, .int v1, .int v2, .int v3, .int v4, .int v5, .int v6, .int v7, .int v8, .int v9]) ∨ (zz = 10 ∧ nn = 6 ∧ ∃ v0 v1 v2 v3 v4 v5 v6 v7 v8 v9 : Int32, vs = [.int v0, .int v1, .int v2, .int v3, .int v4, .int v5, .int v6, .int v7, .int v8, .int v9]) ∨ (zz = 10 ∧ nn = 7 ∧ ∃ v0 v1 v2 v3 v4 v5 v6 v7 v8 v9 : Int32, vs = [.int v0, .int v1, .int v2, .int v3, .int v4, .int v5, .int v6, .int v7, .int v8, .int v9]) ∨ (zz = 10 ∧ nn = 8 ∧ ∃ v0 v1 v2 v3 v4 v5 v6 v7 v8 v9 : Int32, vs = [.int v0, .int v1, .int v2, .int v3, .int v4, .int v5, .int v6, .int v7, .int v8, .int v9]) ∨ (zz = 10 ∧ nn = 9 ∧ ∃ v0 v1 v2 v3 v4 v5 v6 v7 v8 v9 : Int32, vs = [.int v0, .int v1, .int v2, .int v3, .int v4, .int v5, .int v6, .int v7, .int v8, .int v9]) ∨ (zz = 10 ∧ nn = 10 ∧ ∃ v0 v1 v2 v3 v4 v5 v6 v7 v8 v9 : Int32, vs = [.int v0, .int v1, .int v2, .int v3, .int v4, .int v5, .int v6, .int v7, .int v8, .int v9]) ∨ (zz = 11 ∧ nn = 11 ∧ ∃ v0 v1 v2 v3 v4 v5 v6 v7 v8 v9 v10 : Int32, vs = [.int v0, .int v1, .int v2, .int v3, .int v4, .int v5, .int v6, .int v7, .int v8, .int v9, .int v10])
def own_W0 (A : Int) (cn zz : Int32) (vs : List Value) : Prop := (cn = 4 ∧ zz = 4 ∧ ∃ g0 : Int32, vs = [(.int 48), (.int 48), (.int 48), (.int g0)] ∧ g0.toInt = 48 + A / 1 % 10 ∧ A < 10) ∨ (cn = 4 ∧ zz = 4 ∧ ∃ g0 g1 : Int32, vs = [(.int 48), (.int 48), (.int g1), (.int g0)] ∧ g0.toInt = 48 + A / 1 % 10 ∧ g1.toInt = 48 + A / 10 % 10 ∧ 10 ≤ A ∧ A < 100) ∨ (cn = 4 ∧ zz = 4 ∧ ∃ g0 g1 g2 : Int32, vs = [(.int 48), (.int g2), (.int g1), (.int g0)] ∧ g0.toInt = 48 + A / 1 % 10 ∧ g1.toInt = 48 + A / 10 % 10 ∧ g2.toInt = 48 + A / 100 % 10 ∧ 100 ≤ A ∧ A < 1000) ∨ (cn = 4 ∧ zz = 4 ∧ ∃ g0 g1 g2 g3 : Int32, vs = [(.int g3), (.int g2), (.int g1), (.int g0)] ∧ g0.toInt = 48 + A / 1 % 10 ∧ g1.toInt = 48 + A / 10 % 10 ∧ g2.toInt = 48 + A / 100 % 10 ∧ g3.toInt = 48 + A / 1000 % 10 ∧ 1000 ≤ A ∧ A < 10000) ∨ (cn = 5 ∧ zz = 10 ∧ ∃ g0 g1 g2 g3 g4 : Int32, vs = [(.int g4), (.int g3), (.int g2), (.int g1), (.int g0), (.int 0), (.int 0), (.int 0), (.int 0), (.int 0)] ∧ g0.toInt = 48 + A / 1 % 10 ∧ g1.toInt = 48 + A / 10 % 10 ∧ g2.toInt = 48 + A / 100 % 10 ∧ g3.toInt = 48 + A / 1000 % 10 ∧ g4.toInt = 48 + A / 10000 % 10 ∧ 10000 ≤ A ∧ A < 100000) ∨ (cn = 6 ∧ zz = 10 ∧ ∃ g0 g1 g2 g3 g4 g5 : Int32, vs = [(.int g5), (.int g4), (.int g3), (.int g2), (.int g1), (.int g0), (.int 0), (.int 0), (.int 0), (.int 0)] ∧ g0.toInt = 48 + A / 1 % 10 ∧ g1.toInt = 48 + A / 10 % 10 ∧ g2.toInt = 48 + A / 100 % 10 ∧ g3.toInt = 48 + A / 1000 % 10 ∧ g4.toInt = 48 + A / 10000 % 10 ∧ g5.toInt = 48 + A / 100000 % 10 ∧ 100000 ≤ A ∧ A < 1000000) ∨ (cn = 7 ∧ zz = 10 ∧ ∃ g0 g1 g2 g3 g4 g5 g6 : Int32, vs = [(.int g6), (.int g5), (.int g4), (.int g3), (.int g2), (.int g1), (.int g0), (.int 0), (.int 0), (.int 0)] ∧ g0.toInt = 48 + A / 1 % 10 ∧ g1.toInt = 48 + A / 10 % 10 ∧ g2.toInt = 48 + A / 100 % 10 ∧ g3.toInt = 48 + A / 1000 % 10 ∧ g4.toInt = 48 + A / 10000 % 10 ∧ g5.toInt = 48 + A / 100000 % 10 ∧ g6.toInt = 48 + A / 1000000 % 10 ∧ 1000000 ≤ A ∧ A < 10000000) ∨ (cn = 8 ∧ zz = 10 ∧ ∃ g0 g1 g2 g3 g4 g5 g6 g7 : Int32, vs = [(.int g7), (.int g6), (.int g5), (.int g4), (.int g3), (.int g2), (.int g1), (.int g0), (.int 0), (.int 0)] ∧ g0.toInt = 48 + A / 1 % 10 ∧ g1.toInt = 48 + A / 10 % 10 ∧ g2.toInt = 48 + A / 100 % 10 ∧ g3.toInt = 48 + A / 1000 % 10 ∧ g4.toInt = 48 + A / 10000 % 10 ∧ g5.toInt = 48 + A / 100000 % 10 ∧ g6.toInt = 48 + A / 1000000 % 10 ∧ g7.toInt = 48 + A / 10000000 % 10 ∧ 10000000 ≤ A ∧ A < 100000000) ∨ (cn = 9 ∧ zz = 10 ∧ ∃ g0 g1 g2 g3 g4 g5 g6 g7 g8 : Int32, vs = [(.int g8), (.int g7), (.int g6), (.int g5), (.int g4), (.int g3), (.int g2), (.int g1), (.int g0), (.int 0)] ∧ g0.toInt = 48 + A / 1 % 10 ∧ g1.toInt = 48 + A / 10 % 10 ∧ g2.toInt = 48 + A / 100 % 10 ∧ g3.toInt = 48 + A / 1000 % 10 ∧ g4.toInt = 48 + A / 10000 % 10 ∧ g5.toInt = 48 + A / 100000 % 10 ∧ g6.toInt = 48 + A / 1000000 % 10 ∧ g7.toInt = 48 + A / 10000000 % 10 ∧ g8.toInt = 48 + A / 100000000 % 10 ∧ 100000000 ≤ A ∧ A < 1000000000) ∨ (cn = 10 ∧ zz = 10 ∧ ∃ g0 g1 g2 g3 g4 g5 g6 g7 g8 g9 : Int32, vs = [(.int g9), (.int g8), (.int g7), (.int g6), (.int g5), (.int g4), (.int g3), (.int g2), (.int g1), (.int g0)] ∧ g0.toInt = 48 + A / 1 % 10 ∧ g1.toInt = 48 + A / 10 % 10 ∧ g2.toInt = 48 + A / 100 % 10 ∧ g3.toInt = 48 + A / 1000 % 10 ∧ g4.toInt = 48 + A / 10000 % 10 ∧ g5.toInt = 48 + A / 100000 % 10 ∧ g6.toInt = 48 + A / 1000000 % 10 ∧ g7.toInt = 48 + A / 10000000 % 10 ∧ g8.toInt = 48 + A / 100000000 % 10 ∧ g9.toInt = 48 + A / 1000000000 % 10 ∧ 1000000000 ≤ A)
def own_W1 (A : Int) (cn zz : Int32) (vs : List Value) : Prop := (cn = 5 ∧ zz = 10 ∧ ∃ g0 : Int32, vs = [(.int 45), (.int 48), (.int 48), (.int 48), (.int g0), (.int 0), (.int 0), (.int 0), (.int 0), (.int 0)] ∧ g0.toInt = 48 + A / 1 % 10 ∧ A < 10) ∨ (cn = 5 ∧ zz = 10 ∧ ∃ g0 g1 : Int32, vs = [(.int 45), (.int 48), (.int 48), (.int g1), (.int g0), (.int 0), (.int 0), (.int 0), (.int 0), (.int 0)] ∧ g0.toInt = 48 + A / 1 % 10 ∧ g1.toInt = 48 + A / 10 % 10 ∧ 10 ≤ A ∧ A < 100) ∨ (cn = 5 ∧ zz = 10 ∧ ∃ g0 g1 g2 : Int32, vs = [(.int 45), (.int 48), (.int g2), (.int g1), (.int g0), (.int 0), (.int 0), (.int 0), (.int 0), (.int 0)] ∧ g0.toInt = 48 + A / 1 % 10 ∧ g1.toInt = 48 + A / 10 % 10 ∧ g2.toInt = 48 + A / 100 % 10 ∧ 100 ≤ A ∧ A < 1000) ∨ (cn = 5 ∧ zz = 10 ∧ ∃ g0 g1 g2 g3 : Int32, vs = [(.int 45), (.int g3), (.int g2), (.int g1), (.int g0), (.int 0), (.int 0), (.int 0), (.int 0), (.int 0)] ∧ g0.toInt = 48 + A / 1 % 10 ∧ g1.toInt = 48 + A / 10 % 10 ∧ g2.toInt = 48 + A / 100 % 10 ∧ g3.toInt = 48 + A / 1000 % 10 ∧ 1000 ≤ A ∧ A < 10000) ∨ (cn = 6 ∧ zz = 10 ∧ ∃ g0 g1 g2 g3 g4 : Int32, vs = [(.int 45), (.int g4), (.int g3), (.int g2), (.int g1), (.int g0), (.int 0), (.int 0), (.int 0), (.int 0)] ∧ g0.toInt = 48 + A / 1 % 10 ∧ g1.toInt = 48 + A / 10 % 10 ∧ g2.toInt = 48 + A / 100 % 10 ∧ g3.toInt = 48 + A / 1000 % 10 ∧ g4.toInt = 48 + A / 10000 % 10 ∧ 10000 ≤ A ∧ A < 100000) ∨ (cn = 7 ∧ zz = 10 ∧ ∃ g0 g1 g2 g3 g4 g5 : Int32, vs = [(.int 45), (.int g5), (.int g4), (.int g3), (.int g2), (.int g1), (.int g0), (.int 0), (.int 0), (.int 0)] ∧ g0.toInt = 48 + A / 1 % 10 ∧ g1.toInt = 48 + A / 10 % 10 ∧ g2.toInt = 48 + A / 100 % 10 ∧ g3.toInt = 48 + A / 1000 % 10 ∧ g4.toInt = 48 + A / 10000 % 10 ∧ g5.toInt = 48 + A / 100000 % 10 ∧ 100000 ≤ A ∧ A < 1000000) ∨ (cn = 8 ∧ zz = 10 ∧ ∃ g0 g1 g2 g3 g4 g5 g6 : Int32, vs = [(.int 45), (.int g6), (.int g5), (.int g4), (.int g3), (.int g2), (.int g1), (.int g0), (.int 0), (.int 0)] ∧ g0.toInt = 48 + A / 1 % 10 ∧ g1.toInt = 48 + A / 10 % 10 ∧ g2.toInt = 48 + A / 100 % 10 ∧ g3.toInt = 48 + A / 1000 % 10 ∧ g4.toInt = 48 + A / 10000 % 10 ∧ g5.toInt = 48 + A / 100000 % 10 ∧ g6.toInt = 48 + A / 1000000 % 10 ∧ 1000000 ≤ A ∧ A < 10000000) ∨ (cn = 9 ∧ zz = 10 ∧ ∃ g0 g1 g2 g3 g4 g5 g6 g7 : Int32, vs = [(.int 45), (.int g7), (.int g6), (.int g5), (.int g4), (.int g3), (.int g2), (.int g1), (.int g0), (.int 0)] ∧ g0.toInt = 48 + A / 1 % 10 ∧ g1.toInt = 48 + A / 10 % 10 ∧ g2.toInt = 48 + A / 100 % 10 ∧ g3.toInt = 48 + A / 1000 % 10 ∧ g4.toInt = 48 + A / 10000 % 10 ∧ g5.toInt = 48 + A / 100000 % 10 ∧ g6.toInt = 48 + A / 1000000 % 10 ∧ g7.toInt = 48 + A / 10000000 % 10 ∧ 10000000 ≤ A ∧ A < 100000000) ∨ (cn = 10 ∧ zz = 10 ∧ ∃ g0 g1 g2 g3 g4 g5 g6 g7 g8 : Int32, vs = [(.int 45), (.int g8), (.int g7), (.int g6), (.int g5), (.int g4), (.int g3), (.int g2), (.int g1), (.int g0)] ∧ g0.toInt = 48 + A / 1 % 10 ∧ g1.toInt = 48 + A / 10 % 10 ∧ g2.toInt = 48 + A / 100 % 10 ∧ g3.toInt = 48 + A / 1000 % 10 ∧ g4.toInt = 48 + A / 10000 % 10 ∧ g5.toInt = 48 + A / 100000 % 10 ∧ g6.toInt = 48 + A / 1000000 % 10 ∧ g7.toInt = 48 + A / 10000000 % 10 ∧ g8.toInt = 48 + A / 100000000 % 10 ∧ 100000000 ≤ A ∧ A < 1000000000) ∨ (cn = 11 ∧ zz = 11 ∧ ∃ g0 g1 g2 g3 g4 g5 g6 g7 g8 g9 : Int32, vs = [(.int 45), (.int g9), (.int g8), (.int g7), (.int g6), (.int g5), (.int g4), (.int g3), (.int g2), (.int g1), (.int g0)] ∧ g0.toInt = 48 + A / 1 % 10 ∧ g1.toInt = 48 + A / 10 % 10 ∧ g2.toInt = 48 + A / 100 % 10 ∧ g3.toInt = 48 + A / 1000 % 10 ∧ g4.toInt = 48 + A / 10000 % 10 ∧ g5.toInt = 48 + A / 100000 % 10 ∧ g6.toInt = 48 + A / 1000000 % 10 ∧ g7.toInt = 48 + A / 10000000 % 10 ∧ g8.toInt = 48 + A / 100000000 % 10 ∧ g9.toInt = 48 + A / 1000000000 % 10 ∧ 1000000000 ≤ A)
def own_R (y a sg d ln : Int32) : Prop := (sg = 0 ∧ a = y ∧ ¬ y < 0 ∨ sg = 1 ∧ a = -y ∧ y < 0) ∧ 0 ≤ a.toInt ∧ ((d = 4 ∧ a.toInt < 10000) ∨ (d = 5 ∧ 10000 ≤ a.toInt ∧ a.toInt < 100000) ∨ (d = 6 ∧ 100000 ≤ a.toInt ∧ a.toInt < 1000000) ∨ (d = 7 ∧ 1000000 ≤ a.toInt ∧ a.toInt < 10000000) ∨ (d = 8 ∧ 10000000 ≤ a.toInt ∧ a.toInt < 100000000) ∨ (d = 9 ∧ 100000000 ≤ a.toInt ∧ a.toInt < 1000000000) ∨ (d = 10 ∧ 1000000000 ≤ a.toInt)) ∧ ln = sg + d
def own_D (vs : List Value) (aa ln dd kk pw : Int32) : Prop := kk < dd → ∃ g : Int32, (¬ (ln - 1 - kk) < 0 ∧ (ln - 1 - kk) < ln) ∧ vs.getD (ln - 1 - kk).toNatClampNeg (.int 0) = .int g.toInt8.toInt32 ∧ (0 ≤ g.toInt ∧ g.toInt ≤ 255) ∧ g = (48 + (aa / pw) % 10).toUInt32.toUInt16.toUInt32.toInt32
def own_pows : List (Int32 × Int32) := [(0, 1), (1, 10), (2, 100), (3, 1000), (4, 10000), (5, 100000), (6, 1000000), (7, 10000000), (8, 100000000), (9, 1000000000)]
theorem own_ge0 {x : Int32} (h : 0 ≤ x.toInt) : ¬ x < 0 := by
 rw [Int32.lt_iff_toInt_lt]
 have e : (0 : Int32).toInt = 0 := by decide
 omega
theorem own_neg {x : Int32} (h : -2147483648 < x.toInt) : (-x).toInt = -x.toInt := by
 have h2 := x.toInt_lt
 rw [Int32.toInt_neg, Int.bmod_eq_of_le] <;> omega
theorem own_ng {x : Int32} (h : 0 ≤ x.toInt) : (-x).toInt = -x.toInt := own_neg (by omega)
theorem own_ng1 {x : Int32} (h : 0 ≤ x.toInt) : (-x).toInt = -(x.toInt / 1) := by rw [own_ng h, Int.ediv_one]
theorem own_ngn {x : Int32} {B : Int} (h : x.toInt = -B) (hB : B < 2147483648) : (-x).toInt = B := by rw [own_neg (by omega), h]; omega
theorem own_ltI {a c : Int32} {n : Int} (h0 : 0 ≤ a.toInt) (h : c < -a) (hc : c.toInt = -n) : a.toInt < n := by
 rw [Int32.lt_iff_toInt_lt, own_ng h0] at h; omega
theorem own_nltI {a c : Int32} {n : Int} (h0 : 0 ≤ a.toInt) (h : ¬ c < -a) (hc : c.toInt = -n) : n ≤ a.toInt := by
 rw [Int32.lt_iff_toInt_lt, own_ng h0] at h; omega
theorem own_lt {i c : Int32} {B n : Int} (h : i.toInt = -B) (hc : c.toInt = -n) (q : B < n) : c < i := by rw [Int32.lt_iff_toInt_lt]; omega
theorem own_nlt {i c : Int32} {B n : Int} (h : i.toInt = -B) (hc : c.toInt = -n) (q : n ≤ B) : ¬ c < i := by rw [Int32.lt_iff_toInt_lt]; omega
theorem own_lt9 {i : Int32} {B : Int} (h : i.toInt = -B) (q : 10 ≤ B) : i < (-9 : Int32) := by
 rw [Int32.lt_iff_toInt_lt]
 have e : (-9 : Int32).toInt = -9 := by decide
 omega
theorem own_nlt9 {i : Int32} {B : Int} (h : i.toInt = -B) (q : B < 10) : ¬ i < (-9 : Int32) := by
 rw [Int32.lt_iff_toInt_lt]
 have e : (-9 : Int32).toInt = -9 := by decide
 omega
theorem own_dv {i : Int32} {B : Int} (h : i.toInt = -B) (h0 : 0 ≤ B) : (i / 100).toInt = -(B / 100) := by
 have e : (100 : Int32).toInt = 100 := by decide
 rw [Int32.toInt_div_of_ne_right _ _ (by decide), e, h, Int.neg_tdiv, Int.tdiv_eq_ediv_of_nonneg h0]
theorem own_q1 {a i : Int32} {P Q : Int} (h0 : 0 ≤ a.toInt) (h : i.toInt = -(a.toInt / P)) (hP : 0 < P) (hq : a.toInt / P / 100 = a.toInt / Q) : (i / 100).toInt = -(a.toInt / Q) := by
 rw [own_dv h (Int.ediv_nonneg h0 (by omega)), hq]
theorem own_q2 {a i : Int32} {P : Int} (h0 : 0 ≤ a.toInt) (h : i.toInt = -(a.toInt / P)) (hP : 0 < P) : ((i / 100) * 100 - i).toInt = a.toInt / P % 100 := by
 have hn := Int.ediv_nonneg h0 (Int.le_of_lt hP)
 have hd := own_dv h hn
 have e : (100 : Int32).toInt = 100 := by decide
 have l := i.le_toInt
 have h2 := i.toInt_lt
 generalize a.toInt / P = B at *
 have hm : ((i / 100) * 100).toInt = -(B / 100) * 100 := by
  rw [Int32.toInt_mul, hd, e, Int.bmod_eq_of_le] <;> omega
 rw [Int32.toInt_sub, hm, h, Int.bmod_eq_of_le] <;> omega
theorem own_ix {r : Int32} {B : Int} (h : r.toInt = B) (h0 : 0 ≤ B) (h1 : B < 100) : ¬ r < 0 ∧ r < 100 := by
 have e : (100 : Int32).toInt = 100 := by decide
 have e0 : (0 : Int32).toInt = 0 := by decide
 constructor <;> rw [Int32.lt_iff_toInt_lt] <;> omega
theorem own_eqi {x y : Int32} (h : x.toInt = y.toInt) : x = y := Int32.toInt_inj.mp h
theorem own_one {vs : List Value} {r g : Int32} {B D : Int} (H : own_tab vs fun r => 48 + r % 10) (h : r.toInt = B) (h0 : 0 ≤ B) (h1 : B < 100) (hg : g.toInt = 48 + D) (hD : B % 10 = D) : vs.getD r.toNatClampNeg (.int 0) = .int g := by
 rw [H r (by omega) (by omega)]
 have e : (10 : Int32).toInt = 10 := by decide
 have e8 : (48 : Int32).toInt = 48 := by decide
 have hr : (r % 10).toInt = B % 10 := by rw [Int32.toInt_mod, e, h, Int.tmod_eq_emod_of_nonneg h0]
 refine congrArg Value.int (own_eqi ?_)
 rw [Int32.toInt_add, hr, e8, hg, Int.bmod_eq_of_le] <;> omega
theorem own_ten {vs : List Value} {r g : Int32} {B D : Int} (H : own_tab vs fun r => 48 + r / 10) (h : r.toInt = B) (h0 : 0 ≤ B) (h1 : B < 100) (hg : g.toInt = 48 + D) (hD : B / 10 = D) : vs.getD r.toNatClampNeg (.int 0) = .int g := by
 rw [H r (by omega) (by omega)]
 have e : (10 : Int32).toInt = 10 := by decide
 have e8 : (48 : Int32).toInt = 48 := by decide
 have hr : (r / 10).toInt = B / 10 := by rw [Int32.toInt_div_of_ne_right _ _ (by decide), e, h, Int.tdiv_eq_ediv_of_nonneg h0]
 refine congrArg Value.int (own_eqi ?_)
 rw [Int32.toInt_add, hr, e8, hg, Int.bmod_eq_of_le] <;> omega
theorem own_b8 {g : Int32} (h0 : 0 ≤ g.toInt) (h1 : g.toInt < 128) : g.toInt8.toInt32 = g := by
 apply own_eqi
 rw [Int8.toInt_toInt32, Int32.toInt_toInt8, Int.bmod_eq_of_le] <;> omega
theorem own_nbg {g : Int32} {D : Int} (hg : g.toInt = 48 + D) (h0 : 0 ≤ D) (h1 : D < 10) : nar .byte g = g := own_b8 (by omega) (by omega)
theorem own_dig (A P : Int) : ∃ g : Int32, g.toInt = 48 + A / P % 10 := by
 refine ⟨Int32.ofInt (48 + A / P % 10), ?_⟩
 have e : Int32.size = 4294967296 := rfl
 rw [Int32.toInt_ofInt, e, Int.bmod_eq_of_le] <;> omega
theorem own_i2c {x : Int32} (h0 : 0 ≤ x.toInt) (h1 : x.toInt < 256) : x.toUInt32.toUInt16.toUInt32.toInt32 = x := by
 obtain ⟨n, rfl⟩ := own_byte ⟨h0, by omega⟩
 revert n; decide +kernel
theorem own_Dx {a pw : Int32} {P : Int} (hp : pw.toInt = P) (hP : 0 < P) (h0 : 0 ≤ a.toInt) : (48 + (a / pw) % 10).toInt = 48 + a.toInt / P % 10 := by
 have e : (10 : Int32).toInt = 10 := by decide
 have e8 : (48 : Int32).toInt = 48 := by decide
 have em : (-1 : Int32).toInt = -1 := by decide
 have hn := Int.ediv_nonneg h0 (Int.le_of_lt hP)
 have hne : pw ≠ -1 := fun q => by rw [q, em] at hp; omega
 have hd : (a / pw).toInt = a.toInt / P := by rw [Int32.toInt_div_of_ne_right _ _ hne, hp, Int.tdiv_eq_ediv_of_nonneg h0]
 have hr : ((a / pw) % 10).toInt = a.toInt / P % 10 := by rw [Int32.toInt_mod, e, hd, Int.tmod_eq_emod_of_nonneg hn]
 rw [Int32.toInt_add, hr, e8, Int.bmod_eq_of_le] <;> omega
theorem own_Dg {vs : List Value} {a ln dd kk pw g : Int32} {P : Int} (hg : g.toInt = 48 + a.toInt / P % 10) (hi : ¬ (ln - 1 - kk) < 0 ∧ (ln - 1 - kk) < ln) (hP : 0 < P) (hp : pw.toInt = P) (hv : vs.getD (ln - 1 - kk).toNatClampNeg (.int 0) = .int g) (h0 : 0 ≤ a.toInt) : own_D vs a ln dd kk pw := by
 intro _
 have hx := own_Dx hp hP h0
 refine ⟨g, hi, by rw [own_b8 (by omega) (by omega)]; exact hv, by omega, ?_⟩
 rw [own_i2c (by omega) (by omega)]
 exact own_eqi (by rw [hg, hx])
theorem own_Dz {vs : List Value} {a ln dd kk pw : Int32} {P : Int} (hi : ¬ (ln - 1 - kk) < 0 ∧ (ln - 1 - kk) < ln) (hP : 0 < P) (hp : pw.toInt = P) (hv : vs.getD (ln - 1 - kk).toNatClampNeg (.int 0) = .int 48) (h0 : 0 ≤ a.toInt) (hs : a.toInt < P) : own_D vs a ln dd kk pw :=
 own_Dg (g := 48) (by rw [Int.ediv_eq_zero_of_lt h0 hs]; decide) hi hP hp hv h0
theorem own_Dge {vs : List Value} {a ln dd kk pw : Int32} (h : ¬ kk < dd) : own_D vs a ln dd kk pw := fun q => absurd q h
theorem own_all10 {vs : List Value} {a ln dd : Int32} (h0 : own_D vs a ln dd 0 1) (h1 : own_D vs a ln dd 1 10) (h2 : own_D vs a ln dd 2 100) (h3 : own_D vs a ln dd 3 1000) (h4 : own_D vs a ln dd 4 10000) (h5 : own_D vs a ln dd 5 100000) (h6 : own_D vs a ln dd 6 1000000) (h7 : own_D vs a ln dd 7 10000000) (h8 : own_D vs a ln dd 8 100000000) (h9 : own_D vs a ln dd 9 1000000000) : ∀ q ∈ own_pows, own_D vs a ln dd q.1 q.2 := by
 intro q hq
 simp only [own_pows, List.mem_cons, List.not_mem_nil, or_false] at hq
 rcases hq with rfl | rfl | rfl | rfl | rfl | rfl | rfl | rfl | rfl | rfl <;> assumption
theorem own_eqint2 {s : State} {args : Array Value} {t u : Term} {idx : List Nat} {n : Int32} (q : (Cond.eq t u).value args s none s idx = some true) (hu : u.eval args s none idx s = some (.int n)) : t.eval args s none idx s = some (.int n) := by
  simp only [Cond.value, hu] at q
  cases ht : t.eval args s none idx s with
  | none => simp [ht] at q
  | some x => cases x <;> simp [ht] at q ⊢; exact q
theorem own_rhsO {s : State} {args : Array Value} {idx : List Nat} {j : Int32} (h : (Term.index 0).eval args s none idx s = some (.int j)) : (Jvm.Term.add (Jvm.Term.int 48) (Jvm.Term.rem (Jvm.Term.index (0 : Nat)) (Jvm.Term.int 10))).eval args s none idx s = some (.int (48 + j % 10)) := by
 have e : ¬ (10 : Int32) = 0 := by decide
 simp only [Term.eval] at h
 simp [Term.eval, h, e]
theorem own_rhsT {s : State} {args : Array Value} {idx : List Nat} {j : Int32} (h : (Term.index 0).eval args s none idx s = some (.int j)) : (Jvm.Term.add (Jvm.Term.int 48) (Jvm.Term.div (Jvm.Term.index (0 : Nat)) (Jvm.Term.int 10))).eval args s none idx s = some (.int (48 + j / 10)) := by
 have e : ¬ (10 : Int32) = 0 := by decide
 simp only [Term.eval] at h
 simp [Term.eval, h, e]
theorem own_table {s : State} {args : Array Value} {t rhs : Term} {d : Addr} {f : Int32 → Int32} (hf : Fit s) (wa : (Cond.arrayClass .byte).before args s = true) (ev : ∀ idx, t.eval args s none idx s = some (.ref d)) (hx : Exa s s.heap d "[B") (hl : (Term.length t).eval args s none [] s = some (.int 100)) (ha : (Cond.all t (.eq (.elem t (.index 0)) rhs)).value args s none s [] = some true) (hr : ∀ j : Int32, ¬ j < 0 → rhs.eval args s none [j.toNatClampNeg] s = some (.int (f j))) : ∃ k l, Arv s s.heap d k .byte 100 l (.int 0) ∧ own_tab l f := by
  obtain ⟨a', cl, e1, e2, e3, e4⟩ := Jvm.Free.SB.Term.length_small hl
  cases (ev []).symm.trans e1
  obtain ⟨cl', k, q1, q2, q3, q4, -⟩ := hx
  obtain ⟨c2, k2, comp, r1, r2, r3⟩ := Cond.arrayClass_spec wa
  obtain ⟨p1, hvm, -⟩ := State.arrayAt?_spec e2
  cases q1.symm.trans p1
  have r1' : s.vm.findClass "[B" = some c2 := r1
  cases q2.symm.trans r1'
  have A : Arr s s.heap d cl .byte := ⟨q1, ⟨(fun k q => by rw [q] at q4; cases q4), k2, r2, comp, r3⟩, hvm⟩
  have e5 : cl.slots.size.toInt32 = 100 := (Value.int.inj e3).symm
  have S : cl.slots.size = 100 := by
    have := congrArg Int32.toInt e5
    rw [len_toInt e4] at this
    have e6 : (100 : Int32).toInt = 100 := by decide
    omega
  have H : ∀ i, i < cl.slots.size → cl.slots[i]? = some (cl.slots.toList.getD i (.int 0)) := fun i hi => by
    rw [List.getD_eq_getElem?_getD, Array.getElem?_toList, Array.getElem?_eq_getElem hi]; rfl
  refine ⟨cl.cls, cl.slots.toList, ⟨cl, A, rfl, by rw [S]; decide, by decide, H, fun i hi => ?_⟩, fun r h1 h2 => ?_⟩
  · have e7 : (Nat.toInt32 i).toNatClampNeg = i := by simp only [Int32.toNatClampNeg, len_toInt (Nat.lt_trans hi e4)]; rfl
    exact elem_fits (j := Nat.toInt32 i) hf A (idx_in hi e4) (by rw [e7]; exact H i hi)
  · have hn : ¬ r < 0 := own_ge0 h1
    have hi : r.toNatClampNeg < cl.slots.size := by rw [S]; simp only [Int32.toNatClampNeg]; omega
    have key := own_eqint2 (Cond.all_elim (ev []) e2 ha _ hi) (hr r hn)
    rw [elem_f (ev _) (idx_at hn) e2 hn, H _ hi] at key
    exact Option.some.inj key
theorem own_Wc0 {A : Int} {cn zz : Int32} {vs : List Value} (h : own_W0 A cn zz vs) : own_cz zz cn vs := by
  rcases h with ⟨rfl, rfl, g0, rfl, hg0, hhi⟩ | ⟨rfl, rfl, g0, g1, rfl, hg0, hg1, hlo, hhi⟩ | ⟨rfl, rfl, g0, g1, g2, rfl, hg0, hg1, hg2, hlo, hhi⟩ | ⟨rfl, rfl, g0, g1, g2, g3, rfl, hg0, hg1, hg2, hg3, hlo, hhi⟩ | ⟨rfl, rfl, g0, g1, g2, g3, g4, rfl, hg0, hg1, hg2, hg3, hg4, hlo, hhi⟩ | ⟨rfl, rfl, g0, g1, g2, g3, g4, g5, rfl, hg0, hg1, hg2, hg3, hg4, hg5, hlo, hhi⟩ | ⟨rfl, rfl, g0, g1, g2, g3, g4, g5, g6, rfl, hg0, hg1, hg2, hg3, hg4, hg5, hg6, hlo, hhi⟩ | ⟨rfl, rfl, g0, g1, g2, g3, g4, g5, g6, g7, rfl, hg0, hg1, hg2, hg3, hg4, hg5, hg6, hg7, hlo, hhi⟩ | ⟨rfl, rfl, g0, g1, g2, g3, g4, g5, g6, g7, g8, rfl, hg0, hg1, hg2, hg3, hg4, hg5, hg6, hg7, hg8, hlo, hhi⟩ | ⟨rfl, rfl, g0, g1, g2, g3, g4, g5, g6, g7, g8, g9, rfl, hg0, hg1, hg2, hg3, hg4, hg5, hg6, hg7, hg8, hg9, hlo⟩
  · exact Or.inl (⟨rfl, rfl, 48, 48, 48, g0, rfl⟩)
  · exact Or.inl (⟨rfl, rfl, 48, 48, g1, g0, rfl⟩)
  · exact Or.inl (⟨rfl, rfl, 48, g2, g1, g0, rfl⟩)
  · exact Or.inl (⟨rfl, rfl, g3, g2, g1, g0, rfl⟩)
  · exact Or.inr (Or.inl (⟨rfl, rfl, g4, g3, g2, g1, g0, 0, 0, 0, 0, 0, rfl⟩))
  · exact Or.inr (Or.inr (Or.inl (⟨rfl, rfl, g5, g4, g3, g2, g1, g0, 0, 0, 0, 0, rfl⟩)))
  · exact Or.inr (Or.inr (Or.inr (Or.inl (⟨rfl, rfl, g6, g5, g4, g3, g2, g1, g0, 0, 0, 0, rfl⟩))))
  · exact Or.inr (Or.inr (Or.inr (Or.inr (Or.inl (⟨rfl, rfl, g7, g6, g5, g4, g3, g2, g1, g0, 0, 0, rfl⟩)))))
  · exact Or.inr (Or.inr (Or.inr (Or.inr (Or.inr (Or.inl (⟨rfl, rfl, g8, g7, g6, g5, g4, g3, g2, g1, g0, 0, rfl⟩))))))
  · exact Or.inr (Or.inr (Or.inr (Or.inr (Or.inr (Or.inr (Or.inl (⟨rfl, rfl, g9, g8, g7, g6, g5, g4, g3, g2, g1, g0, rfl⟩)))))))
theorem own_final0 {yy aa sg dd ln cn zz : Int32} {vs : List Value} (hR : own_R yy aa sg dd ln) (hsg : sg = 0) (haa : aa = yy) (hW : own_W0 (yy : Int32).toInt cn zz vs) : ln = cn ∧ (sg ≠ 0 → (vs.take cn.toNatClampNeg).getD 0 (.int 0) = .int 45) ∧ 0 < ln ∧ ∀ q ∈ own_pows, own_D (vs.take cn.toNatClampNeg) aa ln dd q.1 q.2 := by
  rw [← haa] at hW
  obtain ⟨-, h0, hd, hln⟩ := hR
  clear haa
  subst hsg
  rcases hW with ⟨rfl, rfl, g0, rfl, hg0, hhi⟩ | ⟨rfl, rfl, g0, g1, rfl, hg0, hg1, hlo, hhi⟩ | ⟨rfl, rfl, g0, g1, g2, rfl, hg0, hg1, hg2, hlo, hhi⟩ | ⟨rfl, rfl, g0, g1, g2, g3, rfl, hg0, hg1, hg2, hg3, hlo, hhi⟩ | ⟨rfl, rfl, g0, g1, g2, g3, g4, rfl, hg0, hg1, hg2, hg3, hg4, hlo, hhi⟩ | ⟨rfl, rfl, g0, g1, g2, g3, g4, g5, rfl, hg0, hg1, hg2, hg3, hg4, hg5, hlo, hhi⟩ | ⟨rfl, rfl, g0, g1, g2, g3, g4, g5, g6, rfl, hg0, hg1, hg2, hg3, hg4, hg5, hg6, hlo, hhi⟩ | ⟨rfl, rfl, g0, g1, g2, g3, g4, g5, g6, g7, rfl, hg0, hg1, hg2, hg3, hg4, hg5, hg6, hg7, hlo, hhi⟩ | ⟨rfl, rfl, g0, g1, g2, g3, g4, g5, g6, g7, g8, rfl, hg0, hg1, hg2, hg3, hg4, hg5, hg6, hg7, hg8, hlo, hhi⟩ | ⟨rfl, rfl, g0, g1, g2, g3, g4, g5, g6, g7, g8, g9, rfl, hg0, hg1, hg2, hg3, hg4, hg5, hg6, hg7, hg8, hg9, hlo⟩
  · have hdd : dd = 4 := by rcases hd with ⟨h, q⟩ | ⟨h, q⟩ | ⟨h, q⟩ | ⟨h, q⟩ | ⟨h, q⟩ | ⟨h, q⟩ | ⟨h, q⟩ <;> first | exact h | (exfalso; omega)
    subst hdd
    have hl : ln = 4 := hln.trans (by decide)
    subst hl
    exact ⟨rfl, fun q => absurd rfl q, by decide, own_all10 (own_Dg (P := 1) hg0 (by decide) (by decide) (by decide) rfl h0) (own_Dz (P := 10) (by decide) (by decide) (by decide) rfl h0 (by omega)) (own_Dz (P := 100) (by decide) (by decide) (by decide) rfl h0 (by omega)) (own_Dz (P := 1000) (by decide) (by decide) (by decide) rfl h0 (by omega)) (own_Dge (by decide)) (own_Dge (by decide)) (own_Dge (by decide)) (own_Dge (by decide)) (own_Dge (by decide)) (own_Dge (by decide))⟩
  · have hdd : dd = 4 := by rcases hd with ⟨h, q⟩ | ⟨h, q⟩ | ⟨h, q⟩ | ⟨h, q⟩ | ⟨h, q⟩ | ⟨h, q⟩ | ⟨h, q⟩ <;> first | exact h | (exfalso; omega)
    subst hdd
    have hl : ln = 4 := hln.trans (by decide)
    subst hl
    exact ⟨rfl, fun q => absurd rfl q, by decide, own_all10 (own_Dg (P := 1) hg0 (by decide) (by decide) (by decide) rfl h0) (own_Dg (P := 10) hg1 (by decide) (by decide) (by decide) rfl h0) (own_Dz (P := 100) (by decide) (by decide) (by decide) rfl h0 (by omega)) (own_Dz (P := 1000) (by decide) (by decide) (by decide) rfl h0 (by omega)) (own_Dge (by decide)) (own_Dge (by decide)) (own_Dge (by decide)) (own_Dge (by decide)) (own_Dge (by decide)) (own_Dge (by decide))⟩
  · have hdd : dd = 4 := by rcases hd with ⟨h, q⟩ | ⟨h, q⟩ | ⟨h, q⟩ | ⟨h, q⟩ | ⟨h, q⟩ | ⟨h, q⟩ | ⟨h, q⟩ <;> first | exact h | (exfalso; omega)
    subst hdd
    have hl : ln = 4 := hln.trans (by decide)
    subst hl
    exact ⟨rfl, fun q => absurd rfl q, by decide, own_all10 (own_Dg (P := 1) hg0 (by decide) (by decide) (by decide) rfl h0) (own_Dg (P := 10) hg1 (by decide) (by decide) (by decide) rfl h0) (own_Dg (P := 100) hg2 (by decide) (by decide) (by decide) rfl h0) (own_Dz (P := 1000) (by decide) (by decide) (by decide) rfl h0 (by omega)) (own_Dge (by decide)) (own_Dge (by decide)) (own_Dge (by decide)) (own_Dge (by decide)) (own_Dge (by decide)) (own_Dge (by decide))⟩
  · have hdd : dd = 4 := by rcases hd with ⟨h, q⟩ | ⟨h, q⟩ | ⟨h, q⟩ | ⟨h, q⟩ | ⟨h, q⟩ | ⟨h, q⟩ | ⟨h, q⟩ <;> first | exact h | (exfalso; omega)
    subst hdd
    have hl : ln = 4 := hln.trans (by decide)
    subst hl
    exact ⟨rfl, fun q => absurd rfl q, by decide, own_all10 (own_Dg (P := 1) hg0 (by decide) (by decide) (by decide) rfl h0) (own_Dg (P := 10) hg1 (by decide) (by decide) (by decide) rfl h0) (own_Dg (P := 100) hg2 (by decide) (by decide) (by decide) rfl h0) (own_Dg (P := 1000) hg3 (by decide) (by decide) (by decide) rfl h0) (own_Dge (by decide)) (own_Dge (by decide)) (own_Dge (by decide)) (own_Dge (by decide)) (own_Dge (by decide)) (own_Dge (by decide))⟩
  · have hdd : dd = 5 := by rcases hd with ⟨h, q⟩ | ⟨h, q⟩ | ⟨h, q⟩ | ⟨h, q⟩ | ⟨h, q⟩ | ⟨h, q⟩ | ⟨h, q⟩ <;> first | exact h | (exfalso; omega)
    subst hdd
    have hl : ln = 5 := hln.trans (by decide)
    subst hl
    exact ⟨rfl, fun q => absurd rfl q, by decide, own_all10 (own_Dg (P := 1) hg0 (by decide) (by decide) (by decide) rfl h0) (own_Dg (P := 10) hg1 (by decide) (by decide) (by decide) rfl h0) (own_Dg (P := 100) hg2 (by decide) (by decide) (by decide) rfl h0) (own_Dg (P := 1000) hg3 (by decide) (by decide) (by decide) rfl h0) (own_Dg (P := 10000) hg4 (by decide) (by decide) (by decide) rfl h0) (own_Dge (by decide)) (own_Dge (by decide)) (own_Dge (by decide)) (own_Dge (by decide)) (own_Dge (by decide))⟩
  · have hdd : dd = 6 := by rcases hd with ⟨h, q⟩ | ⟨h, q⟩ | ⟨h, q⟩ | ⟨h, q⟩ | ⟨h, q⟩ | ⟨h, q⟩ | ⟨h, q⟩ <;> first | exact h | (exfalso; omega)
    subst hdd
    have hl : ln = 6 := hln.trans (by decide)
    subst hl
    exact ⟨rfl, fun q => absurd rfl q, by decide, own_all10 (own_Dg (P := 1) hg0 (by decide) (by decide) (by decide) rfl h0) (own_Dg (P := 10) hg1 (by decide) (by decide) (by decide) rfl h0) (own_Dg (P := 100) hg2 (by decide) (by decide) (by decide) rfl h0) (own_Dg (P := 1000) hg3 (by decide) (by decide) (by decide) rfl h0) (own_Dg (P := 10000) hg4 (by decide) (by decide) (by decide) rfl h0) (own_Dg (P := 100000) hg5 (by decide) (by decide) (by decide) rfl h0) (own_Dge (by decide)) (own_Dge (by decide)) (own_Dge (by decide)) (own_Dge (by decide))⟩
  · have hdd : dd = 7 := by rcases hd with ⟨h, q⟩ | ⟨h, q⟩ | ⟨h, q⟩ | ⟨h, q⟩ | ⟨h, q⟩ | ⟨h, q⟩ | ⟨h, q⟩ <;> first | exact h | (exfalso; omega)
    subst hdd
    have hl : ln = 7 := hln.trans (by decide)
    subst hl
    exact ⟨rfl, fun q => absurd rfl q, by decide, own_all10 (own_Dg (P := 1) hg0 (by decide) (by decide) (by decide) rfl h0) (own_Dg (P := 10) hg1 (by decide) (by decide) (by decide) rfl h0) (own_Dg (P := 100) hg2 (by decide) (by decide) (by decide) rfl h0) (own_Dg (P := 1000) hg3 (by decide) (by decide) (by decide) rfl h0) (own_Dg (P := 10000) hg4 (by decide) (by decide) (by decide) rfl h0) (own_Dg (P := 100000) hg5 (by decide) (by decide) (by decide) rfl h0) (own_Dg (P := 1000000) hg6 (by decide) (by decide) (by decide) rfl h0) (own_Dge (by decide)) (own_Dge (by decide)) (own_Dge (by decide))⟩
  · have hdd : dd = 8 := by rcases hd with ⟨h, q⟩ | ⟨h, q⟩ | ⟨h, q⟩ | ⟨h, q⟩ | ⟨h, q⟩ | ⟨h, q⟩ | ⟨h, q⟩ <;> first | exact h | (exfalso; omega)
    subst hdd
    have hl : ln = 8 := hln.trans (by decide)
    subst hl
    exact ⟨rfl, fun q => absurd rfl q, by decide, own_all10 (own_Dg (P := 1) hg0 (by decide) (by decide) (by decide) rfl h0) (own_Dg (P := 10) hg1 (by decide) (by decide) (by decide) rfl h0) (own_Dg (P := 100) hg2 (by decide) (by decide) (by decide) rfl h0) (own_Dg (P := 1000) hg3 (by decide) (by decide) (by decide) rfl h0) (own_Dg (P := 10000) hg4 (by decide) (by decide) (by decide) rfl h0) (own_Dg (P := 100000) hg5 (by decide) (by decide) (by decide) rfl h0) (own_Dg (P := 1000000) hg6 (by decide) (by decide) (by decide) rfl h0) (own_Dg (P := 10000000) hg7 (by decide) (by decide) (by decide) rfl h0) (own_Dge (by decide)) (own_Dge (by decide))⟩
  · have hdd : dd = 9 := by rcases hd with ⟨h, q⟩ | ⟨h, q⟩ | ⟨h, q⟩ | ⟨h, q⟩ | ⟨h, q⟩ | ⟨h, q⟩ | ⟨h, q⟩ <;> first | exact h | (exfalso; omega)
    subst hdd
    have hl : ln = 9 := hln.trans (by decide)
    subst hl
    exact ⟨rfl, fun q => absurd rfl q, by decide, own_all10 (own_Dg (P := 1) hg0 (by decide) (by decide) (by decide) rfl h0) (own_Dg (P := 10) hg1 (by decide) (by decide) (by decide) rfl h0) (own_Dg (P := 100) hg2 (by decide) (by decide) (by decide) rfl h0) (own_Dg (P := 1000) hg3 (by decide) (by decide) (by decide) rfl h0) (own_Dg (P := 10000) hg4 (by decide) (by decide) (by decide) rfl h0) (own_Dg (P := 100000) hg5 (by decide) (by decide) (by decide) rfl h0) (own_Dg (P := 1000000) hg6 (by decide) (by decide) (by decide) rfl h0) (own_Dg (P := 10000000) hg7 (by decide) (by decide) (by decide) rfl h0) (own_Dg (P := 100000000) hg8 (by decide) (by decide) (by decide) rfl h0) (own_Dge (by decide))⟩
  · have hdd : dd = 10 := by rcases hd with ⟨h, q⟩ | ⟨h, q⟩ | ⟨h, q⟩ | ⟨h, q⟩ | ⟨h, q⟩ | ⟨h, q⟩ | ⟨h, q⟩ <;> first | exact h | (exfalso; omega)
    subst hdd
    have hl : ln = 10 := hln.trans (by decide)
    subst hl
    exact ⟨rfl, fun q => absurd rfl q, by decide, own_all10 (own_Dg (P := 1) hg0 (by decide) (by decide) (by decide) rfl h0) (own_Dg (P := 10) hg1 (by decide) (by decide) (by decide) rfl h0) (own_Dg (P := 100) hg2 (by decide) (by decide) (by decide) rfl h0) (own_Dg (P := 1000) hg3 (by decide) (by decide) (by decide) rfl h0) (own_Dg (P := 10000) hg4 (by decide) (by decide) (by decide) rfl h0) (own_Dg (P := 100000) hg5 (by decide) (by decide) (by decide) rfl h0) (own_Dg (P := 1000000) hg6 (by decide) (by decide) (by decide) rfl h0) (own_Dg (P := 10000000) hg7 (by decide) (by decide) (by decide) rfl h0) (own_Dg (P := 100000000) hg8 (by decide) (by decide) (by decide) rfl h0) (own_Dg (P := 1000000000) hg9 (by decide) (by decide) (by decide) rfl h0)⟩
theorem own_Wc1 {A : Int} {cn zz : Int32} {vs : List Value} (h : own_W1 A cn zz vs) : own_cz zz cn vs := by
  rcases h with ⟨rfl, rfl, g0, rfl, hg0, hhi⟩ | ⟨rfl, rfl, g0, g1, rfl, hg0, hg1, hlo, hhi⟩ | ⟨rfl, rfl, g0, g1, g2, rfl, hg0, hg1, hg2, hlo, hhi⟩ | ⟨rfl, rfl, g0, g1, g2, g3, rfl, hg0, hg1, hg2, hg3, hlo, hhi⟩ | ⟨rfl, rfl, g0, g1, g2, g3, g4, rfl, hg0, hg1, hg2, hg3, hg4, hlo, hhi⟩ | ⟨rfl, rfl, g0, g1, g2, g3, g4, g5, rfl, hg0, hg1, hg2, hg3, hg4, hg5, hlo, hhi⟩ | ⟨rfl, rfl, g0, g1, g2, g3, g4, g5, g6, rfl, hg0, hg1, hg2, hg3, hg4, hg5, hg6, hlo, hhi⟩ | ⟨rfl, rfl, g0, g1, g2, g3, g4, g5, g6, g7, rfl, hg0, hg1, hg2, hg3, hg4, hg5, hg6, hg7, hlo, hhi⟩ | ⟨rfl, rfl, g0, g1, g2, g3, g4, g5, g6, g7, g8, rfl, hg0, hg1, hg2, hg3, hg4, hg5, hg6, hg7, hg8, hlo, hhi⟩ | ⟨rfl, rfl, g0, g1, g2, g3, g4, g5, g6, g7, g8, g9, rfl, hg0, hg1, hg2, hg3, hg4, hg5, hg6, hg7, hg8, hg9, hlo⟩
  · exact Or.inr (Or.inl (⟨rfl, rfl, 45, 48, 48, 48, g0, 0, 0, 0, 0, 0, rfl⟩))
  · exact Or.inr (Or.inl (⟨rfl, rfl, 45, 48, 48, g1, g0, 0, 0, 0, 0, 0, rfl⟩))
  · exact Or.inr (Or.inl (⟨rfl, rfl, 45, 48, g2, g1, g0, 0, 0, 0, 0, 0, rfl⟩))
  · exact Or.inr (Or.inl (⟨rfl, rfl, 45, g3, g2, g1, g0, 0, 0, 0, 0, 0, rfl⟩))
  · exact Or.inr (Or.inr (Or.inl (⟨rfl, rfl, 45, g4, g3, g2, g1, g0, 0, 0, 0, 0, rfl⟩)))
  · exact Or.inr (Or.inr (Or.inr (Or.inl (⟨rfl, rfl, 45, g5, g4, g3, g2, g1, g0, 0, 0, 0, rfl⟩))))
  · exact Or.inr (Or.inr (Or.inr (Or.inr (Or.inl (⟨rfl, rfl, 45, g6, g5, g4, g3, g2, g1, g0, 0, 0, rfl⟩)))))
  · exact Or.inr (Or.inr (Or.inr (Or.inr (Or.inr (Or.inl (⟨rfl, rfl, 45, g7, g6, g5, g4, g3, g2, g1, g0, 0, rfl⟩))))))
  · exact Or.inr (Or.inr (Or.inr (Or.inr (Or.inr (Or.inr (Or.inl (⟨rfl, rfl, 45, g8, g7, g6, g5, g4, g3, g2, g1, g0, rfl⟩)))))))
  · exact Or.inr (Or.inr (Or.inr (Or.inr (Or.inr (Or.inr (Or.inr (⟨rfl, rfl, 45, g9, g8, g7, g6, g5, g4, g3, g2, g1, g0, rfl⟩)))))))
theorem own_final1 {yy aa sg dd ln cn zz : Int32} {vs : List Value} (hR : own_R yy aa sg dd ln) (hsg : sg = 1) (haa : aa = -yy) (hW : own_W1 (-yy : Int32).toInt cn zz vs) : ln = cn ∧ (sg ≠ 0 → (vs.take cn.toNatClampNeg).getD 0 (.int 0) = .int 45) ∧ 0 < ln ∧ ∀ q ∈ own_pows, own_D (vs.take cn.toNatClampNeg) aa ln dd q.1 q.2 := by
  rw [← haa] at hW
  obtain ⟨-, h0, hd, hln⟩ := hR
  clear haa
  subst hsg
  rcases hW with ⟨rfl, rfl, g0, rfl, hg0, hhi⟩ | ⟨rfl, rfl, g0, g1, rfl, hg0, hg1, hlo, hhi⟩ | ⟨rfl, rfl, g0, g1, g2, rfl, hg0, hg1, hg2, hlo, hhi⟩ | ⟨rfl, rfl, g0, g1, g2, g3, rfl, hg0, hg1, hg2, hg3, hlo, hhi⟩ | ⟨rfl, rfl, g0, g1, g2, g3, g4, rfl, hg0, hg1, hg2, hg3, hg4, hlo, hhi⟩ | ⟨rfl, rfl, g0, g1, g2, g3, g4, g5, rfl, hg0, hg1, hg2, hg3, hg4, hg5, hlo, hhi⟩ | ⟨rfl, rfl, g0, g1, g2, g3, g4, g5, g6, rfl, hg0, hg1, hg2, hg3, hg4, hg5, hg6, hlo, hhi⟩ | ⟨rfl, rfl, g0, g1, g2, g3, g4, g5, g6, g7, rfl, hg0, hg1, hg2, hg3, hg4, hg5, hg6, hg7, hlo, hhi⟩ | ⟨rfl, rfl, g0, g1, g2, g3, g4, g5, g6, g7, g8, rfl, hg0, hg1, hg2, hg3, hg4, hg5, hg6, hg7, hg8, hlo, hhi⟩ | ⟨rfl, rfl, g0, g1, g2, g3, g4, g5, g6, g7, g8, g9, rfl, hg0, hg1, hg2, hg3, hg4, hg5, hg6, hg7, hg8, hg9, hlo⟩
  · have hdd : dd = 4 := by rcases hd with ⟨h, q⟩ | ⟨h, q⟩ | ⟨h, q⟩ | ⟨h, q⟩ | ⟨h, q⟩ | ⟨h, q⟩ | ⟨h, q⟩ <;> first | exact h | (exfalso; omega)
    subst hdd
    have hl : ln = 5 := hln.trans (by decide)
    subst hl
    exact ⟨rfl, fun _ => rfl, by decide, own_all10 (own_Dg (P := 1) hg0 (by decide) (by decide) (by decide) rfl h0) (own_Dz (P := 10) (by decide) (by decide) (by decide) rfl h0 (by omega)) (own_Dz (P := 100) (by decide) (by decide) (by decide) rfl h0 (by omega)) (own_Dz (P := 1000) (by decide) (by decide) (by decide) rfl h0 (by omega)) (own_Dge (by decide)) (own_Dge (by decide)) (own_Dge (by decide)) (own_Dge (by decide)) (own_Dge (by decide)) (own_Dge (by decide))⟩
  · have hdd : dd = 4 := by rcases hd with ⟨h, q⟩ | ⟨h, q⟩ | ⟨h, q⟩ | ⟨h, q⟩ | ⟨h, q⟩ | ⟨h, q⟩ | ⟨h, q⟩ <;> first | exact h | (exfalso; omega)
    subst hdd
    have hl : ln = 5 := hln.trans (by decide)
    subst hl
    exact ⟨rfl, fun _ => rfl, by decide, own_all10 (own_Dg (P := 1) hg0 (by decide) (by decide) (by decide) rfl h0) (own_Dg (P := 10) hg1 (by decide) (by decide) (by decide) rfl h0) (own_Dz (P := 100) (by decide) (by decide) (by decide) rfl h0 (by omega)) (own_Dz (P := 1000) (by decide) (by decide) (by decide) rfl h0 (by omega)) (own_Dge (by decide)) (own_Dge (by decide)) (own_Dge (by decide)) (own_Dge (by decide)) (own_Dge (by decide)) (own_Dge (by decide))⟩
  · have hdd : dd = 4 := by rcases hd with ⟨h, q⟩ | ⟨h, q⟩ | ⟨h, q⟩ | ⟨h, q⟩ | ⟨h, q⟩ | ⟨h, q⟩ | ⟨h, q⟩ <;> first | exact h | (exfalso; omega)
    subst hdd
    have hl : ln = 5 := hln.trans (by decide)
    subst hl
    exact ⟨rfl, fun _ => rfl, by decide, own_all10 (own_Dg (P := 1) hg0 (by decide) (by decide) (by decide) rfl h0) (own_Dg (P := 10) hg1 (by decide) (by decide) (by decide) rfl h0) (own_Dg (P := 100) hg2 (by decide) (by decide) (by decide) rfl h0) (own_Dz (P := 1000) (by decide) (by decide) (by decide) rfl h0 (by omega)) (own_Dge (by decide)) (own_Dge (by decide)) (own_Dge (by decide)) (own_Dge (by decide)) (own_Dge (by decide)) (own_Dge (by decide))⟩
  · have hdd : dd = 4 := by rcases hd with ⟨h, q⟩ | ⟨h, q⟩ | ⟨h, q⟩ | ⟨h, q⟩ | ⟨h, q⟩ | ⟨h, q⟩ | ⟨h, q⟩ <;> first | exact h | (exfalso; omega)
    subst hdd
    have hl : ln = 5 := hln.trans (by decide)
    subst hl
    exact ⟨rfl, fun _ => rfl, by decide, own_all10 (own_Dg (P := 1) hg0 (by decide) (by decide) (by decide) rfl h0) (own_Dg (P := 10) hg1 (by decide) (by decide) (by decide) rfl h0) (own_Dg (P := 100) hg2 (by decide) (by decide) (by decide) rfl h0) (own_Dg (P := 1000) hg3 (by decide) (by decide) (by decide) rfl h0) (own_Dge (by decide)) (own_Dge (by decide)) (own_Dge (by decide)) (own_Dge (by decide)) (own_Dge (by decide)) (own_Dge (by decide))⟩
  · have hdd : dd = 5 := by rcases hd with ⟨h, q⟩ | ⟨h, q⟩ | ⟨h, q⟩ | ⟨h, q⟩ | ⟨h, q⟩ | ⟨h, q⟩ | ⟨h, q⟩ <;> first | exact h | (exfalso; omega)
    subst hdd
    have hl : ln = 6 := hln.trans (by decide)
    subst hl
    exact ⟨rfl, fun _ => rfl, by decide, own_all10 (own_Dg (P := 1) hg0 (by decide) (by decide) (by decide) rfl h0) (own_Dg (P := 10) hg1 (by decide) (by decide) (by decide) rfl h0) (own_Dg (P := 100) hg2 (by decide) (by decide) (by decide) rfl h0) (own_Dg (P := 1000) hg3 (by decide) (by decide) (by decide) rfl h0) (own_Dg (P := 10000) hg4 (by decide) (by decide) (by decide) rfl h0) (own_Dge (by decide)) (own_Dge (by decide)) (own_Dge (by decide)) (own_Dge (by decide)) (own_Dge (by decide))⟩
  · have hdd : dd = 6 := by rcases hd with ⟨h, q⟩ | ⟨h, q⟩ | ⟨h, q⟩ | ⟨h, q⟩ | ⟨h, q⟩ | ⟨h, q⟩ | ⟨h, q⟩ <;> first | exact h | (exfalso; omega)
    subst hdd
    have hl : ln = 7 := hln.trans (by decide)
    subst hl
    exact ⟨rfl, fun _ => rfl, by decide, own_all10 (own_Dg (P := 1) hg0 (by decide) (by decide) (by decide) rfl h0) (own_Dg (P := 10) hg1 (by decide) (by decide) (by decide) rfl h0) (own_Dg (P := 100) hg2 (by decide) (by decide) (by decide) rfl h0) (own_Dg (P := 1000) hg3 (by decide) (by decide) (by decide) rfl h0) (own_Dg (P := 10000) hg4 (by decide) (by decide) (by decide) rfl h0) (own_Dg (P := 100000) hg5 (by decide) (by decide) (by decide) rfl h0) (own_Dge (by decide)) (own_Dge (by decide)) (own_Dge (by decide)) (own_Dge (by decide))⟩
  · have hdd : dd = 7 := by rcases hd with ⟨h, q⟩ | ⟨h, q⟩ | ⟨h, q⟩ | ⟨h, q⟩ | ⟨h, q⟩ | ⟨h, q⟩ | ⟨h, q⟩ <;> first | exact h | (exfalso; omega)
    subst hdd
    have hl : ln = 8 := hln.trans (by decide)
    subst hl
    exact ⟨rfl, fun _ => rfl, by decide, own_all10 (own_Dg (P := 1) hg0 (by decide) (by decide) (by decide) rfl h0) (own_Dg (P := 10) hg1 (by decide) (by decide) (by decide) rfl h0) (own_Dg (P := 100) hg2 (by decide) (by decide) (by decide) rfl h0) (own_Dg (P := 1000) hg3 (by decide) (by decide) (by decide) rfl h0) (own_Dg (P := 10000) hg4 (by decide) (by decide) (by decide) rfl h0) (own_Dg (P := 100000) hg5 (by decide) (by decide) (by decide) rfl h0) (own_Dg (P := 1000000) hg6 (by decide) (by decide) (by decide) rfl h0) (own_Dge (by decide)) (own_Dge (by decide)) (own_Dge (by decide))⟩
  · have hdd : dd = 8 := by rcases hd with ⟨h, q⟩ | ⟨h, q⟩ | ⟨h, q⟩ | ⟨h, q⟩ | ⟨h, q⟩ | ⟨h, q⟩ | ⟨h, q⟩ <;> first | exact h | (exfalso; omega)
    subst hdd
    have hl : ln = 9 := hln.trans (by decide)
    subst hl
    exact ⟨rfl, fun _ => rfl, by decide, own_all10 (own_Dg (P := 1) hg0 (by decide) (by decide) (by decide) rfl h0) (own_Dg (P := 10) hg1 (by decide) (by decide) (by decide) rfl h0) (own_Dg (P := 100) hg2 (by decide) (by decide) (by decide) rfl h0) (own_Dg (P := 1000) hg3 (by decide) (by decide) (by decide) rfl h0) (own_Dg (P := 10000) hg4 (by decide) (by decide) (by decide) rfl h0) (own_Dg (P := 100000) hg5 (by decide) (by decide) (by decide) rfl h0) (own_Dg (P := 1000000) hg6 (by decide) (by decide) (by decide) rfl h0) (own_Dg (P := 10000000) hg7 (by decide) (by decide) (by decide) rfl h0) (own_Dge (by decide)) (own_Dge (by decide))⟩
  · have hdd : dd = 9 := by rcases hd with ⟨h, q⟩ | ⟨h, q⟩ | ⟨h, q⟩ | ⟨h, q⟩ | ⟨h, q⟩ | ⟨h, q⟩ | ⟨h, q⟩ <;> first | exact h | (exfalso; omega)
    subst hdd
    have hl : ln = 10 := hln.trans (by decide)
    subst hl
    exact ⟨rfl, fun _ => rfl, by decide, own_all10 (own_Dg (P := 1) hg0 (by decide) (by decide) (by decide) rfl h0) (own_Dg (P := 10) hg1 (by decide) (by decide) (by decide) rfl h0) (own_Dg (P := 100) hg2 (by decide) (by decide) (by decide) rfl h0) (own_Dg (P := 1000) hg3 (by decide) (by decide) (by decide) rfl h0) (own_Dg (P := 10000) hg4 (by decide) (by decide) (by decide) rfl h0) (own_Dg (P := 100000) hg5 (by decide) (by decide) (by decide) rfl h0) (own_Dg (P := 1000000) hg6 (by decide) (by decide) (by decide) rfl h0) (own_Dg (P := 10000000) hg7 (by decide) (by decide) (by decide) rfl h0) (own_Dg (P := 100000000) hg8 (by decide) (by decide) (by decide) rfl h0) (own_Dge (by decide))⟩
  · have hdd : dd = 10 := by rcases hd with ⟨h, q⟩ | ⟨h, q⟩ | ⟨h, q⟩ | ⟨h, q⟩ | ⟨h, q⟩ | ⟨h, q⟩ | ⟨h, q⟩ <;> first | exact h | (exfalso; omega)
    subst hdd
    have hl : ln = 11 := hln.trans (by decide)
    subst hl
    exact ⟨rfl, fun _ => rfl, by decide, own_all10 (own_Dg (P := 1) hg0 (by decide) (by decide) (by decide) rfl h0) (own_Dg (P := 10) hg1 (by decide) (by decide) (by decide) rfl h0) (own_Dg (P := 100) hg2 (by decide) (by decide) (by decide) rfl h0) (own_Dg (P := 1000) hg3 (by decide) (by decide) (by decide) rfl h0) (own_Dg (P := 10000) hg4 (by decide) (by decide) (by decide) rfl h0) (own_Dg (P := 100000) hg5 (by decide) (by decide) (by decide) rfl h0) (own_Dg (P := 1000000) hg6 (by decide) (by decide) (by decide) rfl h0) (own_Dg (P := 10000000) hg7 (by decide) (by decide) (by decide) rfl h0) (own_Dg (P := 100000000) hg8 (by decide) (by decide) (by decide) rfl h0) (own_Dg (P := 1000000000) hg9 (by decide) (by decide) (by decide) rfl h0)⟩
theorem own_mk0_4 {y : Int32} (hc10 : ¬ y = (-2147483648 : Int32)) (hc16 : ¬ y < 0) (hz : (y) < (10000 : Int32)) : own_R y (y) 0 4 4 := by
 have e0 : (0 : Int32).toInt = 0 := by decide
 have em : (-2147483648 : Int32).toInt = -2147483648 := by decide
 have ly := y.le_toInt
 have hy0 := hc16
 rw [Int32.lt_iff_toInt_lt, e0] at hy0
 have hne : y.toInt ≠ -2147483648 := fun q => hc10 (own_eqi (q.trans em.symm))
 rw [Int32.lt_iff_toInt_lt, show (10000 : Int32).toInt = 10000 by decide] at hz
 exact ⟨Or.inl ⟨rfl, rfl, hc16⟩, by omega, Or.inl ⟨rfl, hz⟩, by decide⟩
theorem own_mk0_5 {y : Int32} (hc10 : ¬ y = (-2147483648 : Int32)) (hc16 : ¬ y < 0) (h0 : ¬ (y) < (10000 : Int32)) (hz : (y) < (100000 : Int32)) : own_R y (y) 0 5 5 := by
 have e0 : (0 : Int32).toInt = 0 := by decide
 have em : (-2147483648 : Int32).toInt = -2147483648 := by decide
 have ly := y.le_toInt
 have hy0 := hc16
 rw [Int32.lt_iff_toInt_lt, e0] at hy0
 have hne : y.toInt ≠ -2147483648 := fun q => hc10 (own_eqi (q.trans em.symm))
 rw [Int32.lt_iff_toInt_lt, show (10000 : Int32).toInt = 10000 by decide] at h0
 rw [Int32.lt_iff_toInt_lt, show (100000 : Int32).toInt = 100000 by decide] at hz
 exact ⟨Or.inl ⟨rfl, rfl, hc16⟩, by omega, Or.inr (Or.inl ⟨rfl, by omega, hz⟩), by decide⟩
theorem own_mk0_6 {y : Int32} (hc10 : ¬ y = (-2147483648 : Int32)) (hc16 : ¬ y < 0) (h0 : ¬ (y) < (10000 : Int32)) (h1 : ¬ (y) < (100000 : Int32)) (hz : (y) < (1000000 : Int32)) : own_R y (y) 0 6 6 := by
 have e0 : (0 : Int32).toInt = 0 := by decide
 have em : (-2147483648 : Int32).toInt = -2147483648 := by decide
 have ly := y.le_toInt
 have hy0 := hc16
 rw [Int32.lt_iff_toInt_lt, e0] at hy0
 have hne : y.toInt ≠ -2147483648 := fun q => hc10 (own_eqi (q.trans em.symm))
 rw [Int32.lt_iff_toInt_lt, show (10000 : Int32).toInt = 10000 by decide] at h0
 rw [Int32.lt_iff_toInt_lt, show (100000 : Int32).toInt = 100000 by decide] at h1
 rw [Int32.lt_iff_toInt_lt, show (1000000 : Int32).toInt = 1000000 by decide] at hz
 exact ⟨Or.inl ⟨rfl, rfl, hc16⟩, by omega, Or.inr (Or.inr (Or.inl ⟨rfl, by omega, hz⟩)), by decide⟩
theorem own_mk0_7 {y : Int32} (hc10 : ¬ y = (-2147483648 : Int32)) (hc16 : ¬ y < 0) (h0 : ¬ (y) < (10000 : Int32)) (h1 : ¬ (y) < (100000 : Int32)) (h2 : ¬ (y) < (1000000 : Int32)) (hz : (y) < (10000000 : Int32)) : own_R y (y) 0 7 7 := by
 have e0 : (0 : Int32).toInt = 0 := by decide
 have em : (-2147483648 : Int32).toInt = -2147483648 := by decide
 have ly := y.le_toInt
 have hy0 := hc16
 rw [Int32.lt_iff_toInt_lt, e0] at hy0
 have hne : y.toInt ≠ -2147483648 := fun q => hc10 (own_eqi (q.trans em.symm))
 rw [Int32.lt_iff_toInt_lt, show (10000 : Int32).toInt = 10000 by decide] at h0
 rw [Int32.lt_iff_toInt_lt, show (100000 : Int32).toInt = 100000 by decide] at h1
 rw [Int32.lt_iff_toInt_lt, show (1000000 : Int32).toInt = 1000000 by decide] at h2
 rw [Int32.lt_iff_toInt_lt, show (10000000 : Int32).toInt = 10000000 by decide] at hz
 exact ⟨Or.inl ⟨rfl, rfl, hc16⟩, by omega, Or.inr (Or.inr (Or.inr (Or.inl ⟨rfl, by omega, hz⟩))), by decide⟩
theorem own_mk0_8 {y : Int32} (hc10 : ¬ y = (-2147483648 : Int32)) (hc16 : ¬ y < 0) (h0 : ¬ (y) < (10000 : Int32)) (h1 : ¬ (y) < (100000 : Int32)) (h2 : ¬ (y) < (1000000 : Int32)) (h3 : ¬ (y) < (10000000 : Int32)) (hz : (y) < (100000000 : Int32)) : own_R y (y) 0 8 8 := by
 have e0 : (0 : Int32).toInt = 0 := by decide
 have em : (-2147483648 : Int32).toInt = -2147483648 := by decide
 have ly := y.le_toInt
 have hy0 := hc16
 rw [Int32.lt_iff_toInt_lt, e0] at hy0
 have hne : y.toInt ≠ -2147483648 := fun q => hc10 (own_eqi (q.trans em.symm))
 rw [Int32.lt_iff_toInt_lt, show (10000 : Int32).toInt = 10000 by decide] at h0
 rw [Int32.lt_iff_toInt_lt, show (100000 : Int32).toInt = 100000 by decide] at h1
 rw [Int32.lt_iff_toInt_lt, show (1000000 : Int32).toInt = 1000000 by decide] at h2
 rw [Int32.lt_iff_toInt_lt, show (10000000 : Int32).toInt = 10000000 by decide] at h3
 rw [Int32.lt_iff_toInt_lt, show (100000000 : Int32).toInt = 100000000 by decide] at hz
 exact ⟨Or.inl ⟨rfl, rfl, hc16⟩, by omega, Or.inr (Or.inr (Or.inr (Or.inr (Or.inl ⟨rfl, by omega, hz⟩)))), by decide⟩
theorem own_mk0_9 {y : Int32} (hc10 : ¬ y = (-2147483648 : Int32)) (hc16 : ¬ y < 0) (h0 : ¬ (y) < (10000 : Int32)) (h1 : ¬ (y) < (100000 : Int32)) (h2 : ¬ (y) < (1000000 : Int32)) (h3 : ¬ (y) < (10000000 : Int32)) (h4 : ¬ (y) < (100000000 : Int32)) (hz : (y) < (1000000000 : Int32)) : own_R y (y) 0 9 9 := by
 have e0 : (0 : Int32).toInt = 0 := by decide
 have em : (-2147483648 : Int32).toInt = -2147483648 := by decide
 have ly := y.le_toInt
 have hy0 := hc16
 rw [Int32.lt_iff_toInt_lt, e0] at hy0
 have hne : y.toInt ≠ -2147483648 := fun q => hc10 (own_eqi (q.trans em.symm))
 rw [Int32.lt_iff_toInt_lt, show (10000 : Int32).toInt = 10000 by decide] at h0
 rw [Int32.lt_iff_toInt_lt, show (100000 : Int32).toInt = 100000 by decide] at h1
 rw [Int32.lt_iff_toInt_lt, show (1000000 : Int32).toInt = 1000000 by decide] at h2
 rw [Int32.lt_iff_toInt_lt, show (10000000 : Int32).toInt = 10000000 by decide] at h3
 rw [Int32.lt_iff_toInt_lt, show (100000000 : Int32).toInt = 100000000 by decide] at h4
 rw [Int32.lt_iff_toInt_lt, show (1000000000 : Int32).toInt = 1000000000 by decide] at hz
 exact ⟨Or.inl ⟨rfl, rfl, hc16⟩, by omega, Or.inr (Or.inr (Or.inr (Or.inr (Or.inr (Or.inl ⟨rfl, by omega, hz⟩))))), by decide⟩
theorem own_mk0_10 {y : Int32} (hc10 : ¬ y = (-2147483648 : Int32)) (hc16 : ¬ y < 0) (h0 : ¬ (y) < (10000 : Int32)) (h1 : ¬ (y) < (100000 : Int32)) (h2 : ¬ (y) < (1000000 : Int32)) (h3 : ¬ (y) < (10000000 : Int32)) (h4 : ¬ (y) < (100000000 : Int32)) (h5 : ¬ (y) < (1000000000 : Int32)) : own_R y (y) 0 10 10 := by
 have e0 : (0 : Int32).toInt = 0 := by decide
 have em : (-2147483648 : Int32).toInt = -2147483648 := by decide
 have ly := y.le_toInt
 have hy0 := hc16
 rw [Int32.lt_iff_toInt_lt, e0] at hy0
 have hne : y.toInt ≠ -2147483648 := fun q => hc10 (own_eqi (q.trans em.symm))
 rw [Int32.lt_iff_toInt_lt, show (10000 : Int32).toInt = 10000 by decide] at h0
 rw [Int32.lt_iff_toInt_lt, show (100000 : Int32).toInt = 100000 by decide] at h1
 rw [Int32.lt_iff_toInt_lt, show (1000000 : Int32).toInt = 1000000 by decide] at h2
 rw [Int32.lt_iff_toInt_lt, show (10000000 : Int32).toInt = 10000000 by decide] at h3
 rw [Int32.lt_iff_toInt_lt, show (100000000 : Int32).toInt = 100000000 by decide] at h4
 rw [Int32.lt_iff_toInt_lt, show (1000000000 : Int32).toInt = 1000000000 by decide] at h5
 exact ⟨Or.inl ⟨rfl, rfl, hc16⟩, by omega, Or.inr (Or.inr (Or.inr (Or.inr (Or.inr (Or.inr (⟨rfl, by omega⟩)))))), by decide⟩
theorem own_mk1_4 {y : Int32} (hc10 : ¬ y = (-2147483648 : Int32)) (hc16 : y < 0) (hz : (-y) < (10000 : Int32)) : own_R y (-y) 1 4 5 := by
 have e0 : (0 : Int32).toInt = 0 := by decide
 have em : (-2147483648 : Int32).toInt = -2147483648 := by decide
 have ly := y.le_toInt
 have hy0 := hc16
 rw [Int32.lt_iff_toInt_lt, e0] at hy0
 have hne : y.toInt ≠ -2147483648 := fun q => hc10 (own_eqi (q.trans em.symm))
 have hA := own_neg (x := y) (by omega)
 rw [Int32.lt_iff_toInt_lt, show (10000 : Int32).toInt = 10000 by decide] at hz
 exact ⟨Or.inr ⟨rfl, rfl, hc16⟩, by omega, Or.inl ⟨rfl, hz⟩, by decide⟩
theorem own_mk1_5 {y : Int32} (hc10 : ¬ y = (-2147483648 : Int32)) (hc16 : y < 0) (h0 : ¬ (-y) < (10000 : Int32)) (hz : (-y) < (100000 : Int32)) : own_R y (-y) 1 5 6 := by
 have e0 : (0 : Int32).toInt = 0 := by decide
 have em : (-2147483648 : Int32).toInt = -2147483648 := by decide
 have ly := y.le_toInt
 have hy0 := hc16
 rw [Int32.lt_iff_toInt_lt, e0] at hy0
 have hne : y.toInt ≠ -2147483648 := fun q => hc10 (own_eqi (q.trans em.symm))
 have hA := own_neg (x := y) (by omega)
 rw [Int32.lt_iff_toInt_lt, show (10000 : Int32).toInt = 10000 by decide] at h0
 rw [Int32.lt_iff_toInt_lt, show (100000 : Int32).toInt = 100000 by decide] at hz
 exact ⟨Or.inr ⟨rfl, rfl, hc16⟩, by omega, Or.inr (Or.inl ⟨rfl, by omega, hz⟩), by decide⟩
theorem own_mk1_6 {y : Int32} (hc10 : ¬ y = (-2147483648 : Int32)) (hc16 : y < 0) (h0 : ¬ (-y) < (10000 : Int32)) (h1 : ¬ (-y) < (100000 : Int32)) (hz : (-y) < (1000000 : Int32)) : own_R y (-y) 1 6 7 := by
 have e0 : (0 : Int32).toInt = 0 := by decide
 have em : (-2147483648 : Int32).toInt = -2147483648 := by decide
 have ly := y.le_toInt
 have hy0 := hc16
 rw [Int32.lt_iff_toInt_lt, e0] at hy0
 have hne : y.toInt ≠ -2147483648 := fun q => hc10 (own_eqi (q.trans em.symm))
 have hA := own_neg (x := y) (by omega)
 rw [Int32.lt_iff_toInt_lt, show (10000 : Int32).toInt = 10000 by decide] at h0
 rw [Int32.lt_iff_toInt_lt, show (100000 : Int32).toInt = 100000 by decide] at h1
 rw [Int32.lt_iff_toInt_lt, show (1000000 : Int32).toInt = 1000000 by decide] at hz
 exact ⟨Or.inr ⟨rfl, rfl, hc16⟩, by omega, Or.inr (Or.inr (Or.inl ⟨rfl, by omega, hz⟩)), by decide⟩
theorem own_mk1_7 {y : Int32} (hc10 : ¬ y = (-2147483648 : Int32)) (hc16 : y < 0) (h0 : ¬ (-y) < (10000 : Int32)) (h1 : ¬ (-y) < (100000 : Int32)) (h2 : ¬ (-y) < (1000000 : Int32)) (hz : (-y) < (10000000 : Int32)) : own_R y (-y) 1 7 8 := by
 have e0 : (0 : Int32).toInt = 0 := by decide
 have em : (-2147483648 : Int32).toInt = -2147483648 := by decide
 have ly := y.le_toInt
 have hy0 := hc16
 rw [Int32.lt_iff_toInt_lt, e0] at hy0
 have hne : y.toInt ≠ -2147483648 := fun q => hc10 (own_eqi (q.trans em.symm))
 have hA := own_neg (x := y) (by omega)
 rw [Int32.lt_iff_toInt_lt, show (10000 : Int32).toInt = 10000 by decide] at h0
 rw [Int32.lt_iff_toInt_lt, show (100000 : Int32).toInt = 100000 by decide] at h1
 rw [Int32.lt_iff_toInt_lt, show (1000000 : Int32).toInt = 1000000 by decide] at h2
 rw [Int32.lt_iff_toInt_lt, show (10000000 : Int32).toInt = 10000000 by decide] at hz
 exact ⟨Or.inr ⟨rfl, rfl, hc16⟩, by omega, Or.inr (Or.inr (Or.inr (Or.inl ⟨rfl, by omega, hz⟩))), by decide⟩
theorem own_mk1_8 {y : Int32} (hc10 : ¬ y = (-2147483648 : Int32)) (hc16 : y < 0) (h0 : ¬ (-y) < (10000 : Int32)) (h1 : ¬ (-y) < (100000 : Int32)) (h2 : ¬ (-y) < (1000000 : Int32)) (h3 : ¬ (-y) < (10000000 : Int32)) (hz : (-y) < (100000000 : Int32)) : own_R y (-y) 1 8 9 := by
 have e0 : (0 : Int32).toInt = 0 := by decide
 have em : (-2147483648 : Int32).toInt = -2147483648 := by decide
 have ly := y.le_toInt
 have hy0 := hc16
 rw [Int32.lt_iff_toInt_lt, e0] at hy0
 have hne : y.toInt ≠ -2147483648 := fun q => hc10 (own_eqi (q.trans em.symm))
 have hA := own_neg (x := y) (by omega)
 rw [Int32.lt_iff_toInt_lt, show (10000 : Int32).toInt = 10000 by decide] at h0
 rw [Int32.lt_iff_toInt_lt, show (100000 : Int32).toInt = 100000 by decide] at h1
 rw [Int32.lt_iff_toInt_lt, show (1000000 : Int32).toInt = 1000000 by decide] at h2
 rw [Int32.lt_iff_toInt_lt, show (10000000 : Int32).toInt = 10000000 by decide] at h3
 rw [Int32.lt_iff_toInt_lt, show (100000000 : Int32).toInt = 100000000 by decide] at hz
 exact ⟨Or.inr ⟨rfl, rfl, hc16⟩, by omega, Or.inr (Or.inr (Or.inr (Or.inr (Or.inl ⟨rfl, by omega, hz⟩)))), by decide⟩
theorem own_mk1_9 {y : Int32} (hc10 : ¬ y = (-2147483648 : Int32)) (hc16 : y < 0) (h0 : ¬ (-y) < (10000 : Int32)) (h1 : ¬ (-y) < (100000 : Int32)) (h2 : ¬ (-y) < (1000000 : Int32)) (h3 : ¬ (-y) < (10000000 : Int32)) (h4 : ¬ (-y) < (100000000 : Int32)) (hz : (-y) < (1000000000 : Int32)) : own_R y (-y) 1 9 10 := by
 have e0 : (0 : Int32).toInt = 0 := by decide
 have em : (-2147483648 : Int32).toInt = -2147483648 := by decide
 have ly := y.le_toInt
 have hy0 := hc16
 rw [Int32.lt_iff_toInt_lt, e0] at hy0
 have hne : y.toInt ≠ -2147483648 := fun q => hc10 (own_eqi (q.trans em.symm))
 have hA := own_neg (x := y) (by omega)
 rw [Int32.lt_iff_toInt_lt, show (10000 : Int32).toInt = 10000 by decide] at h0
 rw [Int32.lt_iff_toInt_lt, show (100000 : Int32).toInt = 100000 by decide] at h1
 rw [Int32.lt_iff_toInt_lt, show (1000000 : Int32).toInt = 1000000 by decide] at h2
 rw [Int32.lt_iff_toInt_lt, show (10000000 : Int32).toInt = 10000000 by decide] at h3
 rw [Int32.lt_iff_toInt_lt, show (100000000 : Int32).toInt = 100000000 by decide] at h4
 rw [Int32.lt_iff_toInt_lt, show (1000000000 : Int32).toInt = 1000000000 by decide] at hz
 exact ⟨Or.inr ⟨rfl, rfl, hc16⟩, by omega, Or.inr (Or.inr (Or.inr (Or.inr (Or.inr (Or.inl ⟨rfl, by omega, hz⟩))))), by decide⟩
theorem own_mk1_10 {y : Int32} (hc10 : ¬ y = (-2147483648 : Int32)) (hc16 : y < 0) (h0 : ¬ (-y) < (10000 : Int32)) (h1 : ¬ (-y) < (100000 : Int32)) (h2 : ¬ (-y) < (1000000 : Int32)) (h3 : ¬ (-y) < (10000000 : Int32)) (h4 : ¬ (-y) < (100000000 : Int32)) (h5 : ¬ (-y) < (1000000000 : Int32)) : own_R y (-y) 1 10 11 := by
 have e0 : (0 : Int32).toInt = 0 := by decide
 have em : (-2147483648 : Int32).toInt = -2147483648 := by decide
 have ly := y.le_toInt
 have hy0 := hc16
 rw [Int32.lt_iff_toInt_lt, e0] at hy0
 have hne : y.toInt ≠ -2147483648 := fun q => hc10 (own_eqi (q.trans em.symm))
 have hA := own_neg (x := y) (by omega)
 rw [Int32.lt_iff_toInt_lt, show (10000 : Int32).toInt = 10000 by decide] at h0
 rw [Int32.lt_iff_toInt_lt, show (100000 : Int32).toInt = 100000 by decide] at h1
 rw [Int32.lt_iff_toInt_lt, show (1000000 : Int32).toInt = 1000000 by decide] at h2
 rw [Int32.lt_iff_toInt_lt, show (10000000 : Int32).toInt = 10000000 by decide] at h3
 rw [Int32.lt_iff_toInt_lt, show (100000000 : Int32).toInt = 100000000 by decide] at h4
 rw [Int32.lt_iff_toInt_lt, show (1000000000 : Int32).toInt = 1000000000 by decide] at h5
 exact ⟨Or.inr ⟨rfl, rfl, hc16⟩, by omega, Or.inr (Or.inr (Or.inr (Or.inr (Or.inr (Or.inr (⟨rfl, by omega⟩)))))), by decide⟩
theorem rm_cod (l : Launch) (Z : State) (a0 : Array Value) (hw : HW a0 Z) (a1 : Addr) (cs : Int32) (hcs : ¬ cs = 0) (h0 : Heap) (n0 : Nat) (O : Old Z n0 h0) (F_coder_a1 : Fld Z h0 a1 "java/lang/String" "coder" "B" (.int 0)) (S_CS : Sta Z Z.heap "java/lang/String" "COMPACT_STRINGS" "Z" (.int cs)) :
  Con l Z (⟨"java/lang/String", "coder", "()B"⟩ : MethodName) jdk_42_method_152_code 1 (some .byte) ({ frames := 0, cells := 0, slots := 0, locals := 0 } : Room) #[(.ref a1)] h0 (fun v h L => v = some (.int 0) ∧ Fr n0 L ∧ h = h0) := by
 refine own_startC opn_13 ?_
 intro p e s m below meth c T0 X0 hx hby hml hZ hown hnm hret hlk e0
 have N := Fr.nil n0; have K := Keep.refl h0 []
 refine OG.cast (oef0 m a1) ?_
 refine og_getstatic X0 hx hZ (host := "") hown (Or.inl (ow70 hw)) Via.refl e0 (S_CS.ext O.2) (hb hby d13_0) rfl (fun T11 X11 e11 => ?_)
 refine og_if_eq (pc1 := 13) (pc2 := 6) X11 hx (hb hby d13_3) (by decide) (by decide) rfl (fun q => absurd q hcs) (fun _ => ?_)
 refine og_aloadN X11 hx rfl rfl (hb hby d13_6) rfl ?_
 refine og_getfield X11 hx hZ (host := "") hown (Or.inl (ow58 hw)) Via.refl e11 F_coder_a1 (hb hby d13_7) rfl (fun T12 X12 e12 => ?_)
 refine og_goto (pc' := 14) X12 hx (hb hby d13_10) (by decide) (by decide) ?_
 refine og_retN X12 hx hlk hret (by simp) (hb hby d13_14) (by decide) (by decide) ?_
 rw [e12]; exact ⟨rfl, N, rfl⟩
theorem rm_len (l : Launch) (Z : State) (a0 : Array Value) (hw : HW a0 Z) (a1 ba : Addr) (kb : ClassId) (nn : Int32) (vs : List Value) (cs : Int32) (hcs : ¬ cs = 0) (h0 : Heap) (n0 : Nat) (O : Old Z n0 h0) (E_a1 : Exa Z h0 a1 "java/lang/String") (F_value_a1 : Fld Z h0 a1 "java/lang/String" "value" "[B" (.ref ba)) (F_coder_a1 : Fld Z h0 a1 "java/lang/String" "coder" "B" (.int 0)) (V_ba : Arv Z h0 ba kb .byte nn vs (.int 0)) (S_CS : Sta Z Z.heap "java/lang/String" "COMPACT_STRINGS" "Z" (.int cs)) :
  Con l Z (⟨"java/lang/String", "length", "()I"⟩ : MethodName) jdk_42_method_54_code 1 (some .int) ({ frames := 1, cells := 0, slots := 0, locals := 13 } : Room) #[(.ref a1)] h0 (fun v h L => v = some (.int nn) ∧ Fr n0 L ∧ h = h0) := by
 refine own_startC opn_12 ?_
 intro p e s m below meth c T0 X0 hx hby hml hZ hown hnm hret hlk e0
 have N := Fr.nil n0; have K := Keep.refl h0 []
 refine OG.cast (oef0 m a1) ?_
 refine og_aloadN X0 hx rfl rfl (hb hby d12_0) rfl ?_
 refine og_getfield X0 hx hZ (host := "") hown (Or.inl (ow56 hw)) Via.refl e0 F_value_a1 (hb hby d12_1) rfl (fun T11 X11 e11 => ?_)
 refine og_arraylength X11 hx hZ e11 V_ba (hb hby d12_4) rfl ?_
 refine og_aloadN X11 hx rfl rfl (hb hby d12_5) rfl ?_
 refine og_virtual (pc' := 9) (cells' := 0) (slots' := 0) (W := 1) X11 hx hZ (rm_cod l Z a0 hw a1 cs hcs h0 n0 O F_coder_a1 S_CS) hown (ow65 hw) (ow66 hw) (own_nf hZ (ow68 hw)) (ow68 hw) (ow67 hw) (ow21 hw) (ow69 hw) (by decide) (by rw [hml]; rfl) e11 opd_0 [] [(.int nn)] rfl rfl rfl rfl (by decide) (by decide) rfl rfl (by decide) (by decide) E_a1 (hb hby d12_6) rfl (fun v12 T12 h12 L12 X12 e12 z12 => ?_)
 obtain ⟨rfl, Nq12, hq12⟩ := z12; replace e12 := e12.trans hq12; have N := Fr.app N Nq12
 refine og_ishr X12 hx (hb hby d12_9) rfl ?_
 refine og_retI X12 hx hlk hret (hb hby d12_10) (by decide) (by decide) ?_
 rw [e12, own_shr0]; exact ⟨rfl, N, rfl⟩
theorem rm_ss (l : Launch) (Z : State) (a0 : Array Value) (hw : HW a0 Z) (aa : Int32) (h0a : 0 ≤ aa.toInt) (h0 : Heap) (n0 : Nat) (O : Old Z n0 h0) :
  Con l Z (⟨"java/lang/Integer", "stringSize", "(I)I"⟩ : MethodName) jdk_33_method_13_code 4 (some .int) ({ frames := 0, cells := 0, slots := 0, locals := 0 } : Room) #[(.int aa)] h0 (fun v h L => ∃ kk : Int32, v = some (.int kk) ∧ Fr n0 L ∧ h = h0 ∧ own_sz aa.toInt kk) := by
 refine own_startC opn_9 ?_
 intro p e s m below meth c T0 X0 hx hby hml hZ hown hnm hret hlk e0
 have N := Fr.nil n0; have K := Keep.refl h0 []
 refine OG.cast (oef1 m aa) ?_
 refine og_iconst (v := 1) X0 hx rfl (hb hby d9_0) rfl ?_
 refine og_istoreN (L' := #[.val (.int aa), .val (.int 1), .unset, .unset]) X0 hx rfl (hb hby d9_1) rfl ?_
 refine og_iloadN X0 hx rfl (hb hby d9_2) rfl ?_
 refine og_if_lt (pc1 := 11) (pc2 := 6) X0 hx (hb hby d9_3) (by decide) (by decide) rfl (fun q => absurd q (own_ge0 h0a)) (fun _ => ?_)
 refine og_iconst (v := 0) X0 hx rfl (hb hby d9_6) rfl ?_
 refine og_istoreN (L' := #[.val (.int aa), .val (.int 0), .unset, .unset]) X0 hx rfl (hb hby d9_7) rfl ?_
 refine og_iloadN X0 hx rfl (hb hby d9_8) rfl ?_
 refine og_ineg X0 hx (hb hby d9_9) rfl ?_
 refine og_istoreN (L' := #[.val (.int (-aa)), .val (.int 0), .unset, .unset]) X0 hx rfl (hb hby d9_10) rfl ?_
 refine og_bipush (v := -10) X0 hx rfl (hb hby d9_11) rfl ?_
 refine og_istoreN (L' := #[.val (.int (-aa)), .val (.int 0), .val (.int (-10)), .unset]) X0 hx rfl (hb hby d9_13) rfl ?_
 refine og_iconst (v := 1) X0 hx rfl (hb hby d9_14) rfl ?_
 refine og_istoreN (L' := #[.val (.int (-aa)), .val (.int 0), .val (.int (-10)), .val (.int 1)]) X0 hx rfl (hb hby d9_15) rfl ?_
 refine og_iloadN X0 hx rfl (hb hby d9_16) rfl ?_
 refine og_bipush (v := 10) X0 hx rfl (hb hby d9_17) rfl ?_
 refine og_icmp_ge (pc1 := 42) (pc2 := 22) X0 hx (hb hby d9_19) (by decide) (by decide) rfl (fun q => absurd q (by decide)) (fun _ => ?_)
 refine og_iloadN X0 hx rfl (hb hby d9_22) rfl ?_
 refine og_iloadN X0 hx rfl (hb hby d9_23) rfl ?_
 refine og_icmp_le (pc1 := 31) (pc2 := 27) X0 hx (hb hby d9_24) (by decide) (by decide) rfl (fun hc24 => ?_) (fun hc24 => ?_)
 ·
  have hq1 : 10 ≤ aa.toInt := own_nltI h0a hc24 (n := 10) (by decide)
  refine og_bipush (v := 10) X0 hx rfl (hb hby d9_31) rfl ?_
  refine og_iloadN X0 hx rfl (hb hby d9_33) rfl ?_
  refine og_imul X0 hx (hb hby d9_34) rfl ?_
  show OG p e below _ (T0.setTop (mkF m 35 #[.val (.int (-aa)), .val (.int 0), .val (.int (-10)), .val (.int 1)] [(.int (-100))]))
  refine og_istoreN (L' := #[.val (.int (-aa)), .val (.int 0), .val (.int (-100)), .val (.int 1)]) X0 hx rfl (hb hby d9_35) rfl ?_
  refine og_iinc (L' := #[.val (.int (-aa)), .val (.int 0), .val (.int (-100)), .val (.int 2)]) (w := 1) X0 hx rfl rfl rfl (hb hby d9_36) rfl ?_
  refine og_goto (pc' := 16) X0 hx (hb hby d9_39) (by decide) (by decide) ?_
  refine og_iloadN X0 hx rfl (hb hby d9_16) rfl ?_
  refine og_bipush (v := 10) X0 hx rfl (hb hby d9_17) rfl ?_
  refine og_icmp_ge (pc1 := 42) (pc2 := 22) X0 hx (hb hby d9_19) (by decide) (by decide) rfl (fun q => absurd q (by decide)) (fun _ => ?_)
  refine og_iloadN X0 hx rfl (hb hby d9_22) rfl ?_
  refine og_iloadN X0 hx rfl (hb hby d9_23) rfl ?_
  refine og_icmp_le (pc1 := 31) (pc2 := 27) X0 hx (hb hby d9_24) (by decide) (by decide) rfl (fun hc24 => ?_) (fun hc24 => ?_)
  ·
   have hq2 : 100 ≤ aa.toInt := own_nltI h0a hc24 (n := 100) (by decide)
   refine og_bipush (v := 10) X0 hx rfl (hb hby d9_31) rfl ?_
   refine og_iloadN X0 hx rfl (hb hby d9_33) rfl ?_
   refine og_imul X0 hx (hb hby d9_34) rfl ?_
   show OG p e below _ (T0.setTop (mkF m 35 #[.val (.int (-aa)), .val (.int 0), .val (.int (-100)), .val (.int 2)] [(.int (-1000))]))
   refine og_istoreN (L' := #[.val (.int (-aa)), .val (.int 0), .val (.int (-1000)), .val (.int 2)]) X0 hx rfl (hb hby d9_35) rfl ?_
   refine og_iinc (L' := #[.val (.int (-aa)), .val (.int 0), .val (.int (-1000)), .val (.int 3)]) (w := 1) X0 hx rfl rfl rfl (hb hby d9_36) rfl ?_
   refine og_goto (pc' := 16) X0 hx (hb hby d9_39) (by decide) (by decide) ?_
   refine og_iloadN X0 hx rfl (hb hby d9_16) rfl ?_
   refine og_bipush (v := 10) X0 hx rfl (hb hby d9_17) rfl ?_
   refine og_icmp_ge (pc1 := 42) (pc2 := 22) X0 hx (hb hby d9_19) (by decide) (by decide) rfl (fun q => absurd q (by decide)) (fun _ => ?_)
   refine og_iloadN X0 hx rfl (hb hby d9_22) rfl ?_
   refine og_iloadN X0 hx rfl (hb hby d9_23) rfl ?_
   refine og_icmp_le (pc1 := 31) (pc2 := 27) X0 hx (hb hby d9_24) (by decide) (by decide) rfl (fun hc24 => ?_) (fun hc24 => ?_)
   ·
    have hq3 : 1000 ≤ aa.toInt := own_nltI h0a hc24 (n := 1000) (by decide)
    refine og_bipush (v := 10) X0 hx rfl (hb hby d9_31) rfl ?_
    refine og_iloadN X0 hx rfl (hb hby d9_33) rfl ?_
    refine og_imul X0 hx (hb hby d9_34) rfl ?_
    show OG p e below _ (T0.setTop (mkF m 35 #[.val (.int (-aa)), .val (.int 0), .val (.int (-1000)), .val (.int 3)] [(.int (-10000))]))
    refine og_istoreN (L' := #[.val (.int (-aa)), .val (.int 0), .val (.int (-10000)), .val (.int 3)]) X0 hx rfl (hb hby d9_35) rfl ?_
    refine og_iinc (L' := #[.val (.int (-aa)), .val (.int 0), .val (.int (-10000)), .val (.int 4)]) (w := 1) X0 hx rfl rfl rfl (hb hby d9_36) rfl ?_
    refine og_goto (pc' := 16) X0 hx (hb hby d9_39) (by decide) (by decide) ?_
    refine og_iloadN X0 hx rfl (hb hby d9_16) rfl ?_
    refine og_bipush (v := 10) X0 hx rfl (hb hby d9_17) rfl ?_
    refine og_icmp_ge (pc1 := 42) (pc2 := 22) X0 hx (hb hby d9_19) (by decide) (by decide) rfl (fun q => absurd q (by decide)) (fun _ => ?_)
    refine og_iloadN X0 hx rfl (hb hby d9_22) rfl ?_
    refine og_iloadN X0 hx rfl (hb hby d9_23) rfl ?_
    refine og_icmp_le (pc1 := 31) (pc2 := 27) X0 hx (hb hby d9_24) (by decide) (by decide) rfl (fun hc24 => ?_) (fun hc24 => ?_)
    ·
     have hq4 : 10000 ≤ aa.toInt := own_nltI h0a hc24 (n := 10000) (by decide)
     refine og_bipush (v := 10) X0 hx rfl (hb hby d9_31) rfl ?_
     refine og_iloadN X0 hx rfl (hb hby d9_33) rfl ?_
     refine og_imul X0 hx (hb hby d9_34) rfl ?_
     show OG p e below _ (T0.setTop (mkF m 35 #[.val (.int (-aa)), .val (.int 0), .val (.int (-10000)), .val (.int 4)] [(.int (-100000))]))
     refine og_istoreN (L' := #[.val (.int (-aa)), .val (.int 0), .val (.int (-100000)), .val (.int 4)]) X0 hx rfl (hb hby d9_35) rfl ?_
     refine og_iinc (L' := #[.val (.int (-aa)), .val (.int 0), .val (.int (-100000)), .val (.int 5)]) (w := 1) X0 hx rfl rfl rfl (hb hby d9_36) rfl ?_
     refine og_goto (pc' := 16) X0 hx (hb hby d9_39) (by decide) (by decide) ?_
     refine og_iloadN X0 hx rfl (hb hby d9_16) rfl ?_
     refine og_bipush (v := 10) X0 hx rfl (hb hby d9_17) rfl ?_
     refine og_icmp_ge (pc1 := 42) (pc2 := 22) X0 hx (hb hby d9_19) (by decide) (by decide) rfl (fun q => absurd q (by decide)) (fun _ => ?_)
     refine og_iloadN X0 hx rfl (hb hby d9_22) rfl ?_
     refine og_iloadN X0 hx rfl (hb hby d9_23) rfl ?_
     refine og_icmp_le (pc1 := 31) (pc2 := 27) X0 hx (hb hby d9_24) (by decide) (by decide) rfl (fun hc24 => ?_) (fun hc24 => ?_)
     ·
      have hq5 : 100000 ≤ aa.toInt := own_nltI h0a hc24 (n := 100000) (by decide)
      refine og_bipush (v := 10) X0 hx rfl (hb hby d9_31) rfl ?_
      refine og_iloadN X0 hx rfl (hb hby d9_33) rfl ?_
      refine og_imul X0 hx (hb hby d9_34) rfl ?_
      show OG p e below _ (T0.setTop (mkF m 35 #[.val (.int (-aa)), .val (.int 0), .val (.int (-100000)), .val (.int 5)] [(.int (-1000000))]))
      refine og_istoreN (L' := #[.val (.int (-aa)), .val (.int 0), .val (.int (-1000000)), .val (.int 5)]) X0 hx rfl (hb hby d9_35) rfl ?_
      refine og_iinc (L' := #[.val (.int (-aa)), .val (.int 0), .val (.int (-1000000)), .val (.int 6)]) (w := 1) X0 hx rfl rfl rfl (hb hby d9_36) rfl ?_
      refine og_goto (pc' := 16) X0 hx (hb hby d9_39) (by decide) (by decide) ?_
      refine og_iloadN X0 hx rfl (hb hby d9_16) rfl ?_
      refine og_bipush (v := 10) X0 hx rfl (hb hby d9_17) rfl ?_
      refine og_icmp_ge (pc1 := 42) (pc2 := 22) X0 hx (hb hby d9_19) (by decide) (by decide) rfl (fun q => absurd q (by decide)) (fun _ => ?_)
      refine og_iloadN X0 hx rfl (hb hby d9_22) rfl ?_
      refine og_iloadN X0 hx rfl (hb hby d9_23) rfl ?_
      refine og_icmp_le (pc1 := 31) (pc2 := 27) X0 hx (hb hby d9_24) (by decide) (by decide) rfl (fun hc24 => ?_) (fun hc24 => ?_)
      ·
       have hq6 : 1000000 ≤ aa.toInt := own_nltI h0a hc24 (n := 1000000) (by decide)
       refine og_bipush (v := 10) X0 hx rfl (hb hby d9_31) rfl ?_
       refine og_iloadN X0 hx rfl (hb hby d9_33) rfl ?_
       refine og_imul X0 hx (hb hby d9_34) rfl ?_
       show OG p e below _ (T0.setTop (mkF m 35 #[.val (.int (-aa)), .val (.int 0), .val (.int (-1000000)), .val (.int 6)] [(.int (-10000000))]))
       refine og_istoreN (L' := #[.val (.int (-aa)), .val (.int 0), .val (.int (-10000000)), .val (.int 6)]) X0 hx rfl (hb hby d9_35) rfl ?_
       refine og_iinc (L' := #[.val (.int (-aa)), .val (.int 0), .val (.int (-10000000)), .val (.int 7)]) (w := 1) X0 hx rfl rfl rfl (hb hby d9_36) rfl ?_
       refine og_goto (pc' := 16) X0 hx (hb hby d9_39) (by decide) (by decide) ?_
       refine og_iloadN X0 hx rfl (hb hby d9_16) rfl ?_
       refine og_bipush (v := 10) X0 hx rfl (hb hby d9_17) rfl ?_
       refine og_icmp_ge (pc1 := 42) (pc2 := 22) X0 hx (hb hby d9_19) (by decide) (by decide) rfl (fun q => absurd q (by decide)) (fun _ => ?_)
       refine og_iloadN X0 hx rfl (hb hby d9_22) rfl ?_
       refine og_iloadN X0 hx rfl (hb hby d9_23) rfl ?_
       refine og_icmp_le (pc1 := 31) (pc2 := 27) X0 hx (hb hby d9_24) (by decide) (by decide) rfl (fun hc24 => ?_) (fun hc24 => ?_)
       ·
        have hq7 : 10000000 ≤ aa.toInt := own_nltI h0a hc24 (n := 10000000) (by decide)
        refine og_bipush (v := 10) X0 hx rfl (hb hby d9_31) rfl ?_
        refine og_iloadN X0 hx rfl (hb hby d9_33) rfl ?_
        refine og_imul X0 hx (hb hby d9_34) rfl ?_
        show OG p e below _ (T0.setTop (mkF m 35 #[.val (.int (-aa)), .val (.int 0), .val (.int (-10000000)), .val (.int 7)] [(.int (-100000000))]))
        refine og_istoreN (L' := #[.val (.int (-aa)), .val (.int 0), .val (.int (-100000000)), .val (.int 7)]) X0 hx rfl (hb hby d9_35) rfl ?_
        refine og_iinc (L' := #[.val (.int (-aa)), .val (.int 0), .val (.int (-100000000)), .val (.int 8)]) (w := 1) X0 hx rfl rfl rfl (hb hby d9_36) rfl ?_
        refine og_goto (pc' := 16) X0 hx (hb hby d9_39) (by decide) (by decide) ?_
        refine og_iloadN X0 hx rfl (hb hby d9_16) rfl ?_
        refine og_bipush (v := 10) X0 hx rfl (hb hby d9_17) rfl ?_
        refine og_icmp_ge (pc1 := 42) (pc2 := 22) X0 hx (hb hby d9_19) (by decide) (by decide) rfl (fun q => absurd q (by decide)) (fun _ => ?_)
        refine og_iloadN X0 hx rfl (hb hby d9_22) rfl ?_
        refine og_iloadN X0 hx rfl (hb hby d9_23) rfl ?_
        refine og_icmp_le (pc1 := 31) (pc2 := 27) X0 hx (hb hby d9_24) (by decide) (by decide) rfl (fun hc24 => ?_) (fun hc24 => ?_)
        ·
         have hq8 : 100000000 ≤ aa.toInt := own_nltI h0a hc24 (n := 100000000) (by decide)
         refine og_bipush (v := 10) X0 hx rfl (hb hby d9_31) rfl ?_
         refine og_iloadN X0 hx rfl (hb hby d9_33) rfl ?_
         refine og_imul X0 hx (hb hby d9_34) rfl ?_
         show OG p e below _ (T0.setTop (mkF m 35 #[.val (.int (-aa)), .val (.int 0), .val (.int (-100000000)), .val (.int 8)] [(.int (-1000000000))]))
         refine og_istoreN (L' := #[.val (.int (-aa)), .val (.int 0), .val (.int (-1000000000)), .val (.int 8)]) X0 hx rfl (hb hby d9_35) rfl ?_
         refine og_iinc (L' := #[.val (.int (-aa)), .val (.int 0), .val (.int (-1000000000)), .val (.int 9)]) (w := 1) X0 hx rfl rfl rfl (hb hby d9_36) rfl ?_
         refine og_goto (pc' := 16) X0 hx (hb hby d9_39) (by decide) (by decide) ?_
         refine og_iloadN X0 hx rfl (hb hby d9_16) rfl ?_
         refine og_bipush (v := 10) X0 hx rfl (hb hby d9_17) rfl ?_
         refine og_icmp_ge (pc1 := 42) (pc2 := 22) X0 hx (hb hby d9_19) (by decide) (by decide) rfl (fun q => absurd q (by decide)) (fun _ => ?_)
         refine og_iloadN X0 hx rfl (hb hby d9_22) rfl ?_
         refine og_iloadN X0 hx rfl (hb hby d9_23) rfl ?_
         refine og_icmp_le (pc1 := 31) (pc2 := 27) X0 hx (hb hby d9_24) (by decide) (by decide) rfl (fun hc24 => ?_) (fun hc24 => ?_)
         ·
          have hq9 : 1000000000 ≤ aa.toInt := own_nltI h0a hc24 (n := 1000000000) (by decide)
          refine og_bipush (v := 10) X0 hx rfl (hb hby d9_31) rfl ?_
          refine og_iloadN X0 hx rfl (hb hby d9_33) rfl ?_
          refine og_imul X0 hx (hb hby d9_34) rfl ?_
          show OG p e below _ (T0.setTop (mkF m 35 #[.val (.int (-aa)), .val (.int 0), .val (.int (-1000000000)), .val (.int 9)] [(.int (-1410065408))]))
          refine og_istoreN (L' := #[.val (.int (-aa)), .val (.int 0), .val (.int (-1410065408)), .val (.int 9)]) X0 hx rfl (hb hby d9_35) rfl ?_
          refine og_iinc (L' := #[.val (.int (-aa)), .val (.int 0), .val (.int (-1410065408)), .val (.int 10)]) (w := 1) X0 hx rfl rfl rfl (hb hby d9_36) rfl ?_
          refine og_goto (pc' := 16) X0 hx (hb hby d9_39) (by decide) (by decide) ?_
          refine og_iloadN X0 hx rfl (hb hby d9_16) rfl ?_
          refine og_bipush (v := 10) X0 hx rfl (hb hby d9_17) rfl ?_
          refine og_icmp_ge (pc1 := 42) (pc2 := 22) X0 hx (hb hby d9_19) (by decide) (by decide) rfl (fun _ => ?_) (fun q => absurd q (by decide))
          refine og_bipush (v := 10) X0 hx rfl (hb hby d9_42) rfl ?_
          refine og_iloadN X0 hx rfl (hb hby d9_44) rfl ?_
          refine og_iadd X0 hx (hb hby d9_45) rfl ?_
          show OG p e below _ (T0.setTop (mkF m 46 #[.val (.int (-aa)), .val (.int 0), .val (.int (-1410065408)), .val (.int 10)] [(.int 10)]))
          refine og_retI X0 hx hlk hret (hb hby d9_46) (by decide) (by decide) ?_
          rw [e0]; exact ⟨_, rfl, N, rfl, Or.inr (Or.inr (Or.inr (Or.inr (Or.inr (Or.inr (Or.inr (Or.inr (Or.inr (⟨rfl, hq9⟩)))))))))⟩
         ·
          have hq9 : aa.toInt < 1000000000 := own_ltI h0a hc24 (n := 1000000000) (by decide)
          refine og_iloadN X0 hx rfl (hb hby d9_27) rfl ?_
          refine og_iloadN X0 hx rfl (hb hby d9_28) rfl ?_
          refine og_iadd X0 hx (hb hby d9_29) rfl ?_
          show OG p e below _ (T0.setTop (mkF m 30 #[.val (.int (-aa)), .val (.int 0), .val (.int (-1000000000)), .val (.int 9)] [(.int 9)]))
          refine og_retI X0 hx hlk hret (hb hby d9_30) (by decide) (by decide) ?_
          rw [e0]; exact ⟨_, rfl, N, rfl, Or.inr (Or.inr (Or.inr (Or.inr (Or.inr (Or.inr (Or.inr (Or.inr (Or.inl (⟨rfl, hq8, hq9⟩)))))))))⟩
        ·
         have hq8 : aa.toInt < 100000000 := own_ltI h0a hc24 (n := 100000000) (by decide)
         refine og_iloadN X0 hx rfl (hb hby d9_27) rfl ?_
         refine og_iloadN X0 hx rfl (hb hby d9_28) rfl ?_
         refine og_iadd X0 hx (hb hby d9_29) rfl ?_
         show OG p e below _ (T0.setTop (mkF m 30 #[.val (.int (-aa)), .val (.int 0), .val (.int (-100000000)), .val (.int 8)] [(.int 8)]))
         refine og_retI X0 hx hlk hret (hb hby d9_30) (by decide) (by decide) ?_
         rw [e0]; exact ⟨_, rfl, N, rfl, Or.inr (Or.inr (Or.inr (Or.inr (Or.inr (Or.inr (Or.inr (Or.inl (⟨rfl, hq7, hq8⟩))))))))⟩
       ·
        have hq7 : aa.toInt < 10000000 := own_ltI h0a hc24 (n := 10000000) (by decide)
        refine og_iloadN X0 hx rfl (hb hby d9_27) rfl ?_
        refine og_iloadN X0 hx rfl (hb hby d9_28) rfl ?_
        refine og_iadd X0 hx (hb hby d9_29) rfl ?_
        show OG p e below _ (T0.setTop (mkF m 30 #[.val (.int (-aa)), .val (.int 0), .val (.int (-10000000)), .val (.int 7)] [(.int 7)]))
        refine og_retI X0 hx hlk hret (hb hby d9_30) (by decide) (by decide) ?_
        rw [e0]; exact ⟨_, rfl, N, rfl, Or.inr (Or.inr (Or.inr (Or.inr (Or.inr (Or.inr (Or.inl (⟨rfl, hq6, hq7⟩)))))))⟩
      ·
       have hq6 : aa.toInt < 1000000 := own_ltI h0a hc24 (n := 1000000) (by decide)
       refine og_iloadN X0 hx rfl (hb hby d9_27) rfl ?_
       refine og_iloadN X0 hx rfl (hb hby d9_28) rfl ?_
       refine og_iadd X0 hx (hb hby d9_29) rfl ?_
       show OG p e below _ (T0.setTop (mkF m 30 #[.val (.int (-aa)), .val (.int 0), .val (.int (-1000000)), .val (.int 6)] [(.int 6)]))
       refine og_retI X0 hx hlk hret (hb hby d9_30) (by decide) (by decide) ?_
       rw [e0]; exact ⟨_, rfl, N, rfl, Or.inr (Or.inr (Or.inr (Or.inr (Or.inr (Or.inl (⟨rfl, hq5, hq6⟩))))))⟩
     ·
      have hq5 : aa.toInt < 100000 := own_ltI h0a hc24 (n := 100000) (by decide)
      refine og_iloadN X0 hx rfl (hb hby d9_27) rfl ?_
      refine og_iloadN X0 hx rfl (hb hby d9_28) rfl ?_
      refine og_iadd X0 hx (hb hby d9_29) rfl ?_
      show OG p e below _ (T0.setTop (mkF m 30 #[.val (.int (-aa)), .val (.int 0), .val (.int (-100000)), .val (.int 5)] [(.int 5)]))
      refine og_retI X0 hx hlk hret (hb hby d9_30) (by decide) (by decide) ?_
      rw [e0]; exact ⟨_, rfl, N, rfl, Or.inr (Or.inr (Or.inr (Or.inr (Or.inl (⟨rfl, hq4, hq5⟩)))))⟩
    ·
     have hq4 : aa.toInt < 10000 := own_ltI h0a hc24 (n := 10000) (by decide)
     refine og_iloadN X0 hx rfl (hb hby d9_27) rfl ?_
     refine og_iloadN X0 hx rfl (hb hby d9_28) rfl ?_
     refine og_iadd X0 hx (hb hby d9_29) rfl ?_
     show OG p e below _ (T0.setTop (mkF m 30 #[.val (.int (-aa)), .val (.int 0), .val (.int (-10000)), .val (.int 4)] [(.int 4)]))
     refine og_retI X0 hx hlk hret (hb hby d9_30) (by decide) (by decide) ?_
     rw [e0]; exact ⟨_, rfl, N, rfl, Or.inr (Or.inr (Or.inr (Or.inl (⟨rfl, hq3, hq4⟩))))⟩
   ·
    have hq3 : aa.toInt < 1000 := own_ltI h0a hc24 (n := 1000) (by decide)
    refine og_iloadN X0 hx rfl (hb hby d9_27) rfl ?_
    refine og_iloadN X0 hx rfl (hb hby d9_28) rfl ?_
    refine og_iadd X0 hx (hb hby d9_29) rfl ?_
    show OG p e below _ (T0.setTop (mkF m 30 #[.val (.int (-aa)), .val (.int 0), .val (.int (-1000)), .val (.int 3)] [(.int 3)]))
    refine og_retI X0 hx hlk hret (hb hby d9_30) (by decide) (by decide) ?_
    rw [e0]; exact ⟨_, rfl, N, rfl, Or.inr (Or.inr (Or.inl (⟨rfl, hq2, hq3⟩)))⟩
  ·
   have hq2 : aa.toInt < 100 := own_ltI h0a hc24 (n := 100) (by decide)
   refine og_iloadN X0 hx rfl (hb hby d9_27) rfl ?_
   refine og_iloadN X0 hx rfl (hb hby d9_28) rfl ?_
   refine og_iadd X0 hx (hb hby d9_29) rfl ?_
   show OG p e below _ (T0.setTop (mkF m 30 #[.val (.int (-aa)), .val (.int 0), .val (.int (-100)), .val (.int 2)] [(.int 2)]))
   refine og_retI X0 hx hlk hret (hb hby d9_30) (by decide) (by decide) ?_
   rw [e0]; exact ⟨_, rfl, N, rfl, Or.inr (Or.inl (⟨rfl, hq1, hq2⟩))⟩
 ·
  have hq1 : aa.toInt < 10 := own_ltI h0a hc24 (n := 10) (by decide)
  refine og_iloadN X0 hx rfl (hb hby d9_27) rfl ?_
  refine og_iloadN X0 hx rfl (hb hby d9_28) rfl ?_
  refine og_iadd X0 hx (hb hby d9_29) rfl ?_
  show OG p e below _ (T0.setTop (mkF m 30 #[.val (.int (-aa)), .val (.int 0), .val (.int (-10)), .val (.int 1)] [(.int 1)]))
  refine og_retI X0 hx hlk hret (hb hby d9_30) (by decide) (by decide) ?_
  rw [e0]; exact ⟨_, rfl, N, rfl, Or.inl (⟨rfl, hq1⟩)⟩
theorem rm_gc1 (l : Launch) (Z : State) (a0 : Array Value) (hw : HW a0 Z) (ba : Addr) (kb : ClassId) (aa g0 : Int32) (h0a : 0 ≤ aa.toInt) (hhi : aa.toInt < 10) (hg0 : g0.toInt = 48 + aa.toInt / 1 % 10) (dO dT : Addr) (kdO kdT : ClassId) (ldO ldT : List Value) (hO : own_tab ldO fun r => 48 + r % 10) (hT : own_tab ldT fun r => 48 + r / 10) (h0 : Heap) (n0 : Nat) (O : Old Z n0 h0) (V_ba : Arv Z h0 ba kb .byte (1 : Int32) [(.int 0)] (.int 0)) (S_dO : Sta Z Z.heap "java/lang/Integer" "DigitOnes" "[B" (.ref dO)) (V_dO : Arv Z Z.heap dO kdO .byte (100 : Int32) ldO (.int 0)) (S_dT : Sta Z Z.heap "java/lang/Integer" "DigitTens" "[B" (.ref dT)) (V_dT : Arv Z Z.heap dT kdT .byte (100 : Int32) ldT (.int 0)) (g_ba : n0 ≤ ba) :
  Con l Z (⟨"java/lang/Integer", "getChars", "(II[B)I"⟩ : MethodName) jdk_33_method_12_code 7 (some .int) ({ frames := 0, cells := 0, slots := 0, locals := 0 } : Room) #[(.int aa), (.int 1), (.ref ba)] h0 (fun v h L => v = some (.int 0) ∧ Fr n0 L ∧ Keep h0 h [ba] ∧ Arv Z h ba kb .byte (1 : Int32) [(.int g0)] (.int 0)) := by
 refine own_startC opn_10 ?_
 intro p e s m below meth c T0 X0 hx hby hml hZ hown hnm hret hlk e0
 have N := Fr.nil n0; have K := Keep.refl h0 [ba]
 refine OG.cast (oef2 m aa (1 : Int32) ba) ?_
 have hmx := aa.toInt_lt
 refine og_iloadN X0 hx rfl (hb hby d10_0) rfl ?_
 refine og_istore (L' := #[.val (.int aa), .val (.int 1), .val (.ref ba), .unset, .unset, .val (.int 1), .unset]) X0 hx rfl (hb hby d10_1) rfl ?_
 refine og_iloadN X0 hx rfl (hb hby d10_3) rfl ?_
 refine og_if_ge (pc1 := 11) (pc2 := 7) X0 hx (hb hby d10_4) (by decide) (by decide) rfl (fun _ => ?_) (fun q => absurd q (own_ge0 h0a))
 refine og_iconst (v := 0) X0 hx rfl (hb hby d10_11) rfl ?_
 refine og_istore (L' := #[.val (.int aa), .val (.int 1), .val (.ref ba), .unset, .unset, .val (.int 1), .val (.int 0)]) X0 hx rfl (hb hby d10_12) rfl ?_
 refine og_iload X0 hx rfl (hb hby d10_14) rfl ?_
 refine og_if_ne (pc1 := 22) (pc2 := 19) X0 hx (hb hby d10_16) (by decide) (by decide) rfl (fun q => absurd q (by decide)) (fun _ => ?_)
 refine og_iloadN X0 hx rfl (hb hby d10_19) rfl ?_
 refine og_ineg X0 hx (hb hby d10_20) rfl ?_
 refine og_istoreN (L' := #[.val (.int (-aa)), .val (.int 1), .val (.ref ba), .unset, .unset, .val (.int 1), .val (.int 0)]) X0 hx rfl (hb hby d10_21) rfl ?_
 obtain ⟨ii0, h_ii0⟩ : ∃ z, z = (-aa) := ⟨_, rfl⟩
 rw [← h_ii0]
 have hI0 : ii0.toInt = -(aa.toInt / 1) := by rw [h_ii0]; exact own_ng1 h0a
 refine og_iloadN X0 hx rfl (hb hby d10_22) rfl ?_
 refine og_bipush (v := -100) X0 hx rfl (hb hby d10_23) rfl ?_
 refine og_icmp_gt (pc1 := 72) (pc2 := 28) X0 hx (hb hby d10_25) (by decide) (by decide) rfl (fun _ => ?_) (fun q => absurd (own_lt hI0 (n := 100) (by decide) (by omega)) q)
 refine og_aloadN X0 hx rfl rfl (hb hby d10_72) rfl ?_
 refine og_iinc (L' := #[.val (.int ii0), .val (.int 1), .val (.ref ba), .unset, .unset, .val (.int 0), .val (.int 0)]) (w := -1) X0 hx rfl rfl rfl (hb hby d10_73) rfl ?_
 refine og_iload X0 hx rfl (hb hby d10_76) rfl ?_
 refine og_getstatic X0 hx hZ (host := "") hown (Or.inl (ow48 hw)) Via.refl e0 (S_dO.ext O.2) (hb hby d10_78) rfl (fun T11 X11 e11 => ?_)
 refine og_iloadN X11 hx rfl (hb hby d10_81) rfl ?_
 refine og_ineg X11 hx (hb hby d10_82) rfl ?_
 have hM : (-ii0).toInt = aa.toInt / 1 := own_ngn hI0 (by omega)
 refine og_baload (v := (.int g0)) X11 hx hZ e11 (V_dO.ext O.2) (own_ix hM (by omega) (by omega)) (own_one hO hM (by omega) (by omega) hg0 (by omega)) (hb hby d10_83) rfl ?_
 refine og_bastore X11 hx hZ e11 V_ba ⟨by decide, by decide⟩ 0 (by decide) (Nat.le_of_ble_eq_true rfl) (hb hby d10_84) rfl (fun T12 h12 X12 e12 W12 V12 => ?_)
 have O := O.wr W12 g_ba; have K := K.wr W12 (Or.inl (List.mem_of_getElem? (i := 0) rfl))
 have N := Fr.snoc X12 N g_ba
 have V_ba : Arv Z h12 ba kb .byte (1 : Int32) [(.int (nar .byte g0))] (.int 0) := V12
 rw [own_nbg hg0 (by omega) (by omega)] at V_ba
 refine og_iloadN X12 hx rfl (hb hby d10_85) rfl ?_
 refine og_bipush (v := -9) X12 hx rfl (hb hby d10_86) rfl ?_
 refine og_icmp_ge (pc1 := 104) (pc2 := 91) X12 hx (hb hby d10_88) (by decide) (by decide) rfl (fun _ => ?_) (fun q => absurd q (own_nlt9 hI0 (by omega)))
 refine og_iload X12 hx rfl (hb hby d10_104) rfl ?_
 refine og_if_eq (pc1 := 118) (pc2 := 109) X12 hx (hb hby d10_106) (by decide) (by decide) rfl (fun _ => ?_) (fun q => absurd q (by decide))
 refine og_iload X12 hx rfl (hb hby d10_118) rfl ?_
 refine og_retI X12 hx hlk hret (hb hby d10_120) (by decide) (by decide) ?_
 rw [e12]; exact ⟨rfl, N, K, V_ba⟩
theorem rm_gc2 (l : Launch) (Z : State) (a0 : Array Value) (hw : HW a0 Z) (ba : Addr) (kb : ClassId) (aa g0 g1 : Int32) (h0a : 0 ≤ aa.toInt) (hlo : 10 ≤ aa.toInt) (hhi : aa.toInt < 100) (hg0 : g0.toInt = 48 + aa.toInt / 1 % 10) (hg1 : g1.toInt = 48 + aa.toInt / 10 % 10) (dO dT : Addr) (kdO kdT : ClassId) (ldO ldT : List Value) (hO : own_tab ldO fun r => 48 + r % 10) (hT : own_tab ldT fun r => 48 + r / 10) (h0 : Heap) (n0 : Nat) (O : Old Z n0 h0) (V_ba : Arv Z h0 ba kb .byte (2 : Int32) [(.int 0), (.int 0)] (.int 0)) (S_dO : Sta Z Z.heap "java/lang/Integer" "DigitOnes" "[B" (.ref dO)) (V_dO : Arv Z Z.heap dO kdO .byte (100 : Int32) ldO (.int 0)) (S_dT : Sta Z Z.heap "java/lang/Integer" "DigitTens" "[B" (.ref dT)) (V_dT : Arv Z Z.heap dT kdT .byte (100 : Int32) ldT (.int 0)) (g_ba : n0 ≤ ba) :
  Con l Z (⟨"java/lang/Integer", "getChars", "(II[B)I"⟩ : MethodName) jdk_33_method_12_code 7 (some .int) ({ frames := 0, cells := 0, slots := 0, locals := 0 } : Room) #[(.int aa), (.int 2), (.ref ba)] h0 (fun v h L => v = some (.int 0) ∧ Fr n0 L ∧ Keep h0 h [ba] ∧ Arv Z h ba kb .byte (2 : Int32) [(.int g1), (.int g0)] (.int 0)) := by
 refine own_startC opn_10 ?_
 intro p e s m below meth c T0 X0 hx hby hml hZ hown hnm hret hlk e0
 have N := Fr.nil n0; have K := Keep.refl h0 [ba]
 refine OG.cast (oef2 m aa (2 : Int32) ba) ?_
 have hmx := aa.toInt_lt
 refine og_iloadN X0 hx rfl (hb hby d10_0) rfl ?_
 refine og_istore (L' := #[.val (.int aa), .val (.int 2), .val (.ref ba), .unset, .unset, .val (.int 2), .unset]) X0 hx rfl (hb hby d10_1) rfl ?_
 refine og_iloadN X0 hx rfl (hb hby d10_3) rfl ?_
 refine og_if_ge (pc1 := 11) (pc2 := 7) X0 hx (hb hby d10_4) (by decide) (by decide) rfl (fun _ => ?_) (fun q => absurd q (own_ge0 h0a))
 refine og_iconst (v := 0) X0 hx rfl (hb hby d10_11) rfl ?_
 refine og_istore (L' := #[.val (.int aa), .val (.int 2), .val (.ref ba), .unset, .unset, .val (.int 2), .val (.int 0)]) X0 hx rfl (hb hby d10_12) rfl ?_
 refine og_iload X0 hx rfl (hb hby d10_14) rfl ?_
 refine og_if_ne (pc1 := 22) (pc2 := 19) X0 hx (hb hby d10_16) (by decide) (by decide) rfl (fun q => absurd q (by decide)) (fun _ => ?_)
 refine og_iloadN X0 hx rfl (hb hby d10_19) rfl ?_
 refine og_ineg X0 hx (hb hby d10_20) rfl ?_
 refine og_istoreN (L' := #[.val (.int (-aa)), .val (.int 2), .val (.ref ba), .unset, .unset, .val (.int 2), .val (.int 0)]) X0 hx rfl (hb hby d10_21) rfl ?_
 obtain ⟨ii0, h_ii0⟩ : ∃ z, z = (-aa) := ⟨_, rfl⟩
 rw [← h_ii0]
 have hI0 : ii0.toInt = -(aa.toInt / 1) := by rw [h_ii0]; exact own_ng1 h0a
 refine og_iloadN X0 hx rfl (hb hby d10_22) rfl ?_
 refine og_bipush (v := -100) X0 hx rfl (hb hby d10_23) rfl ?_
 refine og_icmp_gt (pc1 := 72) (pc2 := 28) X0 hx (hb hby d10_25) (by decide) (by decide) rfl (fun _ => ?_) (fun q => absurd (own_lt hI0 (n := 100) (by decide) (by omega)) q)
 refine og_aloadN X0 hx rfl rfl (hb hby d10_72) rfl ?_
 refine og_iinc (L' := #[.val (.int ii0), .val (.int 2), .val (.ref ba), .unset, .unset, .val (.int 1), .val (.int 0)]) (w := -1) X0 hx rfl rfl rfl (hb hby d10_73) rfl ?_
 refine og_iload X0 hx rfl (hb hby d10_76) rfl ?_
 refine og_getstatic X0 hx hZ (host := "") hown (Or.inl (ow48 hw)) Via.refl e0 (S_dO.ext O.2) (hb hby d10_78) rfl (fun T11 X11 e11 => ?_)
 refine og_iloadN X11 hx rfl (hb hby d10_81) rfl ?_
 refine og_ineg X11 hx (hb hby d10_82) rfl ?_
 have hM : (-ii0).toInt = aa.toInt / 1 := own_ngn hI0 (by omega)
 refine og_baload (v := (.int g0)) X11 hx hZ e11 (V_dO.ext O.2) (own_ix hM (by omega) (by omega)) (own_one hO hM (by omega) (by omega) hg0 (by omega)) (hb hby d10_83) rfl ?_
 refine og_bastore X11 hx hZ e11 V_ba ⟨by decide, by decide⟩ 1 (by decide) (Nat.le_of_ble_eq_true rfl) (hb hby d10_84) rfl (fun T12 h12 X12 e12 W12 V12 => ?_)
 have O := O.wr W12 g_ba; have K := K.wr W12 (Or.inl (List.mem_of_getElem? (i := 0) rfl))
 have N := Fr.snoc X12 N g_ba
 have V_ba : Arv Z h12 ba kb .byte (2 : Int32) [(.int 0), (.int (nar .byte g0))] (.int 0) := V12
 rw [own_nbg hg0 (by omega) (by omega)] at V_ba
 refine og_iloadN X12 hx rfl (hb hby d10_85) rfl ?_
 refine og_bipush (v := -9) X12 hx rfl (hb hby d10_86) rfl ?_
 refine og_icmp_ge (pc1 := 104) (pc2 := 91) X12 hx (hb hby d10_88) (by decide) (by decide) rfl (fun q => absurd (own_lt9 hI0 (by omega)) q) (fun _ => ?_)
 refine og_aloadN X12 hx rfl rfl (hb hby d10_91) rfl ?_
 refine og_iinc (L' := #[.val (.int ii0), .val (.int 2), .val (.ref ba), .unset, .unset, .val (.int 0), .val (.int 0)]) (w := -1) X12 hx rfl rfl rfl (hb hby d10_92) rfl ?_
 refine og_iload X12 hx rfl (hb hby d10_95) rfl ?_
 refine og_getstatic X12 hx hZ (host := "") hown (Or.inl (ow197 hw)) Via.refl e12 (S_dT.ext O.2) (hb hby d10_97) rfl (fun T13 X13 e13 => ?_)
 refine og_iloadN X13 hx rfl (hb hby d10_100) rfl ?_
 refine og_ineg X13 hx (hb hby d10_101) rfl ?_
 refine og_baload (v := (.int g1)) X13 hx hZ e13 (V_dT.ext O.2) (own_ix hM (by omega) (by omega)) (own_ten hT hM (by omega) (by omega) hg1 (by omega)) (hb hby d10_102) rfl ?_
 refine og_bastore X13 hx hZ e13 V_ba ⟨by decide, by decide⟩ 0 (by decide) (Nat.le_of_ble_eq_true rfl) (hb hby d10_103) rfl (fun T14 h14 X14 e14 W14 V14 => ?_)
 have O := O.wr W14 g_ba; have K := K.wr W14 (Or.inl (List.mem_of_getElem? (i := 0) rfl))
 have N := Fr.snoc X14 N g_ba
 have V_ba : Arv Z h14 ba kb .byte (2 : Int32) [(.int (nar .byte g1)), (.int g0)] (.int 0) := V14
 rw [own_nbg hg1 (by omega) (by omega)] at V_ba
 refine og_iload X14 hx rfl (hb hby d10_104) rfl ?_
 refine og_if_eq (pc1 := 118) (pc2 := 109) X14 hx (hb hby d10_106) (by decide) (by decide) rfl (fun _ => ?_) (fun q => absurd q (by decide))
 refine og_iload X14 hx rfl (hb hby d10_118) rfl ?_
 refine og_retI X14 hx hlk hret (hb hby d10_120) (by decide) (by decide) ?_
 rw [e14]; exact ⟨rfl, N, K, V_ba⟩
theorem rm_gc3 (l : Launch) (Z : State) (a0 : Array Value) (hw : HW a0 Z) (ba : Addr) (kb : ClassId) (aa g0 g1 g2 : Int32) (h0a : 0 ≤ aa.toInt) (hlo : 100 ≤ aa.toInt) (hhi : aa.toInt < 1000) (hg0 : g0.toInt = 48 + aa.toInt / 1 % 10) (hg1 : g1.toInt = 48 + aa.toInt / 10 % 10) (hg2 : g2.toInt = 48 + aa.toInt / 100 % 10) (dO dT : Addr) (kdO kdT : ClassId) (ldO ldT : List Value) (hO : own_tab ldO fun r => 48 + r % 10) (hT : own_tab ldT fun r => 48 + r / 10) (h0 : Heap) (n0 : Nat) (O : Old Z n0 h0) (V_ba : Arv Z h0 ba kb .byte (3 : Int32) [(.int 0), (.int 0), (.int 0)] (.int 0)) (S_dO : Sta Z Z.heap "java/lang/Integer" "DigitOnes" "[B" (.ref dO)) (V_dO : Arv Z Z.heap dO kdO .byte (100 : Int32) ldO (.int 0)) (S_dT : Sta Z Z.heap "java/lang/Integer" "DigitTens" "[B" (.ref dT)) (V_dT : Arv Z Z.heap dT kdT .byte (100 : Int32) ldT (.int 0)) (g_ba : n0 ≤ ba) :
  Con l Z (⟨"java/lang/Integer", "getChars", "(II[B)I"⟩ : MethodName) jdk_33_method_12_code 7 (some .int) ({ frames := 0, cells := 0, slots := 0, locals := 0 } : Room) #[(.int aa), (.int 3), (.ref ba)] h0 (fun v h L => v = some (.int 0) ∧ Fr n0 L ∧ Keep h0 h [ba] ∧ Arv Z h ba kb .byte (3 : Int32) [(.int g2), (.int g1), (.int g0)] (.int 0)) := by
 refine own_startC opn_10 ?_
 intro p e s m below meth c T0 X0 hx hby hml hZ hown hnm hret hlk e0
 have N := Fr.nil n0; have K := Keep.refl h0 [ba]
 refine OG.cast (oef2 m aa (3 : Int32) ba) ?_
 have hmx := aa.toInt_lt
 refine og_iloadN X0 hx rfl (hb hby d10_0) rfl ?_
 refine og_istore (L' := #[.val (.int aa), .val (.int 3), .val (.ref ba), .unset, .unset, .val (.int 3), .unset]) X0 hx rfl (hb hby d10_1) rfl ?_
 refine og_iloadN X0 hx rfl (hb hby d10_3) rfl ?_
 refine og_if_ge (pc1 := 11) (pc2 := 7) X0 hx (hb hby d10_4) (by decide) (by decide) rfl (fun _ => ?_) (fun q => absurd q (own_ge0 h0a))
 refine og_iconst (v := 0) X0 hx rfl (hb hby d10_11) rfl ?_
 refine og_istore (L' := #[.val (.int aa), .val (.int 3), .val (.ref ba), .unset, .unset, .val (.int 3), .val (.int 0)]) X0 hx rfl (hb hby d10_12) rfl ?_
 refine og_iload X0 hx rfl (hb hby d10_14) rfl ?_
 refine og_if_ne (pc1 := 22) (pc2 := 19) X0 hx (hb hby d10_16) (by decide) (by decide) rfl (fun q => absurd q (by decide)) (fun _ => ?_)
 refine og_iloadN X0 hx rfl (hb hby d10_19) rfl ?_
 refine og_ineg X0 hx (hb hby d10_20) rfl ?_
 refine og_istoreN (L' := #[.val (.int (-aa)), .val (.int 3), .val (.ref ba), .unset, .unset, .val (.int 3), .val (.int 0)]) X0 hx rfl (hb hby d10_21) rfl ?_
 obtain ⟨ii0, h_ii0⟩ : ∃ z, z = (-aa) := ⟨_, rfl⟩
 rw [← h_ii0]
 have hI0 : ii0.toInt = -(aa.toInt / 1) := by rw [h_ii0]; exact own_ng1 h0a
 refine og_iloadN X0 hx rfl (hb hby d10_22) rfl ?_
 refine og_bipush (v := -100) X0 hx rfl (hb hby d10_23) rfl ?_
 refine og_icmp_gt (pc1 := 72) (pc2 := 28) X0 hx (hb hby d10_25) (by decide) (by decide) rfl (fun q => absurd q (own_nlt hI0 (n := 100) (by decide) (by omega))) (fun _ => ?_)
 refine og_iloadN X0 hx rfl (hb hby d10_28) rfl ?_
 refine og_bipush (v := 100) X0 hx rfl (hb hby d10_29) rfl ?_
 refine og_idiv (pc' := 32) X0 hx (by decide) (hb hby d10_31) rfl ?_
 refine og_istoreN (L' := #[.val (.int ii0), .val (.int 3), .val (.ref ba), .val (.int (ii0 / (100 : Int32))), .unset, .val (.int 3), .val (.int 0)]) X0 hx rfl (hb hby d10_32) rfl ?_
 refine og_iloadN X0 hx rfl (hb hby d10_33) rfl ?_
 refine og_bipush (v := 100) X0 hx rfl (hb hby d10_34) rfl ?_
 refine og_imul X0 hx (hb hby d10_36) rfl ?_
 refine og_iloadN X0 hx rfl (hb hby d10_37) rfl ?_
 refine og_isub X0 hx (hb hby d10_38) rfl ?_
 refine og_istore (L' := #[.val (.int ii0), .val (.int 3), .val (.ref ba), .val (.int (ii0 / (100 : Int32))), .val (.int (((ii0 / (100 : Int32)) * (100 : Int32)) - ii0)), .val (.int 3), .val (.int 0)]) X0 hx rfl (hb hby d10_39) rfl ?_
 obtain ⟨rr0, h_rr0⟩ : ∃ z, z = (((ii0 / (100 : Int32)) * (100 : Int32)) - ii0) := ⟨_, rfl⟩
 rw [← h_rr0]
 have hR0 : rr0.toInt = aa.toInt / 1 % 100 := by rw [h_rr0]; exact own_q2 h0a hI0 (by decide)
 refine og_iloadN X0 hx rfl (hb hby d10_41) rfl ?_
 refine og_istoreN (L' := #[.val (.int (ii0 / (100 : Int32))), .val (.int 3), .val (.ref ba), .val (.int (ii0 / (100 : Int32))), .val (.int rr0), .val (.int 3), .val (.int 0)]) X0 hx rfl (hb hby d10_42) rfl ?_
 refine og_aloadN X0 hx rfl rfl (hb hby d10_43) rfl ?_
 refine og_iinc (L' := #[.val (.int (ii0 / (100 : Int32))), .val (.int 3), .val (.ref ba), .val (.int (ii0 / (100 : Int32))), .val (.int rr0), .val (.int 2), .val (.int 0)]) (w := -1) X0 hx rfl rfl rfl (hb hby d10_44) rfl ?_
 refine og_iload X0 hx rfl (hb hby d10_47) rfl ?_
 refine og_getstatic X0 hx hZ (host := "") hown (Or.inl (ow48 hw)) Via.refl e0 (S_dO.ext O.2) (hb hby d10_49) rfl (fun T11 X11 e11 => ?_)
 refine og_iload X11 hx rfl (hb hby d10_52) rfl ?_
 refine og_baload (v := (.int g0)) X11 hx hZ e11 (V_dO.ext O.2) (own_ix hR0 (by omega) (by omega)) (own_one hO hR0 (by omega) (by omega) hg0 (by omega)) (hb hby d10_54) rfl ?_
 refine og_bastore X11 hx hZ e11 V_ba ⟨by decide, by decide⟩ 2 (by decide) (Nat.le_of_ble_eq_true rfl) (hb hby d10_55) rfl (fun T12 h12 X12 e12 W12 V12 => ?_)
 have O := O.wr W12 g_ba; have K := K.wr W12 (Or.inl (List.mem_of_getElem? (i := 0) rfl))
 have N := Fr.snoc X12 N g_ba
 have V_ba : Arv Z h12 ba kb .byte (3 : Int32) [(.int 0), (.int 0), (.int (nar .byte g0))] (.int 0) := V12
 rw [own_nbg hg0 (by omega) (by omega)] at V_ba
 refine og_aloadN X12 hx rfl rfl (hb hby d10_56) rfl ?_
 refine og_iinc (L' := #[.val (.int (ii0 / (100 : Int32))), .val (.int 3), .val (.ref ba), .val (.int (ii0 / (100 : Int32))), .val (.int rr0), .val (.int 1), .val (.int 0)]) (w := -1) X12 hx rfl rfl rfl (hb hby d10_57) rfl ?_
 refine og_iload X12 hx rfl (hb hby d10_60) rfl ?_
 refine og_getstatic X12 hx hZ (host := "") hown (Or.inl (ow197 hw)) Via.refl e12 (S_dT.ext O.2) (hb hby d10_62) rfl (fun T13 X13 e13 => ?_)
 refine og_iload X13 hx rfl (hb hby d10_65) rfl ?_
 refine og_baload (v := (.int g1)) X13 hx hZ e13 (V_dT.ext O.2) (own_ix hR0 (by omega) (by omega)) (own_ten hT hR0 (by omega) (by omega) hg1 (by omega)) (hb hby d10_67) rfl ?_
 refine og_bastore X13 hx hZ e13 V_ba ⟨by decide, by decide⟩ 1 (by decide) (Nat.le_of_ble_eq_true rfl) (hb hby d10_68) rfl (fun T14 h14 X14 e14 W14 V14 => ?_)
 have O := O.wr W14 g_ba; have K := K.wr W14 (Or.inl (List.mem_of_getElem? (i := 0) rfl))
 have N := Fr.snoc X14 N g_ba
 have V_ba : Arv Z h14 ba kb .byte (3 : Int32) [(.int 0), (.int (nar .byte g1)), (.int g0)] (.int 0) := V14
 rw [own_nbg hg1 (by omega) (by omega)] at V_ba
 refine og_goto (pc' := 22) X14 hx (hb hby d10_69) (by decide) (by decide) ?_
 obtain ⟨ii1, h_ii1⟩ : ∃ z, z = (ii0 / (100 : Int32)) := ⟨_, rfl⟩
 rw [← h_ii1]
 have hI1 : ii1.toInt = -(aa.toInt / 100) := by rw [h_ii1]; exact own_q1 h0a hI0 (by decide) (by omega)
 refine og_iloadN X14 hx rfl (hb hby d10_22) rfl ?_
 refine og_bipush (v := -100) X14 hx rfl (hb hby d10_23) rfl ?_
 refine og_icmp_gt (pc1 := 72) (pc2 := 28) X14 hx (hb hby d10_25) (by decide) (by decide) rfl (fun _ => ?_) (fun q => absurd (own_lt hI1 (n := 100) (by decide) (by omega)) q)
 refine og_aloadN X14 hx rfl rfl (hb hby d10_72) rfl ?_
 refine og_iinc (L' := #[.val (.int ii1), .val (.int 3), .val (.ref ba), .val (.int ii1), .val (.int rr0), .val (.int 0), .val (.int 0)]) (w := -1) X14 hx rfl rfl rfl (hb hby d10_73) rfl ?_
 refine og_iload X14 hx rfl (hb hby d10_76) rfl ?_
 refine og_getstatic X14 hx hZ (host := "") hown (Or.inl (ow48 hw)) Via.refl e14 (S_dO.ext O.2) (hb hby d10_78) rfl (fun T15 X15 e15 => ?_)
 refine og_iloadN X15 hx rfl (hb hby d10_81) rfl ?_
 refine og_ineg X15 hx (hb hby d10_82) rfl ?_
 have hM : (-ii1).toInt = aa.toInt / 100 := own_ngn hI1 (by omega)
 refine og_baload (v := (.int g2)) X15 hx hZ e15 (V_dO.ext O.2) (own_ix hM (by omega) (by omega)) (own_one hO hM (by omega) (by omega) hg2 (by omega)) (hb hby d10_83) rfl ?_
 refine og_bastore X15 hx hZ e15 V_ba ⟨by decide, by decide⟩ 0 (by decide) (Nat.le_of_ble_eq_true rfl) (hb hby d10_84) rfl (fun T16 h16 X16 e16 W16 V16 => ?_)
 have O := O.wr W16 g_ba; have K := K.wr W16 (Or.inl (List.mem_of_getElem? (i := 0) rfl))
 have N := Fr.snoc X16 N g_ba
 have V_ba : Arv Z h16 ba kb .byte (3 : Int32) [(.int (nar .byte g2)), (.int g1), (.int g0)] (.int 0) := V16
 rw [own_nbg hg2 (by omega) (by omega)] at V_ba
 refine og_iloadN X16 hx rfl (hb hby d10_85) rfl ?_
 refine og_bipush (v := -9) X16 hx rfl (hb hby d10_86) rfl ?_
 refine og_icmp_ge (pc1 := 104) (pc2 := 91) X16 hx (hb hby d10_88) (by decide) (by decide) rfl (fun _ => ?_) (fun q => absurd q (own_nlt9 hI1 (by omega)))
 refine og_iload X16 hx rfl (hb hby d10_104) rfl ?_
 refine og_if_eq (pc1 := 118) (pc2 := 109) X16 hx (hb hby d10_106) (by decide) (by decide) rfl (fun _ => ?_) (fun q => absurd q (by decide))
 refine og_iload X16 hx rfl (hb hby d10_118) rfl ?_
 refine og_retI X16 hx hlk hret (hb hby d10_120) (by decide) (by decide) ?_
 rw [e16]; exact ⟨rfl, N, K, V_ba⟩
theorem rm_gc4 (l : Launch) (Z : State) (a0 : Array Value) (hw : HW a0 Z) (ba : Addr) (kb : ClassId) (aa g0 g1 g2 g3 : Int32) (h0a : 0 ≤ aa.toInt) (hlo : 1000 ≤ aa.toInt) (hhi : aa.toInt < 10000) (hg0 : g0.toInt = 48 + aa.toInt / 1 % 10) (hg1 : g1.toInt = 48 + aa.toInt / 10 % 10) (hg2 : g2.toInt = 48 + aa.toInt / 100 % 10) (hg3 : g3.toInt = 48 + aa.toInt / 1000 % 10) (dO dT : Addr) (kdO kdT : ClassId) (ldO ldT : List Value) (hO : own_tab ldO fun r => 48 + r % 10) (hT : own_tab ldT fun r => 48 + r / 10) (h0 : Heap) (n0 : Nat) (O : Old Z n0 h0) (V_ba : Arv Z h0 ba kb .byte (4 : Int32) [(.int 0), (.int 0), (.int 0), (.int 0)] (.int 0)) (S_dO : Sta Z Z.heap "java/lang/Integer" "DigitOnes" "[B" (.ref dO)) (V_dO : Arv Z Z.heap dO kdO .byte (100 : Int32) ldO (.int 0)) (S_dT : Sta Z Z.heap "java/lang/Integer" "DigitTens" "[B" (.ref dT)) (V_dT : Arv Z Z.heap dT kdT .byte (100 : Int32) ldT (.int 0)) (g_ba : n0 ≤ ba) :
  Con l Z (⟨"java/lang/Integer", "getChars", "(II[B)I"⟩ : MethodName) jdk_33_method_12_code 7 (some .int) ({ frames := 0, cells := 0, slots := 0, locals := 0 } : Room) #[(.int aa), (.int 4), (.ref ba)] h0 (fun v h L => v = some (.int 0) ∧ Fr n0 L ∧ Keep h0 h [ba] ∧ Arv Z h ba kb .byte (4 : Int32) [(.int g3), (.int g2), (.int g1), (.int g0)] (.int 0)) := by
 refine own_startC opn_10 ?_
 intro p e s m below meth c T0 X0 hx hby hml hZ hown hnm hret hlk e0
 have N := Fr.nil n0; have K := Keep.refl h0 [ba]
 refine OG.cast (oef2 m aa (4 : Int32) ba) ?_
 have hmx := aa.toInt_lt
 refine og_iloadN X0 hx rfl (hb hby d10_0) rfl ?_
 refine og_istore (L' := #[.val (.int aa), .val (.int 4), .val (.ref ba), .unset, .unset, .val (.int 4), .unset]) X0 hx rfl (hb hby d10_1) rfl ?_
 refine og_iloadN X0 hx rfl (hb hby d10_3) rfl ?_
 refine og_if_ge (pc1 := 11) (pc2 := 7) X0 hx (hb hby d10_4) (by decide) (by decide) rfl (fun _ => ?_) (fun q => absurd q (own_ge0 h0a))
 refine og_iconst (v := 0) X0 hx rfl (hb hby d10_11) rfl ?_
 refine og_istore (L' := #[.val (.int aa), .val (.int 4), .val (.ref ba), .unset, .unset, .val (.int 4), .val (.int 0)]) X0 hx rfl (hb hby d10_12) rfl ?_
 refine og_iload X0 hx rfl (hb hby d10_14) rfl ?_
 refine og_if_ne (pc1 := 22) (pc2 := 19) X0 hx (hb hby d10_16) (by decide) (by decide) rfl (fun q => absurd q (by decide)) (fun _ => ?_)
 refine og_iloadN X0 hx rfl (hb hby d10_19) rfl ?_
 refine og_ineg X0 hx (hb hby d10_20) rfl ?_
 refine og_istoreN (L' := #[.val (.int (-aa)), .val (.int 4), .val (.ref ba), .unset, .unset, .val (.int 4), .val (.int 0)]) X0 hx rfl (hb hby d10_21) rfl ?_
 obtain ⟨ii0, h_ii0⟩ : ∃ z, z = (-aa) := ⟨_, rfl⟩
 rw [← h_ii0]
 have hI0 : ii0.toInt = -(aa.toInt / 1) := by rw [h_ii0]; exact own_ng1 h0a
 refine og_iloadN X0 hx rfl (hb hby d10_22) rfl ?_
 refine og_bipush (v := -100) X0 hx rfl (hb hby d10_23) rfl ?_
 refine og_icmp_gt (pc1 := 72) (pc2 := 28) X0 hx (hb hby d10_25) (by decide) (by decide) rfl (fun q => absurd q (own_nlt hI0 (n := 100) (by decide) (by omega))) (fun _ => ?_)
 refine og_iloadN X0 hx rfl (hb hby d10_28) rfl ?_
 refine og_bipush (v := 100) X0 hx rfl (hb hby d10_29) rfl ?_
 refine og_idiv (pc' := 32) X0 hx (by decide) (hb hby d10_31) rfl ?_
 refine og_istoreN (L' := #[.val (.int ii0), .val (.int 4), .val (.ref ba), .val (.int (ii0 / (100 : Int32))), .unset, .val (.int 4), .val (.int 0)]) X0 hx rfl (hb hby d10_32) rfl ?_
 refine og_iloadN X0 hx rfl (hb hby d10_33) rfl ?_
 refine og_bipush (v := 100) X0 hx rfl (hb hby d10_34) rfl ?_
 refine og_imul X0 hx (hb hby d10_36) rfl ?_
 refine og_iloadN X0 hx rfl (hb hby d10_37) rfl ?_
 refine og_isub X0 hx (hb hby d10_38) rfl ?_
 refine og_istore (L' := #[.val (.int ii0), .val (.int 4), .val (.ref ba), .val (.int (ii0 / (100 : Int32))), .val (.int (((ii0 / (100 : Int32)) * (100 : Int32)) - ii0)), .val (.int 4), .val (.int 0)]) X0 hx rfl (hb hby d10_39) rfl ?_
 obtain ⟨rr0, h_rr0⟩ : ∃ z, z = (((ii0 / (100 : Int32)) * (100 : Int32)) - ii0) := ⟨_, rfl⟩
 rw [← h_rr0]
 have hR0 : rr0.toInt = aa.toInt / 1 % 100 := by rw [h_rr0]; exact own_q2 h0a hI0 (by decide)
 refine og_iloadN X0 hx rfl (hb hby d10_41) rfl ?_
 refine og_istoreN (L' := #[.val (.int (ii0 / (100 : Int32))), .val (.int 4), .val (.ref ba), .val (.int (ii0 / (100 : Int32))), .val (.int rr0), .val (.int 4), .val (.int 0)]) X0 hx rfl (hb hby d10_42) rfl ?_
 refine og_aloadN X0 hx rfl rfl (hb hby d10_43) rfl ?_
 refine og_iinc (L' := #[.val (.int (ii0 / (100 : Int32))), .val (.int 4), .val (.ref ba), .val (.int (ii0 / (100 : Int32))), .val (.int rr0), .val (.int 3), .val (.int 0)]) (w := -1) X0 hx rfl rfl rfl (hb hby d10_44) rfl ?_
 refine og_iload X0 hx rfl (hb hby d10_47) rfl ?_
 refine og_getstatic X0 hx hZ (host := "") hown (Or.inl (ow48 hw)) Via.refl e0 (S_dO.ext O.2) (hb hby d10_49) rfl (fun T11 X11 e11 => ?_)
 refine og_iload X11 hx rfl (hb hby d10_52) rfl ?_
 refine og_baload (v := (.int g0)) X11 hx hZ e11 (V_dO.ext O.2) (own_ix hR0 (by omega) (by omega)) (own_one hO hR0 (by omega) (by omega) hg0 (by omega)) (hb hby d10_54) rfl ?_
 refine og_bastore X11 hx hZ e11 V_ba ⟨by decide, by decide⟩ 3 (by decide) (Nat.le_of_ble_eq_true rfl) (hb hby d10_55) rfl (fun T12 h12 X12 e12 W12 V12 => ?_)
 have O := O.wr W12 g_ba; have K := K.wr W12 (Or.inl (List.mem_of_getElem? (i := 0) rfl))
 have N := Fr.snoc X12 N g_ba
 have V_ba : Arv Z h12 ba kb .byte (4 : Int32) [(.int 0), (.int 0), (.int 0), (.int (nar .byte g0))] (.int 0) := V12
 rw [own_nbg hg0 (by omega) (by omega)] at V_ba
 refine og_aloadN X12 hx rfl rfl (hb hby d10_56) rfl ?_
 refine og_iinc (L' := #[.val (.int (ii0 / (100 : Int32))), .val (.int 4), .val (.ref ba), .val (.int (ii0 / (100 : Int32))), .val (.int rr0), .val (.int 2), .val (.int 0)]) (w := -1) X12 hx rfl rfl rfl (hb hby d10_57) rfl ?_
 refine og_iload X12 hx rfl (hb hby d10_60) rfl ?_
 refine og_getstatic X12 hx hZ (host := "") hown (Or.inl (ow197 hw)) Via.refl e12 (S_dT.ext O.2) (hb hby d10_62) rfl (fun T13 X13 e13 => ?_)
 refine og_iload X13 hx rfl (hb hby d10_65) rfl ?_
 refine og_baload (v := (.int g1)) X13 hx hZ e13 (V_dT.ext O.2) (own_ix hR0 (by omega) (by omega)) (own_ten hT hR0 (by omega) (by omega) hg1 (by omega)) (hb hby d10_67) rfl ?_
 refine og_bastore X13 hx hZ e13 V_ba ⟨by decide, by decide⟩ 2 (by decide) (Nat.le_of_ble_eq_true rfl) (hb hby d10_68) rfl (fun T14 h14 X14 e14 W14 V14 => ?_)
 have O := O.wr W14 g_ba; have K := K.wr W14 (Or.inl (List.mem_of_getElem? (i := 0) rfl))
 have N := Fr.snoc X14 N g_ba
 have V_ba : Arv Z h14 ba kb .byte (4 : Int32) [(.int 0), (.int 0), (.int (nar .byte g1)), (.int g0)] (.int 0) := V14
 rw [own_nbg hg1 (by omega) (by omega)] at V_ba
 refine og_goto (pc' := 22) X14 hx (hb hby d10_69) (by decide) (by decide) ?_
 obtain ⟨ii1, h_ii1⟩ : ∃ z, z = (ii0 / (100 : Int32)) := ⟨_, rfl⟩
 rw [← h_ii1]
 have hI1 : ii1.toInt = -(aa.toInt / 100) := by rw [h_ii1]; exact own_q1 h0a hI0 (by decide) (by omega)
 refine og_iloadN X14 hx rfl (hb hby d10_22) rfl ?_
 refine og_bipush (v := -100) X14 hx rfl (hb hby d10_23) rfl ?_
 refine og_icmp_gt (pc1 := 72) (pc2 := 28) X14 hx (hb hby d10_25) (by decide) (by decide) rfl (fun _ => ?_) (fun q => absurd (own_lt hI1 (n := 100) (by decide) (by omega)) q)
 refine og_aloadN X14 hx rfl rfl (hb hby d10_72) rfl ?_
 refine og_iinc (L' := #[.val (.int ii1), .val (.int 4), .val (.ref ba), .val (.int ii1), .val (.int rr0), .val (.int 1), .val (.int 0)]) (w := -1) X14 hx rfl rfl rfl (hb hby d10_73) rfl ?_
 refine og_iload X14 hx rfl (hb hby d10_76) rfl ?_
 refine og_getstatic X14 hx hZ (host := "") hown (Or.inl (ow48 hw)) Via.refl e14 (S_dO.ext O.2) (hb hby d10_78) rfl (fun T15 X15 e15 => ?_)
 refine og_iloadN X15 hx rfl (hb hby d10_81) rfl ?_
 refine og_ineg X15 hx (hb hby d10_82) rfl ?_
 have hM : (-ii1).toInt = aa.toInt / 100 := own_ngn hI1 (by omega)
 refine og_baload (v := (.int g2)) X15 hx hZ e15 (V_dO.ext O.2) (own_ix hM (by omega) (by omega)) (own_one hO hM (by omega) (by omega) hg2 (by omega)) (hb hby d10_83) rfl ?_
 refine og_bastore X15 hx hZ e15 V_ba ⟨by decide, by decide⟩ 1 (by decide) (Nat.le_of_ble_eq_true rfl) (hb hby d10_84) rfl (fun T16 h16 X16 e16 W16 V16 => ?_)
 have O := O.wr W16 g_ba; have K := K.wr W16 (Or.inl (List.mem_of_getElem? (i := 0) rfl))
 have N := Fr.snoc X16 N g_ba
 have V_ba : Arv Z h16 ba kb .byte (4 : Int32) [(.int 0), (.int (nar .byte g2)), (.int g1), (.int g0)] (.int 0) := V16
 rw [own_nbg hg2 (by omega) (by omega)] at V_ba
 refine og_iloadN X16 hx rfl (hb hby d10_85) rfl ?_
 refine og_bipush (v := -9) X16 hx rfl (hb hby d10_86) rfl ?_
 refine og_icmp_ge (pc1 := 104) (pc2 := 91) X16 hx (hb hby d10_88) (by decide) (by decide) rfl (fun q => absurd (own_lt9 hI1 (by omega)) q) (fun _ => ?_)
 refine og_aloadN X16 hx rfl rfl (hb hby d10_91) rfl ?_
 refine og_iinc (L' := #[.val (.int ii1), .val (.int 4), .val (.ref ba), .val (.int ii1), .val (.int rr0), .val (.int 0), .val (.int 0)]) (w := -1) X16 hx rfl rfl rfl (hb hby d10_92) rfl ?_
 refine og_iload X16 hx rfl (hb hby d10_95) rfl ?_
 refine og_getstatic X16 hx hZ (host := "") hown (Or.inl (ow197 hw)) Via.refl e16 (S_dT.ext O.2) (hb hby d10_97) rfl (fun T17 X17 e17 => ?_)
 refine og_iloadN X17 hx rfl (hb hby d10_100) rfl ?_
 refine og_ineg X17 hx (hb hby d10_101) rfl ?_
 refine og_baload (v := (.int g3)) X17 hx hZ e17 (V_dT.ext O.2) (own_ix hM (by omega) (by omega)) (own_ten hT hM (by omega) (by omega) hg3 (by omega)) (hb hby d10_102) rfl ?_
 refine og_bastore X17 hx hZ e17 V_ba ⟨by decide, by decide⟩ 0 (by decide) (Nat.le_of_ble_eq_true rfl) (hb hby d10_103) rfl (fun T18 h18 X18 e18 W18 V18 => ?_)
 have O := O.wr W18 g_ba; have K := K.wr W18 (Or.inl (List.mem_of_getElem? (i := 0) rfl))
 have N := Fr.snoc X18 N g_ba
 have V_ba : Arv Z h18 ba kb .byte (4 : Int32) [(.int (nar .byte g3)), (.int g2), (.int g1), (.int g0)] (.int 0) := V18
 rw [own_nbg hg3 (by omega) (by omega)] at V_ba
 refine og_iload X18 hx rfl (hb hby d10_104) rfl ?_
 refine og_if_eq (pc1 := 118) (pc2 := 109) X18 hx (hb hby d10_106) (by decide) (by decide) rfl (fun _ => ?_) (fun q => absurd q (by decide))
 refine og_iload X18 hx rfl (hb hby d10_118) rfl ?_
 refine og_retI X18 hx hlk hret (hb hby d10_120) (by decide) (by decide) ?_
 rw [e18]; exact ⟨rfl, N, K, V_ba⟩
theorem rm_gc5 (l : Launch) (Z : State) (a0 : Array Value) (hw : HW a0 Z) (ba : Addr) (kb : ClassId) (aa g0 g1 g2 g3 g4 : Int32) (h0a : 0 ≤ aa.toInt) (hlo : 10000 ≤ aa.toInt) (hhi : aa.toInt < 100000) (hg0 : g0.toInt = 48 + aa.toInt / 1 % 10) (hg1 : g1.toInt = 48 + aa.toInt / 10 % 10) (hg2 : g2.toInt = 48 + aa.toInt / 100 % 10) (hg3 : g3.toInt = 48 + aa.toInt / 1000 % 10) (hg4 : g4.toInt = 48 + aa.toInt / 10000 % 10) (dO dT : Addr) (kdO kdT : ClassId) (ldO ldT : List Value) (hO : own_tab ldO fun r => 48 + r % 10) (hT : own_tab ldT fun r => 48 + r / 10) (h0 : Heap) (n0 : Nat) (O : Old Z n0 h0) (V_ba : Arv Z h0 ba kb .byte (5 : Int32) [(.int 0), (.int 0), (.int 0), (.int 0), (.int 0)] (.int 0)) (S_dO : Sta Z Z.heap "java/lang/Integer" "DigitOnes" "[B" (.ref dO)) (V_dO : Arv Z Z.heap dO kdO .byte (100 : Int32) ldO (.int 0)) (S_dT : Sta Z Z.heap "java/lang/Integer" "DigitTens" "[B" (.ref dT)) (V_dT : Arv Z Z.heap dT kdT .byte (100 : Int32) ldT (.int 0)) (g_ba : n0 ≤ ba) :
  Con l Z (⟨"java/lang/Integer", "getChars", "(II[B)I"⟩ : MethodName) jdk_33_method_12_code 7 (some .int) ({ frames := 0, cells := 0, slots := 0, locals := 0 } : Room) #[(.int aa), (.int 5), (.ref ba)] h0 (fun v h L => v = some (.int 0) ∧ Fr n0 L ∧ Keep h0 h [ba] ∧ Arv Z h ba kb .byte (5 : Int32) [(.int g4), (.int g3), (.int g2), (.int g1), (.int g0)] (.int 0)) := by
 refine own_startC opn_10 ?_
 intro p e s m below meth c T0 X0 hx hby hml hZ hown hnm hret hlk e0
 have N := Fr.nil n0; have K := Keep.refl h0 [ba]
 refine OG.cast (oef2 m aa (5 : Int32) ba) ?_
 have hmx := aa.toInt_lt
 refine og_iloadN X0 hx rfl (hb hby d10_0) rfl ?_
 refine og_istore (L' := #[.val (.int aa), .val (.int 5), .val (.ref ba), .unset, .unset, .val (.int 5), .unset]) X0 hx rfl (hb hby d10_1) rfl ?_
 refine og_iloadN X0 hx rfl (hb hby d10_3) rfl ?_
 refine og_if_ge (pc1 := 11) (pc2 := 7) X0 hx (hb hby d10_4) (by decide) (by decide) rfl (fun _ => ?_) (fun q => absurd q (own_ge0 h0a))
 refine og_iconst (v := 0) X0 hx rfl (hb hby d10_11) rfl ?_
 refine og_istore (L' := #[.val (.int aa), .val (.int 5), .val (.ref ba), .unset, .unset, .val (.int 5), .val (.int 0)]) X0 hx rfl (hb hby d10_12) rfl ?_
 refine og_iload X0 hx rfl (hb hby d10_14) rfl ?_
 refine og_if_ne (pc1 := 22) (pc2 := 19) X0 hx (hb hby d10_16) (by decide) (by decide) rfl (fun q => absurd q (by decide)) (fun _ => ?_)
 refine og_iloadN X0 hx rfl (hb hby d10_19) rfl ?_
 refine og_ineg X0 hx (hb hby d10_20) rfl ?_
 refine og_istoreN (L' := #[.val (.int (-aa)), .val (.int 5), .val (.ref ba), .unset, .unset, .val (.int 5), .val (.int 0)]) X0 hx rfl (hb hby d10_21) rfl ?_
 obtain ⟨ii0, h_ii0⟩ : ∃ z, z = (-aa) := ⟨_, rfl⟩
 rw [← h_ii0]
 have hI0 : ii0.toInt = -(aa.toInt / 1) := by rw [h_ii0]; exact own_ng1 h0a
 refine og_iloadN X0 hx rfl (hb hby d10_22) rfl ?_
 refine og_bipush (v := -100) X0 hx rfl (hb hby d10_23) rfl ?_
 refine og_icmp_gt (pc1 := 72) (pc2 := 28) X0 hx (hb hby d10_25) (by decide) (by decide) rfl (fun q => absurd q (own_nlt hI0 (n := 100) (by decide) (by omega))) (fun _ => ?_)
 refine og_iloadN X0 hx rfl (hb hby d10_28) rfl ?_
 refine og_bipush (v := 100) X0 hx rfl (hb hby d10_29) rfl ?_
 refine og_idiv (pc' := 32) X0 hx (by decide) (hb hby d10_31) rfl ?_
 refine og_istoreN (L' := #[.val (.int ii0), .val (.int 5), .val (.ref ba), .val (.int (ii0 / (100 : Int32))), .unset, .val (.int 5), .val (.int 0)]) X0 hx rfl (hb hby d10_32) rfl ?_
 refine og_iloadN X0 hx rfl (hb hby d10_33) rfl ?_
 refine og_bipush (v := 100) X0 hx rfl (hb hby d10_34) rfl ?_
 refine og_imul X0 hx (hb hby d10_36) rfl ?_
 refine og_iloadN X0 hx rfl (hb hby d10_37) rfl ?_
 refine og_isub X0 hx (hb hby d10_38) rfl ?_
 refine og_istore (L' := #[.val (.int ii0), .val (.int 5), .val (.ref ba), .val (.int (ii0 / (100 : Int32))), .val (.int (((ii0 / (100 : Int32)) * (100 : Int32)) - ii0)), .val (.int 5), .val (.int 0)]) X0 hx rfl (hb hby d10_39) rfl ?_
 obtain ⟨rr0, h_rr0⟩ : ∃ z, z = (((ii0 / (100 : Int32)) * (100 : Int32)) - ii0) := ⟨_, rfl⟩
 rw [← h_rr0]
 have hR0 : rr0.toInt = aa.toInt / 1 % 100 := by rw [h_rr0]; exact own_q2 h0a hI0 (by decide)
 refine og_iloadN X0 hx rfl (hb hby d10_41) rfl ?_
 refine og_istoreN (L' := #[.val (.int (ii0 / (100 : Int32))), .val (.int 5), .val (.ref ba), .val (.int (ii0 / (100 : Int32))), .val (.int rr0), .val (.int 5), .val (.int 0)]) X0 hx rfl (hb hby d10_42) rfl ?_
 refine og_aloadN X0 hx rfl rfl (hb hby d10_43) rfl ?_
 refine og_iinc (L' := #[.val (.int (ii0 / (100 : Int32))), .val (.int 5), .val (.ref ba), .val (.int (ii0 / (100 : Int32))), .val (.int rr0), .val (.int 4), .val (.int 0)]) (w := -1) X0 hx rfl rfl rfl (hb hby d10_44) rfl ?_
 refine og_iload X0 hx rfl (hb hby d10_47) rfl ?_
 refine og_getstatic X0 hx hZ (host := "") hown (Or.inl (ow48 hw)) Via.refl e0 (S_dO.ext O.2) (hb hby d10_49) rfl (fun T11 X11 e11 => ?_)
 refine og_iload X11 hx rfl (hb hby d10_52) rfl ?_
 refine og_baload (v := (.int g0)) X11 hx hZ e11 (V_dO.ext O.2) (own_ix hR0 (by omega) (by omega)) (own_one hO hR0 (by omega) (by omega) hg0 (by omega)) (hb hby d10_54) rfl ?_
 refine og_bastore X11 hx hZ e11 V_ba ⟨by decide, by decide⟩ 4 (by decide) (Nat.le_of_ble_eq_true rfl) (hb hby d10_55) rfl (fun T12 h12 X12 e12 W12 V12 => ?_)
 have O := O.wr W12 g_ba; have K := K.wr W12 (Or.inl (List.mem_of_getElem? (i := 0) rfl))
 have N := Fr.snoc X12 N g_ba
 have V_ba : Arv Z h12 ba kb .byte (5 : Int32) [(.int 0), (.int 0), (.int 0), (.int 0), (.int (nar .byte g0))] (.int 0) := V12
 rw [own_nbg hg0 (by omega) (by omega)] at V_ba
 refine og_aloadN X12 hx rfl rfl (hb hby d10_56) rfl ?_
 refine og_iinc (L' := #[.val (.int (ii0 / (100 : Int32))), .val (.int 5), .val (.ref ba), .val (.int (ii0 / (100 : Int32))), .val (.int rr0), .val (.int 3), .val (.int 0)]) (w := -1) X12 hx rfl rfl rfl (hb hby d10_57) rfl ?_
 refine og_iload X12 hx rfl (hb hby d10_60) rfl ?_
 refine og_getstatic X12 hx hZ (host := "") hown (Or.inl (ow197 hw)) Via.refl e12 (S_dT.ext O.2) (hb hby d10_62) rfl (fun T13 X13 e13 => ?_)
 refine og_iload X13 hx rfl (hb hby d10_65) rfl ?_
 refine og_baload (v := (.int g1)) X13 hx hZ e13 (V_dT.ext O.2) (own_ix hR0 (by omega) (by omega)) (own_ten hT hR0 (by omega) (by omega) hg1 (by omega)) (hb hby d10_67) rfl ?_
 refine og_bastore X13 hx hZ e13 V_ba ⟨by decide, by decide⟩ 3 (by decide) (Nat.le_of_ble_eq_true rfl) (hb hby d10_68) rfl (fun T14 h14 X14 e14 W14 V14 => ?_)
 have O := O.wr W14 g_ba; have K := K.wr W14 (Or.inl (List.mem_of_getElem? (i := 0) rfl))
 have N := Fr.snoc X14 N g_ba
 have V_ba : Arv Z h14 ba kb .byte (5 : Int32) [(.int 0), (.int 0), (.int 0), (.int (nar .byte g1)), (.int g0)] (.int 0) := V14
 rw [own_nbg hg1 (by omega) (by omega)] at V_ba
 refine og_goto (pc' := 22) X14 hx (hb hby d10_69) (by decide) (by decide) ?_
 obtain ⟨ii1, h_ii1⟩ : ∃ z, z = (ii0 / (100 : Int32)) := ⟨_, rfl⟩
 rw [← h_ii1]
 have hI1 : ii1.toInt = -(aa.toInt / 100) := by rw [h_ii1]; exact own_q1 h0a hI0 (by decide) (by omega)
 refine og_iloadN X14 hx rfl (hb hby d10_22) rfl ?_
 refine og_bipush (v := -100) X14 hx rfl (hb hby d10_23) rfl ?_
 refine og_icmp_gt (pc1 := 72) (pc2 := 28) X14 hx (hb hby d10_25) (by decide) (by decide) rfl (fun q => absurd q (own_nlt hI1 (n := 100) (by decide) (by omega))) (fun _ => ?_)
 refine og_iloadN X14 hx rfl (hb hby d10_28) rfl ?_
 refine og_bipush (v := 100) X14 hx rfl (hb hby d10_29) rfl ?_
 refine og_idiv (pc' := 32) X14 hx (by decide) (hb hby d10_31) rfl ?_
 refine og_istoreN (L' := #[.val (.int ii1), .val (.int 5), .val (.ref ba), .val (.int (ii1 / (100 : Int32))), .val (.int rr0), .val (.int 3), .val (.int 0)]) X14 hx rfl (hb hby d10_32) rfl ?_
 refine og_iloadN X14 hx rfl (hb hby d10_33) rfl ?_
 refine og_bipush (v := 100) X14 hx rfl (hb hby d10_34) rfl ?_
 refine og_imul X14 hx (hb hby d10_36) rfl ?_
 refine og_iloadN X14 hx rfl (hb hby d10_37) rfl ?_
 refine og_isub X14 hx (hb hby d10_38) rfl ?_
 refine og_istore (L' := #[.val (.int ii1), .val (.int 5), .val (.ref ba), .val (.int (ii1 / (100 : Int32))), .val (.int (((ii1 / (100 : Int32)) * (100 : Int32)) - ii1)), .val (.int 3), .val (.int 0)]) X14 hx rfl (hb hby d10_39) rfl ?_
 obtain ⟨rr1, h_rr1⟩ : ∃ z, z = (((ii1 / (100 : Int32)) * (100 : Int32)) - ii1) := ⟨_, rfl⟩
 rw [← h_rr1]
 have hR1 : rr1.toInt = aa.toInt / 100 % 100 := by rw [h_rr1]; exact own_q2 h0a hI1 (by decide)
 refine og_iloadN X14 hx rfl (hb hby d10_41) rfl ?_
 refine og_istoreN (L' := #[.val (.int (ii1 / (100 : Int32))), .val (.int 5), .val (.ref ba), .val (.int (ii1 / (100 : Int32))), .val (.int rr1), .val (.int 3), .val (.int 0)]) X14 hx rfl (hb hby d10_42) rfl ?_
 refine og_aloadN X14 hx rfl rfl (hb hby d10_43) rfl ?_
 refine og_iinc (L' := #[.val (.int (ii1 / (100 : Int32))), .val (.int 5), .val (.ref ba), .val (.int (ii1 / (100 : Int32))), .val (.int rr1), .val (.int 2), .val (.int 0)]) (w := -1) X14 hx rfl rfl rfl (hb hby d10_44) rfl ?_
 refine og_iload X14 hx rfl (hb hby d10_47) rfl ?_
 refine og_getstatic X14 hx hZ (host := "") hown (Or.inl (ow48 hw)) Via.refl e14 (S_dO.ext O.2) (hb hby d10_49) rfl (fun T15 X15 e15 => ?_)
 refine og_iload X15 hx rfl (hb hby d10_52) rfl ?_
 refine og_baload (v := (.int g2)) X15 hx hZ e15 (V_dO.ext O.2) (own_ix hR1 (by omega) (by omega)) (own_one hO hR1 (by omega) (by omega) hg2 (by omega)) (hb hby d10_54) rfl ?_
 refine og_bastore X15 hx hZ e15 V_ba ⟨by decide, by decide⟩ 2 (by decide) (Nat.le_of_ble_eq_true rfl) (hb hby d10_55) rfl (fun T16 h16 X16 e16 W16 V16 => ?_)
 have O := O.wr W16 g_ba; have K := K.wr W16 (Or.inl (List.mem_of_getElem? (i := 0) rfl))
 have N := Fr.snoc X16 N g_ba
 have V_ba : Arv Z h16 ba kb .byte (5 : Int32) [(.int 0), (.int 0), (.int (nar .byte g2)), (.int g1), (.int g0)] (.int 0) := V16
 rw [own_nbg hg2 (by omega) (by omega)] at V_ba
 refine og_aloadN X16 hx rfl rfl (hb hby d10_56) rfl ?_
 refine og_iinc (L' := #[.val (.int (ii1 / (100 : Int32))), .val (.int 5), .val (.ref ba), .val (.int (ii1 / (100 : Int32))), .val (.int rr1), .val (.int 1), .val (.int 0)]) (w := -1) X16 hx rfl rfl rfl (hb hby d10_57) rfl ?_
 refine og_iload X16 hx rfl (hb hby d10_60) rfl ?_
 refine og_getstatic X16 hx hZ (host := "") hown (Or.inl (ow197 hw)) Via.refl e16 (S_dT.ext O.2) (hb hby d10_62) rfl (fun T17 X17 e17 => ?_)
 refine og_iload X17 hx rfl (hb hby d10_65) rfl ?_
 refine og_baload (v := (.int g3)) X17 hx hZ e17 (V_dT.ext O.2) (own_ix hR1 (by omega) (by omega)) (own_ten hT hR1 (by omega) (by omega) hg3 (by omega)) (hb hby d10_67) rfl ?_
 refine og_bastore X17 hx hZ e17 V_ba ⟨by decide, by decide⟩ 1 (by decide) (Nat.le_of_ble_eq_true rfl) (hb hby d10_68) rfl (fun T18 h18 X18 e18 W18 V18 => ?_)
 have O := O.wr W18 g_ba; have K := K.wr W18 (Or.inl (List.mem_of_getElem? (i := 0) rfl))
 have N := Fr.snoc X18 N g_ba
 have V_ba : Arv Z h18 ba kb .byte (5 : Int32) [(.int 0), (.int (nar .byte g3)), (.int g2), (.int g1), (.int g0)] (.int 0) := V18
 rw [own_nbg hg3 (by omega) (by omega)] at V_ba
 refine og_goto (pc' := 22) X18 hx (hb hby d10_69) (by decide) (by decide) ?_
 obtain ⟨ii2, h_ii2⟩ : ∃ z, z = (ii1 / (100 : Int32)) := ⟨_, rfl⟩
 rw [← h_ii2]
 have hI2 : ii2.toInt = -(aa.toInt / 10000) := by rw [h_ii2]; exact own_q1 h0a hI1 (by decide) (by omega)
 refine og_iloadN X18 hx rfl (hb hby d10_22) rfl ?_
 refine og_bipush (v := -100) X18 hx rfl (hb hby d10_23) rfl ?_
 refine og_icmp_gt (pc1 := 72) (pc2 := 28) X18 hx (hb hby d10_25) (by decide) (by decide) rfl (fun _ => ?_) (fun q => absurd (own_lt hI2 (n := 100) (by decide) (by omega)) q)
 refine og_aloadN X18 hx rfl rfl (hb hby d10_72) rfl ?_
 refine og_iinc (L' := #[.val (.int ii2), .val (.int 5), .val (.ref ba), .val (.int ii2), .val (.int rr1), .val (.int 0), .val (.int 0)]) (w := -1) X18 hx rfl rfl rfl (hb hby d10_73) rfl ?_
 refine og_iload X18 hx rfl (hb hby d10_76) rfl ?_
 refine og_getstatic X18 hx hZ (host := "") hown (Or.inl (ow48 hw)) Via.refl e18 (S_dO.ext O.2) (hb hby d10_78) rfl (fun T19 X19 e19 => ?_)
 refine og_iloadN X19 hx rfl (hb hby d10_81) rfl ?_
 refine og_ineg X19 hx (hb hby d10_82) rfl ?_
 have hM : (-ii2).toInt = aa.toInt / 10000 := own_ngn hI2 (by omega)
 refine og_baload (v := (.int g4)) X19 hx hZ e19 (V_dO.ext O.2) (own_ix hM (by omega) (by omega)) (own_one hO hM (by omega) (by omega) hg4 (by omega)) (hb hby d10_83) rfl ?_
 refine og_bastore X19 hx hZ e19 V_ba ⟨by decide, by decide⟩ 0 (by decide) (Nat.le_of_ble_eq_true rfl) (hb hby d10_84) rfl (fun T20 h20 X20 e20 W20 V20 => ?_)
 have O := O.wr W20 g_ba; have K := K.wr W20 (Or.inl (List.mem_of_getElem? (i := 0) rfl))
 have N := Fr.snoc X20 N g_ba
 have V_ba : Arv Z h20 ba kb .byte (5 : Int32) [(.int (nar .byte g4)), (.int g3), (.int g2), (.int g1), (.int g0)] (.int 0) := V20
 rw [own_nbg hg4 (by omega) (by omega)] at V_ba
 refine og_iloadN X20 hx rfl (hb hby d10_85) rfl ?_
 refine og_bipush (v := -9) X20 hx rfl (hb hby d10_86) rfl ?_
 refine og_icmp_ge (pc1 := 104) (pc2 := 91) X20 hx (hb hby d10_88) (by decide) (by decide) rfl (fun _ => ?_) (fun q => absurd q (own_nlt9 hI2 (by omega)))
 refine og_iload X20 hx rfl (hb hby d10_104) rfl ?_
 refine og_if_eq (pc1 := 118) (pc2 := 109) X20 hx (hb hby d10_106) (by decide) (by decide) rfl (fun _ => ?_) (fun q => absurd q (by decide))
 refine og_iload X20 hx rfl (hb hby d10_118) rfl ?_
 refine og_retI X20 hx hlk hret (hb hby d10_120) (by decide) (by decide) ?_
 rw [e20]; exact ⟨rfl, N, K, V_ba⟩
theorem rm_gc6 (l : Launch) (Z : State) (a0 : Array Value) (hw : HW a0 Z) (ba : Addr) (kb : ClassId) (aa g0 g1 g2 g3 g4 g5 : Int32) (h0a : 0 ≤ aa.toInt) (hlo : 100000 ≤ aa.toInt) (hhi : aa.toInt < 1000000) (hg0 : g0.toInt = 48 + aa.toInt / 1 % 10) (hg1 : g1.toInt = 48 + aa.toInt / 10 % 10) (hg2 : g2.toInt = 48 + aa.toInt / 100 % 10) (hg3 : g3.toInt = 48 + aa.toInt / 1000 % 10) (hg4 : g4.toInt = 48 + aa.toInt / 10000 % 10) (hg5 : g5.toInt = 48 + aa.toInt / 100000 % 10) (dO dT : Addr) (kdO kdT : ClassId) (ldO ldT : List Value) (hO : own_tab ldO fun r => 48 + r % 10) (hT : own_tab ldT fun r => 48 + r / 10) (h0 : Heap) (n0 : Nat) (O : Old Z n0 h0) (V_ba : Arv Z h0 ba kb .byte (6 : Int32) [(.int 0), (.int 0), (.int 0), (.int 0), (.int 0), (.int 0)] (.int 0)) (S_dO : Sta Z Z.heap "java/lang/Integer" "DigitOnes" "[B" (.ref dO)) (V_dO : Arv Z Z.heap dO kdO .byte (100 : Int32) ldO (.int 0)) (S_dT : Sta Z Z.heap "java/lang/Integer" "DigitTens" "[B" (.ref dT)) (V_dT : Arv Z Z.heap dT kdT .byte (100 : Int32) ldT (.int 0)) (g_ba : n0 ≤ ba) :
  Con l Z (⟨"java/lang/Integer", "getChars", "(II[B)I"⟩ : MethodName) jdk_33_method_12_code 7 (some .int) ({ frames := 0, cells := 0, slots := 0, locals := 0 } : Room) #[(.int aa), (.int 6), (.ref ba)] h0 (fun v h L => v = some (.int 0) ∧ Fr n0 L ∧ Keep h0 h [ba] ∧ Arv Z h ba kb .byte (6 : Int32) [(.int g5), (.int g4), (.int g3), (.int g2), (.int g1), (.int g0)] (.int 0)) := by
 refine own_startC opn_10 ?_
 intro p e s m below meth c T0 X0 hx hby hml hZ hown hnm hret hlk e0
 have N := Fr.nil n0; have K := Keep.refl h0 [ba]
 refine OG.cast (oef2 m aa (6 : Int32) ba) ?_
 have hmx := aa.toInt_lt
 refine og_iloadN X0 hx rfl (hb hby d10_0) rfl ?_
 refine og_istore (L' := #[.val (.int aa), .val (.int 6), .val (.ref ba), .unset, .unset, .val (.int 6), .unset]) X0 hx rfl (hb hby d10_1) rfl ?_
 refine og_iloadN X0 hx rfl (hb hby d10_3) rfl ?_
 refine og_if_ge (pc1 := 11) (pc2 := 7) X0 hx (hb hby d10_4) (by decide) (by decide) rfl (fun _ => ?_) (fun q => absurd q (own_ge0 h0a))
 refine og_iconst (v := 0) X0 hx rfl (hb hby d10_11) rfl ?_
 refine og_istore (L' := #[.val (.int aa), .val (.int 6), .val (.ref ba), .unset, .unset, .val (.int 6), .val (.int 0)]) X0 hx rfl (hb hby d10_12) rfl ?_
 refine og_iload X0 hx rfl (hb hby d10_14) rfl ?_
 refine og_if_ne (pc1 := 22) (pc2 := 19) X0 hx (hb hby d10_16) (by decide) (by decide) rfl (fun q => absurd q (by decide)) (fun _ => ?_)
 refine og_iloadN X0 hx rfl (hb hby d10_19) rfl ?_
 refine og_ineg X0 hx (hb hby d10_20) rfl ?_
 refine og_istoreN (L' := #[.val (.int (-aa)), .val (.int 6), .val (.ref ba), .unset, .unset, .val (.int 6), .val (.int 0)]) X0 hx rfl (hb hby d10_21) rfl ?_
 obtain ⟨ii0, h_ii0⟩ : ∃ z, z = (-aa) := ⟨_, rfl⟩
 rw [← h_ii0]
 have hI0 : ii0.toInt = -(aa.toInt / 1) := by rw [h_ii0]; exact own_ng1 h0a
 refine og_iloadN X0 hx rfl (hb hby d10_22) rfl ?_
 refine og_bipush (v := -100) X0 hx rfl (hb hby d10_23) rfl ?_
 refine og_icmp_gt (pc1 := 72) (pc2 := 28) X0 hx (hb hby d10_25) (by decide) (by decide) rfl (fun q => absurd q (own_nlt hI0 (n := 100) (by decide) (by omega))) (fun _ => ?_)
 refine og_iloadN X0 hx rfl (hb hby d10_28) rfl ?_
 refine og_bipush (v := 100) X0 hx rfl (hb hby d10_29) rfl ?_
 refine og_idiv (pc' := 32) X0 hx (by decide) (hb hby d10_31) rfl ?_
 refine og_istoreN (L' := #[.val (.int ii0), .val (.int 6), .val (.ref ba), .val (.int (ii0 / (100 : Int32))), .unset, .val (.int 6), .val (.int 0)]) X0 hx rfl (hb hby d10_32) rfl ?_
 refine og_iloadN X0 hx rfl (hb hby d10_33) rfl ?_
 refine og_bipush (v := 100) X0 hx rfl (hb hby d10_34) rfl ?_
 refine og_imul X0 hx (hb hby d10_36) rfl ?_
 refine og_iloadN X0 hx rfl (hb hby d10_37) rfl ?_
 refine og_isub X0 hx (hb hby d10_38) rfl ?_
 refine og_istore (L' := #[.val (.int ii0), .val (.int 6), .val (.ref ba), .val (.int (ii0 / (100 : Int32))), .val (.int (((ii0 / (100 : Int32)) * (100 : Int32)) - ii0)), .val (.int 6), .val (.int 0)]) X0 hx rfl (hb hby d10_39) rfl ?_
 obtain ⟨rr0, h_rr0⟩ : ∃ z, z = (((ii0 / (100 : Int32)) * (100 : Int32)) - ii0) := ⟨_, rfl⟩
 rw [← h_rr0]
 have hR0 : rr0.toInt = aa.toInt / 1 % 100 := by rw [h_rr0]; exact own_q2 h0a hI0 (by decide)
 refine og_iloadN X0 hx rfl (hb hby d10_41) rfl ?_
 refine og_istoreN (L' := #[.val (.int (ii0 / (100 : Int32))), .val (.int 6), .val (.ref ba), .val (.int (ii0 / (100 : Int32))), .val (.int rr0), .val (.int 6), .val (.int 0)]) X0 hx rfl (hb hby d10_42) rfl ?_
 refine og_aloadN X0 hx rfl rfl (hb hby d10_43) rfl ?_
 refine og_iinc (L' := #[.val (.int (ii0 / (100 : Int32))), .val (.int 6), .val (.ref ba), .val (.int (ii0 / (100 : Int32))), .val (.int rr0), .val (.int 5), .val (.int 0)]) (w := -1) X0 hx rfl rfl rfl (hb hby d10_44) rfl ?_
 refine og_iload X0 hx rfl (hb hby d10_47) rfl ?_
 refine og_getstatic X0 hx hZ (host := "") hown (Or.inl (ow48 hw)) Via.refl e0 (S_dO.ext O.2) (hb hby d10_49) rfl (fun T11 X11 e11 => ?_)
 refine og_iload X11 hx rfl (hb hby d10_52) rfl ?_
 refine og_baload (v := (.int g0)) X11 hx hZ e11 (V_dO.ext O.2) (own_ix hR0 (by omega) (by omega)) (own_one hO hR0 (by omega) (by omega) hg0 (by omega)) (hb hby d10_54) rfl ?_
 refine og_bastore X11 hx hZ e11 V_ba ⟨by decide, by decide⟩ 5 (by decide) (Nat.le_of_ble_eq_true rfl) (hb hby d10_55) rfl (fun T12 h12 X12 e12 W12 V12 => ?_)
 have O := O.wr W12 g_ba; have K := K.wr W12 (Or.inl (List.mem_of_getElem? (i := 0) rfl))
 have N := Fr.snoc X12 N g_ba
 have V_ba : Arv Z h12 ba kb .byte (6 : Int32) [(.int 0), (.int 0), (.int 0), (.int 0), (.int 0), (.int (nar .byte g0))] (.int 0) := V12
 rw [own_nbg hg0 (by omega) (by omega)] at V_ba
 refine og_aloadN X12 hx rfl rfl (hb hby d10_56) rfl ?_
 refine og_iinc (L' := #[.val (.int (ii0 / (100 : Int32))), .val (.int 6), .val (.ref ba), .val (.int (ii0 / (100 : Int32))), .val (.int rr0), .val (.int 4), .val (.int 0)]) (w := -1) X12 hx rfl rfl rfl (hb hby d10_57) rfl ?_
 refine og_iload X12 hx rfl (hb hby d10_60) rfl ?_
 refine og_getstatic X12 hx hZ (host := "") hown (Or.inl (ow197 hw)) Via.refl e12 (S_dT.ext O.2) (hb hby d10_62) rfl (fun T13 X13 e13 => ?_)
 refine og_iload X13 hx rfl (hb hby d10_65) rfl ?_
 refine og_baload (v := (.int g1)) X13 hx hZ e13 (V_dT.ext O.2) (own_ix hR0 (by omega) (by omega)) (own_ten hT hR0 (by omega) (by omega) hg1 (by omega)) (hb hby d10_67) rfl ?_
 refine og_bastore X13 hx hZ e13 V_ba ⟨by decide, by decide⟩ 4 (by decide) (Nat.le_of_ble_eq_true rfl) (hb hby d10_68) rfl (fun T14 h14 X14 e14 W14 V14 => ?_)
 have O := O.wr W14 g_ba; have K := K.wr W14 (Or.inl (List.mem_of_getElem? (i := 0) rfl))
 have N := Fr.snoc X14 N g_ba
 have V_ba : Arv Z h14 ba kb .byte (6 : Int32) [(.int 0), (.int 0), (.int 0), (.int 0), (.int (nar .byte g1)), (.int g0)] (.int 0) := V14
 rw [own_nbg hg1 (by omega) (by omega)] at V_ba
 refine og_goto (pc' := 22) X14 hx (hb hby d10_69) (by decide) (by decide) ?_
 obtain ⟨ii1, h_ii1⟩ : ∃ z, z = (ii0 / (100 : Int32)) := ⟨_, rfl⟩
 rw [← h_ii1]
 have hI1 : ii1.toInt = -(aa.toInt / 100) := by rw [h_ii1]; exact own_q1 h0a hI0 (by decide) (by omega)
 refine og_iloadN X14 hx rfl (hb hby d10_22) rfl ?_
 refine og_bipush (v := -100) X14 hx rfl (hb hby d10_23) rfl ?_
 refine og_icmp_gt (pc1 := 72) (pc2 := 28) X14 hx (hb hby d10_25) (by decide) (by decide) rfl (fun q => absurd q (own_nlt hI1 (n := 100) (by decide) (by omega))) (fun _ => ?_)
 refine og_iloadN X14 hx rfl (hb hby d10_28) rfl ?_
 refine og_bipush (v := 100) X14 hx rfl (hb hby d10_29) rfl ?_
 refine og_idiv (pc' := 32) X14 hx (by decide) (hb hby d10_31) rfl ?_
 refine og_istoreN (L' := #[.val (.int ii1), .val (.int 6), .val (.ref ba), .val (.int (ii1 / (100 : Int32))), .val (.int rr0), .val (.int 4), .val (.int 0)]) X14 hx rfl (hb hby d10_32) rfl ?_
 refine og_iloadN X14 hx rfl (hb hby d10_33) rfl ?_
 refine og_bipush (v := 100) X14 hx rfl (hb hby d10_34) rfl ?_
 refine og_imul X14 hx (hb hby d10_36) rfl ?_
 refine og_iloadN X14 hx rfl (hb hby d10_37) rfl ?_
 refine og_isub X14 hx (hb hby d10_38) rfl ?_
 refine og_istore (L' := #[.val (.int ii1), .val (.int 6), .val (.ref ba), .val (.int (ii1 / (100 : Int32))), .val (.int (((ii1 / (100 : Int32)) * (100 : Int32)) - ii1)), .val (.int 4), .val (.int 0)]) X14 hx rfl (hb hby d10_39) rfl ?_
 obtain ⟨rr1, h_rr1⟩ : ∃ z, z = (((ii1 / (100 : Int32)) * (100 : Int32)) - ii1) := ⟨_, rfl⟩
 rw [← h_rr1]
 have hR1 : rr1.toInt = aa.toInt / 100 % 100 := by rw [h_rr1]; exact own_q2 h0a hI1 (by decide)
 refine og_iloadN X14 hx rfl (hb hby d10_41) rfl ?_
 refine og_istoreN (L' := #[.val (.int (ii1 / (100 : Int32))), .val (.int 6), .val (.ref ba), .val (.int (ii1 / (100 : Int32))), .val (.int rr1), .val (.int 4), .val (.int 0)]) X14 hx rfl (hb hby d10_42) rfl ?_
 refine og_aloadN X14 hx rfl rfl (hb hby d10_43) rfl ?_
 refine og_iinc (L' := #[.val (.int (ii1 / (100 : Int32))), .val (.int 6), .val (.ref ba), .val (.int (ii1 / (100 : Int32))), .val (.int rr1), .val (.int 3), .val (.int 0)]) (w := -1) X14 hx rfl rfl rfl (hb hby d10_44) rfl ?_
 refine og_iload X14 hx rfl (hb hby d10_47) rfl ?_
 refine og_getstatic X14 hx hZ (host := "") hown (Or.inl (ow48 hw)) Via.refl e14 (S_dO.ext O.2) (hb hby d10_49) rfl (fun T15 X15 e15 => ?_)
 refine og_iload X15 hx rfl (hb hby d10_52) rfl ?_
 refine og_baload (v := (.int g2)) X15 hx hZ e15 (V_dO.ext O.2) (own_ix hR1 (by omega) (by omega)) (own_one hO hR1 (by omega) (by omega) hg2 (by omega)) (hb hby d10_54) rfl ?_
 refine og_bastore X15 hx hZ e15 V_ba ⟨by decide, by decide⟩ 3 (by decide) (Nat.le_of_ble_eq_true rfl) (hb hby d10_55) rfl (fun T16 h16 X16 e16 W16 V16 => ?_)
 have O := O.wr W16 g_ba; have K := K.wr W16 (Or.inl (List.mem_of_getElem? (i := 0) rfl))
 have N := Fr.snoc X16 N g_ba
 have V_ba : Arv Z h16 ba kb .byte (6 : Int32) [(.int 0), (.int 0), (.int 0), (.int (nar .byte g2)), (.int g1), (.int g0)] (.int 0) := V16
 rw [own_nbg hg2 (by omega) (by omega)] at V_ba
 refine og_aloadN X16 hx rfl rfl (hb hby d10_56) rfl ?_
 refine og_iinc (L' := #[.val (.int (ii1 / (100 : Int32))), .val (.int 6), .val (.ref ba), .val (.int (ii1 / (100 : Int32))), .val (.int rr1), .val (.int 2), .val (.int 0)]) (w := -1) X16 hx rfl rfl rfl (hb hby d10_57) rfl ?_
 refine og_iload X16 hx rfl (hb hby d10_60) rfl ?_
 refine og_getstatic X16 hx hZ (host := "") hown (Or.inl (ow197 hw)) Via.refl e16 (S_dT.ext O.2) (hb hby d10_62) rfl (fun T17 X17 e17 => ?_)
 refine og_iload X17 hx rfl (hb hby d10_65) rfl ?_
 refine og_baload (v := (.int g3)) X17 hx hZ e17 (V_dT.ext O.2) (own_ix hR1 (by omega) (by omega)) (own_ten hT hR1 (by omega) (by omega) hg3 (by omega)) (hb hby d10_67) rfl ?_
 refine og_bastore X17 hx hZ e17 V_ba ⟨by decide, by decide⟩ 2 (by decide) (Nat.le_of_ble_eq_true rfl) (hb hby d10_68) rfl (fun T18 h18 X18 e18 W18 V18 => ?_)
 have O := O.wr W18 g_ba; have K := K.wr W18 (Or.inl (List.mem_of_getElem? (i := 0) rfl))
 have N := Fr.snoc X18 N g_ba
 have V_ba : Arv Z h18 ba kb .byte (6 : Int32) [(.int 0), (.int 0), (.int (nar .byte g3)), (.int g2), (.int g1), (.int g0)] (.int 0) := V18
 rw [own_nbg hg3 (by omega) (by omega)] at V_ba
 refine og_goto (pc' := 22) X18 hx (hb hby d10_69) (by decide) (by decide) ?_
 obtain ⟨ii2, h_ii2⟩ : ∃ z, z = (ii1 / (100 : Int32)) := ⟨_, rfl⟩
 rw [← h_ii2]
 have hI2 : ii2.toInt = -(aa.toInt / 10000) := by rw [h_ii2]; exact own_q1 h0a hI1 (by decide) (by omega)
 refine og_iloadN X18 hx rfl (hb hby d10_22) rfl ?_
 refine og_bipush (v := -100) X18 hx rfl (hb hby d10_23) rfl ?_
 refine og_icmp_gt (pc1 := 72) (pc2 := 28) X18 hx (hb hby d10_25) (by decide) (by decide) rfl (fun _ => ?_) (fun q => absurd (own_lt hI2 (n := 100) (by decide) (by omega)) q)
 refine og_aloadN X18 hx rfl rfl (hb hby d10_72) rfl ?_
 refine og_iinc (L' := #[.val (.int ii2), .val (.int 6), .val (.ref ba), .val (.int ii2), .val (.int rr1), .val (.int 1), .val (.int 0)]) (w := -1) X18 hx rfl rfl rfl (hb hby d10_73) rfl ?_
 refine og_iload X18 hx rfl (hb hby d10_76) rfl ?_
 refine og_getstatic X18 hx hZ (host := "") hown (Or.inl (ow48 hw)) Via.refl e18 (S_dO.ext O.2) (hb hby d10_78) rfl (fun T19 X19 e19 => ?_)
 refine og_iloadN X19 hx rfl (hb hby d10_81) rfl ?_
 refine og_ineg X19 hx (hb hby d10_82) rfl ?_
 have hM : (-ii2).toInt = aa.toInt / 10000 := own_ngn hI2 (by omega)
 refine og_baload (v := (.int g4)) X19 hx hZ e19 (V_dO.ext O.2) (own_ix hM (by omega) (by omega)) (own_one hO hM (by omega) (by omega) hg4 (by omega)) (hb hby d10_83) rfl ?_
 refine og_bastore X19 hx hZ e19 V_ba ⟨by decide, by decide⟩ 1 (by decide) (Nat.le_of_ble_eq_true rfl) (hb hby d10_84) rfl (fun T20 h20 X20 e20 W20 V20 => ?_)
 have O := O.wr W20 g_ba; have K := K.wr W20 (Or.inl (List.mem_of_getElem? (i := 0) rfl))
 have N := Fr.snoc X20 N g_ba
 have V_ba : Arv Z h20 ba kb .byte (6 : Int32) [(.int 0), (.int (nar .byte g4)), (.int g3), (.int g2), (.int g1), (.int g0)] (.int 0) := V20
 rw [own_nbg hg4 (by omega) (by omega)] at V_ba
 refine og_iloadN X20 hx rfl (hb hby d10_85) rfl ?_
 refine og_bipush (v := -9) X20 hx rfl (hb hby d10_86) rfl ?_
 refine og_icmp_ge (pc1 := 104) (pc2 := 91) X20 hx (hb hby d10_88) (by decide) (by decide) rfl (fun q => absurd (own_lt9 hI2 (by omega)) q) (fun _ => ?_)
 refine og_aloadN X20 hx rfl rfl (hb hby d10_91) rfl ?_
 refine og_iinc (L' := #[.val (.int ii2), .val (.int 6), .val (.ref ba), .val (.int ii2), .val (.int rr1), .val (.int 0), .val (.int 0)]) (w := -1) X20 hx rfl rfl rfl (hb hby d10_92) rfl ?_
 refine og_iload X20 hx rfl (hb hby d10_95) rfl ?_
 refine og_getstatic X20 hx hZ (host := "") hown (Or.inl (ow197 hw)) Via.refl e20 (S_dT.ext O.2) (hb hby d10_97) rfl (fun T21 X21 e21 => ?_)
 refine og_iloadN X21 hx rfl (hb hby d10_100) rfl ?_
 refine og_ineg X21 hx (hb hby d10_101) rfl ?_
 refine og_baload (v := (.int g5)) X21 hx hZ e21 (V_dT.ext O.2) (own_ix hM (by omega) (by omega)) (own_ten hT hM (by omega) (by omega) hg5 (by omega)) (hb hby d10_102) rfl ?_
 refine og_bastore X21 hx hZ e21 V_ba ⟨by decide, by decide⟩ 0 (by decide) (Nat.le_of_ble_eq_true rfl) (hb hby d10_103) rfl (fun T22 h22 X22 e22 W22 V22 => ?_)
 have O := O.wr W22 g_ba; have K := K.wr W22 (Or.inl (List.mem_of_getElem? (i := 0) rfl))
 have N := Fr.snoc X22 N g_ba
 have V_ba : Arv Z h22 ba kb .byte (6 : Int32) [(.int (nar .byte g5)), (.int g4), (.int g3), (.int g2), (.int g1), (.int g0)] (.int 0) := V22
 rw [own_nbg hg5 (by omega) (by omega)] at V_ba
 refine og_iload X22 hx rfl (hb hby d10_104) rfl ?_
 refine og_if_eq (pc1 := 118) (pc2 := 109) X22 hx (hb hby d10_106) (by decide) (by decide) rfl (fun _ => ?_) (fun q => absurd q (by decide))
 refine og_iload X22 hx rfl (hb hby d10_118) rfl ?_
 refine og_retI X22 hx hlk hret (hb hby d10_120) (by decide) (by decide) ?_
 rw [e22]; exact ⟨rfl, N, K, V_ba⟩
theorem rm_gc7 (l : Launch) (Z : State) (a0 : Array Value) (hw : HW a0 Z) (ba : Addr) (kb : ClassId) (aa g0 g1 g2 g3 g4 g5 g6 : Int32) (h0a : 0 ≤ aa.toInt) (hlo : 1000000 ≤ aa.toInt) (hhi : aa.toInt < 10000000) (hg0 : g0.toInt = 48 + aa.toInt / 1 % 10) (hg1 : g1.toInt = 48 + aa.toInt / 10 % 10) (hg2 : g2.toInt = 48 + aa.toInt / 100 % 10) (hg3 : g3.toInt = 48 + aa.toInt / 1000 % 10) (hg4 : g4.toInt = 48 + aa.toInt / 10000 % 10) (hg5 : g5.toInt = 48 + aa.toInt / 100000 % 10) (hg6 : g6.toInt = 48 + aa.toInt / 1000000 % 10) (dO dT : Addr) (kdO kdT : ClassId) (ldO ldT : List Value) (hO : own_tab ldO fun r => 48 + r % 10) (hT : own_tab ldT fun r => 48 + r / 10) (h0 : Heap) (n0 : Nat) (O : Old Z n0 h0) (V_ba : Arv Z h0 ba kb .byte (7 : Int32) [(.int 0), (.int 0), (.int 0), (.int 0), (.int 0), (.int 0), (.int 0)] (.int 0)) (S_dO : Sta Z Z.heap "java/lang/Integer" "DigitOnes" "[B" (.ref dO)) (V_dO : Arv Z Z.heap dO kdO .byte (100 : Int32) ldO (.int 0)) (S_dT : Sta Z Z.heap "java/lang/Integer" "DigitTens" "[B" (.ref dT)) (V_dT : Arv Z Z.heap dT kdT .byte (100 : Int32) ldT (.int 0)) (g_ba : n0 ≤ ba) :
  Con l Z (⟨"java/lang/Integer", "getChars", "(II[B)I"⟩ : MethodName) jdk_33_method_12_code 7 (some .int) ({ frames := 0, cells := 0, slots := 0, locals := 0 } : Room) #[(.int aa), (.int 7), (.ref ba)] h0 (fun v h L => v = some (.int 0) ∧ Fr n0 L ∧ Keep h0 h [ba] ∧ Arv Z h ba kb .byte (7 : Int32) [(.int g6), (.int g5), (.int g4), (.int g3), (.int g2), (.int g1), (.int g0)] (.int 0)) := by
 refine own_startC opn_10 ?_
 intro p e s m below meth c T0 X0 hx hby hml hZ hown hnm hret hlk e0
 have N := Fr.nil n0; have K := Keep.refl h0 [ba]
 refine OG.cast (oef2 m aa (7 : Int32) ba) ?_
 have hmx := aa.toInt_lt
 refine og_iloadN X0 hx rfl (hb hby d10_0) rfl ?_
 refine og_istore (L' := #[.val (.int aa), .val (.int 7), .val (.ref ba), .unset, .unset, .val (.int 7), .unset]) X0 hx rfl (hb hby d10_1) rfl ?_
 refine og_iloadN X0 hx rfl (hb hby d10_3) rfl ?_
 refine og_if_ge (pc1 := 11) (pc2 := 7) X0 hx (hb hby d10_4) (by decide) (by decide) rfl (fun _ => ?_) (fun q => absurd q (own_ge0 h0a))
 refine og_iconst (v := 0) X0 hx rfl (hb hby d10_11) rfl ?_
 refine og_istore (L' := #[.val (.int aa), .val (.int 7), .val (.ref ba), .unset, .unset, .val (.int 7), .val (.int 0)]) X0 hx rfl (hb hby d10_12) rfl ?_
 refine og_iload X0 hx rfl (hb hby d10_14) rfl ?_
 refine og_if_ne (pc1 := 22) (pc2 := 19) X0 hx (hb hby d10_16) (by decide) (by decide) rfl (fun q => absurd q (by decide)) (fun _ => ?_)
 refine og_iloadN X0 hx rfl (hb hby d10_19) rfl ?_
 refine og_ineg X0 hx (hb hby d10_20) rfl ?_
 refine og_istoreN (L' := #[.val (.int (-aa)), .val (.int 7), .val (.ref ba), .unset, .unset, .val (.int 7), .val (.int 0)]) X0 hx rfl (hb hby d10_21) rfl ?_
 obtain ⟨ii0, h_ii0⟩ : ∃ z, z = (-aa) := ⟨_, rfl⟩
 rw [← h_ii0]
 have hI0 : ii0.toInt = -(aa.toInt / 1) := by rw [h_ii0]; exact own_ng1 h0a
 refine og_iloadN X0 hx rfl (hb hby d10_22) rfl ?_
 refine og_bipush (v := -100) X0 hx rfl (hb hby d10_23) rfl ?_
 refine og_icmp_gt (pc1 := 72) (pc2 := 28) X0 hx (hb hby d10_25) (by decide) (by decide) rfl (fun q => absurd q (own_nlt hI0 (n := 100) (by decide) (by omega))) (fun _ => ?_)
 refine og_iloadN X0 hx rfl (hb hby d10_28) rfl ?_
 refine og_bipush (v := 100) X0 hx rfl (hb hby d10_29) rfl ?_
 refine og_idiv (pc' := 32) X0 hx (by decide) (hb hby d10_31) rfl ?_
 refine og_istoreN (L' := #[.val (.int ii0), .val (.int 7), .val (.ref ba), .val (.int (ii0 / (100 : Int32))), .unset, .val (.int 7), .val (.int 0)]) X0 hx rfl (hb hby d10_32) rfl ?_
 refine og_iloadN X0 hx rfl (hb hby d10_33) rfl ?_
 refine og_bipush (v := 100) X0 hx rfl (hb hby d10_34) rfl ?_
 refine og_imul X0 hx (hb hby d10_36) rfl ?_
 refine og_iloadN X0 hx rfl (hb hby d10_37) rfl ?_
 refine og_isub X0 hx (hb hby d10_38) rfl ?_
 refine og_istore (L' := #[.val (.int ii0), .val (.int 7), .val (.ref ba), .val (.int (ii0 / (100 : Int32))), .val (.int (((ii0 / (100 : Int32)) * (100 : Int32)) - ii0)), .val (.int 7), .val (.int 0)]) X0 hx rfl (hb hby d10_39) rfl ?_
 obtain ⟨rr0, h_rr0⟩ : ∃ z, z = (((ii0 / (100 : Int32)) * (100 : Int32)) - ii0) := ⟨_, rfl⟩
 rw [← h_rr0]
 have hR0 : rr0.toInt = aa.toInt / 1 % 100 := by rw [h_rr0]; exact own_q2 h0a hI0 (by decide)
 refine og_iloadN X0 hx rfl (hb hby d10_41) rfl ?_
 refine og_istoreN (L' := #[.val (.int (ii0 / (100 : Int32))), .val (.int 7), .val (.ref ba), .val (.int (ii0 / (100 : Int32))), .val (.int rr0), .val (.int 7), .val (.int 0)]) X0 hx rfl (hb hby d10_42) rfl ?_
 refine og_aloadN X0 hx rfl rfl (hb hby d10_43) rfl ?_
 refine og_iinc (L' := #[.val (.int (ii0 / (100 : Int32))), .val (.int 7), .val (.ref ba), .val (.int (ii0 / (100 : Int32))), .val (.int rr0), .val (.int 6), .val (.int 0)]) (w := -1) X0 hx rfl rfl rfl (hb hby d10_44) rfl ?_
 refine og_iload X0 hx rfl (hb hby d10_47) rfl ?_
 refine og_getstatic X0 hx hZ (host := "") hown (Or.inl (ow48 hw)) Via.refl e0 (S_dO.ext O.2) (hb hby d10_49) rfl (fun T11 X11 e11 => ?_)
 refine og_iload X11 hx rfl (hb hby d10_52) rfl ?_
 refine og_baload (v := (.int g0)) X11 hx hZ e11 (V_dO.ext O.2) (own_ix hR0 (by omega) (by omega)) (own_one hO hR0 (by omega) (by omega) hg0 (by omega)) (hb hby d10_54) rfl ?_
 refine og_bastore X11 hx hZ e11 V_ba ⟨by decide, by decide⟩ 6 (by decide) (Nat.le_of_ble_eq_true rfl) (hb hby d10_55) rfl (fun T12 h12 X12 e12 W12 V12 => ?_)
 have O := O.wr W12 g_ba; have K := K.wr W12 (Or.inl (List.mem_of_getElem? (i := 0) rfl))
 have N := Fr.snoc X12 N g_ba
 have V_ba : Arv Z h12 ba kb .byte (7 : Int32) [(.int 0), (.int 0), (.int 0), (.int 0), (.int 0), (.int 0), (.int (nar .byte g0))] (.int 0) := V12
 rw [own_nbg hg0 (by omega) (by omega)] at V_ba
 refine og_aloadN X12 hx rfl rfl (hb hby d10_56) rfl ?_
 refine og_iinc (L' := #[.val (.int (ii0 / (100 : Int32))), .val (.int 7), .val (.ref ba), .val (.int (ii0 / (100 : Int32))), .val (.int rr0), .val (.int 5), .val (.int 0)]) (w := -1) X12 hx rfl rfl rfl (hb hby d10_57) rfl ?_
 refine og_iload X12 hx rfl (hb hby d10_60) rfl ?_
 refine og_getstatic X12 hx hZ (host := "") hown (Or.inl (ow197 hw)) Via.refl e12 (S_dT.ext O.2) (hb hby d10_62) rfl (fun T13 X13 e13 => ?_)
 refine og_iload X13 hx rfl (hb hby d10_65) rfl ?_
 refine og_baload (v := (.int g1)) X13 hx hZ e13 (V_dT.ext O.2) (own_ix hR0 (by omega) (by omega)) (own_ten hT hR0 (by omega) (by omega) hg1 (by omega)) (hb hby d10_67) rfl ?_
 refine og_bastore X13 hx hZ e13 V_ba ⟨by decide, by decide⟩ 5 (by decide) (Nat.le_of_ble_eq_true rfl) (hb hby d10_68) rfl (fun T14 h14 X14 e14 W14 V14 => ?_)
 have O := O.wr W14 g_ba; have K := K.wr W14 (Or.inl (List.mem_of_getElem? (i := 0) rfl))
 have N := Fr.snoc X14 N g_ba
 have V_ba : Arv Z h14 ba kb .byte (7 : Int32) [(.int 0), (.int 0), (.int 0), (.int 0), (.int 0), (.int (nar .byte g1)), (.int g0)] (.int 0) := V14
 rw [own_nbg hg1 (by omega) (by omega)] at V_ba
 refine og_goto (pc' := 22) X14 hx (hb hby d10_69) (by decide) (by decide) ?_
 obtain ⟨ii1, h_ii1⟩ : ∃ z, z = (ii0 / (100 : Int32)) := ⟨_, rfl⟩
 rw [← h_ii1]
 have hI1 : ii1.toInt = -(aa.toInt / 100) := by rw [h_ii1]; exact own_q1 h0a hI0 (by decide) (by omega)
 refine og_iloadN X14 hx rfl (hb hby d10_22) rfl ?_
 refine og_bipush (v := -100) X14 hx rfl (hb hby d10_23) rfl ?_
 refine og_icmp_gt (pc1 := 72) (pc2 := 28) X14 hx (hb hby d10_25) (by decide) (by decide) rfl (fun q => absurd q (own_nlt hI1 (n := 100) (by decide) (by omega))) (fun _ => ?_)
 refine og_iloadN X14 hx rfl (hb hby d10_28) rfl ?_
 refine og_bipush (v := 100) X14 hx rfl (hb hby d10_29) rfl ?_
 refine og_idiv (pc' := 32) X14 hx (by decide) (hb hby d10_31) rfl ?_
 refine og_istoreN (L' := #[.val (.int ii1), .val (.int 7), .val (.ref ba), .val (.int (ii1 / (100 : Int32))), .val (.int rr0), .val (.int 5), .val (.int 0)]) X14 hx rfl (hb hby d10_32) rfl ?_
 refine og_iloadN X14 hx rfl (hb hby d10_33) rfl ?_
 refine og_bipush (v := 100) X14 hx rfl (hb hby d10_34) rfl ?_
 refine og_imul X14 hx (hb hby d10_36) rfl ?_
 refine og_iloadN X14 hx rfl (hb hby d10_37) rfl ?_
 refine og_isub X14 hx (hb hby d10_38) rfl ?_
 refine og_istore (L' := #[.val (.int ii1), .val (.int 7), .val (.ref ba), .val (.int (ii1 / (100 : Int32))), .val (.int (((ii1 / (100 : Int32)) * (100 : Int32)) - ii1)), .val (.int 5), .val (.int 0)]) X14 hx rfl (hb hby d10_39) rfl ?_
 obtain ⟨rr1, h_rr1⟩ : ∃ z, z = (((ii1 / (100 : Int32)) * (100 : Int32)) - ii1) := ⟨_, rfl⟩
 rw [← h_rr1]
 have hR1 : rr1.toInt = aa.toInt / 100 % 100 := by rw [h_rr1]; exact own_q2 h0a hI1 (by decide)
 refine og_iloadN X14 hx rfl (hb hby d10_41) rfl ?_
 refine og_istoreN (L' := #[.val (.int (ii1 / (100 : Int32))), .val (.int 7), .val (.ref ba), .val (.int (ii1 / (100 : Int32))), .val (.int rr1), .val (.int 5), .val (.int 0)]) X14 hx rfl (hb hby d10_42) rfl ?_
 refine og_aloadN X14 hx rfl rfl (hb hby d10_43) rfl ?_
 refine og_iinc (L' := #[.val (.int (ii1 / (100 : Int32))), .val (.int 7), .val (.ref ba), .val (.int (ii1 / (100 : Int32))), .val (.int rr1), .val (.int 4), .val (.int 0)]) (w := -1) X14 hx rfl rfl rfl (hb hby d10_44) rfl ?_
 refine og_iload X14 hx rfl (hb hby d10_47) rfl ?_
 refine og_getstatic X14 hx hZ (host := "") hown (Or.inl (ow48 hw)) Via.refl e14 (S_dO.ext O.2) (hb hby d10_49) rfl (fun T15 X15 e15 => ?_)
 refine og_iload X15 hx rfl (hb hby d10_52) rfl ?_
 refine og_baload (v := (.int g2)) X15 hx hZ e15 (V_dO.ext O.2) (own_ix hR1 (by omega) (by omega)) (own_one hO hR1 (by omega) (by omega) hg2 (by omega)) (hb hby d10_54) rfl ?_
 refine og_bastore X15 hx hZ e15 V_ba ⟨by decide, by decide⟩ 4 (by decide) (Nat.le_of_ble_eq_true rfl) (hb hby d10_55) rfl (fun T16 h16 X16 e16 W16 V16 => ?_)
 have O := O.wr W16 g_ba; have K := K.wr W16 (Or.inl (List.mem_of_getElem? (i := 0) rfl))
 have N := Fr.snoc X16 N g_ba
 have V_ba : Arv Z h16 ba kb .byte (7 : Int32) [(.int 0), (.int 0), (.int 0), (.int 0), (.int (nar .byte g2)), (.int g1), (.int g0)] (.int 0) := V16
 rw [own_nbg hg2 (by omega) (by omega)] at V_ba
 refine og_aloadN X16 hx rfl rfl (hb hby d10_56) rfl ?_
 refine og_iinc (L' := #[.val (.int (ii1 / (100 : Int32))), .val (.int 7), .val (.ref ba), .val (.int (ii1 / (100 : Int32))), .val (.int rr1), .val (.int 3), .val (.int 0)]) (w := -1) X16 hx rfl rfl rfl (hb hby d10_57) rfl ?_
 refine og_iload X16 hx rfl (hb hby d10_60) rfl ?_
 refine og_getstatic X16 hx hZ (host := "") hown (Or.inl (ow197 hw)) Via.refl e16 (S_dT.ext O.2) (hb hby d10_62) rfl (fun T17 X17 e17 => ?_)
 refine og_iload X17 hx rfl (hb hby d10_65) rfl ?_
 refine og_baload (v := (.int g3)) X17 hx hZ e17 (V_dT.ext O.2) (own_ix hR1 (by omega) (by omega)) (own_ten hT hR1 (by omega) (by omega) hg3 (by omega)) (hb hby d10_67) rfl ?_
 refine og_bastore X17 hx hZ e17 V_ba ⟨by decide, by decide⟩ 3 (by decide) (Nat.le_of_ble_eq_true rfl) (hb hby d10_68) rfl (fun T18 h18 X18 e18 W18 V18 => ?_)
 have O := O.wr W18 g_ba; have K := K.wr W18 (Or.inl (List.mem_of_getElem? (i := 0) rfl))
 have N := Fr.snoc X18 N g_ba
 have V_ba : Arv Z h18 ba kb .byte (7 : Int32) [(.int 0), (.int 0), (.int 0), (.int (nar .byte g3)), (.int g2), (.int g1), (.int g0)] (.int 0) := V18
 rw [own_nbg hg3 (by omega) (by omega)] at V_ba
 refine og_goto (pc' := 22) X18 hx (hb hby d10_69) (by decide) (by decide) ?_
 obtain ⟨ii2, h_ii2⟩ : ∃ z, z = (ii1 / (100 : Int32)) := ⟨_, rfl⟩
 rw [← h_ii2]
 have hI2 : ii2.toInt = -(aa.toInt / 10000) := by rw [h_ii2]; exact own_q1 h0a hI1 (by decide) (by omega)
 refine og_iloadN X18 hx rfl (hb hby d10_22) rfl ?_
 refine og_bipush (v := -100) X18 hx rfl (hb hby d10_23) rfl ?_
 refine og_icmp_gt (pc1 := 72) (pc2 := 28) X18 hx (hb hby d10_25) (by decide) (by decide) rfl (fun q => absurd q (own_nlt hI2 (n := 100) (by decide) (by omega))) (fun _ => ?_)
 refine og_iloadN X18 hx rfl (hb hby d10_28) rfl ?_
 refine og_bipush (v := 100) X18 hx rfl (hb hby d10_29) rfl ?_
 refine og_idiv (pc' := 32) X18 hx (by decide) (hb hby d10_31) rfl ?_
 refine og_istoreN (L' := #[.val (.int ii2), .val (.int 7), .val (.ref ba), .val (.int (ii2 / (100 : Int32))), .val (.int rr1), .val (.int 3), .val (.int 0)]) X18 hx rfl (hb hby d10_32) rfl ?_
 refine og_iloadN X18 hx rfl (hb hby d10_33) rfl ?_
 refine og_bipush (v := 100) X18 hx rfl (hb hby d10_34) rfl ?_
 refine og_imul X18 hx (hb hby d10_36) rfl ?_
 refine og_iloadN X18 hx rfl (hb hby d10_37) rfl ?_
 refine og_isub X18 hx (hb hby d10_38) rfl ?_
 refine og_istore (L' := #[.val (.int ii2), .val (.int 7), .val (.ref ba), .val (.int (ii2 / (100 : Int32))), .val (.int (((ii2 / (100 : Int32)) * (100 : Int32)) - ii2)), .val (.int 3), .val (.int 0)]) X18 hx rfl (hb hby d10_39) rfl ?_
 obtain ⟨rr2, h_rr2⟩ : ∃ z, z = (((ii2 / (100 : Int32)) * (100 : Int32)) - ii2) := ⟨_, rfl⟩
 rw [← h_rr2]
 have hR2 : rr2.toInt = aa.toInt / 10000 % 100 := by rw [h_rr2]; exact own_q2 h0a hI2 (by decide)
 refine og_iloadN X18 hx rfl (hb hby d10_41) rfl ?_
 refine og_istoreN (L' := #[.val (.int (ii2 / (100 : Int32))), .val (.int 7), .val (.ref ba), .val (.int (ii2 / (100 : Int32))), .val (.int rr2), .val (.int 3), .val (.int 0)]) X18 hx rfl (hb hby d10_42) rfl ?_
 refine og_aloadN X18 hx rfl rfl (hb hby d10_43) rfl ?_
 refine og_iinc (L' := #[.val (.int (ii2 / (100 : Int32))), .val (.int 7), .val (.ref ba), .val (.int (ii2 / (100 : Int32))), .val (.int rr2), .val (.int 2), .val (.int 0)]) (w := -1) X18 hx rfl rfl rfl (hb hby d10_44) rfl ?_
 refine og_iload X18 hx rfl (hb hby d10_47) rfl ?_
 refine og_getstatic X18 hx hZ (host := "") hown (Or.inl (ow48 hw)) Via.refl e18 (S_dO.ext O.2) (hb hby d10_49) rfl (fun T19 X19 e19 => ?_)
 refine og_iload X19 hx rfl (hb hby d10_52) rfl ?_
 refine og_baload (v := (.int g4)) X19 hx hZ e19 (V_dO.ext O.2) (own_ix hR2 (by omega) (by omega)) (own_one hO hR2 (by omega) (by omega) hg4 (by omega)) (hb hby d10_54) rfl ?_
 refine og_bastore X19 hx hZ e19 V_ba ⟨by decide, by decide⟩ 2 (by decide) (Nat.le_of_ble_eq_true rfl) (hb hby d10_55) rfl (fun T20 h20 X20 e20 W20 V20 => ?_)
 have O := O.wr W20 g_ba; have K := K.wr W20 (Or.inl (List.mem_of_getElem? (i := 0) rfl))
 have N := Fr.snoc X20 N g_ba
 have V_ba : Arv Z h20 ba kb .byte (7 : Int32) [(.int 0), (.int 0), (.int (nar .byte g4)), (.int g3), (.int g2), (.int g1), (.int g0)] (.int 0) := V20
 rw [own_nbg hg4 (by omega) (by omega)] at V_ba
 refine og_aloadN X20 hx rfl rfl (hb hby d10_56) rfl ?_
 refine og_iinc (L' := #[.val (.int (ii2 / (100 : Int32))), .val (.int 7), .val (.ref ba), .val (.int (ii2 / (100 : Int32))), .val (.int rr2), .val (.int 1), .val (.int 0)]) (w := -1) X20 hx rfl rfl rfl (hb hby d10_57) rfl ?_
 refine og_iload X20 hx rfl (hb hby d10_60) rfl ?_
 refine og_getstatic X20 hx hZ (host := "") hown (Or.inl (ow197 hw)) Via.refl e20 (S_dT.ext O.2) (hb hby d10_62) rfl (fun T21 X21 e21 => ?_)
 refine og_iload X21 hx rfl (hb hby d10_65) rfl ?_
 refine og_baload (v := (.int g5)) X21 hx hZ e21 (V_dT.ext O.2) (own_ix hR2 (by omega) (by omega)) (own_ten hT hR2 (by omega) (by omega) hg5 (by omega)) (hb hby d10_67) rfl ?_
 refine og_bastore X21 hx hZ e21 V_ba ⟨by decide, by decide⟩ 1 (by decide) (Nat.le_of_ble_eq_true rfl) (hb hby d10_68) rfl (fun T22 h22 X22 e22 W22 V22 => ?_)
 have O := O.wr W22 g_ba; have K := K.wr W22 (Or.inl (List.mem_of_getElem? (i := 0) rfl))
 have N := Fr.snoc X22 N g_ba
 have V_ba : Arv Z h22 ba kb .byte (7 : Int32) [(.int 0), (.int (nar .byte g5)), (.int g4), (.int g3), (.int g2), (.int g1), (.int g0)] (.int 0) := V22
 rw [own_nbg hg5 (by omega) (by omega)] at V_ba
 refine og_goto (pc' := 22) X22 hx (hb hby d10_69) (by decide) (by decide) ?_
 obtain ⟨ii3, h_ii3⟩ : ∃ z, z = (ii2 / (100 : Int32)) := ⟨_, rfl⟩
 rw [← h_ii3]
 have hI3 : ii3.toInt = -(aa.toInt / 1000000) := by rw [h_ii3]; exact own_q1 h0a hI2 (by decide) (by omega)
 refine og_iloadN X22 hx rfl (hb hby d10_22) rfl ?_
 refine og_bipush (v := -100) X22 hx rfl (hb hby d10_23) rfl ?_
 refine og_icmp_gt (pc1 := 72) (pc2 := 28) X22 hx (hb hby d10_25) (by decide) (by decide) rfl (fun _ => ?_) (fun q => absurd (own_lt hI3 (n := 100) (by decide) (by omega)) q)
 refine og_aloadN X22 hx rfl rfl (hb hby d10_72) rfl ?_
 refine og_iinc (L' := #[.val (.int ii3), .val (.int 7), .val (.ref ba), .val (.int ii3), .val (.int rr2), .val (.int 0), .val (.int 0)]) (w := -1) X22 hx rfl rfl rfl (hb hby d10_73) rfl ?_
 refine og_iload X22 hx rfl (hb hby d10_76) rfl ?_
 refine og_getstatic X22 hx hZ (host := "") hown (Or.inl (ow48 hw)) Via.refl e22 (S_dO.ext O.2) (hb hby d10_78) rfl (fun T23 X23 e23 => ?_)
 refine og_iloadN X23 hx rfl (hb hby d10_81) rfl ?_
 refine og_ineg X23 hx (hb hby d10_82) rfl ?_
 have hM : (-ii3).toInt = aa.toInt / 1000000 := own_ngn hI3 (by omega)
 refine og_baload (v := (.int g6)) X23 hx hZ e23 (V_dO.ext O.2) (own_ix hM (by omega) (by omega)) (own_one hO hM (by omega) (by omega) hg6 (by omega)) (hb hby d10_83) rfl ?_
 refine og_bastore X23 hx hZ e23 V_ba ⟨by decide, by decide⟩ 0 (by decide) (Nat.le_of_ble_eq_true rfl) (hb hby d10_84) rfl (fun T24 h24 X24 e24 W24 V24 => ?_)
 have O := O.wr W24 g_ba; have K := K.wr W24 (Or.inl (List.mem_of_getElem? (i := 0) rfl))
 have N := Fr.snoc X24 N g_ba
 have V_ba : Arv Z h24 ba kb .byte (7 : Int32) [(.int (nar .byte g6)), (.int g5), (.int g4), (.int g3), (.int g2), (.int g1), (.int g0)] (.int 0) := V24
 rw [own_nbg hg6 (by omega) (by omega)] at V_ba
 refine og_iloadN X24 hx rfl (hb hby d10_85) rfl ?_
 refine og_bipush (v := -9) X24 hx rfl (hb hby d10_86) rfl ?_
 refine og_icmp_ge (pc1 := 104) (pc2 := 91) X24 hx (hb hby d10_88) (by decide) (by decide) rfl (fun _ => ?_) (fun q => absurd q (own_nlt9 hI3 (by omega)))
 refine og_iload X24 hx rfl (hb hby d10_104) rfl ?_
 refine og_if_eq (pc1 := 118) (pc2 := 109) X24 hx (hb hby d10_106) (by decide) (by decide) rfl (fun _ => ?_) (fun q => absurd q (by decide))
 refine og_iload X24 hx rfl (hb hby d10_118) rfl ?_
 refine og_retI X24 hx hlk hret (hb hby d10_120) (by decide) (by decide) ?_
 rw [e24]; exact ⟨rfl, N, K, V_ba⟩
theorem rm_gc8 (l : Launch) (Z : State) (a0 : Array Value) (hw : HW a0 Z) (ba : Addr) (kb : ClassId) (aa g0 g1 g2 g3 g4 g5 g6 g7 : Int32) (h0a : 0 ≤ aa.toInt) (hlo : 10000000 ≤ aa.toInt) (hhi : aa.toInt < 100000000) (hg0 : g0.toInt = 48 + aa.toInt / 1 % 10) (hg1 : g1.toInt = 48 + aa.toInt / 10 % 10) (hg2 : g2.toInt = 48 + aa.toInt / 100 % 10) (hg3 : g3.toInt = 48 + aa.toInt / 1000 % 10) (hg4 : g4.toInt = 48 + aa.toInt / 10000 % 10) (hg5 : g5.toInt = 48 + aa.toInt / 100000 % 10) (hg6 : g6.toInt = 48 + aa.toInt / 1000000 % 10) (hg7 : g7.toInt = 48 + aa.toInt / 10000000 % 10) (dO dT : Addr) (kdO kdT : ClassId) (ldO ldT : List Value) (hO : own_tab ldO fun r => 48 + r % 10) (hT : own_tab ldT fun r => 48 + r / 10) (h0 : Heap) (n0 : Nat) (O : Old Z n0 h0) (V_ba : Arv Z h0 ba kb .byte (8 : Int32) [(.int 0), (.int 0), (.int 0), (.int 0), (.int 0), (.int 0), (.int 0), (.int 0)] (.int 0)) (S_dO : Sta Z Z.heap "java/lang/Integer" "DigitOnes" "[B" (.ref dO)) (V_dO : Arv Z Z.heap dO kdO .byte (100 : Int32) ldO (.int 0)) (S_dT : Sta Z Z.heap "java/lang/Integer" "DigitTens" "[B" (.ref dT)) (V_dT : Arv Z Z.heap dT kdT .byte (100 : Int32) ldT (.int 0)) (g_ba : n0 ≤ ba) :
  Con l Z (⟨"java/lang/Integer", "getChars", "(II[B)I"⟩ : MethodName) jdk_33_method_12_code 7 (some .int) ({ frames := 0, cells := 0, slots := 0, locals := 0 } : Room) #[(.int aa), (.int 8), (.ref ba)] h0 (fun v h L => v = some (.int 0) ∧ Fr n0 L ∧ Keep h0 h [ba] ∧ Arv Z h ba kb .byte (8 : Int32) [(.int g7), (.int g6), (.int g5), (.int g4), (.int g3), (.int g2), (.int g1), (.int g0)] (.int 0)) := by
 refine own_startC opn_10 ?_
 intro p e s m below meth c T0 X0 hx hby hml hZ hown hnm hret hlk e0
 have N := Fr.nil n0; have K := Keep.refl h0 [ba]
 refine OG.cast (oef2 m aa (8 : Int32) ba) ?_
 have hmx := aa.toInt_lt
 refine og_iloadN X0 hx rfl (hb hby d10_0) rfl ?_
 refine og_istore (L' := #[.val (.int aa), .val (.int 8), .val (.ref ba), .unset, .unset, .val (.int 8), .unset]) X0 hx rfl (hb hby d10_1) rfl ?_
 refine og_iloadN X0 hx rfl (hb hby d10_3) rfl ?_
 refine og_if_ge (pc1 := 11) (pc2 := 7) X0 hx (hb hby d10_4) (by decide) (by decide) rfl (fun _ => ?_) (fun q => absurd q (own_ge0 h0a))
 refine og_iconst (v := 0) X0 hx rfl (hb hby d10_11) rfl ?_
 refine og_istore (L' := #[.val (.int aa), .val (.int 8), .val (.ref ba), .unset, .unset, .val (.int 8), .val (.int 0)]) X0 hx rfl (hb hby d10_12) rfl ?_
 refine og_iload X0 hx rfl (hb hby d10_14) rfl ?_
 refine og_if_ne (pc1 := 22) (pc2 := 19) X0 hx (hb hby d10_16) (by decide) (by decide) rfl (fun q => absurd q (by decide)) (fun _ => ?_)
 refine og_iloadN X0 hx rfl (hb hby d10_19) rfl ?_
 refine og_ineg X0 hx (hb hby d10_20) rfl ?_
 refine og_istoreN (L' := #[.val (.int (-aa)), .val (.int 8), .val (.ref ba), .unset, .unset, .val (.int 8), .val (.int 0)]) X0 hx rfl (hb hby d10_21) rfl ?_
 obtain ⟨ii0, h_ii0⟩ : ∃ z, z = (-aa) := ⟨_, rfl⟩
 rw [← h_ii0]
 have hI0 : ii0.toInt = -(aa.toInt / 1) := by rw [h_ii0]; exact own_ng1 h0a
 refine og_iloadN X0 hx rfl (hb hby d10_22) rfl ?_
 refine og_bipush (v := -100) X0 hx rfl (hb hby d10_23) rfl ?_
 refine og_icmp_gt (pc1 := 72) (pc2 := 28) X0 hx (hb hby d10_25) (by decide) (by decide) rfl (fun q => absurd q (own_nlt hI0 (n := 100) (by decide) (by omega))) (fun _ => ?_)
 refine og_iloadN X0 hx rfl (hb hby d10_28) rfl ?_
 refine og_bipush (v := 100) X0 hx rfl (hb hby d10_29) rfl ?_
 refine og_idiv (pc' := 32) X0 hx (by decide) (hb hby d10_31) rfl ?_
 refine og_istoreN (L' := #[.val (.int ii0), .val (.int 8), .val (.ref ba), .val (.int (ii0 / (100 : Int32))), .unset, .val (.int 8), .val (.int 0)]) X0 hx rfl (hb hby d10_32) rfl ?_
 refine og_iloadN X0 hx rfl (hb hby d10_33) rfl ?_
 refine og_bipush (v := 100) X0 hx rfl (hb hby d10_34) rfl ?_
 refine og_imul X0 hx (hb hby d10_36) rfl ?_
 refine og_iloadN X0 hx rfl (hb hby d10_37) rfl ?_
 refine og_isub X0 hx (hb hby d10_38) rfl ?_
 refine og_istore (L' := #[.val (.int ii0), .val (.int 8), .val (.ref ba), .val (.int (ii0 / (100 : Int32))), .val (.int (((ii0 / (100 : Int32)) * (100 : Int32)) - ii0)), .val (.int 8), .val (.int 0)]) X0 hx rfl (hb hby d10_39) rfl ?_
 obtain ⟨rr0, h_rr0⟩ : ∃ z, z = (((ii0 / (100 : Int32)) * (100 : Int32)) - ii0) := ⟨_, rfl⟩
 rw [← h_rr0]
 have hR0 : rr0.toInt = aa.toInt / 1 % 100 := by rw [h_rr0]; exact own_q2 h0a hI0 (by decide)
 refine og_iloadN X0 hx rfl (hb hby d10_41) rfl ?_
 refine og_istoreN (L' := #[.val (.int (ii0 / (100 : Int32))), .val (.int 8), .val (.ref ba), .val (.int (ii0 / (100 : Int32))), .val (.int rr0), .val (.int 8), .val (.int 0)]) X0 hx rfl (hb hby d10_42) rfl ?_
 refine og_aloadN X0 hx rfl rfl (hb hby d10_43) rfl ?_
 refine og_iinc (L' := #[.val (.int (ii0 / (100 : Int32))), .val (.int 8), .val (.ref ba), .val (.int (ii0 / (100 : Int32))), .val (.int rr0), .val (.int 7), .val (.int 0)]) (w := -1) X0 hx rfl rfl rfl (hb hby d10_44) rfl ?_
 refine og_iload X0 hx rfl (hb hby d10_47) rfl ?_
 refine og_getstatic X0 hx hZ (host := "") hown (Or.inl (ow48 hw)) Via.refl e0 (S_dO.ext O.2) (hb hby d10_49) rfl (fun T11 X11 e11 => ?_)
 refine og_iload X11 hx rfl (hb hby d10_52) rfl ?_
 refine og_baload (v := (.int g0)) X11 hx hZ e11 (V_dO.ext O.2) (own_ix hR0 (by omega) (by omega)) (own_one hO hR0 (by omega) (by omega) hg0 (by omega)) (hb hby d10_54) rfl ?_
 refine og_bastore X11 hx hZ e11 V_ba ⟨by decide, by decide⟩ 7 (by decide) (Nat.le_of_ble_eq_true rfl) (hb hby d10_55) rfl (fun T12 h12 X12 e12 W12 V12 => ?_)
 have O := O.wr W12 g_ba; have K := K.wr W12 (Or.inl (List.mem_of_getElem? (i := 0) rfl))
 have N := Fr.snoc X12 N g_ba
 have V_ba : Arv Z h12 ba kb .byte (8 : Int32) [(.int 0), (.int 0), (.int 0), (.int 0), (.int 0), (.int 0), (.int 0), (.int (nar .byte g0))] (.int 0) := V12
 rw [own_nbg hg0 (by omega) (by omega)] at V_ba
 refine og_aloadN X12 hx rfl rfl (hb hby d10_56) rfl ?_
 refine og_iinc (L' := #[.val (.int (ii0 / (100 : Int32))), .val (.int 8), .val (.ref ba), .val (.int (ii0 / (100 : Int32))), .val (.int rr0), .val (.int 6), .val (.int 0)]) (w := -1) X12 hx rfl rfl rfl (hb hby d10_57) rfl ?_
 refine og_iload X12 hx rfl (hb hby d10_60) rfl ?_
 refine og_getstatic X12 hx hZ (host := "") hown (Or.inl (ow197 hw)) Via.refl e12 (S_dT.ext O.2) (hb hby d10_62) rfl (fun T13 X13 e13 => ?_)
 refine og_iload X13 hx rfl (hb hby d10_65) rfl ?_
 refine og_baload (v := (.int g1)) X13 hx hZ e13 (V_dT.ext O.2) (own_ix hR0 (by omega) (by omega)) (own_ten hT hR0 (by omega) (by omega) hg1 (by omega)) (hb hby d10_67) rfl ?_
 refine og_bastore X13 hx hZ e13 V_ba ⟨by decide, by decide⟩ 6 (by decide) (Nat.le_of_ble_eq_true rfl) (hb hby d10_68) rfl (fun T14 h14 X14 e14 W14 V14 => ?_)
 have O := O.wr W14 g_ba; have K := K.wr W14 (Or.inl (List.mem_of_getElem? (i := 0) rfl))
 have N := Fr.snoc X14 N g_ba
 have V_ba : Arv Z h14 ba kb .byte (8 : Int32) [(.int 0), (.int 0), (.int 0), (.int 0), (.int 0), (.int 0), (.int (nar .byte g1)), (.int g0)] (.int 0) := V14
 rw [own_nbg hg1 (by omega) (by omega)] at V_ba
 refine og_goto (pc' := 22) X14 hx (hb hby d10_69) (by decide) (by decide) ?_
 obtain ⟨ii1, h_ii1⟩ : ∃ z, z = (ii0 / (100 : Int32)) := ⟨_, rfl⟩
 rw [← h_ii1]
 have hI1 : ii1.toInt = -(aa.toInt / 100) := by rw [h_ii1]; exact own_q1 h0a hI0 (by decide) (by omega)
 refine og_iloadN X14 hx rfl (hb hby d10_22) rfl ?_
 refine og_bipush (v := -100) X14 hx rfl (hb hby d10_23) rfl ?_
 refine og_icmp_gt (pc1 := 72) (pc2 := 28) X14 hx (hb hby d10_25) (by decide) (by decide) rfl (fun q => absurd q (own_nlt hI1 (n := 100) (by decide) (by omega))) (fun _ => ?_)
 refine og_iloadN X14 hx rfl (hb hby d10_28) rfl ?_
 refine og_bipush (v := 100) X14 hx rfl (hb hby d10_29) rfl ?_
 refine og_idiv (pc' := 32) X14 hx (by decide) (hb hby d10_31) rfl ?_
 refine og_istoreN (L' := #[.val (.int ii1), .val (.int 8), .val (.ref ba), .val (.int (ii1 / (100 : Int32))), .val (.int rr0), .val (.int 6), .val (.int 0)]) X14 hx rfl (hb hby d10_32) rfl ?_
 refine og_iloadN X14 hx rfl (hb hby d10_33) rfl ?_
 refine og_bipush (v := 100) X14 hx rfl (hb hby d10_34) rfl ?_
 refine og_imul X14 hx (hb hby d10_36) rfl ?_
 refine og_iloadN X14 hx rfl (hb hby d10_37) rfl ?_
 refine og_isub X14 hx (hb hby d10_38) rfl ?_
 refine og_istore (L' := #[.val (.int ii1), .val (.int 8), .val (.ref ba), .val (.int (ii1 / (100 : Int32))), .val (.int (((ii1 / (100 : Int32)) * (100 : Int32)) - ii1)), .val (.int 6), .val (.int 0)]) X14 hx rfl (hb hby d10_39) rfl ?_
 obtain ⟨rr1, h_rr1⟩ : ∃ z, z = (((ii1 / (100 : Int32)) * (100 : Int32)) - ii1) := ⟨_, rfl⟩
 rw [← h_rr1]
 have hR1 : rr1.toInt = aa.toInt / 100 % 100 := by rw [h_rr1]; exact own_q2 h0a hI1 (by decide)
 refine og_iloadN X14 hx rfl (hb hby d10_41) rfl ?_
 refine og_istoreN (L' := #[.val (.int (ii1 / (100 : Int32))), .val (.int 8), .val (.ref ba), .val (.int (ii1 / (100 : Int32))), .val (.int rr1), .val (.int 6), .val (.int 0)]) X14 hx rfl (hb hby d10_42) rfl ?_
 refine og_aloadN X14 hx rfl rfl (hb hby d10_43) rfl ?_
 refine og_iinc (L' := #[.val (.int (ii1 / (100 : Int32))), .val (.int 8), .val (.ref ba), .val (.int (ii1 / (100 : Int32))), .val (.int rr1), .val (.int 5), .val (.int 0)]) (w := -1) X14 hx rfl rfl rfl (hb hby d10_44) rfl ?_
 refine og_iload X14 hx rfl (hb hby d10_47) rfl ?_
 refine og_getstatic X14 hx hZ (host := "") hown (Or.inl (ow48 hw)) Via.refl e14 (S_dO.ext O.2) (hb hby d10_49) rfl (fun T15 X15 e15 => ?_)
 refine og_iload X15 hx rfl (hb hby d10_52) rfl ?_
 refine og_baload (v := (.int g2)) X15 hx hZ e15 (V_dO.ext O.2) (own_ix hR1 (by omega) (by omega)) (own_one hO hR1 (by omega) (by omega) hg2 (by omega)) (hb hby d10_54) rfl ?_
 refine og_bastore X15 hx hZ e15 V_ba ⟨by decide, by decide⟩ 5 (by decide) (Nat.le_of_ble_eq_true rfl) (hb hby d10_55) rfl (fun T16 h16 X16 e16 W16 V16 => ?_)
 have O := O.wr W16 g_ba; have K := K.wr W16 (Or.inl (List.mem_of_getElem? (i := 0) rfl))
 have N := Fr.snoc X16 N g_ba
 have V_ba : Arv Z h16 ba kb .byte (8 : Int32) [(.int 0), (.int 0), (.int 0), (.int 0), (.int 0), (.int (nar .byte g2)), (.int g1), (.int g0)] (.int 0) := V16
 rw [own_nbg hg2 (by omega) (by omega)] at V_ba
 refine og_aloadN X16 hx rfl rfl (hb hby d10_56) rfl ?_
 refine og_iinc (L' := #[.val (.int (ii1 / (100 : Int32))), .val (.int 8), .val (.ref ba), .val (.int (ii1 / (100 : Int32))), .val (.int rr1), .val (.int 4), .val (.int 0)]) (w := -1) X16 hx rfl rfl rfl (hb hby d10_57) rfl ?_
 refine og_iload X16 hx rfl (hb hby d10_60) rfl ?_
 refine og_getstatic X16 hx hZ (host := "") hown (Or.inl (ow197 hw)) Via.refl e16 (S_dT.ext O.2) (hb hby d10_62) rfl (fun T17 X17 e17 => ?_)
 refine og_iload X17 hx rfl (hb hby d10_65) rfl ?_
 refine og_baload (v := (.int g3)) X17 hx hZ e17 (V_dT.ext O.2) (own_ix hR1 (by omega) (by omega)) (own_ten hT hR1 (by omega) (by omega) hg3 (by omega)) (hb hby d10_67) rfl ?_
 refine og_bastore X17 hx hZ e17 V_ba ⟨by decide, by decide⟩ 4 (by decide) (Nat.le_of_ble_eq_true rfl) (hb hby d10_68) rfl (fun T18 h18 X18 e18 W18 V18 => ?_)
 have O := O.wr W18 g_ba; have K := K.wr W18 (Or.inl (List.mem_of_getElem? (i := 0) rfl))
 have N := Fr.snoc X18 N g_ba
 have V_ba : Arv Z h18 ba kb .byte (8 : Int32) [(.int 0), (.int 0), (.int 0), (.int 0), (.int (nar .byte g3)), (.int g2), (.int g1), (.int g0)] (.int 0) := V18
 rw [own_nbg hg3 (by omega) (by omega)] at V_ba
 refine og_goto (pc' := 22) X18 hx (hb hby d10_69) (by decide) (by decide) ?_
 obtain ⟨ii2, h_ii2⟩ : ∃ z, z = (ii1 / (100 : Int32)) := ⟨_, rfl⟩
 rw [← h_ii2]
 have hI2 : ii2.toInt = -(aa.toInt / 10000) := by rw [h_ii2]; exact own_q1 h0a hI1 (by decide) (by omega)
 refine og_iloadN X18 hx rfl (hb hby d10_22) rfl ?_
 refine og_bipush (v := -100) X18 hx rfl (hb hby d10_23) rfl ?_
 refine og_icmp_gt (pc1 := 72) (pc2 := 28) X18 hx (hb hby d10_25) (by decide) (by decide) rfl (fun q => absurd q (own_nlt hI2 (n := 100) (by decide) (by omega))) (fun _ => ?_)
 refine og_iloadN X18 hx rfl (hb hby d10_28) rfl ?_
 refine og_bipush (v := 100) X18 hx rfl (hb hby d10_29) rfl ?_
 refine og_idiv (pc' := 32) X18 hx (by decide) (hb hby d10_31) rfl ?_
 refine og_istoreN (L' := #[.val (.int ii2), .val (.int 8), .val (.ref ba), .val (.int (ii2 / (100 : Int32))), .val (.int rr1), .val (.int 4), .val (.int 0)]) X18 hx rfl (hb hby d10_32) rfl ?_
 refine og_iloadN X18 hx rfl (hb hby d10_33) rfl ?_
 refine og_bipush (v := 100) X18 hx rfl (hb hby d10_34) rfl ?_
 refine og_imul X18 hx (hb hby d10_36) rfl ?_
 refine og_iloadN X18 hx rfl (hb hby d10_37) rfl ?_
 refine og_isub X18 hx (hb hby d10_38) rfl ?_
 refine og_istore (L' := #[.val (.int ii2), .val (.int 8), .val (.ref ba), .val (.int (ii2 / (100 : Int32))), .val (.int (((ii2 / (100 : Int32)) * (100 : Int32)) - ii2)), .val (.int 4), .val (.int 0)]) X18 hx rfl (hb hby d10_39) rfl ?_
 obtain ⟨rr2, h_rr2⟩ : ∃ z, z = (((ii2 / (100 : Int32)) * (100 : Int32)) - ii2) := ⟨_, rfl⟩
 rw [← h_rr2]
 have hR2 : rr2.toInt = aa.toInt / 10000 % 100 := by rw [h_rr2]; exact own_q2 h0a hI2 (by decide)
 refine og_iloadN X18 hx rfl (hb hby d10_41) rfl ?_
 refine og_istoreN (L' := #[.val (.int (ii2 / (100 : Int32))), .val (.int 8), .val (.ref ba), .val (.int (ii2 / (100 : Int32))), .val (.int rr2), .val (.int 4), .val (.int 0)]) X18 hx rfl (hb hby d10_42) rfl ?_
 refine og_aloadN X18 hx rfl rfl (hb hby d10_43) rfl ?_
 refine og_iinc (L' := #[.val (.int (ii2 / (100 : Int32))), .val (.int 8), .val (.ref ba), .val (.int (ii2 / (100 : Int32))), .val (.int rr2), .val (.int 3), .val (.int 0)]) (w := -1) X18 hx rfl rfl rfl (hb hby d10_44) rfl ?_
 refine og_iload X18 hx rfl (hb hby d10_47) rfl ?_
 refine og_getstatic X18 hx hZ (host := "") hown (Or.inl (ow48 hw)) Via.refl e18 (S_dO.ext O.2) (hb hby d10_49) rfl (fun T19 X19 e19 => ?_)
 refine og_iload X19 hx rfl (hb hby d10_52) rfl ?_
 refine og_baload (v := (.int g4)) X19 hx hZ e19 (V_dO.ext O.2) (own_ix hR2 (by omega) (by omega)) (own_one hO hR2 (by omega) (by omega) hg4 (by omega)) (hb hby d10_54) rfl ?_
 refine og_bastore X19 hx hZ e19 V_ba ⟨by decide, by decide⟩ 3 (by decide) (Nat.le_of_ble_eq_true rfl) (hb hby d10_55) rfl (fun T20 h20 X20 e20 W20 V20 => ?_)
 have O := O.wr W20 g_ba; have K := K.wr W20 (Or.inl (List.mem_of_getElem? (i := 0) rfl))
 have N := Fr.snoc X20 N g_ba
 have V_ba : Arv Z h20 ba kb .byte (8 : Int32) [(.int 0), (.int 0), (.int 0), (.int (nar .byte g4)), (.int g3), (.int g2), (.int g1), (.int g0)] (.int 0) := V20
 rw [own_nbg hg4 (by omega) (by omega)] at V_ba
 refine og_aloadN X20 hx rfl rfl (hb hby d10_56) rfl ?_
 refine og_iinc (L' := #[.val (.int (ii2 / (100 : Int32))), .val (.int 8), .val (.ref ba), .val (.int (ii2 / (100 : Int32))), .val (.int rr2), .val (.int 2), .val (.int 0)]) (w := -1) X20 hx rfl rfl rfl (hb hby d10_57) rfl ?_
 refine og_iload X20 hx rfl (hb hby d10_60) rfl ?_
 refine og_getstatic X20 hx hZ (host := "") hown (Or.inl (ow197 hw)) Via.refl e20 (S_dT.ext O.2) (hb hby d10_62) rfl (fun T21 X21 e21 => ?_)
 refine og_iload X21 hx rfl (hb hby d10_65) rfl ?_
 refine og_baload (v := (.int g5)) X21 hx hZ e21 (V_dT.ext O.2) (own_ix hR2 (by omega) (by omega)) (own_ten hT hR2 (by omega) (by omega) hg5 (by omega)) (hb hby d10_67) rfl ?_
 refine og_bastore X21 hx hZ e21 V_ba ⟨by decide, by decide⟩ 2 (by decide) (Nat.le_of_ble_eq_true rfl) (hb hby d10_68) rfl (fun T22 h22 X22 e22 W22 V22 => ?_)
 have O := O.wr W22 g_ba; have K := K.wr W22 (Or.inl (List.mem_of_getElem? (i := 0) rfl))
 have N := Fr.snoc X22 N g_ba
 have V_ba : Arv Z h22 ba kb .byte (8 : Int32) [(.int 0), (.int 0), (.int (nar .byte g5)), (.int g4), (.int g3), (.int g2), (.int g1), (.int g0)] (.int 0) := V22
 rw [own_nbg hg5 (by omega) (by omega)] at V_ba
 refine og_goto (pc' := 22) X22 hx (hb hby d10_69) (by decide) (by decide) ?_
 obtain ⟨ii3, h_ii3⟩ : ∃ z, z = (ii2 / (100 : Int32)) := ⟨_, rfl⟩
 rw [← h_ii3]
 have hI3 : ii3.toInt = -(aa.toInt / 1000000) := by rw [h_ii3]; exact own_q1 h0a hI2 (by decide) (by omega)
 refine og_iloadN X22 hx rfl (hb hby d10_22) rfl ?_
 refine og_bipush (v := -100) X22 hx rfl (hb hby d10_23) rfl ?_
 refine og_icmp_gt (pc1 := 72) (pc2 := 28) X22 hx (hb hby d10_25) (by decide) (by decide) rfl (fun _ => ?_) (fun q => absurd (own_lt hI3 (n := 100) (by decide) (by omega)) q)
 refine og_aloadN X22 hx rfl rfl (hb hby d10_72) rfl ?_
 refine og_iinc (L' := #[.val (.int ii3), .val (.int 8), .val (.ref ba), .val (.int ii3), .val (.int rr2), .val (.int 1), .val (.int 0)]) (w := -1) X22 hx rfl rfl rfl (hb hby d10_73) rfl ?_
 refine og_iload X22 hx rfl (hb hby d10_76) rfl ?_
 refine og_getstatic X22 hx hZ (host := "") hown (Or.inl (ow48 hw)) Via.refl e22 (S_dO.ext O.2) (hb hby d10_78) rfl (fun T23 X23 e23 => ?_)
 refine og_iloadN X23 hx rfl (hb hby d10_81) rfl ?_
 refine og_ineg X23 hx (hb hby d10_82) rfl ?_
 have hM : (-ii3).toInt = aa.toInt / 1000000 := own_ngn hI3 (by omega)
 refine og_baload (v := (.int g6)) X23 hx hZ e23 (V_dO.ext O.2) (own_ix hM (by omega) (by omega)) (own_one hO hM (by omega) (by omega) hg6 (by omega)) (hb hby d10_83) rfl ?_
 refine og_bastore X23 hx hZ e23 V_ba ⟨by decide, by decide⟩ 1 (by decide) (Nat.le_of_ble_eq_true rfl) (hb hby d10_84) rfl (fun T24 h24 X24 e24 W24 V24 => ?_)
 have O := O.wr W24 g_ba; have K := K.wr W24 (Or.inl (List.mem_of_getElem? (i := 0) rfl))
 have N := Fr.snoc X24 N g_ba
 have V_ba : Arv Z h24 ba kb .byte (8 : Int32) [(.int 0), (.int (nar .byte g6)), (.int g5), (.int g4), (.int g3), (.int g2), (.int g1), (.int g0)] (.int 0) := V24
 rw [own_nbg hg6 (by omega) (by omega)] at V_ba
 refine og_iloadN X24 hx rfl (hb hby d10_85) rfl ?_
 refine og_bipush (v := -9) X24 hx rfl (hb hby d10_86) rfl ?_
 refine og_icmp_ge (pc1 := 104) (pc2 := 91) X24 hx (hb hby d10_88) (by decide) (by decide) rfl (fun q => absurd (own_lt9 hI3 (by omega)) q) (fun _ => ?_)
 refine og_aloadN X24 hx rfl rfl (hb hby d10_91) rfl ?_
 refine og_iinc (L' := #[.val (.int ii3), .val (.int 8), .val (.ref ba), .val (.int ii3), .val (.int rr2), .val (.int 0), .val (.int 0)]) (w := -1) X24 hx rfl rfl rfl (hb hby d10_92) rfl ?_
 refine og_iload X24 hx rfl (hb hby d10_95) rfl ?_
 refine og_getstatic X24 hx hZ (host := "") hown (Or.inl (ow197 hw)) Via.refl e24 (S_dT.ext O.2) (hb hby d10_97) rfl (fun T25 X25 e25 => ?_)
 refine og_iloadN X25 hx rfl (hb hby d10_100) rfl ?_
 refine og_ineg X25 hx (hb hby d10_101) rfl ?_
 refine og_baload (v := (.int g7)) X25 hx hZ e25 (V_dT.ext O.2) (own_ix hM (by omega) (by omega)) (own_ten hT hM (by omega) (by omega) hg7 (by omega)) (hb hby d10_102) rfl ?_
 refine og_bastore X25 hx hZ e25 V_ba ⟨by decide, by decide⟩ 0 (by decide) (Nat.le_of_ble_eq_true rfl) (hb hby d10_103) rfl (fun T26 h26 X26 e26 W26 V26 => ?_)
 have O := O.wr W26 g_ba; have K := K.wr W26 (Or.inl (List.mem_of_getElem? (i := 0) rfl))
 have N := Fr.snoc X26 N g_ba
 have V_ba : Arv Z h26 ba kb .byte (8 : Int32) [(.int (nar .byte g7)), (.int g6), (.int g5), (.int g4), (.int g3), (.int g2), (.int g1), (.int g0)] (.int 0) := V26
 rw [own_nbg hg7 (by omega) (by omega)] at V_ba
 refine og_iload X26 hx rfl (hb hby d10_104) rfl ?_
 refine og_if_eq (pc1 := 118) (pc2 := 109) X26 hx (hb hby d10_106) (by decide) (by decide) rfl (fun _ => ?_) (fun q => absurd q (by decide))
 refine og_iload X26 hx rfl (hb hby d10_118) rfl ?_
 refine og_retI X26 hx hlk hret (hb hby d10_120) (by decide) (by decide) ?_
 rw [e26]; exact ⟨rfl, N, K, V_ba⟩
theorem rm_gc9 (l : Launch) (Z : State) (a0 : Array Value) (hw : HW a0 Z) (ba : Addr) (kb : ClassId) (aa g0 g1 g2 g3 g4 g5 g6 g7 g8 : Int32) (h0a : 0 ≤ aa.toInt) (hlo : 100000000 ≤ aa.toInt) (hhi : aa.toInt < 1000000000) (hg0 : g0.toInt = 48 + aa.toInt / 1 % 10) (hg1 : g1.toInt = 48 + aa.toInt / 10 % 10) (hg2 : g2.toInt = 48 + aa.toInt / 100 % 10) (hg3 : g3.toInt = 48 + aa.toInt / 1000 % 10) (hg4 : g4.toInt = 48 + aa.toInt / 10000 % 10) (hg5 : g5.toInt = 48 + aa.toInt / 100000 % 10) (hg6 : g6.toInt = 48 + aa.toInt / 1000000 % 10) (hg7 : g7.toInt = 48 + aa.toInt / 10000000 % 10) (hg8 : g8.toInt = 48 + aa.toInt / 100000000 % 10) (dO dT : Addr) (kdO kdT : ClassId) (ldO ldT : List Value) (hO : own_tab ldO fun r => 48 + r % 10) (hT : own_tab ldT fun r => 48 + r / 10) (h0 : Heap) (n0 : Nat) (O : Old Z n0 h0) (V_ba : Arv Z h0 ba kb .byte (9 : Int32) [(.int 0), (.int 0), (.int 0), (.int 0), (.int 0), (.int 0), (.int 0), (.int 0), (.int 0)] (.int 0)) (S_dO : Sta Z Z.heap "java/lang/Integer" "DigitOnes" "[B" (.ref dO)) (V_dO : Arv Z Z.heap dO kdO .byte (100 : Int32) ldO (.int 0)) (S_dT : Sta Z Z.heap "java/lang/Integer" "DigitTens" "[B" (.ref dT)) (V_dT : Arv Z Z.heap dT kdT .byte (100 : Int32) ldT (.int 0)) (g_ba : n0 ≤ ba) :
  Con l Z (⟨"java/lang/Integer", "getChars", "(II[B)I"⟩ : MethodName) jdk_33_method_12_code 7 (some .int) ({ frames := 0, cells := 0, slots := 0, locals := 0 } : Room) #[(.int aa), (.int 9), (.ref ba)] h0 (fun v h L => v = some (.int 0) ∧ Fr n0 L ∧ Keep h0 h [ba] ∧ Arv Z h ba kb .byte (9 : Int32) [(.int g8), (.int g7), (.int g6), (.int g5), (.int g4), (.int g3), (.int g2), (.int g1), (.int g0)] (.int 0)) := by
 refine own_startC opn_10 ?_
 intro p e s m below meth c T0 X0 hx hby hml hZ hown hnm hret hlk e0
 have N := Fr.nil n0; have K := Keep.refl h0 [ba]
 refine OG.cast (oef2 m aa (9 : Int32) ba) ?_
 have hmx := aa.toInt_lt
 refine og_iloadN X0 hx rfl (hb hby d10_0) rfl ?_
 refine og_istore (L' := #[.val (.int aa), .val (.int 9), .val (.ref ba), .unset, .unset, .val (.int 9), .unset]) X0 hx rfl (hb hby d10_1) rfl ?_
 refine og_iloadN X0 hx rfl (hb hby d10_3) rfl ?_
 refine og_if_ge (pc1 := 11) (pc2 := 7) X0 hx (hb hby d10_4) (by decide) (by decide) rfl (fun _ => ?_) (fun q => absurd q (own_ge0 h0a))
 refine og_iconst (v := 0) X0 hx rfl (hb hby d10_11) rfl ?_
 refine og_istore (L' := #[.val (.int aa), .val (.int 9), .val (.ref ba), .unset, .unset, .val (.int 9), .val (.int 0)]) X0 hx rfl (hb hby d10_12) rfl ?_
 refine og_iload X0 hx rfl (hb hby d10_14) rfl ?_
 refine og_if_ne (pc1 := 22) (pc2 := 19) X0 hx (hb hby d10_16) (by decide) (by decide) rfl (fun q => absurd q (by decide)) (fun _ => ?_)
 refine og_iloadN X0 hx rfl (hb hby d10_19) rfl ?_
 refine og_ineg X0 hx (hb hby d10_20) rfl ?_
 refine og_istoreN (L' := #[.val (.int (-aa)), .val (.int 9), .val (.ref ba), .unset, .unset, .val (.int 9), .val (.int 0)]) X0 hx rfl (hb hby d10_21) rfl ?_
 obtain ⟨ii0, h_ii0⟩ : ∃ z, z = (-aa) := ⟨_, rfl⟩
 rw [← h_ii0]
 have hI0 : ii0.toInt = -(aa.toInt / 1) := by rw [h_ii0]; exact own_ng1 h0a
 refine og_iloadN X0 hx rfl (hb hby d10_22) rfl ?_
 refine og_bipush (v := -100) X0 hx rfl (hb hby d10_23) rfl ?_
 refine og_icmp_gt (pc1 := 72) (pc2 := 28) X0 hx (hb hby d10_25) (by decide) (by decide) rfl (fun q => absurd q (own_nlt hI0 (n := 100) (by decide) (by omega))) (fun _ => ?_)
 refine og_iloadN X0 hx rfl (hb hby d10_28) rfl ?_
 refine og_bipush (v := 100) X0 hx rfl (hb hby d10_29) rfl ?_
 refine og_idiv (pc' := 32) X0 hx (by decide) (hb hby d10_31) rfl ?_
 refine og_istoreN (L' := #[.val (.int ii0), .val (.int 9), .val (.ref ba), .val (.int (ii0 / (100 : Int32))), .unset, .val (.int 9), .val (.int 0)]) X0 hx rfl (hb hby d10_32) rfl ?_
 refine og_iloadN X0 hx rfl (hb hby d10_33) rfl ?_
 refine og_bipush (v := 100) X0 hx rfl (hb hby d10_34) rfl ?_
 refine og_imul X0 hx (hb hby d10_36) rfl ?_
 refine og_iloadN X0 hx rfl (hb hby d10_37) rfl ?_
 refine og_isub X0 hx (hb hby d10_38) rfl ?_
 refine og_istore (L' := #[.val (.int ii0), .val (.int 9), .val (.ref ba), .val (.int (ii0 / (100 : Int32))), .val (.int (((ii0 / (100 : Int32)) * (100 : Int32)) - ii0)), .val (.int 9), .val (.int 0)]) X0 hx rfl (hb hby d10_39) rfl ?_
 obtain ⟨rr0, h_rr0⟩ : ∃ z, z = (((ii0 / (100 : Int32)) * (100 : Int32)) - ii0) := ⟨_, rfl⟩
 rw [← h_rr0]
 have hR0 : rr0.toInt = aa.toInt / 1 % 100 := by rw [h_rr0]; exact own_q2 h0a hI0 (by decide)
 refine og_iloadN X0 hx rfl (hb hby d10_41) rfl ?_
 refine og_istoreN (L' := #[.val (.int (ii0 / (100 : Int32))), .val (.int 9), .val (.ref ba), .val (.int (ii0 / (100 : Int32))), .val (.int rr0), .val (.int 9), .val (.int 0)]) X0 hx rfl (hb hby d10_42) rfl ?_
 refine og_aloadN X0 hx rfl rfl (hb hby d10_43) rfl ?_
 refine og_iinc (L' := #[.val (.int (ii0 / (100 : Int32))), .val (.int 9), .val (.ref ba), .val (.int (ii0 / (100 : Int32))), .val (.int rr0), .val (.int 8), .val (.int 0)]) (w := -1) X0 hx rfl rfl rfl (hb hby d10_44) rfl ?_
 refine og_iload X0 hx rfl (hb hby d10_47) rfl ?_
 refine og_getstatic X0 hx hZ (host := "") hown (Or.inl (ow48 hw)) Via.refl e0 (S_dO.ext O.2) (hb hby d10_49) rfl (fun T11 X11 e11 => ?_)
 refine og_iload X11 hx rfl (hb hby d10_52) rfl ?_
 refine og_baload (v := (.int g0)) X11 hx hZ e11 (V_dO.ext O.2) (own_ix hR0 (by omega) (by omega)) (own_one hO hR0 (by omega) (by omega) hg0 (by omega)) (hb hby d10_54) rfl ?_
 refine og_bastore X11 hx hZ e11 V_ba ⟨by decide, by decide⟩ 8 (by decide) (Nat.le_of_ble_eq_true rfl) (hb hby d10_55) rfl (fun T12 h12 X12 e12 W12 V12 => ?_)
 have O := O.wr W12 g_ba; have K := K.wr W12 (Or.inl (List.mem_of_getElem? (i := 0) rfl))
 have N := Fr.snoc X12 N g_ba
 have V_ba : Arv Z h12 ba kb .byte (9 : Int32) [(.int 0), (.int 0), (.int 0), (.int 0), (.int 0), (.int 0), (.int 0), (.int 0), (.int (nar .byte g0))] (.int 0) := V12
 rw [own_nbg hg0 (by omega) (by omega)] at V_ba
 refine og_aloadN X12 hx rfl rfl (hb hby d10_56) rfl ?_
 refine og_iinc (L' := #[.val (.int (ii0 / (100 : Int32))), .val (.int 9), .val (.ref ba), .val (.int (ii0 / (100 : Int32))), .val (.int rr0), .val (.int 7), .val (.int 0)]) (w := -1) X12 hx rfl rfl rfl (hb hby d10_57) rfl ?_
 refine og_iload X12 hx rfl (hb hby d10_60) rfl ?_
 refine og_getstatic X12 hx hZ (host := "") hown (Or.inl (ow197 hw)) Via.refl e12 (S_dT.ext O.2) (hb hby d10_62) rfl (fun T13 X13 e13 => ?_)
 refine og_iload X13 hx rfl (hb hby d10_65) rfl ?_
 refine og_baload (v := (.int g1)) X13 hx hZ e13 (V_dT.ext O.2) (own_ix hR0 (by omega) (by omega)) (own_ten hT hR0 (by omega) (by omega) hg1 (by omega)) (hb hby d10_67) rfl ?_
 refine og_bastore X13 hx hZ e13 V_ba ⟨by decide, by decide⟩ 7 (by decide) (Nat.le_of_ble_eq_true rfl) (hb hby d10_68) rfl (fun T14 h14 X14 e14 W14 V14 => ?_)
 have O := O.wr W14 g_ba; have K := K.wr W14 (Or.inl (List.mem_of_getElem? (i := 0) rfl))
 have N := Fr.snoc X14 N g_ba
 have V_ba : Arv Z h14 ba kb .byte (9 : Int32) [(.int 0), (.int 0), (.int 0), (.int 0), (.int 0), (.int 0), (.int 0), (.int (nar .byte g1)), (.int g0)] (.int 0) := V14
 rw [own_nbg hg1 (by omega) (by omega)] at V_ba
 refine og_goto (pc' := 22) X14 hx (hb hby d10_69) (by decide) (by decide) ?_
 obtain ⟨ii1, h_ii1⟩ : ∃ z, z = (ii0 / (100 : Int32)) := ⟨_, rfl⟩
 rw [← h_ii1]
 have hI1 : ii1.toInt = -(aa.toInt / 100) := by rw [h_ii1]; exact own_q1 h0a hI0 (by decide) (by omega)
 refine og_iloadN X14 hx rfl (hb hby d10_22) rfl ?_
 refine og_bipush (v := -100) X14 hx rfl (hb hby d10_23) rfl ?_
 refine og_icmp_gt (pc1 := 72) (pc2 := 28) X14 hx (hb hby d10_25) (by decide) (by decide) rfl (fun q => absurd q (own_nlt hI1 (n := 100) (by decide) (by omega))) (fun _ => ?_)
 refine og_iloadN X14 hx rfl (hb hby d10_28) rfl ?_
 refine og_bipush (v := 100) X14 hx rfl (hb hby d10_29) rfl ?_
 refine og_idiv (pc' := 32) X14 hx (by decide) (hb hby d10_31) rfl ?_
 refine og_istoreN (L' := #[.val (.int ii1), .val (.int 9), .val (.ref ba), .val (.int (ii1 / (100 : Int32))), .val (.int rr0), .val (.int 7), .val (.int 0)]) X14 hx rfl (hb hby d10_32) rfl ?_
 refine og_iloadN X14 hx rfl (hb hby d10_33) rfl ?_
 refine og_bipush (v := 100) X14 hx rfl (hb hby d10_34) rfl ?_
 refine og_imul X14 hx (hb hby d10_36) rfl ?_
 refine og_iloadN X14 hx rfl (hb hby d10_37) rfl ?_
 refine og_isub X14 hx (hb hby d10_38) rfl ?_
 refine og_istore (L' := #[.val (.int ii1), .val (.int 9), .val (.ref ba), .val (.int (ii1 / (100 : Int32))), .val (.int (((ii1 / (100 : Int32)) * (100 : Int32)) - ii1)), .val (.int 7), .val (.int 0)]) X14 hx rfl (hb hby d10_39) rfl ?_
 obtain ⟨rr1, h_rr1⟩ : ∃ z, z = (((ii1 / (100 : Int32)) * (100 : Int32)) - ii1) := ⟨_, rfl⟩
 rw [← h_rr1]
 have hR1 : rr1.toInt = aa.toInt / 100 % 100 := by rw [h_rr1]; exact own_q2 h0a hI1 (by decide)
 refine og_iloadN X14 hx rfl (hb hby d10_41) rfl ?_
 refine og_istoreN (L' := #[.val (.int (ii1 / (100 : Int32))), .val (.int 9), .val (.ref ba), .val (.int (ii1 / (100 : Int32))), .val (.int rr1), .val (.int 7), .val (.int 0)]) X14 hx rfl (hb hby d10_42) rfl ?_
 refine og_aloadN X14 hx rfl rfl (hb hby d10_43) rfl ?_
 refine og_iinc (L' := #[.val (.int (ii1 / (100 : Int32))), .val (.int 9), .val (.ref ba), .val (.int (ii1 / (100 : Int32))), .val (.int rr1), .val (.int 6), .val (.int 0)]) (w := -1) X14 hx rfl rfl rfl (hb hby d10_44) rfl ?_
 refine og_iload X14 hx rfl (hb hby d10_47) rfl ?_
 refine og_getstatic X14 hx hZ (host := "") hown (Or.inl (ow48 hw)) Via.refl e14 (S_dO.ext O.2) (hb hby d10_49) rfl (fun T15 X15 e15 => ?_)
 refine og_iload X15 hx rfl (hb hby d10_52) rfl ?_
 refine og_baload (v := (.int g2)) X15 hx hZ e15 (V_dO.ext O.2) (own_ix hR1 (by omega) (by omega)) (own_one hO hR1 (by omega) (by omega) hg2 (by omega)) (hb hby d10_54) rfl ?_
 refine og_bastore X15 hx hZ e15 V_ba ⟨by decide, by decide⟩ 6 (by decide) (Nat.le_of_ble_eq_true rfl) (hb hby d10_55) rfl (fun T16 h16 X16 e16 W16 V16 => ?_)
 have O := O.wr W16 g_ba; have K := K.wr W16 (Or.inl (List.mem_of_getElem? (i := 0) rfl))
 have N := Fr.snoc X16 N g_ba
 have V_ba : Arv Z h16 ba kb .byte (9 : Int32) [(.int 0), (.int 0), (.int 0), (.int 0), (.int 0), (.int 0), (.int (nar .byte g2)), (.int g1), (.int g0)] (.int 0) := V16
 rw [own_nbg hg2 (by omega) (by omega)] at V_ba
 refine og_aloadN X16 hx rfl rfl (hb hby d10_56) rfl ?_
 refine og_iinc (L' := #[.val (.int (ii1 / (100 : Int32))), .val (.int 9), .val (.ref ba), .val (.int (ii1 / (100 : Int32))), .val (.int rr1), .val (.int 5), .val (.int 0)]) (w := -1) X16 hx rfl rfl rfl (hb hby d10_57) rfl ?_
 refine og_iload X16 hx rfl (hb hby d10_60) rfl ?_
 refine og_getstatic X16 hx hZ (host := "") hown (Or.inl (ow197 hw)) Via.refl e16 (S_dT.ext O.2) (hb hby d10_62) rfl (fun T17 X17 e17 => ?_)
 refine og_iload X17 hx rfl (hb hby d10_65) rfl ?_
 refine og_baload (v := (.int g3)) X17 hx hZ e17 (V_dT.ext O.2) (own_ix hR1 (by omega) (by omega)) (own_ten hT hR1 (by omega) (by omega) hg3 (by omega)) (hb hby d10_67) rfl ?_
 refine og_bastore X17 hx hZ e17 V_ba ⟨by decide, by decide⟩ 5 (by decide) (Nat.le_of_ble_eq_true rfl) (hb hby d10_68) rfl (fun T18 h18 X18 e18 W18 V18 => ?_)
 have O := O.wr W18 g_ba; have K := K.wr W18 (Or.inl (List.mem_of_getElem? (i := 0) rfl))
 have N := Fr.snoc X18 N g_ba
 have V_ba : Arv Z h18 ba kb .byte (9 : Int32) [(.int 0), (.int 0), (.int 0), (.int 0), (.int 0), (.int (nar .byte g3)), (.int g2), (.int g1), (.int g0)] (.int 0) := V18
 rw [own_nbg hg3 (by omega) (by omega)] at V_ba
 refine og_goto (pc' := 22) X18 hx (hb hby d10_69) (by decide) (by decide) ?_
 obtain ⟨ii2, h_ii2⟩ : ∃ z, z = (ii1 / (100 : Int32)) := ⟨_, rfl⟩
 rw [← h_ii2]
 have hI2 : ii2.toInt = -(aa.toInt / 10000) := by rw [h_ii2]; exact own_q1 h0a hI1 (by decide) (by omega)
 refine og_iloadN X18 hx rfl (hb hby d10_22) rfl ?_
 refine og_bipush (v := -100) X18 hx rfl (hb hby d10_23) rfl ?_
 refine og_icmp_gt (pc1 := 72) (pc2 := 28) X18 hx (hb hby d10_25) (by decide) (by decide) rfl (fun q => absurd q (own_nlt hI2 (n := 100) (by decide) (by omega))) (fun _ => ?_)
 refine og_iloadN X18 hx rfl (hb hby d10_28) rfl ?_
 refine og_bipush (v := 100) X18 hx rfl (hb hby d10_29) rfl ?_
 refine og_idiv (pc' := 32) X18 hx (by decide) (hb hby d10_31) rfl ?_
 refine og_istoreN (L' := #[.val (.int ii2), .val (.int 9), .val (.ref ba), .val (.int (ii2 / (100 : Int32))), .val (.int rr1), .val (.int 5), .val (.int 0)]) X18 hx rfl (hb hby d10_32) rfl ?_
 refine og_iloadN X18 hx rfl (hb hby d10_33) rfl ?_
 refine og_bipush (v := 100) X18 hx rfl (hb hby d10_34) rfl ?_
 refine og_imul X18 hx (hb hby d10_36) rfl ?_
 refine og_iloadN X18 hx rfl (hb hby d10_37) rfl ?_
 refine og_isub X18 hx (hb hby d10_38) rfl ?_
 refine og_istore (L' := #[.val (.int ii2), .val (.int 9), .val (.ref ba), .val (.int (ii2 / (100 : Int32))), .val (.int (((ii2 / (100 : Int32)) * (100 : Int32)) - ii2)), .val (.int 5), .val (.int 0)]) X18 hx rfl (hb hby d10_39) rfl ?_
 obtain ⟨rr2, h_rr2⟩ : ∃ z, z = (((ii2 / (100 : Int32)) * (100 : Int32)) - ii2) := ⟨_, rfl⟩
 rw [← h_rr2]
 have hR2 : rr2.toInt = aa.toInt / 10000 % 100 := by rw [h_rr2]; exact own_q2 h0a hI2 (by decide)
 refine og_iloadN X18 hx rfl (hb hby d10_41) rfl ?_
 refine og_istoreN (L' := #[.val (.int (ii2 / (100 : Int32))), .val (.int 9), .val (.ref ba), .val (.int (ii2 / (100 : Int32))), .val (.int rr2), .val (.int 5), .val (.int 0)]) X18 hx rfl (hb hby d10_42) rfl ?_
 refine og_aloadN X18 hx rfl rfl (hb hby d10_43) rfl ?_
 refine og_iinc (L' := #[.val (.int (ii2 / (100 : Int32))), .val (.int 9), .val (.ref ba), .val (.int (ii2 / (100 : Int32))), .val (.int rr2), .val (.int 4), .val (.int 0)]) (w := -1) X18 hx rfl rfl rfl (hb hby d10_44) rfl ?_
 refine og_iload X18 hx rfl (hb hby d10_47) rfl ?_
 refine og_getstatic X18 hx hZ (host := "") hown (Or.inl (ow48 hw)) Via.refl e18 (S_dO.ext O.2) (hb hby d10_49) rfl (fun T19 X19 e19 => ?_)
 refine og_iload X19 hx rfl (hb hby d10_52) rfl ?_
 refine og_baload (v := (.int g4)) X19 hx hZ e19 (V_dO.ext O.2) (own_ix hR2 (by omega) (by omega)) (own_one hO hR2 (by omega) (by omega) hg4 (by omega)) (hb hby d10_54) rfl ?_
 refine og_bastore X19 hx hZ e19 V_ba ⟨by decide, by decide⟩ 4 (by decide) (Nat.le_of_ble_eq_true rfl) (hb hby d10_55) rfl (fun T20 h20 X20 e20 W20 V20 => ?_)
 have O := O.wr W20 g_ba; have K := K.wr W20 (Or.inl (List.mem_of_getElem? (i := 0) rfl))
 have N := Fr.snoc X20 N g_ba
 have V_ba : Arv Z h20 ba kb .byte (9 : Int32) [(.int 0), (.int 0), (.int 0), (.int 0), (.int (nar .byte g4)), (.int g3), (.int g2), (.int g1), (.int g0)] (.int 0) := V20
 rw [own_nbg hg4 (by omega) (by omega)] at V_ba
 refine og_aloadN X20 hx rfl rfl (hb hby d10_56) rfl ?_
 refine og_iinc (L' := #[.val (.int (ii2 / (100 : Int32))), .val (.int 9), .val (.ref ba), .val (.int (ii2 / (100 : Int32))), .val (.int rr2), .val (.int 3), .val (.int 0)]) (w := -1) X20 hx rfl rfl rfl (hb hby d10_57) rfl ?_
 refine og_iload X20 hx rfl (hb hby d10_60) rfl ?_
 refine og_getstatic X20 hx hZ (host := "") hown (Or.inl (ow197 hw)) Via.refl e20 (S_dT.ext O.2) (hb hby d10_62) rfl (fun T21 X21 e21 => ?_)
 refine og_iload X21 hx rfl (hb hby d10_65) rfl ?_
 refine og_baload (v := (.int g5)) X21 hx hZ e21 (V_dT.ext O.2) (own_ix hR2 (by omega) (by omega)) (own_ten hT hR2 (by omega) (by omega) hg5 (by omega)) (hb hby d10_67) rfl ?_
 refine og_bastore X21 hx hZ e21 V_ba ⟨by decide, by decide⟩ 3 (by decide) (Nat.le_of_ble_eq_true rfl) (hb hby d10_68) rfl (fun T22 h22 X22 e22 W22 V22 => ?_)
 have O := O.wr W22 g_ba; have K := K.wr W22 (Or.inl (List.mem_of_getElem? (i := 0) rfl))
 have N := Fr.snoc X22 N g_ba
 have V_ba : Arv Z h22 ba kb .byte (9 : Int32) [(.int 0), (.int 0), (.int 0), (.int (nar .byte g5)), (.int g4), (.int g3), (.int g2), (.int g1), (.int g0)] (.int 0) := V22
 rw [own_nbg hg5 (by omega) (by omega)] at V_ba
 refine og_goto (pc' := 22) X22 hx (hb hby d10_69) (by decide) (by decide) ?_
 obtain ⟨ii3, h_ii3⟩ : ∃ z, z = (ii2 / (100 : Int32)) := ⟨_, rfl⟩
 rw [← h_ii3]
 have hI3 : ii3.toInt = -(aa.toInt / 1000000) := by rw [h_ii3]; exact own_q1 h0a hI2 (by decide) (by omega)
 refine og_iloadN X22 hx rfl (hb hby d10_22) rfl ?_
 refine og_bipush (v := -100) X22 hx rfl (hb hby d10_23) rfl ?_
 refine og_icmp_gt (pc1 := 72) (pc2 := 28) X22 hx (hb hby d10_25) (by decide) (by decide) rfl (fun q => absurd q (own_nlt hI3 (n := 100) (by decide) (by omega))) (fun _ => ?_)
 refine og_iloadN X22 hx rfl (hb hby d10_28) rfl ?_
 refine og_bipush (v := 100) X22 hx rfl (hb hby d10_29) rfl ?_
 refine og_idiv (pc' := 32) X22 hx (by decide) (hb hby d10_31) rfl ?_
 refine og_istoreN (L' := #[.val (.int ii3), .val (.int 9), .val (.ref ba), .val (.int (ii3 / (100 : Int32))), .val (.int rr2), .val (.int 3), .val (.int 0)]) X22 hx rfl (hb hby d10_32) rfl ?_
 refine og_iloadN X22 hx rfl (hb hby d10_33) rfl ?_
 refine og_bipush (v := 100) X22 hx rfl (hb hby d10_34) rfl ?_
 refine og_imul X22 hx (hb hby d10_36) rfl ?_
 refine og_iloadN X22 hx rfl (hb hby d10_37) rfl ?_
 refine og_isub X22 hx (hb hby d10_38) rfl ?_
 refine og_istore (L' := #[.val (.int ii3), .val (.int 9), .val (.ref ba), .val (.int (ii3 / (100 : Int32))), .val (.int (((ii3 / (100 : Int32)) * (100 : Int32)) - ii3)), .val (.int 3), .val (.int 0)]) X22 hx rfl (hb hby d10_39) rfl ?_
 obtain ⟨rr3, h_rr3⟩ : ∃ z, z = (((ii3 / (100 : Int32)) * (100 : Int32)) - ii3) := ⟨_, rfl⟩
 rw [← h_rr3]
 have hR3 : rr3.toInt = aa.toInt / 1000000 % 100 := by rw [h_rr3]; exact own_q2 h0a hI3 (by decide)
 refine og_iloadN X22 hx rfl (hb hby d10_41) rfl ?_
 refine og_istoreN (L' := #[.val (.int (ii3 / (100 : Int32))), .val (.int 9), .val (.ref ba), .val (.int (ii3 / (100 : Int32))), .val (.int rr3), .val (.int 3), .val (.int 0)]) X22 hx rfl (hb hby d10_42) rfl ?_
 refine og_aloadN X22 hx rfl rfl (hb hby d10_43) rfl ?_
 refine og_iinc (L' := #[.val (.int (ii3 / (100 : Int32))), .val (.int 9), .val (.ref ba), .val (.int (ii3 / (100 : Int32))), .val (.int rr3), .val (.int 2), .val (.int 0)]) (w := -1) X22 hx rfl rfl rfl (hb hby d10_44) rfl ?_
 refine og_iload X22 hx rfl (hb hby d10_47) rfl ?_
 refine og_getstatic X22 hx hZ (host := "") hown (Or.inl (ow48 hw)) Via.refl e22 (S_dO.ext O.2) (hb hby d10_49) rfl (fun T23 X23 e23 => ?_)
 refine og_iload X23 hx rfl (hb hby d10_52) rfl ?_
 refine og_baload (v := (.int g6)) X23 hx hZ e23 (V_dO.ext O.2) (own_ix hR3 (by omega) (by omega)) (own_one hO hR3 (by omega) (by omega) hg6 (by omega)) (hb hby d10_54) rfl ?_
 refine og_bastore X23 hx hZ e23 V_ba ⟨by decide, by decide⟩ 2 (by decide) (Nat.le_of_ble_eq_true rfl) (hb hby d10_55) rfl (fun T24 h24 X24 e24 W24 V24 => ?_)
 have O := O.wr W24 g_ba; have K := K.wr W24 (Or.inl (List.mem_of_getElem? (i := 0) rfl))
 have N := Fr.snoc X24 N g_ba
 have V_ba : Arv Z h24 ba kb .byte (9 : Int32) [(.int 0), (.int 0), (.int (nar .byte g6)), (.int g5), (.int g4), (.int g3), (.int g2), (.int g1), (.int g0)] (.int 0) := V24
 rw [own_nbg hg6 (by omega) (by omega)] at V_ba
 refine og_aloadN X24 hx rfl rfl (hb hby d10_56) rfl ?_
 refine og_iinc (L' := #[.val (.int (ii3 / (100 : Int32))), .val (.int 9), .val (.ref ba), .val (.int (ii3 / (100 : Int32))), .val (.int rr3), .val (.int 1), .val (.int 0)]) (w := -1) X24 hx rfl rfl rfl (hb hby d10_57) rfl ?_
 refine og_iload X24 hx rfl (hb hby d10_60) rfl ?_
 refine og_getstatic X24 hx hZ (host := "") hown (Or.inl (ow197 hw)) Via.refl e24 (S_dT.ext O.2) (hb hby d10_62) rfl (fun T25 X25 e25 => ?_)
 refine og_iload X25 hx rfl (hb hby d10_65) rfl ?_
 refine og_baload (v := (.int g7)) X25 hx hZ e25 (V_dT.ext O.2) (own_ix hR3 (by omega) (by omega)) (own_ten hT hR3 (by omega) (by omega) hg7 (by omega)) (hb hby d10_67) rfl ?_
 refine og_bastore X25 hx hZ e25 V_ba ⟨by decide, by decide⟩ 1 (by decide) (Nat.le_of_ble_eq_true rfl) (hb hby d10_68) rfl (fun T26 h26 X26 e26 W26 V26 => ?_)
 have O := O.wr W26 g_ba; have K := K.wr W26 (Or.inl (List.mem_of_getElem? (i := 0) rfl))
 have N := Fr.snoc X26 N g_ba
 have V_ba : Arv Z h26 ba kb .byte (9 : Int32) [(.int 0), (.int (nar .byte g7)), (.int g6), (.int g5), (.int g4), (.int g3), (.int g2), (.int g1), (.int g0)] (.int 0) := V26
 rw [own_nbg hg7 (by omega) (by omega)] at V_ba
 refine og_goto (pc' := 22) X26 hx (hb hby d10_69) (by decide) (by decide) ?_
 obtain ⟨ii4, h_ii4⟩ : ∃ z, z = (ii3 / (100 : Int32)) := ⟨_, rfl⟩
 rw [← h_ii4]
 have hI4 : ii4.toInt = -(aa.toInt / 100000000) := by rw [h_ii4]; exact own_q1 h0a hI3 (by decide) (by omega)
 refine og_iloadN X26 hx rfl (hb hby d10_22) rfl ?_
 refine og_bipush (v := -100) X26 hx rfl (hb hby d10_23) rfl ?_
 refine og_icmp_gt (pc1 := 72) (pc2 := 28) X26 hx (hb hby d10_25) (by decide) (by decide) rfl (fun _ => ?_) (fun q => absurd (own_lt hI4 (n := 100) (by decide) (by omega)) q)
 refine og_aloadN X26 hx rfl rfl (hb hby d10_72) rfl ?_
 refine og_iinc (L' := #[.val (.int ii4), .val (.int 9), .val (.ref ba), .val (.int ii4), .val (.int rr3), .val (.int 0), .val (.int 0)]) (w := -1) X26 hx rfl rfl rfl (hb hby d10_73) rfl ?_
 refine og_iload X26 hx rfl (hb hby d10_76) rfl ?_
 refine og_getstatic X26 hx hZ (host := "") hown (Or.inl (ow48 hw)) Via.refl e26 (S_dO.ext O.2) (hb hby d10_78) rfl (fun T27 X27 e27 => ?_)
 refine og_iloadN X27 hx rfl (hb hby d10_81) rfl ?_
 refine og_ineg X27 hx (hb hby d10_82) rfl ?_
 have hM : (-ii4).toInt = aa.toInt / 100000000 := own_ngn hI4 (by omega)
 refine og_baload (v := (.int g8)) X27 hx hZ e27 (V_dO.ext O.2) (own_ix hM (by omega) (by omega)) (own_one hO hM (by omega) (by omega) hg8 (by omega)) (hb hby d10_83) rfl ?_
 refine og_bastore X27 hx hZ e27 V_ba ⟨by decide, by decide⟩ 0 (by decide) (Nat.le_of_ble_eq_true rfl) (hb hby d10_84) rfl (fun T28 h28 X28 e28 W28 V28 => ?_)
 have O := O.wr W28 g_ba; have K := K.wr W28 (Or.inl (List.mem_of_getElem? (i := 0) rfl))
 have N := Fr.snoc X28 N g_ba
 have V_ba : Arv Z h28 ba kb .byte (9 : Int32) [(.int (nar .byte g8)), (.int g7), (.int g6), (.int g5), (.int g4), (.int g3), (.int g2), (.int g1), (.int g0)] (.int 0) := V28
 rw [own_nbg hg8 (by omega) (by omega)] at V_ba
 refine og_iloadN X28 hx rfl (hb hby d10_85) rfl ?_
 refine og_bipush (v := -9) X28 hx rfl (hb hby d10_86) rfl ?_
 refine og_icmp_ge (pc1 := 104) (pc2 := 91) X28 hx (hb hby d10_88) (by decide) (by decide) rfl (fun _ => ?_) (fun q => absurd q (own_nlt9 hI4 (by omega)))
 refine og_iload X28 hx rfl (hb hby d10_104) rfl ?_
 refine og_if_eq (pc1 := 118) (pc2 := 109) X28 hx (hb hby d10_106) (by decide) (by decide) rfl (fun _ => ?_) (fun q => absurd q (by decide))
 refine og_iload X28 hx rfl (hb hby d10_118) rfl ?_
 refine og_retI X28 hx hlk hret (hb hby d10_120) (by decide) (by decide) ?_
 rw [e28]; exact ⟨rfl, N, K, V_ba⟩
theorem rm_gc10 (l : Launch) (Z : State) (a0 : Array Value) (hw : HW a0 Z) (ba : Addr) (kb : ClassId) (aa g0 g1 g2 g3 g4 g5 g6 g7 g8 g9 : Int32) (h0a : 0 ≤ aa.toInt) (hlo : 1000000000 ≤ aa.toInt) (hg0 : g0.toInt = 48 + aa.toInt / 1 % 10) (hg1 : g1.toInt = 48 + aa.toInt / 10 % 10) (hg2 : g2.toInt = 48 + aa.toInt / 100 % 10) (hg3 : g3.toInt = 48 + aa.toInt / 1000 % 10) (hg4 : g4.toInt = 48 + aa.toInt / 10000 % 10) (hg5 : g5.toInt = 48 + aa.toInt / 100000 % 10) (hg6 : g6.toInt = 48 + aa.toInt / 1000000 % 10) (hg7 : g7.toInt = 48 + aa.toInt / 10000000 % 10) (hg8 : g8.toInt = 48 + aa.toInt / 100000000 % 10) (hg9 : g9.toInt = 48 + aa.toInt / 1000000000 % 10) (dO dT : Addr) (kdO kdT : ClassId) (ldO ldT : List Value) (hO : own_tab ldO fun r => 48 + r % 10) (hT : own_tab ldT fun r => 48 + r / 10) (h0 : Heap) (n0 : Nat) (O : Old Z n0 h0) (V_ba : Arv Z h0 ba kb .byte (10 : Int32) [(.int 0), (.int 0), (.int 0), (.int 0), (.int 0), (.int 0), (.int 0), (.int 0), (.int 0), (.int 0)] (.int 0)) (S_dO : Sta Z Z.heap "java/lang/Integer" "DigitOnes" "[B" (.ref dO)) (V_dO : Arv Z Z.heap dO kdO .byte (100 : Int32) ldO (.int 0)) (S_dT : Sta Z Z.heap "java/lang/Integer" "DigitTens" "[B" (.ref dT)) (V_dT : Arv Z Z.heap dT kdT .byte (100 : Int32) ldT (.int 0)) (g_ba : n0 ≤ ba) :
  Con l Z (⟨"java/lang/Integer", "getChars", "(II[B)I"⟩ : MethodName) jdk_33_method_12_code 7 (some .int) ({ frames := 0, cells := 0, slots := 0, locals := 0 } : Room) #[(.int aa), (.int 10), (.ref ba)] h0 (fun v h L => v = some (.int 0) ∧ Fr n0 L ∧ Keep h0 h [ba] ∧ Arv Z h ba kb .byte (10 : Int32) [(.int g9), (.int g8), (.int g7), (.int g6), (.int g5), (.int g4), (.int g3), (.int g2), (.int g1), (.int g0)] (.int 0)) := by
 refine own_startC opn_10 ?_
 intro p e s m below meth c T0 X0 hx hby hml hZ hown hnm hret hlk e0
 have N := Fr.nil n0; have K := Keep.refl h0 [ba]
 refine OG.cast (oef2 m aa (10 : Int32) ba) ?_
 have hmx := aa.toInt_lt
 refine og_iloadN X0 hx rfl (hb hby d10_0) rfl ?_
 refine og_istore (L' := #[.val (.int aa), .val (.int 10), .val (.ref ba), .unset, .unset, .val (.int 10), .unset]) X0 hx rfl (hb hby d10_1) rfl ?_
 refine og_iloadN X0 hx rfl (hb hby d10_3) rfl ?_
 refine og_if_ge (pc1 := 11) (pc2 := 7) X0 hx (hb hby d10_4) (by decide) (by decide) rfl (fun _ => ?_) (fun q => absurd q (own_ge0 h0a))
 refine og_iconst (v := 0) X0 hx rfl (hb hby d10_11) rfl ?_
 refine og_istore (L' := #[.val (.int aa), .val (.int 10), .val (.ref ba), .unset, .unset, .val (.int 10), .val (.int 0)]) X0 hx rfl (hb hby d10_12) rfl ?_
 refine og_iload X0 hx rfl (hb hby d10_14) rfl ?_
 refine og_if_ne (pc1 := 22) (pc2 := 19) X0 hx (hb hby d10_16) (by decide) (by decide) rfl (fun q => absurd q (by decide)) (fun _ => ?_)
 refine og_iloadN X0 hx rfl (hb hby d10_19) rfl ?_
 refine og_ineg X0 hx (hb hby d10_20) rfl ?_
 refine og_istoreN (L' := #[.val (.int (-aa)), .val (.int 10), .val (.ref ba), .unset, .unset, .val (.int 10), .val (.int 0)]) X0 hx rfl (hb hby d10_21) rfl ?_
 obtain ⟨ii0, h_ii0⟩ : ∃ z, z = (-aa) := ⟨_, rfl⟩
 rw [← h_ii0]
 have hI0 : ii0.toInt = -(aa.toInt / 1) := by rw [h_ii0]; exact own_ng1 h0a
 refine og_iloadN X0 hx rfl (hb hby d10_22) rfl ?_
 refine og_bipush (v := -100) X0 hx rfl (hb hby d10_23) rfl ?_
 refine og_icmp_gt (pc1 := 72) (pc2 := 28) X0 hx (hb hby d10_25) (by decide) (by decide) rfl (fun q => absurd q (own_nlt hI0 (n := 100) (by decide) (by omega))) (fun _ => ?_)
 refine og_iloadN X0 hx rfl (hb hby d10_28) rfl ?_
 refine og_bipush (v := 100) X0 hx rfl (hb hby d10_29) rfl ?_
 refine og_idiv (pc' := 32) X0 hx (by decide) (hb hby d10_31) rfl ?_
 refine og_istoreN (L' := #[.val (.int ii0), .val (.int 10), .val (.ref ba), .val (.int (ii0 / (100 : Int32))), .unset, .val (.int 10), .val (.int 0)]) X0 hx rfl (hb hby d10_32) rfl ?_
 refine og_iloadN X0 hx rfl (hb hby d10_33) rfl ?_
 refine og_bipush (v := 100) X0 hx rfl (hb hby d10_34) rfl ?_
 refine og_imul X0 hx (hb hby d10_36) rfl ?_
 refine og_iloadN X0 hx rfl (hb hby d10_37) rfl ?_
 refine og_isub X0 hx (hb hby d10_38) rfl ?_
 refine og_istore (L' := #[.val (.int ii0), .val (.int 10), .val (.ref ba), .val (.int (ii0 / (100 : Int32))), .val (.int (((ii0 / (100 : Int32)) * (100 : Int32)) - ii0)), .val (.int 10), .val (.int 0)]) X0 hx rfl (hb hby d10_39) rfl ?_
 obtain ⟨rr0, h_rr0⟩ : ∃ z, z = (((ii0 / (100 : Int32)) * (100 : Int32)) - ii0) := ⟨_, rfl⟩
 rw [← h_rr0]
 have hR0 : rr0.toInt = aa.toInt / 1 % 100 := by rw [h_rr0]; exact own_q2 h0a hI0 (by decide)
 refine og_iloadN X0 hx rfl (hb hby d10_41) rfl ?_
 refine og_istoreN (L' := #[.val (.int (ii0 / (100 : Int32))), .val (.int 10), .val (.ref ba), .val (.int (ii0 / (100 : Int32))), .val (.int rr0), .val (.int 10), .val (.int 0)]) X0 hx rfl (hb hby d10_42) rfl ?_
 refine og_aloadN X0 hx rfl rfl (hb hby d10_43) rfl ?_
 refine og_iinc (L' := #[.val (.int (ii0 / (100 : Int32))), .val (.int 10), .val (.ref ba), .val (.int (ii0 / (100 : Int32))), .val (.int rr0), .val (.int 9), .val (.int 0)]) (w := -1) X0 hx rfl rfl rfl (hb hby d10_44) rfl ?_
 refine og_iload X0 hx rfl (hb hby d10_47) rfl ?_
 refine og_getstatic X0 hx hZ (host := "") hown (Or.inl (ow48 hw)) Via.refl e0 (S_dO.ext O.2) (hb hby d10_49) rfl (fun T11 X11 e11 => ?_)
 refine og_iload X11 hx rfl (hb hby d10_52) rfl ?_
 refine og_baload (v := (.int g0)) X11 hx hZ e11 (V_dO.ext O.2) (own_ix hR0 (by omega) (by omega)) (own_one hO hR0 (by omega) (by omega) hg0 (by omega)) (hb hby d10_54) rfl ?_
 refine og_bastore X11 hx hZ e11 V_ba ⟨by decide, by decide⟩ 9 (by decide) (Nat.le_of_ble_eq_true rfl) (hb hby d10_55) rfl (fun T12 h12 X12 e12 W12 V12 => ?_)
 have O := O.wr W12 g_ba; have K := K.wr W12 (Or.inl (List.mem_of_getElem? (i := 0) rfl))
 have N := Fr.snoc X12 N g_ba
 have V_ba : Arv Z h12 ba kb .byte (10 : Int32) [(.int 0), (.int 0), (.int 0), (.int 0), (.int 0), (.int 0), (.int 0), (.int 0), (.int 0), (.int (nar .byte g0))] (.int 0) := V12
 rw [own_nbg hg0 (by omega) (by omega)] at V_ba
 refine og_aloadN X12 hx rfl rfl (hb hby d10_56) rfl ?_
 refine og_iinc (L' := #[.val (.int (ii0 / (100 : Int32))), .val (.int 10), .val (.ref ba), .val (.int (ii0 / (100 : Int32))), .val (.int rr0), .val (.int 8), .val (.int 0)]) (w := -1) X12 hx rfl rfl rfl (hb hby d10_57) rfl ?_
 refine og_iload X12 hx rfl (hb hby d10_60) rfl ?_
 refine og_getstatic X12 hx hZ (host := "") hown (Or.inl (ow197 hw)) Via.refl e12 (S_dT.ext O.2) (hb hby d10_62) rfl (fun T13 X13 e13 => ?_)
 refine og_iload X13 hx rfl (hb hby d10_65) rfl ?_
 refine og_baload (v := (.int g1)) X13 hx hZ e13 (V_dT.ext O.2) (own_ix hR0 (by omega) (by omega)) (own_ten hT hR0 (by omega) (by omega) hg1 (by omega)) (hb hby d10_67) rfl ?_
 refine og_bastore X13 hx hZ e13 V_ba ⟨by decide, by decide⟩ 8 (by decide) (Nat.le_of_ble_eq_true rfl) (hb hby d10_68) rfl (fun T14 h14 X14 e14 W14 V14 => ?_)
 have O := O.wr W14 g_ba; have K := K.wr W14 (Or.inl (List.mem_of_getElem? (i := 0) rfl))
 have N := Fr.snoc X14 N g_ba
 have V_ba : Arv Z h14 ba kb .byte (10 : Int32) [(.int 0), (.int 0), (.int 0), (.int 0), (.int 0), (.int 0), (.int 0), (.int 0), (.int (nar .byte g1)), (.int g0)] (.int 0) := V14
 rw [own_nbg hg1 (by omega) (by omega)] at V_ba
 refine og_goto (pc' := 22) X14 hx (hb hby d10_69) (by decide) (by decide) ?_
 obtain ⟨ii1, h_ii1⟩ : ∃ z, z = (ii0 / (100 : Int32)) := ⟨_, rfl⟩
 rw [← h_ii1]
 have hI1 : ii1.toInt = -(aa.toInt / 100) := by rw [h_ii1]; exact own_q1 h0a hI0 (by decide) (by omega)
 refine og_iloadN X14 hx rfl (hb hby d10_22) rfl ?_
 refine og_bipush (v := -100) X14 hx rfl (hb hby d10_23) rfl ?_
 refine og_icmp_gt (pc1 := 72) (pc2 := 28) X14 hx (hb hby d10_25) (by decide) (by decide) rfl (fun q => absurd q (own_nlt hI1 (n := 100) (by decide) (by omega))) (fun _ => ?_)
 refine og_iloadN X14 hx rfl (hb hby d10_28) rfl ?_
 refine og_bipush (v := 100) X14 hx rfl (hb hby d10_29) rfl ?_
 refine og_idiv (pc' := 32) X14 hx (by decide) (hb hby d10_31) rfl ?_
 refine og_istoreN (L' := #[.val (.int ii1), .val (.int 10), .val (.ref ba), .val (.int (ii1 / (100 : Int32))), .val (.int rr0), .val (.int 8), .val (.int 0)]) X14 hx rfl (hb hby d10_32) rfl ?_
 refine og_iloadN X14 hx rfl (hb hby d10_33) rfl ?_
 refine og_bipush (v := 100) X14 hx rfl (hb hby d10_34) rfl ?_
 refine og_imul X14 hx (hb hby d10_36) rfl ?_
 refine og_iloadN X14 hx rfl (hb hby d10_37) rfl ?_
 refine og_isub X14 hx (hb hby d10_38) rfl ?_
 refine og_istore (L' := #[.val (.int ii1), .val (.int 10), .val (.ref ba), .val (.int (ii1 / (100 : Int32))), .val (.int (((ii1 / (100 : Int32)) * (100 : Int32)) - ii1)), .val (.int 8), .val (.int 0)]) X14 hx rfl (hb hby d10_39) rfl ?_
 obtain ⟨rr1, h_rr1⟩ : ∃ z, z = (((ii1 / (100 : Int32)) * (100 : Int32)) - ii1) := ⟨_, rfl⟩
 rw [← h_rr1]
 have hR1 : rr1.toInt = aa.toInt / 100 % 100 := by rw [h_rr1]; exact own_q2 h0a hI1 (by decide)
 refine og_iloadN X14 hx rfl (hb hby d10_41) rfl ?_
 refine og_istoreN (L' := #[.val (.int (ii1 / (100 : Int32))), .val (.int 10), .val (.ref ba), .val (.int (ii1 / (100 : Int32))), .val (.int rr1), .val (.int 8), .val (.int 0)]) X14 hx rfl (hb hby d10_42) rfl ?_
 refine og_aloadN X14 hx rfl rfl (hb hby d10_43) rfl ?_
 refine og_iinc (L' := #[.val (.int (ii1 / (100 : Int32))), .val (.int 10), .val (.ref ba), .val (.int (ii1 / (100 : Int32))), .val (.int rr1), .val (.int 7), .val (.int 0)]) (w := -1) X14 hx rfl rfl rfl (hb hby d10_44) rfl ?_
 refine og_iload X14 hx rfl (hb hby d10_47) rfl ?_
 refine og_getstatic X14 hx hZ (host := "") hown (Or.inl (ow48 hw)) Via.refl e14 (S_dO.ext O.2) (hb hby d10_49) rfl (fun T15 X15 e15 => ?_)
 refine og_iload X15 hx rfl (hb hby d10_52) rfl ?_
 refine og_baload (v := (.int g2)) X15 hx hZ e15 (V_dO.ext O.2) (own_ix hR1 (by omega) (by omega)) (own_one hO hR1 (by omega) (by omega) hg2 (by omega)) (hb hby d10_54) rfl ?_
 refine og_bastore X15 hx hZ e15 V_ba ⟨by decide, by decide⟩ 7 (by decide) (Nat.le_of_ble_eq_true rfl) (hb hby d10_55) rfl (fun T16 h16 X16 e16 W16 V16 => ?_)
 have O := O.wr W16 g_ba; have K := K.wr W16 (Or.inl (List.mem_of_getElem? (i := 0) rfl))
 have N := Fr.snoc X16 N g_ba
 have V_ba : Arv Z h16 ba kb .byte (10 : Int32) [(.int 0), (.int 0), (.int 0), (.int 0), (.int 0), (.int 0), (.int 0), (.int (nar .byte g2)), (.int g1), (.int g0)] (.int 0) := V16
 rw [own_nbg hg2 (by omega) (by omega)] at V_ba
 refine og_aloadN X16 hx rfl rfl (hb hby d10_56) rfl ?_
 refine og_iinc (L' := #[.val (.int (ii1 / (100 : Int32))), .val (.int 10), .val (.ref ba), .val (.int (ii1 / (100 : Int32))), .val (.int rr1), .val (.int 6), .val (.int 0)]) (w := -1) X16 hx rfl rfl rfl (hb hby d10_57) rfl ?_
 refine og_iload X16 hx rfl (hb hby d10_60) rfl ?_
 refine og_getstatic X16 hx hZ (host := "") hown (Or.inl (ow197 hw)) Via.refl e16 (S_dT.ext O.2) (hb hby d10_62) rfl (fun T17 X17 e17 => ?_)
 refine og_iload X17 hx rfl (hb hby d10_65) rfl ?_
 refine og_baload (v := (.int g3)) X17 hx hZ e17 (V_dT.ext O.2) (own_ix hR1 (by omega) (by omega)) (own_ten hT hR1 (by omega) (by omega) hg3 (by omega)) (hb hby d10_67) rfl ?_
 refine og_bastore X17 hx hZ e17 V_ba ⟨by decide, by decide⟩ 6 (by decide) (Nat.le_of_ble_eq_true rfl) (hb hby d10_68) rfl (fun T18 h18 X18 e18 W18 V18 => ?_)
 have O := O.wr W18 g_ba; have K := K.wr W18 (Or.inl (List.mem_of_getElem? (i := 0) rfl))
 have N := Fr.snoc X18 N g_ba
 have V_ba : Arv Z h18 ba kb .byte (10 : Int32) [(.int 0), (.int 0), (.int 0), (.int 0), (.int 0), (.int 0), (.int (nar .byte g3)), (.int g2), (.int g1), (.int g0)] (.int 0) := V18
 rw [own_nbg hg3 (by omega) (by omega)] at V_ba
 refine og_goto (pc' := 22) X18 hx (hb hby d10_69) (by decide) (by decide) ?_
 obtain ⟨ii2, h_ii2⟩ : ∃ z, z = (ii1 / (100 : Int32)) := ⟨_, rfl⟩
 rw [← h_ii2]
 have hI2 : ii2.toInt = -(aa.toInt / 10000) := by rw [h_ii2]; exact own_q1 h0a hI1 (by decide) (by omega)
 refine og_iloadN X18 hx rfl (hb hby d10_22) rfl ?_
 refine og_bipush (v := -100) X18 hx rfl (hb hby d10_23) rfl ?_
 refine og_icmp_gt (pc1 := 72) (pc2 := 28) X18 hx (hb hby d10_25) (by decide) (by decide) rfl (fun q => absurd q (own_nlt hI2 (n := 100) (by decide) (by omega))) (fun _ => ?_)
 refine og_iloadN X18 hx rfl (hb hby d10_28) rfl ?_
 refine og_bipush (v := 100) X18 hx rfl (hb hby d10_29) rfl ?_
 refine og_idiv (pc' := 32) X18 hx (by decide) (hb hby d10_31) rfl ?_
 refine og_istoreN (L' := #[.val (.int ii2), .val (.int 10), .val (.ref ba), .val (.int (ii2 / (100 : Int32))), .val (.int rr1), .val (.int 6), .val (.int 0)]) X18 hx rfl (hb hby d10_32) rfl ?_
 refine og_iloadN X18 hx rfl (hb hby d10_33) rfl ?_
 refine og_bipush (v := 100) X18 hx rfl (hb hby d10_34) rfl ?_
 refine og_imul X18 hx (hb hby d10_36) rfl ?_
 refine og_iloadN X18 hx rfl (hb hby d10_37) rfl ?_
 refine og_isub X18 hx (hb hby d10_38) rfl ?_
 refine og_istore (L' := #[.val (.int ii2), .val (.int 10), .val (.ref ba), .val (.int (ii2 / (100 : Int32))), .val (.int (((ii2 / (100 : Int32)) * (100 : Int32)) - ii2)), .val (.int 6), .val (.int 0)]) X18 hx rfl (hb hby d10_39) rfl ?_
 obtain ⟨rr2, h_rr2⟩ : ∃ z, z = (((ii2 / (100 : Int32)) * (100 : Int32)) - ii2) := ⟨_, rfl⟩
 rw [← h_rr2]
 have hR2 : rr2.toInt = aa.toInt / 10000 % 100 := by rw [h_rr2]; exact own_q2 h0a hI2 (by decide)
 refine og_iloadN X18 hx rfl (hb hby d10_41) rfl ?_
 refine og_istoreN (L' := #[.val (.int (ii2 / (100 : Int32))), .val (.int 10), .val (.ref ba), .val (.int (ii2 / (100 : Int32))), .val (.int rr2), .val (.int 6), .val (.int 0)]) X18 hx rfl (hb hby d10_42) rfl ?_
 refine og_aloadN X18 hx rfl rfl (hb hby d10_43) rfl ?_
 refine og_iinc (L' := #[.val (.int (ii2 / (100 : Int32))), .val (.int 10), .val (.ref ba), .val (.int (ii2 / (100 : Int32))), .val (.int rr2), .val (.int 5), .val (.int 0)]) (w := -1) X18 hx rfl rfl rfl (hb hby d10_44) rfl ?_
 refine og_iload X18 hx rfl (hb hby d10_47) rfl ?_
 refine og_getstatic X18 hx hZ (host := "") hown (Or.inl (ow48 hw)) Via.refl e18 (S_dO.ext O.2) (hb hby d10_49) rfl (fun T19 X19 e19 => ?_)
 refine og_iload X19 hx rfl (hb hby d10_52) rfl ?_
 refine og_baload (v := (.int g4)) X19 hx hZ e19 (V_dO.ext O.2) (own_ix hR2 (by omega) (by omega)) (own_one hO hR2 (by omega) (by omega) hg4 (by omega)) (hb hby d10_54) rfl ?_
 refine og_bastore X19 hx hZ e19 V_ba ⟨by decide, by decide⟩ 5 (by decide) (Nat.le_of_ble_eq_true rfl) (hb hby d10_55) rfl (fun T20 h20 X20 e20 W20 V20 => ?_)
 have O := O.wr W20 g_ba; have K := K.wr W20 (Or.inl (List.mem_of_getElem? (i := 0) rfl))
 have N := Fr.snoc X20 N g_ba
 have V_ba : Arv Z h20 ba kb .byte (10 : Int32) [(.int 0), (.int 0), (.int 0), (.int 0), (.int 0), (.int (nar .byte g4)), (.int g3), (.int g2), (.int g1), (.int g0)] (.int 0) := V20
 rw [own_nbg hg4 (by omega) (by omega)] at V_ba
 refine og_aloadN X20 hx rfl rfl (hb hby d10_56) rfl ?_
 refine og_iinc (L' := #[.val (.int (ii2 / (100 : Int32))), .val (.int 10), .val (.ref ba), .val (.int (ii2 / (100 : Int32))), .val (.int rr2), .val (.int 4), .val (.int 0)]) (w := -1) X20 hx rfl rfl rfl (hb hby d10_57) rfl ?_
 refine og_iload X20 hx rfl (hb hby d10_60) rfl ?_
 refine og_getstatic X20 hx hZ (host := "") hown (Or.inl (ow197 hw)) Via.refl e20 (S_dT.ext O.2) (hb hby d10_62) rfl (fun T21 X21 e21 => ?_)
 refine og_iload X21 hx rfl (hb hby d10_65) rfl ?_
 refine og_baload (v := (.int g5)) X21 hx hZ e21 (V_dT.ext O.2) (own_ix hR2 (by omega) (by omega)) (own_ten hT hR2 (by omega) (by omega) hg5 (by omega)) (hb hby d10_67) rfl ?_
 refine og_bastore X21 hx hZ e21 V_ba ⟨by decide, by decide⟩ 4 (by decide) (Nat.le_of_ble_eq_true rfl) (hb hby d10_68) rfl (fun T22 h22 X22 e22 W22 V22 => ?_)
 have O := O.wr W22 g_ba; have K := K.wr W22 (Or.inl (List.mem_of_getElem? (i := 0) rfl))
 have N := Fr.snoc X22 N g_ba
 have V_ba : Arv Z h22 ba kb .byte (10 : Int32) [(.int 0), (.int 0), (.int 0), (.int 0), (.int (nar .byte g5)), (.int g4), (.int g3), (.int g2), (.int g1), (.int g0)] (.int 0) := V22
 rw [own_nbg hg5 (by omega) (by omega)] at V_ba
 refine og_goto (pc' := 22) X22 hx (hb hby d10_69) (by decide) (by decide) ?_
 obtain ⟨ii3, h_ii3⟩ : ∃ z, z = (ii2 / (100 : Int32)) := ⟨_, rfl⟩
 rw [← h_ii3]
 have hI3 : ii3.toInt = -(aa.toInt / 1000000) := by rw [h_ii3]; exact own_q1 h0a hI2 (by decide) (by omega)
 refine og_iloadN X22 hx rfl (hb hby d10_22) rfl ?_
 refine og_bipush (v := -100) X22 hx rfl (hb hby d10_23) rfl ?_
 refine og_icmp_gt (pc1 := 72) (pc2 := 28) X22 hx (hb hby d10_25) (by decide) (by decide) rfl (fun q => absurd q (own_nlt hI3 (n := 100) (by decide) (by omega))) (fun _ => ?_)
 refine og_iloadN X22 hx rfl (hb hby d10_28) rfl ?_
 refine og_bipush (v := 100) X22 hx rfl (hb hby d10_29) rfl ?_
 refine og_idiv (pc' := 32) X22 hx (by decide) (hb hby d10_31) rfl ?_
 refine og_istoreN (L' := #[.val (.int ii3), .val (.int 10), .val (.ref ba), .val (.int (ii3 / (100 : Int32))), .val (.int rr2), .val (.int 4), .val (.int 0)]) X22 hx rfl (hb hby d10_32) rfl ?_
 refine og_iloadN X22 hx rfl (hb hby d10_33) rfl ?_
 refine og_bipush (v := 100) X22 hx rfl (hb hby d10_34) rfl ?_
 refine og_imul X22 hx (hb hby d10_36) rfl ?_
 refine og_iloadN X22 hx rfl (hb hby d10_37) rfl ?_
 refine og_isub X22 hx (hb hby d10_38) rfl ?_
 refine og_istore (L' := #[.val (.int ii3), .val (.int 10), .val (.ref ba), .val (.int (ii3 / (100 : Int32))), .val (.int (((ii3 / (100 : Int32)) * (100 : Int32)) - ii3)), .val (.int 4), .val (.int 0)]) X22 hx rfl (hb hby d10_39) rfl ?_
 obtain ⟨rr3, h_rr3⟩ : ∃ z, z = (((ii3 / (100 : Int32)) * (100 : Int32)) - ii3) := ⟨_, rfl⟩
 rw [← h_rr3]
 have hR3 : rr3.toInt = aa.toInt / 1000000 % 100 := by rw [h_rr3]; exact own_q2 h0a hI3 (by decide)
 refine og_iloadN X22 hx rfl (hb hby d10_41) rfl ?_
 refine og_istoreN (L' := #[.val (.int (ii3 / (100 : Int32))), .val (.int 10), .val (.ref ba), .val (.int (ii3 / (100 : Int32))), .val (.int rr3), .val (.int 4), .val (.int 0)]) X22 hx rfl (hb hby d10_42) rfl ?_
 refine og_aloadN X22 hx rfl rfl (hb hby d10_43) rfl ?_
 refine og_iinc (L' := #[.val (.int (ii3 / (100 : Int32))), .val (.int 10), .val (.ref ba), .val (.int (ii3 / (100 : Int32))), .val (.int rr3), .val (.int 3), .val (.int 0)]) (w := -1) X22 hx rfl rfl rfl (hb hby d10_44) rfl ?_
 refine og_iload X22 hx rfl (hb hby d10_47) rfl ?_
 refine og_getstatic X22 hx hZ (host := "") hown (Or.inl (ow48 hw)) Via.refl e22 (S_dO.ext O.2) (hb hby d10_49) rfl (fun T23 X23 e23 => ?_)
 refine og_iload X23 hx rfl (hb hby d10_52) rfl ?_
 refine og_baload (v := (.int g6)) X23 hx hZ e23 (V_dO.ext O.2) (own_ix hR3 (by omega) (by omega)) (own_one hO hR3 (by omega) (by omega) hg6 (by omega)) (hb hby d10_54) rfl ?_
 refine og_bastore X23 hx hZ e23 V_ba ⟨by decide, by decide⟩ 3 (by decide) (Nat.le_of_ble_eq_true rfl) (hb hby d10_55) rfl (fun T24 h24 X24 e24 W24 V24 => ?_)
 have O := O.wr W24 g_ba; have K := K.wr W24 (Or.inl (List.mem_of_getElem? (i := 0) rfl))
 have N := Fr.snoc X24 N g_ba
 have V_ba : Arv Z h24 ba kb .byte (10 : Int32) [(.int 0), (.int 0), (.int 0), (.int (nar .byte g6)), (.int g5), (.int g4), (.int g3), (.int g2), (.int g1), (.int g0)] (.int 0) := V24
 rw [own_nbg hg6 (by omega) (by omega)] at V_ba
 refine og_aloadN X24 hx rfl rfl (hb hby d10_56) rfl ?_
 refine og_iinc (L' := #[.val (.int (ii3 / (100 : Int32))), .val (.int 10), .val (.ref ba), .val (.int (ii3 / (100 : Int32))), .val (.int rr3), .val (.int 2), .val (.int 0)]) (w := -1) X24 hx rfl rfl rfl (hb hby d10_57) rfl ?_
 refine og_iload X24 hx rfl (hb hby d10_60) rfl ?_
 refine og_getstatic X24 hx hZ (host := "") hown (Or.inl (ow197 hw)) Via.refl e24 (S_dT.ext O.2) (hb hby d10_62) rfl (fun T25 X25 e25 => ?_)
 refine og_iload X25 hx rfl (hb hby d10_65) rfl ?_
 refine og_baload (v := (.int g7)) X25 hx hZ e25 (V_dT.ext O.2) (own_ix hR3 (by omega) (by omega)) (own_ten hT hR3 (by omega) (by omega) hg7 (by omega)) (hb hby d10_67) rfl ?_
 refine og_bastore X25 hx hZ e25 V_ba ⟨by decide, by decide⟩ 2 (by decide) (Nat.le_of_ble_eq_true rfl) (hb hby d10_68) rfl (fun T26 h26 X26 e26 W26 V26 => ?_)
 have O := O.wr W26 g_ba; have K := K.wr W26 (Or.inl (List.mem_of_getElem? (i := 0) rfl))
 have N := Fr.snoc X26 N g_ba
 have V_ba : Arv Z h26 ba kb .byte (10 : Int32) [(.int 0), (.int 0), (.int (nar .byte g7)), (.int g6), (.int g5), (.int g4), (.int g3), (.int g2), (.int g1), (.int g0)] (.int 0) := V26
 rw [own_nbg hg7 (by omega) (by omega)] at V_ba
 refine og_goto (pc' := 22) X26 hx (hb hby d10_69) (by decide) (by decide) ?_
 obtain ⟨ii4, h_ii4⟩ : ∃ z, z = (ii3 / (100 : Int32)) := ⟨_, rfl⟩
 rw [← h_ii4]
 have hI4 : ii4.toInt = -(aa.toInt / 100000000) := by rw [h_ii4]; exact own_q1 h0a hI3 (by decide) (by omega)
 refine og_iloadN X26 hx rfl (hb hby d10_22) rfl ?_
 refine og_bipush (v := -100) X26 hx rfl (hb hby d10_23) rfl ?_
 refine og_icmp_gt (pc1 := 72) (pc2 := 28) X26 hx (hb hby d10_25) (by decide) (by decide) rfl (fun _ => ?_) (fun q => absurd (own_lt hI4 (n := 100) (by decide) (by omega)) q)
 refine og_aloadN X26 hx rfl rfl (hb hby d10_72) rfl ?_
 refine og_iinc (L' := #[.val (.int ii4), .val (.int 10), .val (.ref ba), .val (.int ii4), .val (.int rr3), .val (.int 1), .val (.int 0)]) (w := -1) X26 hx rfl rfl rfl (hb hby d10_73) rfl ?_
 refine og_iload X26 hx rfl (hb hby d10_76) rfl ?_
 refine og_getstatic X26 hx hZ (host := "") hown (Or.inl (ow48 hw)) Via.refl e26 (S_dO.ext O.2) (hb hby d10_78) rfl (fun T27 X27 e27 => ?_)
 refine og_iloadN X27 hx rfl (hb hby d10_81) rfl ?_
 refine og_ineg X27 hx (hb hby d10_82) rfl ?_
 have hM : (-ii4).toInt = aa.toInt / 100000000 := own_ngn hI4 (by omega)
 refine og_baload (v := (.int g8)) X27 hx hZ e27 (V_dO.ext O.2) (own_ix hM (by omega) (by omega)) (own_one hO hM (by omega) (by omega) hg8 (by omega)) (hb hby d10_83) rfl ?_
 refine og_bastore X27 hx hZ e27 V_ba ⟨by decide, by decide⟩ 1 (by decide) (Nat.le_of_ble_eq_true rfl) (hb hby d10_84) rfl (fun T28 h28 X28 e28 W28 V28 => ?_)
 have O := O.wr W28 g_ba; have K := K.wr W28 (Or.inl (List.mem_of_getElem? (i := 0) rfl))
 have N := Fr.snoc X28 N g_ba
 have V_ba : Arv Z h28 ba kb .byte (10 : Int32) [(.int 0), (.int (nar .byte g8)), (.int g7), (.int g6), (.int g5), (.int g4), (.int g3), (.int g2), (.int g1), (.int g0)] (.int 0) := V28
 rw [own_nbg hg8 (by omega) (by omega)] at V_ba
 refine og_iloadN X28 hx rfl (hb hby d10_85) rfl ?_
 refine og_bipush (v := -9) X28 hx rfl (hb hby d10_86) rfl ?_
 refine og_icmp_ge (pc1 := 104) (pc2 := 91) X28 hx (hb hby d10_88) (by decide) (by decide) rfl (fun q => absurd (own_lt9 hI4 (by omega)) q) (fun _ => ?_)
 refine og_aloadN X28 hx rfl rfl (hb hby d10_91) rfl ?_
 refine og_iinc (L' := #[.val (.int ii4), .val (.int 10), .val (.ref ba), .val (.int ii4), .val (.int rr3), .val (.int 0), .val (.int 0)]) (w := -1) X28 hx rfl rfl rfl (hb hby d10_92) rfl ?_
 refine og_iload X28 hx rfl (hb hby d10_95) rfl ?_
 refine og_getstatic X28 hx hZ (host := "") hown (Or.inl (ow197 hw)) Via.refl e28 (S_dT.ext O.2) (hb hby d10_97) rfl (fun T29 X29 e29 => ?_)
 refine og_iloadN X29 hx rfl (hb hby d10_100) rfl ?_
 refine og_ineg X29 hx (hb hby d10_101) rfl ?_
 refine og_baload (v := (.int g9)) X29 hx hZ e29 (V_dT.ext O.2) (own_ix hM (by omega) (by omega)) (own_ten hT hM (by omega) (by omega) hg9 (by omega)) (hb hby d10_102) rfl ?_
 refine og_bastore X29 hx hZ e29 V_ba ⟨by decide, by decide⟩ 0 (by decide) (Nat.le_of_ble_eq_true rfl) (hb hby d10_103) rfl (fun T30 h30 X30 e30 W30 V30 => ?_)
 have O := O.wr W30 g_ba; have K := K.wr W30 (Or.inl (List.mem_of_getElem? (i := 0) rfl))
 have N := Fr.snoc X30 N g_ba
 have V_ba : Arv Z h30 ba kb .byte (10 : Int32) [(.int (nar .byte g9)), (.int g8), (.int g7), (.int g6), (.int g5), (.int g4), (.int g3), (.int g2), (.int g1), (.int g0)] (.int 0) := V30
 rw [own_nbg hg9 (by omega) (by omega)] at V_ba
 refine og_iload X30 hx rfl (hb hby d10_104) rfl ?_
 refine og_if_eq (pc1 := 118) (pc2 := 109) X30 hx (hb hby d10_106) (by decide) (by decide) rfl (fun _ => ?_) (fun q => absurd q (by decide))
 refine og_iload X30 hx rfl (hb hby d10_118) rfl ?_
 refine og_retI X30 hx hlk hret (hb hby d10_120) (by decide) (by decide) ?_
 rw [e30]; exact ⟨rfl, N, K, V_ba⟩
theorem rm_si (l : Launch) (Z : State) (a0 : Array Value) (hw : HW a0 Z) (a1 b1 : Addr) (h0 : Heap) (n0 : Nat) (O : Old Z n0 h0) (E_a1 : Exa Z h0 a1 "java/lang/String") (F_value_a1 : Fld Z h0 a1 "java/lang/String" "value" "[B" .null) (F_coder_a1 : Fld Z h0 a1 "java/lang/String" "coder" "B" (.int 0)) (g_a1 : n0 ≤ a1) :
  Con l Z (⟨"java/lang/String", "<init>", "([BB)V"⟩ : MethodName) jdk_42_method_151_code 3 none ({ frames := 1, cells := 0, slots := 0, locals := 12 } : Room) #[(.ref a1), (.ref b1), (.int 0)] h0 (fun v h L => v = none ∧ Fr n0 L ∧ Keep h0 h [a1] ∧ Exa Z h a1 "java/lang/String" ∧ Fld Z h a1 "java/lang/String" "value" "[B" (.ref b1) ∧ Fld Z h a1 "java/lang/String" "coder" "B" (.int 0)) := by
 refine own_startC opn_11 ?_
 intro p e s m below meth c T0 X0 hx hby hml hZ hown hnm hret hlk e0
 have N := Fr.nil n0; have K := Keep.refl h0 [a1]
 refine OG.cast (oef3 m a1 b1 (0 : Int32)) ?_
 refine og_aloadN X0 hx rfl rfl (hb hby d11_0) rfl ?_
 refine og_initO (pc' := 4) X0 hx hZ (W := 0) (by rw [hml]; rfl) hown (ow55 hw) (ow18 hw) (ow19 hw) e0 rfl (by decide) (by decide) (hb hby d11_1) rfl (fun T11 X11 e11 => ?_)
 refine og_aloadN X11 hx rfl rfl (hb hby d11_4) rfl ?_
 refine og_aloadN X11 hx rfl rfl (hb hby d11_5) rfl ?_
 refine og_putfield X11 hx hZ (ty := (.array .byte)) (host := "") hown (Or.inl (ow56 hw)) Via.refl e11 F_value_a1 E_a1 (Or.inr ⟨(ow57 hw), rfl, hnm⟩) (ow50 hw) (by decide) rfl rfl (hb hby d11_6) rfl (fun T12 h12 X12 e12 W12 => ?_)
 have F_value_a1_ := F_value_a1.same W12
 have E_a1 := E_a1.wr W12; have F_coder_a1 := F_coder_a1.other W12 (Or.inr (slot_ne (Or.inr (ow59 hw)) (Or.inr (ow57 hw)) (by decide) (t := .byte) (t' := (.array .byte)) (by decide) (by decide))); have O := O.wr W12 g_a1; have K := K.wr W12 (Or.inl (List.mem_of_getElem? (i := 0) rfl))
 have N := Fr.snoc X12 N g_a1; have F_value_a1 := F_value_a1_
 refine og_aloadN X12 hx rfl rfl (hb hby d11_9) rfl ?_
 refine og_iloadN X12 hx rfl (hb hby d11_10) rfl ?_
 refine og_putfield X12 hx hZ (ty := .byte) (host := "") hown (Or.inl (ow58 hw)) Via.refl e12 F_coder_a1 E_a1 (Or.inr ⟨(ow59 hw), rfl, hnm⟩) (ow50 hw) (by decide) rfl rfl (hb hby d11_11) rfl (fun T13 h13 X13 e13 W13 => ?_)
 have F_coder_a1_ := F_coder_a1.same W13
 have E_a1 := E_a1.wr W13; have F_value_a1 := F_value_a1.other W13 (Or.inr (slot_ne (Or.inr (ow57 hw)) (Or.inr (ow59 hw)) (by decide) (t := (.array .byte)) (t' := .byte) (by decide) (by decide))); have O := O.wr W13 g_a1; have K := K.wr W13 (Or.inl (List.mem_of_getElem? (i := 0) rfl))
 have N := Fr.snoc X13 N g_a1; have F_coder_a1 := F_coder_a1_
 refine og_retV X13 hx hlk hret (hb hby d11_14) (by decide) (by decide) ?_
 rw [e13]; exact ⟨rfl, N, K, E_a1, F_value_a1, F_coder_a1⟩
theorem rm_ts (l : Launch) (Z : State) (a0 : Array Value) (hw : HW a0 Z) (aa : Int32) (h0a : 0 ≤ aa.toInt) (dO dT : Addr) (kdO kdT : ClassId) (ldO ldT : List Value) (hO : own_tab ldO fun r => 48 + r % 10) (hT : own_tab ldT fun r => 48 + r / 10) (cs : Int32) (hcs : ¬ cs = 0) (h0 : Heap) (n0 : Nat) (O : Old Z n0 h0) (S_dO : Sta Z Z.heap "java/lang/Integer" "DigitOnes" "[B" (.ref dO)) (V_dO : Arv Z Z.heap dO kdO .byte (100 : Int32) ldO (.int 0)) (S_dT : Sta Z Z.heap "java/lang/Integer" "DigitTens" "[B" (.ref dT)) (V_dT : Arv Z Z.heap dT kdT .byte (100 : Int32) ldT (.int 0)) (S_CS : Sta Z Z.heap "java/lang/String" "COMPACT_STRINGS" "Z" (.int cs)) :
  Con l Z (⟨"java/lang/Integer", "toString", "(I)Ljava/lang/String;"⟩ : MethodName) jdk_33_method_10_code 3 (some (.object "java/lang/String")) ({ frames := 2, cells := 2, slots := 14, locals := 27 } : Room) #[(.int aa)] h0 (fun v h L => ∃ a b k kk gl, v = some (.ref a) ∧ Fr n0 L ∧ Keep h0 h [] ∧ h0.size ≤ a ∧ h0.size ≤ b ∧ Exa Z h a "java/lang/String" ∧ Fld Z h a "java/lang/String" "value" "[B" (.ref b) ∧ Fld Z h a "java/lang/String" "coder" "B" (.int 0) ∧ Arv Z h b k .byte kk gl (.int 0) ∧ own_ds aa.toInt kk gl) := by
 refine own_startC opn_8 ?_
 intro p e s m below meth c T0 X0 hx hby hml hZ hown hnm hret hlk e0
 have N := Fr.nil n0; have K := Keep.refl h0 []
 refine OG.cast (oef4 m aa) ?_
 refine og_iloadN X0 hx rfl (hb hby d8_0) rfl ?_
 refine og_static (pc' := 4) (cells' := 0) (slots' := 0) (W := 0) X0 hx hZ (rm_ss l Z a0 hw aa h0a h0 n0 O) hown (ow41 hw) (ow42 hw) (ow39 hw) (ow43 hw) (by decide) (by rw [hml]; rfl) e0 opd_1 [(.int aa)] [] rfl rfl rfl rfl (by decide) (by decide) rfl rfl (by decide) (by decide) (hb hby d8_1) rfl (fun v11 T11 h11 L11 X11 e11 z11 => ?_)
 obtain ⟨kk, rfl, Nq11, hq11, hsz⟩ := z11; replace e11 := e11.trans hq11; have N := Fr.app N Nq11
 rcases hsz with ⟨rfl, hhi⟩ | ⟨rfl, hlo, hhi⟩ | ⟨rfl, hlo, hhi⟩ | ⟨rfl, hlo, hhi⟩ | ⟨rfl, hlo, hhi⟩ | ⟨rfl, hlo, hhi⟩ | ⟨rfl, hlo, hhi⟩ | ⟨rfl, hlo, hhi⟩ | ⟨rfl, hlo, hhi⟩ | ⟨rfl, hlo⟩
 ·
  obtain ⟨g0, hg0⟩ := own_dig aa.toInt 1
  refine og_istoreN (L' := #[.val (.int aa), .val (.int 1), .unset]) X11 hx rfl (hb hby d8_4) rfl ?_
  refine og_getstatic X11 hx hZ (host := "") hown (Or.inl (ow44 hw)) Via.refl e11 (S_CS.ext O.2) (hb hby d8_5) rfl (fun T12 X12 e12 => ?_)
  refine og_if_eq (pc1 := 32) (pc2 := 11) X12 hx (hb hby d8_8) (by decide) (by decide) rfl (fun q => absurd q hcs) (fun _ => ?_)
  refine og_iloadN X12 hx rfl (hb hby d8_11) rfl ?_
  refine og_newarray (pc' := 14) (cells' := 1) (slots' := 1) (cap := 1) (ty := .byte) X12 hx hZ rfl (ow22 hw) e12 (by decide) (by decide) (by decide) (hb hby d8_12) rfl rfl rfl (by decide) (by decide) (fun T13 h13 nb13 kA13 X13 e13 E13 q13 V_nb13 => ?_)
  have s_nb13 : h0.size ≤ nb13 := Nat.le_of_eq q13.symm; have g_nb13 : n0 ≤ nb13 := Nat.le_trans (own_n0 O) s_nb13; have sz_nb13 : h0.size ≤ nb13 := Nat.le_trans K.1 s_nb13; have ne_dO_nb13 : dO ≠ nb13 := O.ne V_dO.lt g_nb13; have ne_dT_nb13 : dT ≠ nb13 := O.ne V_dT.lt g_nb13
  have O := O.ext E13; have K := K.ext E13
  have V_nb13 : Arv Z h13 nb13 kA13 .byte (1 : Int32) [(.int 0)] (.int 0) := V_nb13.pad (pad_rep [] (.int 0) 1)
  refine og_astoreN (L' := #[.val (.int aa), .val (.int 1), .val (.ref nb13)]) X13 hx rfl rfl (hb hby d8_14) rfl ?_
  refine og_iloadN X13 hx rfl (hb hby d8_15) rfl ?_
  refine og_iloadN X13 hx rfl (hb hby d8_16) rfl ?_
  refine og_aloadN X13 hx rfl rfl (hb hby d8_17) rfl ?_
  refine og_static (pc' := 21) (cells' := 1) (slots' := 1) (W := 0) X13 hx hZ (rm_gc1 l Z a0 hw nb13 kA13 aa g0 h0a hhi hg0 dO dT kdO kdT ldO ldT hO hT h13 n0 O V_nb13 S_dO V_dO S_dT V_dT g_nb13) hown (ow45 hw) (ow46 hw) (ow39 hw) (ow47 hw) (by decide) (by rw [hml]; rfl) e13 opd_2 [(.int aa), (.int 1), (.ref nb13)] [] rfl rfl rfl rfl (by decide) (by decide) rfl rfl (by decide) (by decide) (hb hby d8_18) rfl (fun v14 T14 h14 L14 X14 e14 z14 => ?_)
  obtain ⟨rfl, Nq14, K14, V_nb13'⟩ := z14; have N := Fr.app N Nq14
  have O := O.keep K14 (allS g_nb13 all0); have K := K.trans K14 (allS (Or.inr sz_nb13) all0)
  have V_nb13 := V_nb13'
  refine og_pop X14 hx rfl (hb hby d8_21) rfl ?_
  refine og_new (pc' := 25) (cells' := 2) (slots' := 5) X14 hx hZ hown (ow49 hw) (ow50 hw) (ow21 hw) e14 (hb hby d8_22) rfl rfl rfl (by decide) (by decide) (fun T15 h15 nb15 X15 e15 E15 q15 E_nb15 D15 B15 => ?_)
  have s_nb15 : h14.size ≤ nb15 := Nat.le_of_eq q15.symm; have g_nb15 : n0 ≤ nb15 := Nat.le_trans (own_n0 O) s_nb15; have sz_nb15 : h0.size ≤ nb15 := Nat.le_trans K.1 s_nb15; have ne_dO_nb15 : dO ≠ nb15 := O.ne V_dO.lt g_nb15; have ne_dT_nb15 : dT ≠ nb15 := O.ne V_dT.lt g_nb15; have ne_nb13_nb15 : nb13 ≠ nb15 := Nat.ne_of_lt (Nat.lt_of_lt_of_le V_nb13.lt s_nb15)
  have V_nb13 := V_nb13.ext E15; have O := O.ext E15; have K := K.ext E15
  have F_value_nb15 : Fld Z h15 nb15 "java/lang/String" "value" "[B" .null := D15 (Or.inr (ow57 hw)) (ty := (.array .byte)) (by decide)
  have F_coder_nb15 : Fld Z h15 nb15 "java/lang/String" "coder" "B" (.int 0) := D15 (Or.inr (ow59 hw)) (ty := .byte) (by decide)
  refine og_dup X15 hx rfl (hb hby d8_25) rfl ?_
  refine og_aloadN X15 hx rfl rfl (hb hby d8_26) rfl ?_
  refine og_iconst (v := 0) X15 hx rfl (hb hby d8_27) rfl ?_
  refine og_special (pc' := 31) (cells' := 2) (slots' := 5) (W := 1) X15 hx hZ (rm_si l Z a0 hw nb15 nb13 h15 n0 O E_nb15 F_value_nb15 F_coder_nb15 g_nb15) rfl hown (ow51 hw) (ow52 hw) (ow21 hw) (ow54 hw) (by decide) (by rw [hml]; rfl) e15 opd_3 [(.ref nb13), (.int 0)] [(.ref nb15)] rfl rfl rfl rfl (by decide) (by decide) rfl rfl (by decide) (by decide) (hb hby d8_28) rfl (fun v16 T16 h16 L16 X16 e16 z16 => ?_)
  obtain ⟨rfl, Nq16, K16, E_nb15', F_value_nb15', F_coder_nb15'⟩ := z16; have N := Fr.app N Nq16
  have V_nb13 := V_nb13.keep K16 (ninS ne_nb13_nb15 nin0); have E_nb15 := E_nb15.keep K16; have O := O.keep K16 (allS g_nb15 all0); have K := K.trans K16 (allS (Or.inr sz_nb15) all0)
  have E_nb15 := E_nb15'; have F_value_nb15 := F_value_nb15'; have F_coder_nb15 := F_coder_nb15'
  refine og_retR X16 hx hlk hret rfl rfl rfl (hb hby d8_31) (by decide) (by decide) ?_
  rw [e16]; exact ⟨_, _, _, _, _, rfl, N, K, sz_nb15, sz_nb13, E_nb15, F_value_nb15, F_coder_nb15, V_nb13, Or.inl (⟨rfl, g0, rfl, hg0, hhi⟩)⟩
 ·
  obtain ⟨g0, hg0⟩ := own_dig aa.toInt 1
  obtain ⟨g1, hg1⟩ := own_dig aa.toInt 10
  refine og_istoreN (L' := #[.val (.int aa), .val (.int 2), .unset]) X11 hx rfl (hb hby d8_4) rfl ?_
  refine og_getstatic X11 hx hZ (host := "") hown (Or.inl (ow44 hw)) Via.refl e11 (S_CS.ext O.2) (hb hby d8_5) rfl (fun T17 X17 e17 => ?_)
  refine og_if_eq (pc1 := 32) (pc2 := 11) X17 hx (hb hby d8_8) (by decide) (by decide) rfl (fun q => absurd q hcs) (fun _ => ?_)
  refine og_iloadN X17 hx rfl (hb hby d8_11) rfl ?_
  refine og_newarray (pc' := 14) (cells' := 1) (slots' := 2) (cap := 2) (ty := .byte) X17 hx hZ rfl (ow22 hw) e17 (by decide) (by decide) (by decide) (hb hby d8_12) rfl rfl rfl (by decide) (by decide) (fun T18 h18 nb18 kA18 X18 e18 E18 q18 V_nb18 => ?_)
  have s_nb18 : h0.size ≤ nb18 := Nat.le_of_eq q18.symm; have g_nb18 : n0 ≤ nb18 := Nat.le_trans (own_n0 O) s_nb18; have sz_nb18 : h0.size ≤ nb18 := Nat.le_trans K.1 s_nb18; have ne_dO_nb18 : dO ≠ nb18 := O.ne V_dO.lt g_nb18; have ne_dT_nb18 : dT ≠ nb18 := O.ne V_dT.lt g_nb18
  have O := O.ext E18; have K := K.ext E18
  have V_nb18 : Arv Z h18 nb18 kA18 .byte (2 : Int32) [(.int 0), (.int 0)] (.int 0) := V_nb18.pad (pad_rep [] (.int 0) 2)
  refine og_astoreN (L' := #[.val (.int aa), .val (.int 2), .val (.ref nb18)]) X18 hx rfl rfl (hb hby d8_14) rfl ?_
  refine og_iloadN X18 hx rfl (hb hby d8_15) rfl ?_
  refine og_iloadN X18 hx rfl (hb hby d8_16) rfl ?_
  refine og_aloadN X18 hx rfl rfl (hb hby d8_17) rfl ?_
  refine og_static (pc' := 21) (cells' := 1) (slots' := 2) (W := 0) X18 hx hZ (rm_gc2 l Z a0 hw nb18 kA18 aa g0 g1 h0a hlo hhi hg0 hg1 dO dT kdO kdT ldO ldT hO hT h18 n0 O V_nb18 S_dO V_dO S_dT V_dT g_nb18) hown (ow45 hw) (ow46 hw) (ow39 hw) (ow47 hw) (by decide) (by rw [hml]; rfl) e18 opd_2 [(.int aa), (.int 2), (.ref nb18)] [] rfl rfl rfl rfl (by decide) (by decide) rfl rfl (by decide) (by decide) (hb hby d8_18) rfl (fun v19 T19 h19 L19 X19 e19 z19 => ?_)
  obtain ⟨rfl, Nq19, K19, V_nb18'⟩ := z19; have N := Fr.app N Nq19
  have O := O.keep K19 (allS g_nb18 all0); have K := K.trans K19 (allS (Or.inr sz_nb18) all0)
  have V_nb18 := V_nb18'
  refine og_pop X19 hx rfl (hb hby d8_21) rfl ?_
  refine og_new (pc' := 25) (cells' := 2) (slots' := 6) X19 hx hZ hown (ow49 hw) (ow50 hw) (ow21 hw) e19 (hb hby d8_22) rfl rfl rfl (by decide) (by decide) (fun T20 h20 nb20 X20 e20 E20 q20 E_nb20 D20 B20 => ?_)
  have s_nb20 : h19.size ≤ nb20 := Nat.le_of_eq q20.symm; have g_nb20 : n0 ≤ nb20 := Nat.le_trans (own_n0 O) s_nb20; have sz_nb20 : h0.size ≤ nb20 := Nat.le_trans K.1 s_nb20; have ne_dO_nb20 : dO ≠ nb20 := O.ne V_dO.lt g_nb20; have ne_dT_nb20 : dT ≠ nb20 := O.ne V_dT.lt g_nb20; have ne_nb18_nb20 : nb18 ≠ nb20 := Nat.ne_of_lt (Nat.lt_of_lt_of_le V_nb18.lt s_nb20)
  have V_nb18 := V_nb18.ext E20; have O := O.ext E20; have K := K.ext E20
  have F_value_nb20 : Fld Z h20 nb20 "java/lang/String" "value" "[B" .null := D20 (Or.inr (ow57 hw)) (ty := (.array .byte)) (by decide)
  have F_coder_nb20 : Fld Z h20 nb20 "java/lang/String" "coder" "B" (.int 0) := D20 (Or.inr (ow59 hw)) (ty := .byte) (by decide)
  refine og_dup X20 hx rfl (hb hby d8_25) rfl ?_
  refine og_aloadN X20 hx rfl rfl (hb hby d8_26) rfl ?_
  refine og_iconst (v := 0) X20 hx rfl (hb hby d8_27) rfl ?_
  refine og_special (pc' := 31) (cells' := 2) (slots' := 6) (W := 1) X20 hx hZ (rm_si l Z a0 hw nb20 nb18 h20 n0 O E_nb20 F_value_nb20 F_coder_nb20 g_nb20) rfl hown (ow51 hw) (ow52 hw) (ow21 hw) (ow54 hw) (by decide) (by rw [hml]; rfl) e20 opd_3 [(.ref nb18), (.int 0)] [(.ref nb20)] rfl rfl rfl rfl (by decide) (by decide) rfl rfl (by decide) (by decide) (hb hby d8_28) rfl (fun v21 T21 h21 L21 X21 e21 z21 => ?_)
  obtain ⟨rfl, Nq21, K21, E_nb20', F_value_nb20', F_coder_nb20'⟩ := z21; have N := Fr.app N Nq21
  have V_nb18 := V_nb18.keep K21 (ninS ne_nb18_nb20 nin0); have E_nb20 := E_nb20.keep K21; have O := O.keep K21 (allS g_nb20 all0); have K := K.trans K21 (allS (Or.inr sz_nb20) all0)
  have E_nb20 := E_nb20'; have F_value_nb20 := F_value_nb20'; have F_coder_nb20 := F_coder_nb20'
  refine og_retR X21 hx hlk hret rfl rfl rfl (hb hby d8_31) (by decide) (by decide) ?_
  rw [e21]; exact ⟨_, _, _, _, _, rfl, N, K, sz_nb20, sz_nb18, E_nb20, F_value_nb20, F_coder_nb20, V_nb18, Or.inr (Or.inl (⟨rfl, g0, g1, rfl, hg0, hg1, hlo, hhi⟩))⟩
 ·
  obtain ⟨g0, hg0⟩ := own_dig aa.toInt 1
  obtain ⟨g1, hg1⟩ := own_dig aa.toInt 10
  obtain ⟨g2, hg2⟩ := own_dig aa.toInt 100
  refine og_istoreN (L' := #[.val (.int aa), .val (.int 3), .unset]) X11 hx rfl (hb hby d8_4) rfl ?_
  refine og_getstatic X11 hx hZ (host := "") hown (Or.inl (ow44 hw)) Via.refl e11 (S_CS.ext O.2) (hb hby d8_5) rfl (fun T22 X22 e22 => ?_)
  refine og_if_eq (pc1 := 32) (pc2 := 11) X22 hx (hb hby d8_8) (by decide) (by decide) rfl (fun q => absurd q hcs) (fun _ => ?_)
  refine og_iloadN X22 hx rfl (hb hby d8_11) rfl ?_
  refine og_newarray (pc' := 14) (cells' := 1) (slots' := 3) (cap := 3) (ty := .byte) X22 hx hZ rfl (ow22 hw) e22 (by decide) (by decide) (by decide) (hb hby d8_12) rfl rfl rfl (by decide) (by decide) (fun T23 h23 nb23 kA23 X23 e23 E23 q23 V_nb23 => ?_)
  have s_nb23 : h0.size ≤ nb23 := Nat.le_of_eq q23.symm; have g_nb23 : n0 ≤ nb23 := Nat.le_trans (own_n0 O) s_nb23; have sz_nb23 : h0.size ≤ nb23 := Nat.le_trans K.1 s_nb23; have ne_dO_nb23 : dO ≠ nb23 := O.ne V_dO.lt g_nb23; have ne_dT_nb23 : dT ≠ nb23 := O.ne V_dT.lt g_nb23
  have O := O.ext E23; have K := K.ext E23
  have V_nb23 : Arv Z h23 nb23 kA23 .byte (3 : Int32) [(.int 0), (.int 0), (.int 0)] (.int 0) := V_nb23.pad (pad_rep [] (.int 0) 3)
  refine og_astoreN (L' := #[.val (.int aa), .val (.int 3), .val (.ref nb23)]) X23 hx rfl rfl (hb hby d8_14) rfl ?_
  refine og_iloadN X23 hx rfl (hb hby d8_15) rfl ?_
  refine og_iloadN X23 hx rfl (hb hby d8_16) rfl ?_
  refine og_aloadN X23 hx rfl rfl (hb hby d8_17) rfl ?_
  refine og_static (pc' := 21) (cells' := 1) (slots' := 3) (W := 0) X23 hx hZ (rm_gc3 l Z a0 hw nb23 kA23 aa g0 g1 g2 h0a hlo hhi hg0 hg1 hg2 dO dT kdO kdT ldO ldT hO hT h23 n0 O V_nb23 S_dO V_dO S_dT V_dT g_nb23) hown (ow45 hw) (ow46 hw) (ow39 hw) (ow47 hw) (by decide) (by rw [hml]; rfl) e23 opd_2 [(.int aa), (.int 3), (.ref nb23)] [] rfl rfl rfl rfl (by decide) (by decide) rfl rfl (by decide) (by decide) (hb hby d8_18) rfl (fun v24 T24 h24 L24 X24 e24 z24 => ?_)
  obtain ⟨rfl, Nq24, K24, V_nb23'⟩ := z24; have N := Fr.app N Nq24
  have O := O.keep K24 (allS g_nb23 all0); have K := K.trans K24 (allS (Or.inr sz_nb23) all0)
  have V_nb23 := V_nb23'
  refine og_pop X24 hx rfl (hb hby d8_21) rfl ?_
  refine og_new (pc' := 25) (cells' := 2) (slots' := 7) X24 hx hZ hown (ow49 hw) (ow50 hw) (ow21 hw) e24 (hb hby d8_22) rfl rfl rfl (by decide) (by decide) (fun T25 h25 nb25 X25 e25 E25 q25 E_nb25 D25 B25 => ?_)
  have s_nb25 : h24.size ≤ nb25 := Nat.le_of_eq q25.symm; have g_nb25 : n0 ≤ nb25 := Nat.le_trans (own_n0 O) s_nb25; have sz_nb25 : h0.size ≤ nb25 := Nat.le_trans K.1 s_nb25; have ne_dO_nb25 : dO ≠ nb25 := O.ne V_dO.lt g_nb25; have ne_dT_nb25 : dT ≠ nb25 := O.ne V_dT.lt g_nb25; have ne_nb23_nb25 : nb23 ≠ nb25 := Nat.ne_of_lt (Nat.lt_of_lt_of_le V_nb23.lt s_nb25)
  have V_nb23 := V_nb23.ext E25; have O := O.ext E25; have K := K.ext E25
  have F_value_nb25 : Fld Z h25 nb25 "java/lang/String" "value" "[B" .null := D25 (Or.inr (ow57 hw)) (ty := (.array .byte)) (by decide)
  have F_coder_nb25 : Fld Z h25 nb25 "java/lang/String" "coder" "B" (.int 0) := D25 (Or.inr (ow59 hw)) (ty := .byte) (by decide)
  refine og_dup X25 hx rfl (hb hby d8_25) rfl ?_
  refine og_aloadN X25 hx rfl rfl (hb hby d8_26) rfl ?_
  refine og_iconst (v := 0) X25 hx rfl (hb hby d8_27) rfl ?_
  refine og_special (pc' := 31) (cells' := 2) (slots' := 7) (W := 1) X25 hx hZ (rm_si l Z a0 hw nb25 nb23 h25 n0 O E_nb25 F_value_nb25 F_coder_nb25 g_nb25) rfl hown (ow51 hw) (ow52 hw) (ow21 hw) (ow54 hw) (by decide) (by rw [hml]; rfl) e25 opd_3 [(.ref nb23), (.int 0)] [(.ref nb25)] rfl rfl rfl rfl (by decide) (by decide) rfl rfl (by decide) (by decide) (hb hby d8_28) rfl (fun v26 T26 h26 L26 X26 e26 z26 => ?_)
  obtain ⟨rfl, Nq26, K26, E_nb25', F_value_nb25', F_coder_nb25'⟩ := z26; have N := Fr.app N Nq26
  have V_nb23 := V_nb23.keep K26 (ninS ne_nb23_nb25 nin0); have E_nb25 := E_nb25.keep K26; have O := O.keep K26 (allS g_nb25 all0); have K := K.trans K26 (allS (Or.inr sz_nb25) all0)
  have E_nb25 := E_nb25'; have F_value_nb25 := F_value_nb25'; have F_coder_nb25 := F_coder_nb25'
  refine og_retR X26 hx hlk hret rfl rfl rfl (hb hby d8_31) (by decide) (by decide) ?_
  rw [e26]; exact ⟨_, _, _, _, _, rfl, N, K, sz_nb25, sz_nb23, E_nb25, F_value_nb25, F_coder_nb25, V_nb23, Or.inr (Or.inr (Or.inl (⟨rfl, g0, g1, g2, rfl, hg0, hg1, hg2, hlo, hhi⟩)))⟩
 ·
  obtain ⟨g0, hg0⟩ := own_dig aa.toInt 1
  obtain ⟨g1, hg1⟩ := own_dig aa.toInt 10
  obtain ⟨g2, hg2⟩ := own_dig aa.toInt 100
  obtain ⟨g3, hg3⟩ := own_dig aa.toInt 1000
  refine og_istoreN (L' := #[.val (.int aa), .val (.int 4), .unset]) X11 hx rfl (hb hby d8_4) rfl ?_
  refine og_getstatic X11 hx hZ (host := "") hown (Or.inl (ow44 hw)) Via.refl e11 (S_CS.ext O.2) (hb hby d8_5) rfl (fun T27 X27 e27 => ?_)
  refine og_if_eq (pc1 := 32) (pc2 := 11) X27 hx (hb hby d8_8) (by decide) (by decide) rfl (fun q => absurd q hcs) (fun _ => ?_)
  refine og_iloadN X27 hx rfl (hb hby d8_11) rfl ?_
  refine og_newarray (pc' := 14) (cells' := 1) (slots' := 4) (cap := 4) (ty := .byte) X27 hx hZ rfl (ow22 hw) e27 (by decide) (by decide) (by decide) (hb hby d8_12) rfl rfl rfl (by decide) (by decide) (fun T28 h28 nb28 kA28 X28 e28 E28 q28 V_nb28 => ?_)
  have s_nb28 : h0.size ≤ nb28 := Nat.le_of_eq q28.symm; have g_nb28 : n0 ≤ nb28 := Nat.le_trans (own_n0 O) s_nb28; have sz_nb28 : h0.size ≤ nb28 := Nat.le_trans K.1 s_nb28; have ne_dO_nb28 : dO ≠ nb28 := O.ne V_dO.lt g_nb28; have ne_dT_nb28 : dT ≠ nb28 := O.ne V_dT.lt g_nb28
  have O := O.ext E28; have K := K.ext E28
  have V_nb28 : Arv Z h28 nb28 kA28 .byte (4 : Int32) [(.int 0), (.int 0), (.int 0), (.int 0)] (.int 0) := V_nb28.pad (pad_rep [] (.int 0) 4)
  refine og_astoreN (L' := #[.val (.int aa), .val (.int 4), .val (.ref nb28)]) X28 hx rfl rfl (hb hby d8_14) rfl ?_
  refine og_iloadN X28 hx rfl (hb hby d8_15) rfl ?_
  refine og_iloadN X28 hx rfl (hb hby d8_16) rfl ?_
  refine og_aloadN X28 hx rfl rfl (hb hby d8_17) rfl ?_
  refine og_static (pc' := 21) (cells' := 1) (slots' := 4) (W := 0) X28 hx hZ (rm_gc4 l Z a0 hw nb28 kA28 aa g0 g1 g2 g3 h0a hlo hhi hg0 hg1 hg2 hg3 dO dT kdO kdT ldO ldT hO hT h28 n0 O V_nb28 S_dO V_dO S_dT V_dT g_nb28) hown (ow45 hw) (ow46 hw) (ow39 hw) (ow47 hw) (by decide) (by rw [hml]; rfl) e28 opd_2 [(.int aa), (.int 4), (.ref nb28)] [] rfl rfl rfl rfl (by decide) (by decide) rfl rfl (by decide) (by decide) (hb hby d8_18) rfl (fun v29 T29 h29 L29 X29 e29 z29 => ?_)
  obtain ⟨rfl, Nq29, K29, V_nb28'⟩ := z29; have N := Fr.app N Nq29
  have O := O.keep K29 (allS g_nb28 all0); have K := K.trans K29 (allS (Or.inr sz_nb28) all0)
  have V_nb28 := V_nb28'
  refine og_pop X29 hx rfl (hb hby d8_21) rfl ?_
  refine og_new (pc' := 25) (cells' := 2) (slots' := 8) X29 hx hZ hown (ow49 hw) (ow50 hw) (ow21 hw) e29 (hb hby d8_22) rfl rfl rfl (by decide) (by decide) (fun T30 h30 nb30 X30 e30 E30 q30 E_nb30 D30 B30 => ?_)
  have s_nb30 : h29.size ≤ nb30 := Nat.le_of_eq q30.symm; have g_nb30 : n0 ≤ nb30 := Nat.le_trans (own_n0 O) s_nb30; have sz_nb30 : h0.size ≤ nb30 := Nat.le_trans K.1 s_nb30; have ne_dO_nb30 : dO ≠ nb30 := O.ne V_dO.lt g_nb30; have ne_dT_nb30 : dT ≠ nb30 := O.ne V_dT.lt g_nb30; have ne_nb28_nb30 : nb28 ≠ nb30 := Nat.ne_of_lt (Nat.lt_of_lt_of_le V_nb28.lt s_nb30)
  have V_nb28 := V_nb28.ext E30; have O := O.ext E30; have K := K.ext E30
  have F_value_nb30 : Fld Z h30 nb30 "java/lang/String" "value" "[B" .null := D30 (Or.inr (ow57 hw)) (ty := (.array .byte)) (by decide)
  have F_coder_nb30 : Fld Z h30 nb30 "java/lang/String" "coder" "B" (.int 0) := D30 (Or.inr (ow59 hw)) (ty := .byte) (by decide)
  refine og_dup X30 hx rfl (hb hby d8_25) rfl ?_
  refine og_aloadN X30 hx rfl rfl (hb hby d8_26) rfl ?_
  refine og_iconst (v := 0) X30 hx rfl (hb hby d8_27) rfl ?_
  refine og_special (pc' := 31) (cells' := 2) (slots' := 8) (W := 1) X30 hx hZ (rm_si l Z a0 hw nb30 nb28 h30 n0 O E_nb30 F_value_nb30 F_coder_nb30 g_nb30) rfl hown (ow51 hw) (ow52 hw) (ow21 hw) (ow54 hw) (by decide) (by rw [hml]; rfl) e30 opd_3 [(.ref nb28), (.int 0)] [(.ref nb30)] rfl rfl rfl rfl (by decide) (by decide) rfl rfl (by decide) (by decide) (hb hby d8_28) rfl (fun v31 T31 h31 L31 X31 e31 z31 => ?_)
  obtain ⟨rfl, Nq31, K31, E_nb30', F_value_nb30', F_coder_nb30'⟩ := z31; have N := Fr.app N Nq31
  have V_nb28 := V_nb28.keep K31 (ninS ne_nb28_nb30 nin0); have E_nb30 := E_nb30.keep K31; have O := O.keep K31 (allS g_nb30 all0); have K := K.trans K31 (allS (Or.inr sz_nb30) all0)
  have E_nb30 := E_nb30'; have F_value_nb30 := F_value_nb30'; have F_coder_nb30 := F_coder_nb30'
  refine og_retR X31 hx hlk hret rfl rfl rfl (hb hby d8_31) (by decide) (by decide) ?_
  rw [e31]; exact ⟨_, _, _, _, _, rfl, N, K, sz_nb30, sz_nb28, E_nb30, F_value_nb30, F_coder_nb30, V_nb28, Or.inr (Or.inr (Or.inr (Or.inl (⟨rfl, g0, g1, g2, g3, rfl, hg0, hg1, hg2, hg3, hlo, hhi⟩))))⟩
 ·
  obtain ⟨g0, hg0⟩ := own_dig aa.toInt 1
  obtain ⟨g1, hg1⟩ := own_dig aa.toInt 10
  obtain ⟨g2, hg2⟩ := own_dig aa.toInt 100
  obtain ⟨g3, hg3⟩ := own_dig aa.toInt 1000
  obtain ⟨g4, hg4⟩ := own_dig aa.toInt 10000
  refine og_istoreN (L' := #[.val (.int aa), .val (.int 5), .unset]) X11 hx rfl (hb hby d8_4) rfl ?_
  refine og_getstatic X11 hx hZ (host := "") hown (Or.inl (ow44 hw)) Via.refl e11 (S_CS.ext O.2) (hb hby d8_5) rfl (fun T32 X32 e32 => ?_)
  refine og_if_eq (pc1 := 32) (pc2 := 11) X32 hx (hb hby d8_8) (by decide) (by decide) rfl (fun q => absurd q hcs) (fun _ => ?_)
  refine og_iloadN X32 hx rfl (hb hby d8_11) rfl ?_
  refine og_newarray (pc' := 14) (cells' := 1) (slots' := 5) (cap := 5) (ty := .byte) X32 hx hZ rfl (ow22 hw) e32 (by decide) (by decide) (by decide) (hb hby d8_12) rfl rfl rfl (by decide) (by decide) (fun T33 h33 nb33 kA33 X33 e33 E33 q33 V_nb33 => ?_)
  have s_nb33 : h0.size ≤ nb33 := Nat.le_of_eq q33.symm; have g_nb33 : n0 ≤ nb33 := Nat.le_trans (own_n0 O) s_nb33; have sz_nb33 : h0.size ≤ nb33 := Nat.le_trans K.1 s_nb33; have ne_dO_nb33 : dO ≠ nb33 := O.ne V_dO.lt g_nb33; have ne_dT_nb33 : dT ≠ nb33 := O.ne V_dT.lt g_nb33
  have O := O.ext E33; have K := K.ext E33
  have V_nb33 : Arv Z h33 nb33 kA33 .byte (5 : Int32) [(.int 0), (.int 0), (.int 0), (.int 0), (.int 0)] (.int 0) := V_nb33.pad (pad_rep [] (.int 0) 5)
  refine og_astoreN (L' := #[.val (.int aa), .val (.int 5), .val (.ref nb33)]) X33 hx rfl rfl (hb hby d8_14) rfl ?_
  refine og_iloadN X33 hx rfl (hb hby d8_15) rfl ?_
  refine og_iloadN X33 hx rfl (hb hby d8_16) rfl ?_
  refine og_aloadN X33 hx rfl rfl (hb hby d8_17) rfl ?_
  refine og_static (pc' := 21) (cells' := 1) (slots' := 5) (W := 0) X33 hx hZ (rm_gc5 l Z a0 hw nb33 kA33 aa g0 g1 g2 g3 g4 h0a hlo hhi hg0 hg1 hg2 hg3 hg4 dO dT kdO kdT ldO ldT hO hT h33 n0 O V_nb33 S_dO V_dO S_dT V_dT g_nb33) hown (ow45 hw) (ow46 hw) (ow39 hw) (ow47 hw) (by decide) (by rw [hml]; rfl) e33 opd_2 [(.int aa), (.int 5), (.ref nb33)] [] rfl rfl rfl rfl (by decide) (by decide) rfl rfl (by decide) (by decide) (hb hby d8_18) rfl (fun v34 T34 h34 L34 X34 e34 z34 => ?_)
  obtain ⟨rfl, Nq34, K34, V_nb33'⟩ := z34; have N := Fr.app N Nq34
  have O := O.keep K34 (allS g_nb33 all0); have K := K.trans K34 (allS (Or.inr sz_nb33) all0)
  have V_nb33 := V_nb33'
  refine og_pop X34 hx rfl (hb hby d8_21) rfl ?_
  refine og_new (pc' := 25) (cells' := 2) (slots' := 9) X34 hx hZ hown (ow49 hw) (ow50 hw) (ow21 hw) e34 (hb hby d8_22) rfl rfl rfl (by decide) (by decide) (fun T35 h35 nb35 X35 e35 E35 q35 E_nb35 D35 B35 => ?_)
  have s_nb35 : h34.size ≤ nb35 := Nat.le_of_eq q35.symm; have g_nb35 : n0 ≤ nb35 := Nat.le_trans (own_n0 O) s_nb35; have sz_nb35 : h0.size ≤ nb35 := Nat.le_trans K.1 s_nb35; have ne_dO_nb35 : dO ≠ nb35 := O.ne V_dO.lt g_nb35; have ne_dT_nb35 : dT ≠ nb35 := O.ne V_dT.lt g_nb35; have ne_nb33_nb35 : nb33 ≠ nb35 := Nat.ne_of_lt (Nat.lt_of_lt_of_le V_nb33.lt s_nb35)
  have V_nb33 := V_nb33.ext E35; have O := O.ext E35; have K := K.ext E35
  have F_value_nb35 : Fld Z h35 nb35 "java/lang/String" "value" "[B" .null := D35 (Or.inr (ow57 hw)) (ty := (.array .byte)) (by decide)
  have F_coder_nb35 : Fld Z h35 nb35 "java/lang/String" "coder" "B" (.int 0) := D35 (Or.inr (ow59 hw)) (ty := .byte) (by decide)
  refine og_dup X35 hx rfl (hb hby d8_25) rfl ?_
  refine og_aloadN X35 hx rfl rfl (hb hby d8_26) rfl ?_
  refine og_iconst (v := 0) X35 hx rfl (hb hby d8_27) rfl ?_
  refine og_special (pc' := 31) (cells' := 2) (slots' := 9) (W := 1) X35 hx hZ (rm_si l Z a0 hw nb35 nb33 h35 n0 O E_nb35 F_value_nb35 F_coder_nb35 g_nb35) rfl hown (ow51 hw) (ow52 hw) (ow21 hw) (ow54 hw) (by decide) (by rw [hml]; rfl) e35 opd_3 [(.ref nb33), (.int 0)] [(.ref nb35)] rfl rfl rfl rfl (by decide) (by decide) rfl rfl (by decide) (by decide) (hb hby d8_28) rfl (fun v36 T36 h36 L36 X36 e36 z36 => ?_)
  obtain ⟨rfl, Nq36, K36, E_nb35', F_value_nb35', F_coder_nb35'⟩ := z36; have N := Fr.app N Nq36
  have V_nb33 := V_nb33.keep K36 (ninS ne_nb33_nb35 nin0); have E_nb35 := E_nb35.keep K36; have O := O.keep K36 (allS g_nb35 all0); have K := K.trans K36 (allS (Or.inr sz_nb35) all0)
  have E_nb35 := E_nb35'; have F_value_nb35 := F_value_nb35'; have F_coder_nb35 := F_coder_nb35'
  refine og_retR X36 hx hlk hret rfl rfl rfl (hb hby d8_31) (by decide) (by decide) ?_
  rw [e36]; exact ⟨_, _, _, _, _, rfl, N, K, sz_nb35, sz_nb33, E_nb35, F_value_nb35, F_coder_nb35, V_nb33, Or.inr (Or.inr (Or.inr (Or.inr (Or.inl (⟨rfl, g0, g1, g2, g3, g4, rfl, hg0, hg1, hg2, hg3, hg4, hlo, hhi⟩)))))⟩
 ·
  obtain ⟨g0, hg0⟩ := own_dig aa.toInt 1
  obtain ⟨g1, hg1⟩ := own_dig aa.toInt 10
  obtain ⟨g2, hg2⟩ := own_dig aa.toInt 100
  obtain ⟨g3, hg3⟩ := own_dig aa.toInt 1000
  obtain ⟨g4, hg4⟩ := own_dig aa.toInt 10000
  obtain ⟨g5, hg5⟩ := own_dig aa.toInt 100000
  refine og_istoreN (L' := #[.val (.int aa), .val (.int 6), .unset]) X11 hx rfl (hb hby d8_4) rfl ?_
  refine og_getstatic X11 hx hZ (host := "") hown (Or.inl (ow44 hw)) Via.refl e11 (S_CS.ext O.2) (hb hby d8_5) rfl (fun T37 X37 e37 => ?_)
  refine og_if_eq (pc1 := 32) (pc2 := 11) X37 hx (hb hby d8_8) (by decide) (by decide) rfl (fun q => absurd q hcs) (fun _ => ?_)
  refine og_iloadN X37 hx rfl (hb hby d8_11) rfl ?_
  refine og_newarray (pc' := 14) (cells' := 1) (slots' := 6) (cap := 6) (ty := .byte) X37 hx hZ rfl (ow22 hw) e37 (by decide) (by decide) (by decide) (hb hby d8_12) rfl rfl rfl (by decide) (by decide) (fun T38 h38 nb38 kA38 X38 e38 E38 q38 V_nb38 => ?_)
  have s_nb38 : h0.size ≤ nb38 := Nat.le_of_eq q38.symm; have g_nb38 : n0 ≤ nb38 := Nat.le_trans (own_n0 O) s_nb38; have sz_nb38 : h0.size ≤ nb38 := Nat.le_trans K.1 s_nb38; have ne_dO_nb38 : dO ≠ nb38 := O.ne V_dO.lt g_nb38; have ne_dT_nb38 : dT ≠ nb38 := O.ne V_dT.lt g_nb38
  have O := O.ext E38; have K := K.ext E38
  have V_nb38 : Arv Z h38 nb38 kA38 .byte (6 : Int32) [(.int 0), (.int 0), (.int 0), (.int 0), (.int 0), (.int 0)] (.int 0) := V_nb38.pad (pad_rep [] (.int 0) 6)
  refine og_astoreN (L' := #[.val (.int aa), .val (.int 6), .val (.ref nb38)]) X38 hx rfl rfl (hb hby d8_14) rfl ?_
  refine og_iloadN X38 hx rfl (hb hby d8_15) rfl ?_
  refine og_iloadN X38 hx rfl (hb hby d8_16) rfl ?_
  refine og_aloadN X38 hx rfl rfl (hb hby d8_17) rfl ?_
  refine og_static (pc' := 21) (cells' := 1) (slots' := 6) (W := 0) X38 hx hZ (rm_gc6 l Z a0 hw nb38 kA38 aa g0 g1 g2 g3 g4 g5 h0a hlo hhi hg0 hg1 hg2 hg3 hg4 hg5 dO dT kdO kdT ldO ldT hO hT h38 n0 O V_nb38 S_dO V_dO S_dT V_dT g_nb38) hown (ow45 hw) (ow46 hw) (ow39 hw) (ow47 hw) (by decide) (by rw [hml]; rfl) e38 opd_2 [(.int aa), (.int 6), (.ref nb38)] [] rfl rfl rfl rfl (by decide) (by decide) rfl rfl (by decide) (by decide) (hb hby d8_18) rfl (fun v39 T39 h39 L39 X39 e39 z39 => ?_)
  obtain ⟨rfl, Nq39, K39, V_nb38'⟩ := z39; have N := Fr.app N Nq39
  have O := O.keep K39 (allS g_nb38 all0); have K := K.trans K39 (allS (Or.inr sz_nb38) all0)
  have V_nb38 := V_nb38'
  refine og_pop X39 hx rfl (hb hby d8_21) rfl ?_
  refine og_new (pc' := 25) (cells' := 2) (slots' := 10) X39 hx hZ hown (ow49 hw) (ow50 hw) (ow21 hw) e39 (hb hby d8_22) rfl rfl rfl (by decide) (by decide) (fun T40 h40 nb40 X40 e40 E40 q40 E_nb40 D40 B40 => ?_)
  have s_nb40 : h39.size ≤ nb40 := Nat.le_of_eq q40.symm; have g_nb40 : n0 ≤ nb40 := Nat.le_trans (own_n0 O) s_nb40; have sz_nb40 : h0.size ≤ nb40 := Nat.le_trans K.1 s_nb40; have ne_dO_nb40 : dO ≠ nb40 := O.ne V_dO.lt g_nb40; have ne_dT_nb40 : dT ≠ nb40 := O.ne V_dT.lt g_nb40; have ne_nb38_nb40 : nb38 ≠ nb40 := Nat.ne_of_lt (Nat.lt_of_lt_of_le V_nb38.lt s_nb40)
  have V_nb38 := V_nb38.ext E40; have O := O.ext E40; have K := K.ext E40
  have F_value_nb40 : Fld Z h40 nb40 "java/lang/String" "value" "[B" .null := D40 (Or.inr (ow57 hw)) (ty := (.array .byte)) (by decide)
  have F_coder_nb40 : Fld Z h40 nb40 "java/lang/String" "coder" "B" (.int 0) := D40 (Or.inr (ow59 hw)) (ty := .byte) (by decide)
  refine og_dup X40 hx rfl (hb hby d8_25) rfl ?_
  refine og_aloadN X40 hx rfl rfl (hb hby d8_26) rfl ?_
  refine og_iconst (v := 0) X40 hx rfl (hb hby d8_27) rfl ?_
  refine og_special (pc' := 31) (cells' := 2) (slots' := 10) (W := 1) X40 hx hZ (rm_si l Z a0 hw nb40 nb38 h40 n0 O E_nb40 F_value_nb40 F_coder_nb40 g_nb40) rfl hown (ow51 hw) (ow52 hw) (ow21 hw) (ow54 hw) (by decide) (by rw [hml]; rfl) e40 opd_3 [(.ref nb38), (.int 0)] [(.ref nb40)] rfl rfl rfl rfl (by decide) (by decide) rfl rfl (by decide) (by decide) (hb hby d8_28) rfl (fun v41 T41 h41 L41 X41 e41 z41 => ?_)
  obtain ⟨rfl, Nq41, K41, E_nb40', F_value_nb40', F_coder_nb40'⟩ := z41; have N := Fr.app N Nq41
  have V_nb38 := V_nb38.keep K41 (ninS ne_nb38_nb40 nin0); have E_nb40 := E_nb40.keep K41; have O := O.keep K41 (allS g_nb40 all0); have K := K.trans K41 (allS (Or.inr sz_nb40) all0)
  have E_nb40 := E_nb40'; have F_value_nb40 := F_value_nb40'; have F_coder_nb40 := F_coder_nb40'
  refine og_retR X41 hx hlk hret rfl rfl rfl (hb hby d8_31) (by decide) (by decide) ?_
  rw [e41]; exact ⟨_, _, _, _, _, rfl, N, K, sz_nb40, sz_nb38, E_nb40, F_value_nb40, F_coder_nb40, V_nb38, Or.inr (Or.inr (Or.inr (Or.inr (Or.inr (Or.inl (⟨rfl, g0, g1, g2, g3, g4, g5, rfl, hg0, hg1, hg2, hg3, hg4, hg5, hlo, hhi⟩))))))⟩
 ·
  obtain ⟨g0, hg0⟩ := own_dig aa.toInt 1
  obtain ⟨g1, hg1⟩ := own_dig aa.toInt 10
  obtain ⟨g2, hg2⟩ := own_dig aa.toInt 100
  obtain ⟨g3, hg3⟩ := own_dig aa.toInt 1000
  obtain ⟨g4, hg4⟩ := own_dig aa.toInt 10000
  obtain ⟨g5, hg5⟩ := own_dig aa.toInt 100000
  obtain ⟨g6, hg6⟩ := own_dig aa.toInt 1000000
  refine og_istoreN (L' := #[.val (.int aa), .val (.int 7), .unset]) X11 hx rfl (hb hby d8_4) rfl ?_
  refine og_getstatic X11 hx hZ (host := "") hown (Or.inl (ow44 hw)) Via.refl e11 (S_CS.ext O.2) (hb hby d8_5) rfl (fun T42 X42 e42 => ?_)
  refine og_if_eq (pc1 := 32) (pc2 := 11) X42 hx (hb hby d8_8) (by decide) (by decide) rfl (fun q => absurd q hcs) (fun _ => ?_)
  refine og_iloadN X42 hx rfl (hb hby d8_11) rfl ?_
  refine og_newarray (pc' := 14) (cells' := 1) (slots' := 7) (cap := 7) (ty := .byte) X42 hx hZ rfl (ow22 hw) e42 (by decide) (by decide) (by decide) (hb hby d8_12) rfl rfl rfl (by decide) (by decide) (fun T43 h43 nb43 kA43 X43 e43 E43 q43 V_nb43 => ?_)
  have s_nb43 : h0.size ≤ nb43 := Nat.le_of_eq q43.symm; have g_nb43 : n0 ≤ nb43 := Nat.le_trans (own_n0 O) s_nb43; have sz_nb43 : h0.size ≤ nb43 := Nat.le_trans K.1 s_nb43; have ne_dO_nb43 : dO ≠ nb43 := O.ne V_dO.lt g_nb43; have ne_dT_nb43 : dT ≠ nb43 := O.ne V_dT.lt g_nb43
  have O := O.ext E43; have K := K.ext E43
  have V_nb43 : Arv Z h43 nb43 kA43 .byte (7 : Int32) [(.int 0), (.int 0), (.int 0), (.int 0), (.int 0), (.int 0), (.int 0)] (.int 0) := V_nb43.pad (pad_rep [] (.int 0) 7)
  refine og_astoreN (L' := #[.val (.int aa), .val (.int 7), .val (.ref nb43)]) X43 hx rfl rfl (hb hby d8_14) rfl ?_
  refine og_iloadN X43 hx rfl (hb hby d8_15) rfl ?_
  refine og_iloadN X43 hx rfl (hb hby d8_16) rfl ?_
  refine og_aloadN X43 hx rfl rfl (hb hby d8_17) rfl ?_
  refine og_static (pc' := 21) (cells' := 1) (slots' := 7) (W := 0) X43 hx hZ (rm_gc7 l Z a0 hw nb43 kA43 aa g0 g1 g2 g3 g4 g5 g6 h0a hlo hhi hg0 hg1 hg2 hg3 hg4 hg5 hg6 dO dT kdO kdT ldO ldT hO hT h43 n0 O V_nb43 S_dO V_dO S_dT V_dT g_nb43) hown (ow45 hw) (ow46 hw) (ow39 hw) (ow47 hw) (by decide) (by rw [hml]; rfl) e43 opd_2 [(.int aa), (.int 7), (.ref nb43)] [] rfl rfl rfl rfl (by decide) (by decide) rfl rfl (by decide) (by decide) (hb hby d8_18) rfl (fun v44 T44 h44 L44 X44 e44 z44 => ?_)
  obtain ⟨rfl, Nq44, K44, V_nb43'⟩ := z44; have N := Fr.app N Nq44
  have O := O.keep K44 (allS g_nb43 all0); have K := K.trans K44 (allS (Or.inr sz_nb43) all0)
  have V_nb43 := V_nb43'
  refine og_pop X44 hx rfl (hb hby d8_21) rfl ?_
  refine og_new (pc' := 25) (cells' := 2) (slots' := 11) X44 hx hZ hown (ow49 hw) (ow50 hw) (ow21 hw) e44 (hb hby d8_22) rfl rfl rfl (by decide) (by decide) (fun T45 h45 nb45 X45 e45 E45 q45 E_nb45 D45 B45 => ?_)
  have s_nb45 : h44.size ≤ nb45 := Nat.le_of_eq q45.symm; have g_nb45 : n0 ≤ nb45 := Nat.le_trans (own_n0 O) s_nb45; have sz_nb45 : h0.size ≤ nb45 := Nat.le_trans K.1 s_nb45; have ne_dO_nb45 : dO ≠ nb45 := O.ne V_dO.lt g_nb45; have ne_dT_nb45 : dT ≠ nb45 := O.ne V_dT.lt g_nb45; have ne_nb43_nb45 : nb43 ≠ nb45 := Nat.ne_of_lt (Nat.lt_of_lt_of_le V_nb43.lt s_nb45)
  have V_nb43 := V_nb43.ext E45; have O := O.ext E45; have K := K.ext E45
  have F_value_nb45 : Fld Z h45 nb45 "java/lang/String" "value" "[B" .null := D45 (Or.inr (ow57 hw)) (ty := (.array .byte)) (by decide)
  have F_coder_nb45 : Fld Z h45 nb45 "java/lang/String" "coder" "B" (.int 0) := D45 (Or.inr (ow59 hw)) (ty := .byte) (by decide)
  refine og_dup X45 hx rfl (hb hby d8_25) rfl ?_
  refine og_aloadN X45 hx rfl rfl (hb hby d8_26) rfl ?_
  refine og_iconst (v := 0) X45 hx rfl (hb hby d8_27) rfl ?_
  refine og_special (pc' := 31) (cells' := 2) (slots' := 11) (W := 1) X45 hx hZ (rm_si l Z a0 hw nb45 nb43 h45 n0 O E_nb45 F_value_nb45 F_coder_nb45 g_nb45) rfl hown (ow51 hw) (ow52 hw) (ow21 hw) (ow54 hw) (by decide) (by rw [hml]; rfl) e45 opd_3 [(.ref nb43), (.int 0)] [(.ref nb45)] rfl rfl rfl rfl (by decide) (by decide) rfl rfl (by decide) (by decide) (hb hby d8_28) rfl (fun v46 T46 h46 L46 X46 e46 z46 => ?_)
  obtain ⟨rfl, Nq46, K46, E_nb45', F_value_nb45', F_coder_nb45'⟩ := z46; have N := Fr.app N Nq46
  have V_nb43 := V_nb43.keep K46 (ninS ne_nb43_nb45 nin0); have E_nb45 := E_nb45.keep K46; have O := O.keep K46 (allS g_nb45 all0); have K := K.trans K46 (allS (Or.inr sz_nb45) all0)
  have E_nb45 := E_nb45'; have F_value_nb45 := F_value_nb45'; have F_coder_nb45 := F_coder_nb45'
  refine og_retR X46 hx hlk hret rfl rfl rfl (hb hby d8_31) (by decide) (by decide) ?_
  rw [e46]; exact ⟨_, _, _, _, _, rfl, N, K, sz_nb45, sz_nb43, E_nb45, F_value_nb45, F_coder_nb45, V_nb43, Or.inr (Or.inr (Or.inr (Or.inr (Or.inr (Or.inr (Or.inl (⟨rfl, g0, g1, g2, g3, g4, g5, g6, rfl, hg0, hg1, hg2, hg3, hg4, hg5, hg6, hlo, hhi⟩)))))))⟩
 ·
  obtain ⟨g0, hg0⟩ := own_dig aa.toInt 1
  obtain ⟨g1, hg1⟩ := own_dig aa.toInt 10
  obtain ⟨g2, hg2⟩ := own_dig aa.toInt 100
  obtain ⟨g3, hg3⟩ := own_dig aa.toInt 1000
  obtain ⟨g4, hg4⟩ := own_dig aa.toInt 10000
  obtain ⟨g5, hg5⟩ := own_dig aa.toInt 100000
  obtain ⟨g6, hg6⟩ := own_dig aa.toInt 1000000
  obtain ⟨g7, hg7⟩ := own_dig aa.toInt 10000000
  refine og_istoreN (L' := #[.val (.int aa), .val (.int 8), .unset]) X11 hx rfl (hb hby d8_4) rfl ?_
  refine og_getstatic X11 hx hZ (host := "") hown (Or.inl (ow44 hw)) Via.refl e11 (S_CS.ext O.2) (hb hby d8_5) rfl (fun T47 X47 e47 => ?_)
  refine og_if_eq (pc1 := 32) (pc2 := 11) X47 hx (hb hby d8_8) (by decide) (by decide) rfl (fun q => absurd q hcs) (fun _ => ?_)
  refine og_iloadN X47 hx rfl (hb hby d8_11) rfl ?_
  refine og_newarray (pc' := 14) (cells' := 1) (slots' := 8) (cap := 8) (ty := .byte) X47 hx hZ rfl (ow22 hw) e47 (by decide) (by decide) (by decide) (hb hby d8_12) rfl rfl rfl (by decide) (by decide) (fun T48 h48 nb48 kA48 X48 e48 E48 q48 V_nb48 => ?_)
  have s_nb48 : h0.size ≤ nb48 := Nat.le_of_eq q48.symm; have g_nb48 : n0 ≤ nb48 := Nat.le_trans (own_n0 O) s_nb48; have sz_nb48 : h0.size ≤ nb48 := Nat.le_trans K.1 s_nb48; have ne_dO_nb48 : dO ≠ nb48 := O.ne V_dO.lt g_nb48; have ne_dT_nb48 : dT ≠ nb48 := O.ne V_dT.lt g_nb48
  have O := O.ext E48; have K := K.ext E48
  have V_nb48 : Arv Z h48 nb48 kA48 .byte (8 : Int32) [(.int 0), (.int 0), (.int 0), (.int 0), (.int 0), (.int 0), (.int 0), (.int 0)] (.int 0) := V_nb48.pad (pad_rep [] (.int 0) 8)
  refine og_astoreN (L' := #[.val (.int aa), .val (.int 8), .val (.ref nb48)]) X48 hx rfl rfl (hb hby d8_14) rfl ?_
  refine og_iloadN X48 hx rfl (hb hby d8_15) rfl ?_
  refine og_iloadN X48 hx rfl (hb hby d8_16) rfl ?_
  refine og_aloadN X48 hx rfl rfl (hb hby d8_17) rfl ?_
  refine og_static (pc' := 21) (cells' := 1) (slots' := 8) (W := 0) X48 hx hZ (rm_gc8 l Z a0 hw nb48 kA48 aa g0 g1 g2 g3 g4 g5 g6 g7 h0a hlo hhi hg0 hg1 hg2 hg3 hg4 hg5 hg6 hg7 dO dT kdO kdT ldO ldT hO hT h48 n0 O V_nb48 S_dO V_dO S_dT V_dT g_nb48) hown (ow45 hw) (ow46 hw) (ow39 hw) (ow47 hw) (by decide) (by rw [hml]; rfl) e48 opd_2 [(.int aa), (.int 8), (.ref nb48)] [] rfl rfl rfl rfl (by decide) (by decide) rfl rfl (by decide) (by decide) (hb hby d8_18) rfl (fun v49 T49 h49 L49 X49 e49 z49 => ?_)
  obtain ⟨rfl, Nq49, K49, V_nb48'⟩ := z49; have N := Fr.app N Nq49
  have O := O.keep K49 (allS g_nb48 all0); have K := K.trans K49 (allS (Or.inr sz_nb48) all0)
  have V_nb48 := V_nb48'
  refine og_pop X49 hx rfl (hb hby d8_21) rfl ?_
  refine og_new (pc' := 25) (cells' := 2) (slots' := 12) X49 hx hZ hown (ow49 hw) (ow50 hw) (ow21 hw) e49 (hb hby d8_22) rfl rfl rfl (by decide) (by decide) (fun T50 h50 nb50 X50 e50 E50 q50 E_nb50 D50 B50 => ?_)
  have s_nb50 : h49.size ≤ nb50 := Nat.le_of_eq q50.symm; have g_nb50 : n0 ≤ nb50 := Nat.le_trans (own_n0 O) s_nb50; have sz_nb50 : h0.size ≤ nb50 := Nat.le_trans K.1 s_nb50; have ne_dO_nb50 : dO ≠ nb50 := O.ne V_dO.lt g_nb50; have ne_dT_nb50 : dT ≠ nb50 := O.ne V_dT.lt g_nb50; have ne_nb48_nb50 : nb48 ≠ nb50 := Nat.ne_of_lt (Nat.lt_of_lt_of_le V_nb48.lt s_nb50)
  have V_nb48 := V_nb48.ext E50; have O := O.ext E50; have K := K.ext E50
  have F_value_nb50 : Fld Z h50 nb50 "java/lang/String" "value" "[B" .null := D50 (Or.inr (ow57 hw)) (ty := (.array .byte)) (by decide)
  have F_coder_nb50 : Fld Z h50 nb50 "java/lang/String" "coder" "B" (.int 0) := D50 (Or.inr (ow59 hw)) (ty := .byte) (by decide)
  refine og_dup X50 hx rfl (hb hby d8_25) rfl ?_
  refine og_aloadN X50 hx rfl rfl (hb hby d8_26) rfl ?_
  refine og_iconst (v := 0) X50 hx rfl (hb hby d8_27) rfl ?_
  refine og_special (pc' := 31) (cells' := 2) (slots' := 12) (W := 1) X50 hx hZ (rm_si l Z a0 hw nb50 nb48 h50 n0 O E_nb50 F_value_nb50 F_coder_nb50 g_nb50) rfl hown (ow51 hw) (ow52 hw) (ow21 hw) (ow54 hw) (by decide) (by rw [hml]; rfl) e50 opd_3 [(.ref nb48), (.int 0)] [(.ref nb50)] rfl rfl rfl rfl (by decide) (by decide) rfl rfl (by decide) (by decide) (hb hby d8_28) rfl (fun v51 T51 h51 L51 X51 e51 z51 => ?_)
  obtain ⟨rfl, Nq51, K51, E_nb50', F_value_nb50', F_coder_nb50'⟩ := z51; have N := Fr.app N Nq51
  have V_nb48 := V_nb48.keep K51 (ninS ne_nb48_nb50 nin0); have E_nb50 := E_nb50.keep K51; have O := O.keep K51 (allS g_nb50 all0); have K := K.trans K51 (allS (Or.inr sz_nb50) all0)
  have E_nb50 := E_nb50'; have F_value_nb50 := F_value_nb50'; have F_coder_nb50 := F_coder_nb50'
  refine og_retR X51 hx hlk hret rfl rfl rfl (hb hby d8_31) (by decide) (by decide) ?_
  rw [e51]; exact ⟨_, _, _, _, _, rfl, N, K, sz_nb50, sz_nb48, E_nb50, F_value_nb50, F_coder_nb50, V_nb48, Or.inr (Or.inr (Or.inr (Or.inr (Or.inr (Or.inr (Or.inr (Or.inl (⟨rfl, g0, g1, g2, g3, g4, g5, g6, g7, rfl, hg0, hg1, hg2, hg3, hg4, hg5, hg6, hg7, hlo, hhi⟩))))))))⟩
 ·
  obtain ⟨g0, hg0⟩ := own_dig aa.toInt 1
  obtain ⟨g1, hg1⟩ := own_dig aa.toInt 10
  obtain ⟨g2, hg2⟩ := own_dig aa.toInt 100
  obtain ⟨g3, hg3⟩ := own_dig aa.toInt 1000
  obtain ⟨g4, hg4⟩ := own_dig aa.toInt 10000
  obtain ⟨g5, hg5⟩ := own_dig aa.toInt 100000
  obtain ⟨g6, hg6⟩ := own_dig aa.toInt 1000000
  obtain ⟨g7, hg7⟩ := own_dig aa.toInt 10000000
  obtain ⟨g8, hg8⟩ := own_dig aa.toInt 100000000
  refine og_istoreN (L' := #[.val (.int aa), .val (.int 9), .unset]) X11 hx rfl (hb hby d8_4) rfl ?_
  refine og_getstatic X11 hx hZ (host := "") hown (Or.inl (ow44 hw)) Via.refl e11 (S_CS.ext O.2) (hb hby d8_5) rfl (fun T52 X52 e52 => ?_)
  refine og_if_eq (pc1 := 32) (pc2 := 11) X52 hx (hb hby d8_8) (by decide) (by decide) rfl (fun q => absurd q hcs) (fun _ => ?_)
  refine og_iloadN X52 hx rfl (hb hby d8_11) rfl ?_
  refine og_newarray (pc' := 14) (cells' := 1) (slots' := 9) (cap := 9) (ty := .byte) X52 hx hZ rfl (ow22 hw) e52 (by decide) (by decide) (by decide) (hb hby d8_12) rfl rfl rfl (by decide) (by decide) (fun T53 h53 nb53 kA53 X53 e53 E53 q53 V_nb53 => ?_)
  have s_nb53 : h0.size ≤ nb53 := Nat.le_of_eq q53.symm; have g_nb53 : n0 ≤ nb53 := Nat.le_trans (own_n0 O) s_nb53; have sz_nb53 : h0.size ≤ nb53 := Nat.le_trans K.1 s_nb53; have ne_dO_nb53 : dO ≠ nb53 := O.ne V_dO.lt g_nb53; have ne_dT_nb53 : dT ≠ nb53 := O.ne V_dT.lt g_nb53
  have O := O.ext E53; have K := K.ext E53
  have V_nb53 : Arv Z h53 nb53 kA53 .byte (9 : Int32) [(.int 0), (.int 0), (.int 0), (.int 0), (.int 0), (.int 0), (.int 0), (.int 0), (.int 0)] (.int 0) := V_nb53.pad (pad_rep [] (.int 0) 9)
  refine og_astoreN (L' := #[.val (.int aa), .val (.int 9), .val (.ref nb53)]) X53 hx rfl rfl (hb hby d8_14) rfl ?_
  refine og_iloadN X53 hx rfl (hb hby d8_15) rfl ?_
  refine og_iloadN X53 hx rfl (hb hby d8_16) rfl ?_
  refine og_aloadN X53 hx rfl rfl (hb hby d8_17) rfl ?_
  refine og_static (pc' := 21) (cells' := 1) (slots' := 9) (W := 0) X53 hx hZ (rm_gc9 l Z a0 hw nb53 kA53 aa g0 g1 g2 g3 g4 g5 g6 g7 g8 h0a hlo hhi hg0 hg1 hg2 hg3 hg4 hg5 hg6 hg7 hg8 dO dT kdO kdT ldO ldT hO hT h53 n0 O V_nb53 S_dO V_dO S_dT V_dT g_nb53) hown (ow45 hw) (ow46 hw) (ow39 hw) (ow47 hw) (by decide) (by rw [hml]; rfl) e53 opd_2 [(.int aa), (.int 9), (.ref nb53)] [] rfl rfl rfl rfl (by decide) (by decide) rfl rfl (by decide) (by decide) (hb hby d8_18) rfl (fun v54 T54 h54 L54 X54 e54 z54 => ?_)
  obtain ⟨rfl, Nq54, K54, V_nb53'⟩ := z54; have N := Fr.app N Nq54
  have O := O.keep K54 (allS g_nb53 all0); have K := K.trans K54 (allS (Or.inr sz_nb53) all0)
  have V_nb53 := V_nb53'
  refine og_pop X54 hx rfl (hb hby d8_21) rfl ?_
  refine og_new (pc' := 25) (cells' := 2) (slots' := 13) X54 hx hZ hown (ow49 hw) (ow50 hw) (ow21 hw) e54 (hb hby d8_22) rfl rfl rfl (by decide) (by decide) (fun T55 h55 nb55 X55 e55 E55 q55 E_nb55 D55 B55 => ?_)
  have s_nb55 : h54.size ≤ nb55 := Nat.le_of_eq q55.symm; have g_nb55 : n0 ≤ nb55 := Nat.le_trans (own_n0 O) s_nb55; have sz_nb55 : h0.size ≤ nb55 := Nat.le_trans K.1 s_nb55; have ne_dO_nb55 : dO ≠ nb55 := O.ne V_dO.lt g_nb55; have ne_dT_nb55 : dT ≠ nb55 := O.ne V_dT.lt g_nb55; have ne_nb53_nb55 : nb53 ≠ nb55 := Nat.ne_of_lt (Nat.lt_of_lt_of_le V_nb53.lt s_nb55)
  have V_nb53 := V_nb53.ext E55; have O := O.ext E55; have K := K.ext E55
  have F_value_nb55 : Fld Z h55 nb55 "java/lang/String" "value" "[B" .null := D55 (Or.inr (ow57 hw)) (ty := (.array .byte)) (by decide)
  have F_coder_nb55 : Fld Z h55 nb55 "java/lang/String" "coder" "B" (.int 0) := D55 (Or.inr (ow59 hw)) (ty := .byte) (by decide)
  refine og_dup X55 hx rfl (hb hby d8_25) rfl ?_
  refine og_aloadN X55 hx rfl rfl (hb hby d8_26) rfl ?_
  refine og_iconst (v := 0) X55 hx rfl (hb hby d8_27) rfl ?_
  refine og_special (pc' := 31) (cells' := 2) (slots' := 13) (W := 1) X55 hx hZ (rm_si l Z a0 hw nb55 nb53 h55 n0 O E_nb55 F_value_nb55 F_coder_nb55 g_nb55) rfl hown (ow51 hw) (ow52 hw) (ow21 hw) (ow54 hw) (by decide) (by rw [hml]; rfl) e55 opd_3 [(.ref nb53), (.int 0)] [(.ref nb55)] rfl rfl rfl rfl (by decide) (by decide) rfl rfl (by decide) (by decide) (hb hby d8_28) rfl (fun v56 T56 h56 L56 X56 e56 z56 => ?_)
  obtain ⟨rfl, Nq56, K56, E_nb55', F_value_nb55', F_coder_nb55'⟩ := z56; have N := Fr.app N Nq56
  have V_nb53 := V_nb53.keep K56 (ninS ne_nb53_nb55 nin0); have E_nb55 := E_nb55.keep K56; have O := O.keep K56 (allS g_nb55 all0); have K := K.trans K56 (allS (Or.inr sz_nb55) all0)
  have E_nb55 := E_nb55'; have F_value_nb55 := F_value_nb55'; have F_coder_nb55 := F_coder_nb55'
  refine og_retR X56 hx hlk hret rfl rfl rfl (hb hby d8_31) (by decide) (by decide) ?_
  rw [e56]; exact ⟨_, _, _, _, _, rfl, N, K, sz_nb55, sz_nb53, E_nb55, F_value_nb55, F_coder_nb55, V_nb53, Or.inr (Or.inr (Or.inr (Or.inr (Or.inr (Or.inr (Or.inr (Or.inr (Or.inl (⟨rfl, g0, g1, g2, g3, g4, g5, g6, g7, g8, rfl, hg0, hg1, hg2, hg3, hg4, hg5, hg6, hg7, hg8, hlo, hhi⟩)))))))))⟩
 ·
  obtain ⟨g0, hg0⟩ := own_dig aa.toInt 1
  obtain ⟨g1, hg1⟩ := own_dig aa.toInt 10
  obtain ⟨g2, hg2⟩ := own_dig aa.toInt 100
  obtain ⟨g3, hg3⟩ := own_dig aa.toInt 1000
  obtain ⟨g4, hg4⟩ := own_dig aa.toInt 10000
  obtain ⟨g5, hg5⟩ := own_dig aa.toInt 100000
  obtain ⟨g6, hg6⟩ := own_dig aa.toInt 1000000
  obtain ⟨g7, hg7⟩ := own_dig aa.toInt 10000000
  obtain ⟨g8, hg8⟩ := own_dig aa.toInt 100000000
  obtain ⟨g9, hg9⟩ := own_dig aa.toInt 1000000000
  refine og_istoreN (L' := #[.val (.int aa), .val (.int 10), .unset]) X11 hx rfl (hb hby d8_4) rfl ?_
  refine og_getstatic X11 hx hZ (host := "") hown (Or.inl (ow44 hw)) Via.refl e11 (S_CS.ext O.2) (hb hby d8_5) rfl (fun T57 X57 e57 => ?_)
  refine og_if_eq (pc1 := 32) (pc2 := 11) X57 hx (hb hby d8_8) (by decide) (by decide) rfl (fun q => absurd q hcs) (fun _ => ?_)
  refine og_iloadN X57 hx rfl (hb hby d8_11) rfl ?_
  refine og_newarray (pc' := 14) (cells' := 1) (slots' := 10) (cap := 10) (ty := .byte) X57 hx hZ rfl (ow22 hw) e57 (by decide) (by decide) (by decide) (hb hby d8_12) rfl rfl rfl (by decide) (by decide) (fun T58 h58 nb58 kA58 X58 e58 E58 q58 V_nb58 => ?_)
  have s_nb58 : h0.size ≤ nb58 := Nat.le_of_eq q58.symm; have g_nb58 : n0 ≤ nb58 := Nat.le_trans (own_n0 O) s_nb58; have sz_nb58 : h0.size ≤ nb58 := Nat.le_trans K.1 s_nb58; have ne_dO_nb58 : dO ≠ nb58 := O.ne V_dO.lt g_nb58; have ne_dT_nb58 : dT ≠ nb58 := O.ne V_dT.lt g_nb58
  have O := O.ext E58; have K := K.ext E58
  have V_nb58 : Arv Z h58 nb58 kA58 .byte (10 : Int32) [(.int 0), (.int 0), (.int 0), (.int 0), (.int 0), (.int 0), (.int 0), (.int 0), (.int 0), (.int 0)] (.int 0) := V_nb58.pad (pad_rep [] (.int 0) 10)
  refine og_astoreN (L' := #[.val (.int aa), .val (.int 10), .val (.ref nb58)]) X58 hx rfl rfl (hb hby d8_14) rfl ?_
  refine og_iloadN X58 hx rfl (hb hby d8_15) rfl ?_
  refine og_iloadN X58 hx rfl (hb hby d8_16) rfl ?_
  refine og_aloadN X58 hx rfl rfl (hb hby d8_17) rfl ?_
  refine og_static (pc' := 21) (cells' := 1) (slots' := 10) (W := 0) X58 hx hZ (rm_gc10 l Z a0 hw nb58 kA58 aa g0 g1 g2 g3 g4 g5 g6 g7 g8 g9 h0a hlo hg0 hg1 hg2 hg3 hg4 hg5 hg6 hg7 hg8 hg9 dO dT kdO kdT ldO ldT hO hT h58 n0 O V_nb58 S_dO V_dO S_dT V_dT g_nb58) hown (ow45 hw) (ow46 hw) (ow39 hw) (ow47 hw) (by decide) (by rw [hml]; rfl) e58 opd_2 [(.int aa), (.int 10), (.ref nb58)] [] rfl rfl rfl rfl (by decide) (by decide) rfl rfl (by decide) (by decide) (hb hby d8_18) rfl (fun v59 T59 h59 L59 X59 e59 z59 => ?_)
  obtain ⟨rfl, Nq59, K59, V_nb58'⟩ := z59; have N := Fr.app N Nq59
  have O := O.keep K59 (allS g_nb58 all0); have K := K.trans K59 (allS (Or.inr sz_nb58) all0)
  have V_nb58 := V_nb58'
  refine og_pop X59 hx rfl (hb hby d8_21) rfl ?_
  refine og_new (pc' := 25) (cells' := 2) (slots' := 14) X59 hx hZ hown (ow49 hw) (ow50 hw) (ow21 hw) e59 (hb hby d8_22) rfl rfl rfl (by decide) (by decide) (fun T60 h60 nb60 X60 e60 E60 q60 E_nb60 D60 B60 => ?_)
  have s_nb60 : h59.size ≤ nb60 := Nat.le_of_eq q60.symm; have g_nb60 : n0 ≤ nb60 := Nat.le_trans (own_n0 O) s_nb60; have sz_nb60 : h0.size ≤ nb60 := Nat.le_trans K.1 s_nb60; have ne_dO_nb60 : dO ≠ nb60 := O.ne V_dO.lt g_nb60; have ne_dT_nb60 : dT ≠ nb60 := O.ne V_dT.lt g_nb60; have ne_nb58_nb60 : nb58 ≠ nb60 := Nat.ne_of_lt (Nat.lt_of_lt_of_le V_nb58.lt s_nb60)
  have V_nb58 := V_nb58.ext E60; have O := O.ext E60; have K := K.ext E60
  have F_value_nb60 : Fld Z h60 nb60 "java/lang/String" "value" "[B" .null := D60 (Or.inr (ow57 hw)) (ty := (.array .byte)) (by decide)
  have F_coder_nb60 : Fld Z h60 nb60 "java/lang/String" "coder" "B" (.int 0) := D60 (Or.inr (ow59 hw)) (ty := .byte) (by decide)
  refine og_dup X60 hx rfl (hb hby d8_25) rfl ?_
  refine og_aloadN X60 hx rfl rfl (hb hby d8_26) rfl ?_
  refine og_iconst (v := 0) X60 hx rfl (hb hby d8_27) rfl ?_
  refine og_special (pc' := 31) (cells' := 2) (slots' := 14) (W := 1) X60 hx hZ (rm_si l Z a0 hw nb60 nb58 h60 n0 O E_nb60 F_value_nb60 F_coder_nb60 g_nb60) rfl hown (ow51 hw) (ow52 hw) (ow21 hw) (ow54 hw) (by decide) (by rw [hml]; rfl) e60 opd_3 [(.ref nb58), (.int 0)] [(.ref nb60)] rfl rfl rfl rfl (by decide) (by decide) rfl rfl (by decide) (by decide) (hb hby d8_28) rfl (fun v61 T61 h61 L61 X61 e61 z61 => ?_)
  obtain ⟨rfl, Nq61, K61, E_nb60', F_value_nb60', F_coder_nb60'⟩ := z61; have N := Fr.app N Nq61
  have V_nb58 := V_nb58.keep K61 (ninS ne_nb58_nb60 nin0); have E_nb60 := E_nb60.keep K61; have O := O.keep K61 (allS g_nb60 all0); have K := K.trans K61 (allS (Or.inr sz_nb60) all0)
  have E_nb60 := E_nb60'; have F_value_nb60 := F_value_nb60'; have F_coder_nb60 := F_coder_nb60'
  refine og_retR X61 hx hlk hret rfl rfl rfl (hb hby d8_31) (by decide) (by decide) ?_
  rw [e61]; exact ⟨_, _, _, _, _, rfl, N, K, sz_nb60, sz_nb58, E_nb60, F_value_nb60, F_coder_nb60, V_nb58, Or.inr (Or.inr (Or.inr (Or.inr (Or.inr (Or.inr (Or.inr (Or.inr (Or.inr (⟨rfl, g0, g1, g2, g3, g4, g5, g6, g7, g8, g9, rfl, hg0, hg1, hg2, hg3, hg4, hg5, hg6, hg7, hg8, hg9, hlo⟩)))))))))⟩
theorem rm_asi (l : Launch) (Z : State) (a0 : Array Value) (hw : HW a0 Z) (a1 : Addr) (cs : Int32) (hcs : ¬ cs = 0) (h0 : Heap) (n0 : Nat) (O : Old Z n0 h0) (E_a1 : Exa Z h0 a1 "java/lang/StringBuilder") (F_value_a1 : Fld Z h0 a1 "java/lang/AbstractStringBuilder" "value" "[B" .null) (F_coder_a1 : Fld Z h0 a1 "java/lang/AbstractStringBuilder" "coder" "B" (.int 0)) (F_count_a1 : Fld Z h0 a1 "java/lang/AbstractStringBuilder" "count" "I" (.int 0)) (S_CS : Sta Z Z.heap "java/lang/String" "COMPACT_STRINGS" "Z" (.int cs)) (g_a1 : n0 ≤ a1) :
  Con l Z (⟨"java/lang/AbstractStringBuilder", "<init>", "(I)V"⟩ : MethodName) jdk_68_method_2_code 2 none ({ frames := 1, cells := 1, slots := 4, locals := 12 } : Room) #[(.ref a1), (.int 4)] h0 (fun v h L => ∃ b k, v = none ∧ Fr n0 L ∧ Keep h0 h [a1] ∧ h0.size ≤ b ∧ Exa Z h a1 "java/lang/StringBuilder" ∧ Fld Z h a1 "java/lang/AbstractStringBuilder" "value" "[B" (.ref b) ∧ Fld Z h a1 "java/lang/AbstractStringBuilder" "coder" "B" (.int 0) ∧ Fld Z h a1 "java/lang/AbstractStringBuilder" "count" "I" (.int 0) ∧ Arv Z h b k .byte (4 : Int32) [(.int 0), (.int 0), (.int 0), (.int 0)] (.int 0) ∧ Exa Z h b "[B") := by
 refine own_startC opn_3 ?_
 intro p e s m below meth c T0 X0 hx hby hml hZ hown hnm hret hlk e0
 have N := Fr.nil n0; have K := Keep.refl h0 [a1]
 refine OG.cast (oef5 m a1 (4 : Int32)) ?_
 refine og_aloadN X0 hx rfl rfl (hb hby d3_0) rfl ?_
 refine og_initO (pc' := 4) X0 hx hZ (W := 0) (by rw [hml]; rfl) hown (ow17 hw) (ow18 hw) (ow19 hw) e0 rfl (by decide) (by decide) (hb hby d3_1) rfl (fun T11 X11 e11 => ?_)
 refine og_getstatic X11 hx hZ (host := "") hown (Or.inl (ow20 hw)) Via.refl e11 (S_CS.ext O.2) (hb hby d3_4) rfl (fun T12 X12 e12 => ?_)
 refine og_if_eq (pc1 := 25) (pc2 := 10) X12 hx (hb hby d3_7) (by decide) (by decide) rfl (fun q => absurd q hcs) (fun _ => ?_)
 refine og_aloadN X12 hx rfl rfl (hb hby d3_10) rfl ?_
 refine og_iloadN X12 hx rfl (hb hby d3_11) rfl ?_
 refine og_newarrayE (pc' := 14) (cells' := 1) (slots' := 4) (cap := 4) (ty := .byte) X12 hx hZ rfl (ow22 hw) e12 (by decide) (by decide) (by decide) rfl (hb hby d3_12) rfl rfl rfl (by decide) (by decide) (fun T13 h13 nb13 kA13 X13 e13 E13 q13 V_nb13 E_nb13 => ?_)
 have s_nb13 : h0.size ≤ nb13 := Nat.le_of_eq q13.symm; have g_nb13 : n0 ≤ nb13 := Nat.le_trans (own_n0 O) s_nb13; have sz_nb13 : h0.size ≤ nb13 := Nat.le_trans K.1 s_nb13; have ne_a1_nb13 : a1 ≠ nb13 := Nat.ne_of_lt (Nat.lt_of_lt_of_le E_a1.lt s_nb13)
 have E_a1 := E_a1.ext E13; have F_value_a1 := F_value_a1.ext E13; have F_coder_a1 := F_coder_a1.ext E13; have F_count_a1 := F_count_a1.ext E13; have O := O.ext E13; have K := K.ext E13
 have V_nb13 : Arv Z h13 nb13 kA13 .byte (4 : Int32) [(.int 0), (.int 0), (.int 0), (.int 0)] (.int 0) := V_nb13.pad (pad_rep [] (.int 0) 4)
 refine og_putfield X13 hx hZ (ty := (.array .byte)) (host := "") hown (Or.inl (ow23 hw)) Via.refl e13 F_value_a1 E_a1 (Or.inl (ow24 hw)) (ow6 hw) (by decide) rfl rfl (hb hby d3_14) rfl (fun T14 h14 X14 e14 W14 => ?_)
 have F_value_a1_ := F_value_a1.same W14
 have E_a1 := E_a1.wr W14; have F_coder_a1 := F_coder_a1.other W14 (Or.inr (slot_ne (Or.inl (ow26 hw)) (Or.inl (ow24 hw)) (by decide) (t := .byte) (t' := (.array .byte)) (by decide) (by decide))); have F_count_a1 := F_count_a1.other W14 (Or.inr (slot_ne (Or.inl (ow82 hw)) (Or.inl (ow24 hw)) (by decide) (t := .int) (t' := (.array .byte)) (by decide) (by decide))); have V_nb13 := V_nb13.other W14 (Ne.symm ne_a1_nb13); have E_nb13 := E_nb13.wr W14; have O := O.wr W14 g_a1
 have K := K.wr W14 (Or.inl (List.mem_of_getElem? (i := 0) rfl))
 have N := Fr.snoc X14 N g_a1; have F_value_a1 := F_value_a1_
 refine og_aloadN X14 hx rfl rfl (hb hby d3_17) rfl ?_
 refine og_iconst (v := 0) X14 hx rfl (hb hby d3_18) rfl ?_
 refine og_putfield X14 hx hZ (ty := .byte) (host := "") hown (Or.inl (ow25 hw)) Via.refl e14 F_coder_a1 E_a1 (Or.inl (ow26 hw)) (ow6 hw) (by decide) rfl rfl (hb hby d3_19) rfl (fun T15 h15 X15 e15 W15 => ?_)
 have F_coder_a1_ := F_coder_a1.same W15
 have E_a1 := E_a1.wr W15; have F_count_a1 := F_count_a1.other W15 (Or.inr (slot_ne (Or.inl (ow82 hw)) (Or.inl (ow26 hw)) (by decide) (t := .int) (t' := .byte) (by decide) (by decide))); have V_nb13 := V_nb13.other W15 (Ne.symm ne_a1_nb13); have E_nb13 := E_nb13.wr W15; have F_value_a1 := F_value_a1.other W15 (Or.inr (slot_ne (Or.inl (ow24 hw)) (Or.inl (ow26 hw)) (by decide) (t := (.array .byte)) (t' := .byte) (by decide) (by decide))); have O := O.wr W15 g_a1
 have K := K.wr W15 (Or.inl (List.mem_of_getElem? (i := 0) rfl))
 have N := Fr.snoc X15 N g_a1; have F_coder_a1 := F_coder_a1_
 refine og_goto (pc' := 38) X15 hx (hb hby d3_22) (by decide) (by decide) ?_
 refine og_retV X15 hx hlk hret (hb hby d3_38) (by decide) (by decide) ?_
 rw [e15]; exact ⟨_, _, rfl, N, K, sz_nb13, E_a1, F_value_a1, F_coder_a1, F_count_a1, V_nb13, E_nb13⟩
theorem rm_sbi (l : Launch) (Z : State) (a0 : Array Value) (hw : HW a0 Z) (a1 : Addr) (cs : Int32) (hcs : ¬ cs = 0) (h0 : Heap) (n0 : Nat) (O : Old Z n0 h0) (E_a1 : Exa Z h0 a1 "java/lang/StringBuilder") (F_value_a1 : Fld Z h0 a1 "java/lang/AbstractStringBuilder" "value" "[B" .null) (F_coder_a1 : Fld Z h0 a1 "java/lang/AbstractStringBuilder" "coder" "B" (.int 0)) (F_count_a1 : Fld Z h0 a1 "java/lang/AbstractStringBuilder" "count" "I" (.int 0)) (S_CS : Sta Z Z.heap "java/lang/String" "COMPACT_STRINGS" "Z" (.int cs)) (g_a1 : n0 ≤ a1) :
  Con l Z (⟨"java/lang/StringBuilder", "<init>", "(I)V"⟩ : MethodName) jdk_67_method_2_code 2 none ({ frames := 2, cells := 1, slots := 4, locals := 25 } : Room) #[(.ref a1), (.int 4)] h0 (fun v h L => ∃ b k, v = none ∧ Fr n0 L ∧ Keep h0 h [a1] ∧ h0.size ≤ b ∧ Exa Z h a1 "java/lang/StringBuilder" ∧ Fld Z h a1 "java/lang/AbstractStringBuilder" "value" "[B" (.ref b) ∧ Fld Z h a1 "java/lang/AbstractStringBuilder" "coder" "B" (.int 0) ∧ Fld Z h a1 "java/lang/AbstractStringBuilder" "count" "I" (.int 0) ∧ Arv Z h b k .byte (4 : Int32) [(.int 0), (.int 0), (.int 0), (.int 0)] (.int 0) ∧ Exa Z h b "[B") := by
 refine own_startC opn_2 ?_
 intro p e s m below meth c T0 X0 hx hby hml hZ hown hnm hret hlk e0
 have N := Fr.nil n0; have K := Keep.refl h0 [a1]
 refine OG.cast (oef5 m a1 (4 : Int32)) ?_
 refine og_aloadN X0 hx rfl rfl (hb hby d2_0) rfl ?_
 refine og_iloadN X0 hx rfl (hb hby d2_1) rfl ?_
 refine og_special (pc' := 5) (cells' := 1) (slots' := 4) (W := 0) X0 hx hZ (rm_asi l Z a0 hw a1 cs hcs h0 n0 O E_a1 F_value_a1 F_coder_a1 F_count_a1 S_CS g_a1) rfl hown (ow11 hw) (ow12 hw) (ow15 hw) (ow16 hw) (by decide) (by rw [hml]; rfl) e0 opd_4 [(.int 4)] [] rfl rfl rfl rfl (by decide) (by decide) rfl rfl (by decide) (by decide) (hb hby d2_2) rfl (fun v11 T11 h11 L11 X11 e11 z11 => ?_)
 obtain ⟨nb11, k11, rfl, Nq11, K11, sb11, E_a1', F_value_a1', F_coder_a1', F_count_a1', V_nb11, E_nb11⟩ := z11; have N := Fr.app N Nq11
 have s_nb11 : h0.size ≤ nb11 := sb11; have g_nb11 : n0 ≤ nb11 := Nat.le_trans (own_n0 O) s_nb11; have sz_nb11 : h0.size ≤ nb11 := Nat.le_trans K.1 s_nb11; have ne_a1_nb11 : a1 ≠ nb11 := Nat.ne_of_lt (Nat.lt_of_lt_of_le E_a1.lt s_nb11)
 have E_a1 := E_a1.keep K11; have O := O.keep K11 (allS g_a1 all0); have K := K.trans K11 (allS (Or.inl (List.mem_of_getElem? (i := 0) rfl)) all0)
 have E_a1 := E_a1'; have F_value_a1 := F_value_a1'; have F_coder_a1 := F_coder_a1'; have F_count_a1 := F_count_a1'
 refine og_retV X11 hx hlk hret (hb hby d2_5) (by decide) (by decide) ?_
 rw [e11]; exact ⟨_, _, rfl, N, K, sz_nb11, E_a1, F_value_a1, F_coder_a1, F_count_a1, V_nb11, E_nb11⟩
theorem rm_ail (l : Launch) (Z : State) (a0 : Array Value) (hw : HW a0 Z) (a1 : Addr) (cs : Int32) (hcs : ¬ cs = 0) (h0 : Heap) (n0 : Nat) (O : Old Z n0 h0) (F_coder_a1 : Fld Z h0 a1 "java/lang/AbstractStringBuilder" "coder" "B" (.int 0)) (S_CS : Sta Z Z.heap "java/lang/String" "COMPACT_STRINGS" "Z" (.int cs)) :
  Con l Z (⟨"java/lang/AbstractStringBuilder", "isLatin1", "()Z"⟩ : MethodName) jdk_68_method_68_code 1 (some .boolean) ({ frames := 0, cells := 0, slots := 0, locals := 0 } : Room) #[(.ref a1)] h0 (fun v h L => v = some (.int 1) ∧ Fr n0 L ∧ h = h0) := by
 refine own_startC opn_17 ?_
 intro p e s m below meth c T0 X0 hx hby hml hZ hown hnm hret hlk e0
 have N := Fr.nil n0; have K := Keep.refl h0 []
 refine OG.cast (oef0 m a1) ?_
 refine og_getstatic X0 hx hZ (host := "") hown (Or.inl (ow20 hw)) Via.refl e0 (S_CS.ext O.2) (hb hby d17_0) rfl (fun T11 X11 e11 => ?_)
 refine og_if_eq (pc1 := 17) (pc2 := 6) X11 hx (hb hby d17_3) (by decide) (by decide) rfl (fun q => absurd q hcs) (fun _ => ?_)
 refine og_aloadN X11 hx rfl rfl (hb hby d17_6) rfl ?_
 refine og_getfield X11 hx hZ (host := "") hown (Or.inl (ow25 hw)) Via.refl e11 F_coder_a1 (hb hby d17_7) rfl (fun T12 X12 e12 => ?_)
 refine og_if_ne (pc1 := 17) (pc2 := 13) X12 hx (hb hby d17_10) (by decide) (by decide) rfl (fun q => absurd q (by decide)) (fun _ => ?_)
 refine og_iconst (v := 1) X12 hx rfl (hb hby d17_13) rfl ?_
 refine og_goto (pc' := 18) X12 hx (hb hby d17_14) (by decide) (by decide) ?_
 refine og_retN X12 hx hlk hret (by simp) (hb hby d17_18) (by decide) (by decide) ?_
 rw [e12]; exact ⟨rfl, N, rfl⟩
theorem rm_ecN (l : Launch) (Z : State) (a0 : Array Value) (hw : HW a0 Z) (a1 bv : Addr) (kb : ClassId) (nn tt : Int32) (vs : List Value) (ht : ¬ 0 < tt - nn) (h0 : Heap) (n0 : Nat) (O : Old Z n0 h0) (F_value_a1 : Fld Z h0 a1 "java/lang/AbstractStringBuilder" "value" "[B" (.ref bv)) (F_coder_a1 : Fld Z h0 a1 "java/lang/AbstractStringBuilder" "coder" "B" (.int 0)) (V_bv : Arv Z h0 bv kb .byte nn vs (.int 0)) :
  Con l Z (⟨"java/lang/AbstractStringBuilder", "ensureCapacityInternal", "(I)V"⟩ : MethodName) jdk_68_method_9_code 3 none ({ frames := 0, cells := 0, slots := 0, locals := 0 } : Room) #[(.ref a1), (.int tt)] h0 (fun v h L => v = none ∧ Fr n0 L ∧ h = h0) := by
 refine own_startC opn_16 ?_
 intro p e s m below meth c T0 X0 hx hby hml hZ hown hnm hret hlk e0
 have N := Fr.nil n0; have K := Keep.refl h0 []
 refine OG.cast (oef6 m a1 tt) ?_
 refine og_aloadN X0 hx rfl rfl (hb hby d16_0) rfl ?_
 refine og_getfield X0 hx hZ (host := "") hown (Or.inl (ow23 hw)) Via.refl e0 F_value_a1 (hb hby d16_1) rfl (fun T11 X11 e11 => ?_)
 refine og_arraylength X11 hx hZ e11 V_bv (hb hby d16_4) rfl ?_
 refine og_aloadN X11 hx rfl rfl (hb hby d16_5) rfl ?_
 refine og_getfield X11 hx hZ (host := "") hown (Or.inl (ow25 hw)) Via.refl e11 F_coder_a1 (hb hby d16_6) rfl (fun T12 X12 e12 => ?_)
 refine og_ishr X12 hx (hb hby d16_9) rfl ?_
 rw [own_shr0]
 refine og_istoreN (L' := #[.val (.ref a1), .val (.int tt), .val (.int nn)]) X12 hx rfl (hb hby d16_10) rfl ?_
 refine og_iloadN X12 hx rfl (hb hby d16_11) rfl ?_
 refine og_iloadN X12 hx rfl (hb hby d16_12) rfl ?_
 refine og_isub X12 hx (hb hby d16_13) rfl ?_
 refine og_if_le (pc1 := 38) (pc2 := 17) X12 hx (hb hby d16_14) (by decide) (by decide) rfl (fun _ => ?_) (fun q => absurd q ht)
 refine og_retV X12 hx hlk hret (hb hby d16_38) (by decide) (by decide) ?_
 rw [e12]; exact ⟨rfl, N, rfl⟩
theorem rm_max_1_6 (l : Launch) (Z : State) (a0 : Array Value) (hw : HW a0 Z)  (h0 : Heap) (n0 : Nat) (O : Old Z n0 h0) :
  Con l Z (⟨"java/lang/Math", "max", "(II)I"⟩ : MethodName) jdk_29_method_65_code 2 (some .int) ({ frames := 0, cells := 0, slots := 0, locals := 0 } : Room) #[(.int 1), (.int 6)] h0 (fun v h L => v = some (.int 6) ∧ Fr n0 L ∧ h = h0) := by
 refine own_startC opn_39 ?_
 intro p e s m below meth c T0 X0 hx hby hml hZ hown hnm hret hlk e0
 have N := Fr.nil n0; have K := Keep.refl h0 []
 refine OG.cast (oef7 m (1 : Int32) (6 : Int32)) ?_
 refine og_iloadN X0 hx rfl (hb hby d39_0) rfl ?_
 refine og_iloadN X0 hx rfl (hb hby d39_1) rfl ?_
 refine og_icmp_lt (pc1 := 9) (pc2 := 5) X0 hx (hb hby d39_2) (by decide) (by decide) rfl (fun _ => ?_) (fun q => absurd q (by decide))
 refine og_iloadN X0 hx rfl (hb hby d39_9) rfl ?_
 refine og_retI X0 hx hlk hret (hb hby d39_10) (by decide) (by decide) ?_
 rw [e0]; exact ⟨rfl, N, rfl⟩
theorem rm_nl_5 (l : Launch) (Z : State) (a0 : Array Value) (hw : HW a0 Z)  (h0 : Heap) (n0 : Nat) (O : Old Z n0 h0) :
  Con l Z (⟨"jdk/internal/util/ArraysSupport", "newLength", "(III)I"⟩ : MethodName) jdk_48_method_27_code 4 (some .int) ({ frames := 1, cells := 0, slots := 0, locals := 14 } : Room) #[(.int 4), (.int 1), (.int 6)] h0 (fun v h L => v = some (.int 10) ∧ Fr n0 L ∧ h = h0) := by
 refine own_startC opn_38 ?_
 intro p e s m below meth c T0 X0 hx hby hml hZ hown hnm hret hlk e0
 have N := Fr.nil n0; have K := Keep.refl h0 []
 refine OG.cast (oef8 m (4 : Int32) (1 : Int32) (6 : Int32)) ?_
 refine og_iloadN X0 hx rfl (hb hby d38_0) rfl ?_
 refine og_iloadN X0 hx rfl (hb hby d38_1) rfl ?_
 refine og_iloadN X0 hx rfl (hb hby d38_2) rfl ?_
 refine og_static (pc' := 6) (cells' := 0) (slots' := 0) (W := 1) X0 hx hZ (rm_max_1_6 l Z a0 hw h0 n0 O) hown (ow207 hw) (ow208 hw) (ow32 hw) (ow209 hw) (by decide) (by rw [hml]; rfl) e0 opd_5 [(.int 1), (.int 6)] [(.int 4)] rfl rfl rfl rfl (by decide) (by decide) rfl rfl (by decide) (by decide) (hb hby d38_3) rfl (fun v11 T11 h11 L11 X11 e11 z11 => ?_)
 obtain ⟨rfl, Nq11, hq11⟩ := z11; replace e11 := e11.trans hq11; have N := Fr.app N Nq11
 refine og_iadd X11 hx (hb hby d38_6) rfl ?_
 show OG p e below _ (T11.setTop (mkF m 7 #[.val (.int 4), .val (.int 1), .val (.int 6), .unset] [(.int 10)]))
 refine og_istoreN (L' := #[.val (.int 4), .val (.int 1), .val (.int 6), .val (.int 10)]) X11 hx rfl (hb hby d38_7) rfl ?_
 refine og_iconst (v := 0) X11 hx rfl (hb hby d38_8) rfl ?_
 refine og_iloadN X11 hx rfl (hb hby d38_9) rfl ?_
 refine og_icmp_ge (pc1 := 21) (pc2 := 13) X11 hx (hb hby d38_10) (by decide) (by decide) rfl (fun q => absurd q (by decide)) (fun _ => ?_)
 refine og_iloadN X11 hx rfl (hb hby d38_13) rfl ?_
 refine og_ldc X11 hx hZ hown (ow210 hw) (hb hby d38_14) rfl ?_
 refine og_icmp_gt (pc1 := 21) (pc2 := 19) X11 hx (hb hby d38_16) (by decide) (by decide) rfl (fun q => absurd q (by decide)) (fun _ => ?_)
 refine og_iloadN X11 hx rfl (hb hby d38_19) rfl ?_
 refine og_retI X11 hx hlk hret (hb hby d38_20) (by decide) (by decide) ?_
 rw [e11]; exact ⟨rfl, N, rfl⟩
theorem rm_ncp_5 (l : Launch) (Z : State) (a0 : Array Value) (hw : HW a0 Z) (a1 bv : Addr) (kb : ClassId) (vs : List Value) (h0 : Heap) (n0 : Nat) (O : Old Z n0 h0) (F_value_a1 : Fld Z h0 a1 "java/lang/AbstractStringBuilder" "value" "[B" (.ref bv)) (F_coder_a1 : Fld Z h0 a1 "java/lang/AbstractStringBuilder" "coder" "B" (.int 0)) (V_bv : Arv Z h0 bv kb .byte (4 : Int32) vs (.int 0)) :
  Con l Z (⟨"java/lang/AbstractStringBuilder", "newCapacity", "(I)I"⟩ : MethodName) jdk_68_method_10_code 6 (some .int) ({ frames := 2, cells := 0, slots := 0, locals := 29 } : Room) #[(.ref a1), (.int 5)] h0 (fun v h L => v = some (.int 10) ∧ Fr n0 L ∧ h = h0) := by
 refine own_startC opn_37 ?_
 intro p e s m below meth c T0 X0 hx hby hml hZ hown hnm hret hlk e0
 have N := Fr.nil n0; have K := Keep.refl h0 []
 refine OG.cast (oef9 m a1 (5 : Int32)) ?_
 refine og_aloadN X0 hx rfl rfl (hb hby d37_0) rfl ?_
 refine og_getfield X0 hx hZ (host := "") hown (Or.inl (ow23 hw)) Via.refl e0 F_value_a1 (hb hby d37_1) rfl (fun T11 X11 e11 => ?_)
 refine og_arraylength X11 hx hZ e11 V_bv (hb hby d37_4) rfl ?_
 refine og_istoreN (L' := #[.val (.ref a1), .val (.int 5), .val (.int 4), .unset, .unset, .unset]) X11 hx rfl (hb hby d37_5) rfl ?_
 refine og_iloadN X11 hx rfl (hb hby d37_6) rfl ?_
 refine og_aloadN X11 hx rfl rfl (hb hby d37_7) rfl ?_
 refine og_getfield X11 hx hZ (host := "") hown (Or.inl (ow25 hw)) Via.refl e11 F_coder_a1 (hb hby d37_8) rfl (fun T12 X12 e12 => ?_)
 refine og_ishl X12 hx (hb hby d37_11) rfl ?_
 show OG p e below _ (T12.setTop (mkF m 12 #[.val (.ref a1), .val (.int 5), .val (.int 4), .unset, .unset, .unset] [(.int 5)]))
 refine og_istoreN (L' := #[.val (.ref a1), .val (.int 5), .val (.int 4), .val (.int 5), .unset, .unset]) X12 hx rfl (hb hby d37_12) rfl ?_
 refine og_iloadN X12 hx rfl (hb hby d37_13) rfl ?_
 refine og_iloadN X12 hx rfl (hb hby d37_14) rfl ?_
 refine og_isub X12 hx (hb hby d37_15) rfl ?_
 show OG p e below _ (T12.setTop (mkF m 16 #[.val (.ref a1), .val (.int 5), .val (.int 4), .val (.int 5), .unset, .unset] [(.int 1)]))
 refine og_istore (L' := #[.val (.ref a1), .val (.int 5), .val (.int 4), .val (.int 5), .val (.int 1), .unset]) X12 hx rfl (hb hby d37_16) rfl ?_
 refine og_iloadN X12 hx rfl (hb hby d37_18) rfl ?_
 refine og_iload X12 hx rfl (hb hby d37_19) rfl ?_
 refine og_iloadN X12 hx rfl (hb hby d37_21) rfl ?_
 refine og_iconst (v := 2) X12 hx rfl (hb hby d37_22) rfl ?_
 refine og_aloadN X12 hx rfl rfl (hb hby d37_23) rfl ?_
 refine og_getfield X12 hx hZ (host := "") hown (Or.inl (ow25 hw)) Via.refl e12 F_coder_a1 (hb hby d37_24) rfl (fun T13 X13 e13 => ?_)
 refine og_ishl X13 hx (hb hby d37_27) rfl ?_
 show OG p e below _ (T13.setTop (mkF m 28 #[.val (.ref a1), .val (.int 5), .val (.int 4), .val (.int 5), .val (.int 1), .unset] [(.int 2), (.int 4), (.int 1), (.int 4)]))
 refine og_iadd X13 hx (hb hby d37_28) rfl ?_
 show OG p e below _ (T13.setTop (mkF m 29 #[.val (.ref a1), .val (.int 5), .val (.int 4), .val (.int 5), .val (.int 1), .unset] [(.int 6), (.int 1), (.int 4)]))
 refine og_static (pc' := 32) (cells' := 0) (slots' := 0) (W := 0) X13 hx hZ (rm_nl_5 l Z a0 hw h0 n0 O) hown (ow203 hw) (ow204 hw) (ow205 hw) (ow206 hw) (by decide) (by rw [hml]; rfl) e13 opd_6 [(.int 4), (.int 1), (.int 6)] [] rfl rfl rfl rfl (by decide) (by decide) rfl rfl (by decide) (by decide) (hb hby d37_29) rfl (fun v14 T14 h14 L14 X14 e14 z14 => ?_)
 obtain ⟨rfl, Nq14, hq14⟩ := z14; replace e14 := e14.trans hq14; have N := Fr.app N Nq14
 refine og_istore (L' := #[.val (.ref a1), .val (.int 5), .val (.int 4), .val (.int 5), .val (.int 1), .val (.int 10)]) X14 hx rfl (hb hby d37_32) rfl ?_
 refine og_iload X14 hx rfl (hb hby d37_34) rfl ?_
 refine og_ldc X14 hx hZ hown (ow211 hw) (hb hby d37_36) rfl ?_
 refine og_icmp_ne (pc1 := 51) (pc2 := 41) X14 hx (hb hby d37_38) (by decide) (by decide) rfl (fun _ => ?_) (fun q => absurd q (by decide))
 refine og_iload X14 hx rfl (hb hby d37_51) rfl ?_
 refine og_aloadN X14 hx rfl rfl (hb hby d37_53) rfl ?_
 refine og_getfield X14 hx hZ (host := "") hown (Or.inl (ow25 hw)) Via.refl e14 F_coder_a1 (hb hby d37_54) rfl (fun T15 X15 e15 => ?_)
 refine og_ishr X15 hx (hb hby d37_57) rfl ?_
 show OG p e below _ (T15.setTop (mkF m 58 #[.val (.ref a1), .val (.int 5), .val (.int 4), .val (.int 5), .val (.int 1), .val (.int 10)] [(.int 10)]))
 refine og_retI X15 hx hlk hret (hb hby d37_58) (by decide) (by decide) ?_
 rw [e15]; exact ⟨rfl, N, rfl⟩
theorem rm_min_4_10 (l : Launch) (Z : State) (a0 : Array Value) (hw : HW a0 Z)  (h0 : Heap) (n0 : Nat) (O : Old Z n0 h0) :
  Con l Z (⟨"java/lang/Math", "min", "(II)I"⟩ : MethodName) jdk_29_method_69_code 2 (some .int) ({ frames := 0, cells := 0, slots := 0, locals := 0 } : Room) #[(.int 4), (.int 10)] h0 (fun v h L => v = some (.int 4) ∧ Fr n0 L ∧ h = h0) := by
 refine own_startC opn_41 ?_
 intro p e s m below meth c T0 X0 hx hby hml hZ hown hnm hret hlk e0
 have N := Fr.nil n0; have K := Keep.refl h0 []
 refine OG.cast (oef7 m (4 : Int32) (10 : Int32)) ?_
 refine og_iloadN X0 hx rfl (hb hby d41_0) rfl ?_
 refine og_iloadN X0 hx rfl (hb hby d41_1) rfl ?_
 refine og_icmp_gt (pc1 := 9) (pc2 := 5) X0 hx (hb hby d41_2) (by decide) (by decide) rfl (fun q => absurd q (by decide)) (fun _ => ?_)
 refine og_iloadN X0 hx rfl (hb hby d41_5) rfl ?_
 refine og_goto (pc' := 10) X0 hx (hb hby d41_6) (by decide) (by decide) ?_
 refine og_retI X0 hx hlk hret (hb hby d41_10) (by decide) (by decide) ?_
 rw [e0]; exact ⟨rfl, N, rfl⟩
theorem rm_cpo_4_10 (l : Launch) (Z : State) (a0 : Array Value) (hw : HW a0 Z) (ba : Addr) (kb : ClassId) (v0 v1 v2 v3 : Int32) (h0 : Heap) (n0 : Nat) (O : Old Z n0 h0) (V_ba : Arv Z h0 ba kb .byte (4 : Int32) [(.int v0), (.int v1), (.int v2), (.int v3)] (.int 0)) :
  Con l Z (⟨"java/util/Arrays", "copyOf", "([BI)[B"⟩ : MethodName) jdk_65_method_121_code 3 (some (.array .byte)) ({ frames := 1, cells := 1, slots := 10, locals := 18 } : Room) #[(.ref ba), (.int 10)] h0 (fun v h L => ∃ b k, v = some (.ref b) ∧ Fr n0 L ∧ Keep h0 h [] ∧ h0.size ≤ b ∧ Arv Z h b k .byte (10 : Int32) [(.int v0), (.int v1), (.int v2), (.int v3), (.int 0), (.int 0), (.int 0), (.int 0), (.int 0), (.int 0)] (.int 0) ∧ Exa Z h b "[B") := by
 refine own_startC opn_40 ?_
 intro p e s m below meth c T0 X0 hx hby hml hZ hown hnm hret hlk e0
 have N := Fr.nil n0; have K := Keep.refl h0 []
 refine OG.cast (oef6 m ba (10 : Int32)) ?_
 refine og_iloadN X0 hx rfl (hb hby d40_0) rfl ?_
 refine og_aloadN X0 hx rfl rfl (hb hby d40_1) rfl ?_
 refine og_arraylength X0 hx hZ e0 V_ba (hb hby d40_2) rfl ?_
 refine og_icmp_ne (pc1 := 14) (pc2 := 6) X0 hx (hb hby d40_3) (by decide) (by decide) rfl (fun _ => ?_) (fun q => absurd q (by decide))
 refine og_iloadN X0 hx rfl (hb hby d40_14) rfl ?_
 refine og_newarrayE (pc' := 17) (cells' := 1) (slots' := 10) (cap := 10) (ty := .byte) X0 hx hZ rfl (ow22 hw) e0 (by decide) (by decide) (by decide) rfl (hb hby d40_15) rfl rfl rfl (by decide) (by decide) (fun T11 h11 nb11 kA11 X11 e11 E11 q11 V_nb11 E_nb11 => ?_)
 have s_nb11 : h0.size ≤ nb11 := Nat.le_of_eq q11.symm; have g_nb11 : n0 ≤ nb11 := Nat.le_trans (own_n0 O) s_nb11; have sz_nb11 : h0.size ≤ nb11 := Nat.le_trans K.1 s_nb11; have ne_ba_nb11 : ba ≠ nb11 := Nat.ne_of_lt (Nat.lt_of_lt_of_le V_ba.lt s_nb11)
 have V_ba := V_ba.ext E11; have O := O.ext E11; have K := K.ext E11
 have V_nb11 : Arv Z h11 nb11 kA11 .byte (10 : Int32) [(.int 0), (.int 0), (.int 0), (.int 0), (.int 0), (.int 0), (.int 0), (.int 0), (.int 0), (.int 0)] (.int 0) := V_nb11.pad (pad_rep [] (.int 0) 10)
 refine og_astoreN (L' := #[.val (.ref ba), .val (.int 10), .val (.ref nb11)]) X11 hx rfl rfl (hb hby d40_17) rfl ?_
 refine og_aloadN X11 hx rfl rfl (hb hby d40_18) rfl ?_
 refine og_iconst (v := 0) X11 hx rfl (hb hby d40_19) rfl ?_
 refine og_aloadN X11 hx rfl rfl (hb hby d40_20) rfl ?_
 refine og_iconst (v := 0) X11 hx rfl (hb hby d40_21) rfl ?_
 refine og_aloadN X11 hx rfl rfl (hb hby d40_22) rfl ?_
 refine og_arraylength X11 hx hZ e11 V_ba (hb hby d40_23) rfl ?_
 refine og_iloadN X11 hx rfl (hb hby d40_24) rfl ?_
 refine og_static (pc' := 28) (cells' := 1) (slots' := 10) (W := 4) X11 hx hZ (rm_min_4_10 l Z a0 hw h11 n0 O) hown (ow215 hw) (ow216 hw) (ow32 hw) (ow217 hw) (by decide) (by rw [hml]; rfl) e11 opd_5 [(.int 4), (.int 10)] [(.int 0), (.ref nb11), (.int 0), (.ref ba)] rfl rfl rfl rfl (by decide) (by decide) rfl rfl (by decide) (by decide) (hb hby d40_25) rfl (fun v12 T12 h12 L12 X12 e12 z12 => ?_)
 obtain ⟨rfl, Nq12, hq12⟩ := z12; replace e12 := e12.trans hq12; have N := Fr.app N Nq12
 refine og_arraycopy (pc' := 31) (W := 0) (us := [(.int v0), (.int v1), (.int v2), (.int v3)]) X12 hx hZ (by rw [hml]; rfl) hown (ow218 hw) (ow126 hw) (ow124 hw) (ow125 hw) e12 V_ba V_nb11 rfl (by decide) (by decide) (by decide) (by decide) (by decide) rfl (Nat.le_of_ble_eq_true rfl) N g_nb11 rfl (by decide) (by decide) (hb hby d40_28) rfl (fun T13 h13 l13 X13 e13 N K13 V13 => ?_)
 have V_ba := V_ba.keep K13 (ninS ne_ba_nb11 nin0); have E_nb11 := E_nb11.keep K13; have O := O.keep K13 (allS g_nb11 all0); have K := K.trans K13 (allS (Or.inr sz_nb11) all0)
 have V_nb11 : Arv Z h13 nb11 kA11 .byte (10 : Int32) [(.int v0), (.int v1), (.int v2), (.int v3), (.int 0), (.int 0), (.int 0), (.int 0), (.int 0), (.int 0)] (.int 0) := V13
 refine og_aloadN X13 hx rfl rfl (hb hby d40_31) rfl ?_
 refine og_retR X13 hx hlk hret rfl rfl rfl (hb hby d40_32) (by decide) (by decide) ?_
 rw [e13]; exact ⟨_, _, rfl, N, K, sz_nb11, V_nb11, E_nb11⟩
theorem rm_ec_5 (l : Launch) (Z : State) (a0 : Array Value) (hw : HW a0 Z) (a1 bv : Addr) (kb : ClassId) (cn v0 v1 v2 v3 : Int32) (h0 : Heap) (n0 : Nat) (O : Old Z n0 h0) (E_a1 : Exa Z h0 a1 "java/lang/StringBuilder") (F_value_a1 : Fld Z h0 a1 "java/lang/AbstractStringBuilder" "value" "[B" (.ref bv)) (F_coder_a1 : Fld Z h0 a1 "java/lang/AbstractStringBuilder" "coder" "B" (.int 0)) (F_count_a1 : Fld Z h0 a1 "java/lang/AbstractStringBuilder" "count" "I" (.int cn)) (V_bv : Arv Z h0 bv kb .byte (4 : Int32) [(.int v0), (.int v1), (.int v2), (.int v3)] (.int 0)) (g_a1 : n0 ≤ a1) (ne_a1_bv : a1 ≠ bv) :
  Con l Z (⟨"java/lang/AbstractStringBuilder", "ensureCapacityInternal", "(I)V"⟩ : MethodName) jdk_68_method_9_code 3 none ({ frames := 3, cells := 1, slots := 11, locals := 48 } : Room) #[(.ref a1), (.int 5)] h0 (fun v h L => ∃ b k, v = none ∧ Fr n0 L ∧ Keep h0 h [a1] ∧ h0.size ≤ b ∧ Exa Z h a1 "java/lang/StringBuilder" ∧ Fld Z h a1 "java/lang/AbstractStringBuilder" "value" "[B" (.ref b) ∧ Fld Z h a1 "java/lang/AbstractStringBuilder" "coder" "B" (.int 0) ∧ Fld Z h a1 "java/lang/AbstractStringBuilder" "count" "I" (.int cn) ∧ Arv Z h b k .byte (10 : Int32) [(.int v0), (.int v1), (.int v2), (.int v3), (.int 0), (.int 0), (.int 0), (.int 0), (.int 0), (.int 0)] (.int 0) ∧ Exa Z h b "[B") := by
 refine own_startC opn_16 ?_
 intro p e s m below meth c T0 X0 hx hby hml hZ hown hnm hret hlk e0
 have N := Fr.nil n0; have K := Keep.refl h0 [a1]
 refine OG.cast (oef6 m a1 (5 : Int32)) ?_
 refine og_aloadN X0 hx rfl rfl (hb hby d16_0) rfl ?_
 refine og_getfield X0 hx hZ (host := "") hown (Or.inl (ow23 hw)) Via.refl e0 F_value_a1 (hb hby d16_1) rfl (fun T11 X11 e11 => ?_)
 refine og_arraylength X11 hx hZ e11 V_bv (hb hby d16_4) rfl ?_
 refine og_aloadN X11 hx rfl rfl (hb hby d16_5) rfl ?_
 refine og_getfield X11 hx hZ (host := "") hown (Or.inl (ow25 hw)) Via.refl e11 F_coder_a1 (hb hby d16_6) rfl (fun T12 X12 e12 => ?_)
 refine og_ishr X12 hx (hb hby d16_9) rfl ?_
 show OG p e below _ (T12.setTop (mkF m 10 #[.val (.ref a1), .val (.int 5), .unset] [(.int 4)]))
 refine og_istoreN (L' := #[.val (.ref a1), .val (.int 5), .val (.int 4)]) X12 hx rfl (hb hby d16_10) rfl ?_
 refine og_iloadN X12 hx rfl (hb hby d16_11) rfl ?_
 refine og_iloadN X12 hx rfl (hb hby d16_12) rfl ?_
 refine og_isub X12 hx (hb hby d16_13) rfl ?_
 show OG p e below _ (T12.setTop (mkF m 14 #[.val (.ref a1), .val (.int 5), .val (.int 4)] [(.int 1)]))
 refine og_if_le (pc1 := 38) (pc2 := 17) X12 hx (hb hby d16_14) (by decide) (by decide) rfl (fun q => absurd q (by decide)) (fun _ => ?_)
 refine og_aloadN X12 hx rfl rfl (hb hby d16_17) rfl ?_
 refine og_aloadN X12 hx rfl rfl (hb hby d16_18) rfl ?_
 refine og_getfield X12 hx hZ (host := "") hown (Or.inl (ow23 hw)) Via.refl e12 F_value_a1 (hb hby d16_19) rfl (fun T13 X13 e13 => ?_)
 refine og_aloadN X13 hx rfl rfl (hb hby d16_22) rfl ?_
 refine og_iloadN X13 hx rfl (hb hby d16_23) rfl ?_
 refine og_private (pc' := 27) (cells' := 0) (slots' := 0) (W := 2) X13 hx hZ (rm_ncp_5 l Z a0 hw a1 bv kb _ h0 n0 O F_value_a1 F_coder_a1 V_bv) hown (ow198 hw) (ow199 hw) (own_selfp (ow201 hw) (ow199 hw) (ow200 hw) (by decide)) (ow200 hw) (ow15 hw) (ow202 hw) (by decide) (by rw [hml]; rfl) e13 opd_1 [(.int 5)] [(.ref bv), (.ref a1)] rfl rfl rfl rfl (by decide) (by decide) rfl rfl (by decide) (by decide) E_a1 (hb hby d16_24) rfl (fun v14 T14 h14 L14 X14 e14 z14 => ?_)
 obtain ⟨rfl, Nq14, hq14⟩ := z14; replace e14 := e14.trans hq14; have N := Fr.app N Nq14
 refine og_aloadN X14 hx rfl rfl (hb hby d16_27) rfl ?_
 refine og_getfield X14 hx hZ (host := "") hown (Or.inl (ow25 hw)) Via.refl e14 F_coder_a1 (hb hby d16_28) rfl (fun T15 X15 e15 => ?_)
 refine og_ishl X15 hx (hb hby d16_31) rfl ?_
 show OG p e below _ (T15.setTop (mkF m 32 #[.val (.ref a1), .val (.int 5), .val (.int 4)] [(.int 10), (.ref bv), (.ref a1)]))
 refine og_static (pc' := 35) (cells' := 1) (slots' := 10) (W := 1) X15 hx hZ (rm_cpo_4_10 l Z a0 hw bv kb v0 v1 v2 v3 h0 n0 O V_bv) hown (ow212 hw) (ow213 hw) (ow155 hw) (ow214 hw) (by decide) (by rw [hml]; rfl) e15 opd_7 [(.ref bv), (.int 10)] [(.ref a1)] rfl rfl rfl rfl (by decide) (by decide) rfl rfl (by decide) (by decide) (hb hby d16_32) rfl (fun v16 T16 h16 L16 X16 e16 z16 => ?_)
 obtain ⟨nb16, k16, rfl, Nq16, K16, sb16, V_nb16, E_nb16⟩ := z16; have N := Fr.app N Nq16
 have s_nb16 : h0.size ≤ nb16 := sb16; have g_nb16 : n0 ≤ nb16 := Nat.le_trans (own_n0 O) s_nb16; have sz_nb16 : h0.size ≤ nb16 := Nat.le_trans K.1 s_nb16; have ne_a1_nb16 : a1 ≠ nb16 := Nat.ne_of_lt (Nat.lt_of_lt_of_le E_a1.lt s_nb16); have ne_bv_nb16 : bv ≠ nb16 := Nat.ne_of_lt (Nat.lt_of_lt_of_le V_bv.lt s_nb16)
 have E_a1 := E_a1.keep K16; have F_value_a1 := F_value_a1.keep K16 nin0; have F_coder_a1 := F_coder_a1.keep K16 nin0; have F_count_a1 := F_count_a1.keep K16 nin0; have V_bv := V_bv.keep K16 nin0; have O := O.keep K16 all0
 have K := K.trans K16 all0
 refine og_putfield X16 hx hZ (ty := (.array .byte)) (host := "") hown (Or.inl (ow23 hw)) Via.refl e16 F_value_a1 E_a1 (Or.inl (ow24 hw)) (ow6 hw) (by decide) rfl rfl (hb hby d16_35) rfl (fun T17 h17 X17 e17 W17 => ?_)
 have F_value_a1_ := F_value_a1.same W17
 have E_a1 := E_a1.wr W17; have F_coder_a1 := F_coder_a1.other W17 (Or.inr (slot_ne (Or.inl (ow26 hw)) (Or.inl (ow24 hw)) (by decide) (t := .byte) (t' := (.array .byte)) (by decide) (by decide))); have F_count_a1 := F_count_a1.other W17 (Or.inr (slot_ne (Or.inl (ow82 hw)) (Or.inl (ow24 hw)) (by decide) (t := .int) (t' := (.array .byte)) (by decide) (by decide))); have V_bv := V_bv.other W17 (Ne.symm ne_a1_bv); have V_nb16 := V_nb16.other W17 (Ne.symm ne_a1_nb16); have E_nb16 := E_nb16.wr W17
 have O := O.wr W17 g_a1; have K := K.wr W17 (Or.inl (List.mem_of_getElem? (i := 0) rfl))
 have N := Fr.snoc X17 N g_a1; have F_value_a1 := F_value_a1_
 refine og_retV X17 hx hlk hret (hb hby d16_38) (by decide) (by decide) ?_
 rw [e17]; exact ⟨_, _, rfl, N, K, sz_nb16, E_a1, F_value_a1, F_coder_a1, F_count_a1, V_nb16, E_nb16⟩
theorem rm_max_2_6 (l : Launch) (Z : State) (a0 : Array Value) (hw : HW a0 Z)  (h0 : Heap) (n0 : Nat) (O : Old Z n0 h0) :
  Con l Z (⟨"java/lang/Math", "max", "(II)I"⟩ : MethodName) jdk_29_method_65_code 2 (some .int) ({ frames := 0, cells := 0, slots := 0, locals := 0 } : Room) #[(.int 2), (.int 6)] h0 (fun v h L => v = some (.int 6) ∧ Fr n0 L ∧ h = h0) := by
 refine own_startC opn_39 ?_
 intro p e s m below meth c T0 X0 hx hby hml hZ hown hnm hret hlk e0
 have N := Fr.nil n0; have K := Keep.refl h0 []
 refine OG.cast (oef7 m (2 : Int32) (6 : Int32)) ?_
 refine og_iloadN X0 hx rfl (hb hby d39_0) rfl ?_
 refine og_iloadN X0 hx rfl (hb hby d39_1) rfl ?_
 refine og_icmp_lt (pc1 := 9) (pc2 := 5) X0 hx (hb hby d39_2) (by decide) (by decide) rfl (fun _ => ?_) (fun q => absurd q (by decide))
 refine og_iloadN X0 hx rfl (hb hby d39_9) rfl ?_
 refine og_retI X0 hx hlk hret (hb hby d39_10) (by decide) (by decide) ?_
 rw [e0]; exact ⟨rfl, N, rfl⟩
theorem rm_nl_6 (l : Launch) (Z : State) (a0 : Array Value) (hw : HW a0 Z)  (h0 : Heap) (n0 : Nat) (O : Old Z n0 h0) :
  Con l Z (⟨"jdk/internal/util/ArraysSupport", "newLength", "(III)I"⟩ : MethodName) jdk_48_method_27_code 4 (some .int) ({ frames := 1, cells := 0, slots := 0, locals := 14 } : Room) #[(.int 4), (.int 2), (.int 6)] h0 (fun v h L => v = some (.int 10) ∧ Fr n0 L ∧ h = h0) := by
 refine own_startC opn_38 ?_
 intro p e s m below meth c T0 X0 hx hby hml hZ hown hnm hret hlk e0
 have N := Fr.nil n0; have K := Keep.refl h0 []
 refine OG.cast (oef8 m (4 : Int32) (2 : Int32) (6 : Int32)) ?_
 refine og_iloadN X0 hx rfl (hb hby d38_0) rfl ?_
 refine og_iloadN X0 hx rfl (hb hby d38_1) rfl ?_
 refine og_iloadN X0 hx rfl (hb hby d38_2) rfl ?_
 refine og_static (pc' := 6) (cells' := 0) (slots' := 0) (W := 1) X0 hx hZ (rm_max_2_6 l Z a0 hw h0 n0 O) hown (ow207 hw) (ow208 hw) (ow32 hw) (ow209 hw) (by decide) (by rw [hml]; rfl) e0 opd_5 [(.int 2), (.int 6)] [(.int 4)] rfl rfl rfl rfl (by decide) (by decide) rfl rfl (by decide) (by decide) (hb hby d38_3) rfl (fun v11 T11 h11 L11 X11 e11 z11 => ?_)
 obtain ⟨rfl, Nq11, hq11⟩ := z11; replace e11 := e11.trans hq11; have N := Fr.app N Nq11
 refine og_iadd X11 hx (hb hby d38_6) rfl ?_
 show OG p e below _ (T11.setTop (mkF m 7 #[.val (.int 4), .val (.int 2), .val (.int 6), .unset] [(.int 10)]))
 refine og_istoreN (L' := #[.val (.int 4), .val (.int 2), .val (.int 6), .val (.int 10)]) X11 hx rfl (hb hby d38_7) rfl ?_
 refine og_iconst (v := 0) X11 hx rfl (hb hby d38_8) rfl ?_
 refine og_iloadN X11 hx rfl (hb hby d38_9) rfl ?_
 refine og_icmp_ge (pc1 := 21) (pc2 := 13) X11 hx (hb hby d38_10) (by decide) (by decide) rfl (fun q => absurd q (by decide)) (fun _ => ?_)
 refine og_iloadN X11 hx rfl (hb hby d38_13) rfl ?_
 refine og_ldc X11 hx hZ hown (ow210 hw) (hb hby d38_14) rfl ?_
 refine og_icmp_gt (pc1 := 21) (pc2 := 19) X11 hx (hb hby d38_16) (by decide) (by decide) rfl (fun q => absurd q (by decide)) (fun _ => ?_)
 refine og_iloadN X11 hx rfl (hb hby d38_19) rfl ?_
 refine og_retI X11 hx hlk hret (hb hby d38_20) (by decide) (by decide) ?_
 rw [e11]; exact ⟨rfl, N, rfl⟩
theorem rm_ncp_6 (l : Launch) (Z : State) (a0 : Array Value) (hw : HW a0 Z) (a1 bv : Addr) (kb : ClassId) (vs : List Value) (h0 : Heap) (n0 : Nat) (O : Old Z n0 h0) (F_value_a1 : Fld Z h0 a1 "java/lang/AbstractStringBuilder" "value" "[B" (.ref bv)) (F_coder_a1 : Fld Z h0 a1 "java/lang/AbstractStringBuilder" "coder" "B" (.int 0)) (V_bv : Arv Z h0 bv kb .byte (4 : Int32) vs (.int 0)) :
  Con l Z (⟨"java/lang/AbstractStringBuilder", "newCapacity", "(I)I"⟩ : MethodName) jdk_68_method_10_code 6 (some .int) ({ frames := 2, cells := 0, slots := 0, locals := 29 } : Room) #[(.ref a1), (.int 6)] h0 (fun v h L => v = some (.int 10) ∧ Fr n0 L ∧ h = h0) := by
 refine own_startC opn_37 ?_
 intro p e s m below meth c T0 X0 hx hby hml hZ hown hnm hret hlk e0
 have N := Fr.nil n0; have K := Keep.refl h0 []
 refine OG.cast (oef9 m a1 (6 : Int32)) ?_
 refine og_aloadN X0 hx rfl rfl (hb hby d37_0) rfl ?_
 refine og_getfield X0 hx hZ (host := "") hown (Or.inl (ow23 hw)) Via.refl e0 F_value_a1 (hb hby d37_1) rfl (fun T11 X11 e11 => ?_)
 refine og_arraylength X11 hx hZ e11 V_bv (hb hby d37_4) rfl ?_
 refine og_istoreN (L' := #[.val (.ref a1), .val (.int 6), .val (.int 4), .unset, .unset, .unset]) X11 hx rfl (hb hby d37_5) rfl ?_
 refine og_iloadN X11 hx rfl (hb hby d37_6) rfl ?_
 refine og_aloadN X11 hx rfl rfl (hb hby d37_7) rfl ?_
 refine og_getfield X11 hx hZ (host := "") hown (Or.inl (ow25 hw)) Via.refl e11 F_coder_a1 (hb hby d37_8) rfl (fun T12 X12 e12 => ?_)
 refine og_ishl X12 hx (hb hby d37_11) rfl ?_
 show OG p e below _ (T12.setTop (mkF m 12 #[.val (.ref a1), .val (.int 6), .val (.int 4), .unset, .unset, .unset] [(.int 6)]))
 refine og_istoreN (L' := #[.val (.ref a1), .val (.int 6), .val (.int 4), .val (.int 6), .unset, .unset]) X12 hx rfl (hb hby d37_12) rfl ?_
 refine og_iloadN X12 hx rfl (hb hby d37_13) rfl ?_
 refine og_iloadN X12 hx rfl (hb hby d37_14) rfl ?_
 refine og_isub X12 hx (hb hby d37_15) rfl ?_
 show OG p e below _ (T12.setTop (mkF m 16 #[.val (.ref a1), .val (.int 6), .val (.int 4), .val (.int 6), .unset, .unset] [(.int 2)]))
 refine og_istore (L' := #[.val (.ref a1), .val (.int 6), .val (.int 4), .val (.int 6), .val (.int 2), .unset]) X12 hx rfl (hb hby d37_16) rfl ?_
 refine og_iloadN X12 hx rfl (hb hby d37_18) rfl ?_
 refine og_iload X12 hx rfl (hb hby d37_19) rfl ?_
 refine og_iloadN X12 hx rfl (hb hby d37_21) rfl ?_
 refine og_iconst (v := 2) X12 hx rfl (hb hby d37_22) rfl ?_
 refine og_aloadN X12 hx rfl rfl (hb hby d37_23) rfl ?_
 refine og_getfield X12 hx hZ (host := "") hown (Or.inl (ow25 hw)) Via.refl e12 F_coder_a1 (hb hby d37_24) rfl (fun T13 X13 e13 => ?_)
 refine og_ishl X13 hx (hb hby d37_27) rfl ?_
 show OG p e below _ (T13.setTop (mkF m 28 #[.val (.ref a1), .val (.int 6), .val (.int 4), .val (.int 6), .val (.int 2), .unset] [(.int 2), (.int 4), (.int 2), (.int 4)]))
 refine og_iadd X13 hx (hb hby d37_28) rfl ?_
 show OG p e below _ (T13.setTop (mkF m 29 #[.val (.ref a1), .val (.int 6), .val (.int 4), .val (.int 6), .val (.int 2), .unset] [(.int 6), (.int 2), (.int 4)]))
 refine og_static (pc' := 32) (cells' := 0) (slots' := 0) (W := 0) X13 hx hZ (rm_nl_6 l Z a0 hw h0 n0 O) hown (ow203 hw) (ow204 hw) (ow205 hw) (ow206 hw) (by decide) (by rw [hml]; rfl) e13 opd_6 [(.int 4), (.int 2), (.int 6)] [] rfl rfl rfl rfl (by decide) (by decide) rfl rfl (by decide) (by decide) (hb hby d37_29) rfl (fun v14 T14 h14 L14 X14 e14 z14 => ?_)
 obtain ⟨rfl, Nq14, hq14⟩ := z14; replace e14 := e14.trans hq14; have N := Fr.app N Nq14
 refine og_istore (L' := #[.val (.ref a1), .val (.int 6), .val (.int 4), .val (.int 6), .val (.int 2), .val (.int 10)]) X14 hx rfl (hb hby d37_32) rfl ?_
 refine og_iload X14 hx rfl (hb hby d37_34) rfl ?_
 refine og_ldc X14 hx hZ hown (ow211 hw) (hb hby d37_36) rfl ?_
 refine og_icmp_ne (pc1 := 51) (pc2 := 41) X14 hx (hb hby d37_38) (by decide) (by decide) rfl (fun _ => ?_) (fun q => absurd q (by decide))
 refine og_iload X14 hx rfl (hb hby d37_51) rfl ?_
 refine og_aloadN X14 hx rfl rfl (hb hby d37_53) rfl ?_
 refine og_getfield X14 hx hZ (host := "") hown (Or.inl (ow25 hw)) Via.refl e14 F_coder_a1 (hb hby d37_54) rfl (fun T15 X15 e15 => ?_)
 refine og_ishr X15 hx (hb hby d37_57) rfl ?_
 show OG p e below _ (T15.setTop (mkF m 58 #[.val (.ref a1), .val (.int 6), .val (.int 4), .val (.int 6), .val (.int 2), .val (.int 10)] [(.int 10)]))
 refine og_retI X15 hx hlk hret (hb hby d37_58) (by decide) (by decide) ?_
 rw [e15]; exact ⟨rfl, N, rfl⟩
theorem rm_ec_6 (l : Launch) (Z : State) (a0 : Array Value) (hw : HW a0 Z) (a1 bv : Addr) (kb : ClassId) (cn v0 v1 v2 v3 : Int32) (h0 : Heap) (n0 : Nat) (O : Old Z n0 h0) (E_a1 : Exa Z h0 a1 "java/lang/StringBuilder") (F_value_a1 : Fld Z h0 a1 "java/lang/AbstractStringBuilder" "value" "[B" (.ref bv)) (F_coder_a1 : Fld Z h0 a1 "java/lang/AbstractStringBuilder" "coder" "B" (.int 0)) (F_count_a1 : Fld Z h0 a1 "java/lang/AbstractStringBuilder" "count" "I" (.int cn)) (V_bv : Arv Z h0 bv kb .byte (4 : Int32) [(.int v0), (.int v1), (.int v2), (.int v3)] (.int 0)) (g_a1 : n0 ≤ a1) (ne_a1_bv : a1 ≠ bv) :
  Con l Z (⟨"java/lang/AbstractStringBuilder", "ensureCapacityInternal", "(I)V"⟩ : MethodName) jdk_68_method_9_code 3 none ({ frames := 3, cells := 1, slots := 11, locals := 48 } : Room) #[(.ref a1), (.int 6)] h0 (fun v h L => ∃ b k, v = none ∧ Fr n0 L ∧ Keep h0 h [a1] ∧ h0.size ≤ b ∧ Exa Z h a1 "java/lang/StringBuilder" ∧ Fld Z h a1 "java/lang/AbstractStringBuilder" "value" "[B" (.ref b) ∧ Fld Z h a1 "java/lang/AbstractStringBuilder" "coder" "B" (.int 0) ∧ Fld Z h a1 "java/lang/AbstractStringBuilder" "count" "I" (.int cn) ∧ Arv Z h b k .byte (10 : Int32) [(.int v0), (.int v1), (.int v2), (.int v3), (.int 0), (.int 0), (.int 0), (.int 0), (.int 0), (.int 0)] (.int 0) ∧ Exa Z h b "[B") := by
 refine own_startC opn_16 ?_
 intro p e s m below meth c T0 X0 hx hby hml hZ hown hnm hret hlk e0
 have N := Fr.nil n0; have K := Keep.refl h0 [a1]
 refine OG.cast (oef6 m a1 (6 : Int32)) ?_
 refine og_aloadN X0 hx rfl rfl (hb hby d16_0) rfl ?_
 refine og_getfield X0 hx hZ (host := "") hown (Or.inl (ow23 hw)) Via.refl e0 F_value_a1 (hb hby d16_1) rfl (fun T11 X11 e11 => ?_)
 refine og_arraylength X11 hx hZ e11 V_bv (hb hby d16_4) rfl ?_
 refine og_aloadN X11 hx rfl rfl (hb hby d16_5) rfl ?_
 refine og_getfield X11 hx hZ (host := "") hown (Or.inl (ow25 hw)) Via.refl e11 F_coder_a1 (hb hby d16_6) rfl (fun T12 X12 e12 => ?_)
 refine og_ishr X12 hx (hb hby d16_9) rfl ?_
 show OG p e below _ (T12.setTop (mkF m 10 #[.val (.ref a1), .val (.int 6), .unset] [(.int 4)]))
 refine og_istoreN (L' := #[.val (.ref a1), .val (.int 6), .val (.int 4)]) X12 hx rfl (hb hby d16_10) rfl ?_
 refine og_iloadN X12 hx rfl (hb hby d16_11) rfl ?_
 refine og_iloadN X12 hx rfl (hb hby d16_12) rfl ?_
 refine og_isub X12 hx (hb hby d16_13) rfl ?_
 show OG p e below _ (T12.setTop (mkF m 14 #[.val (.ref a1), .val (.int 6), .val (.int 4)] [(.int 2)]))
 refine og_if_le (pc1 := 38) (pc2 := 17) X12 hx (hb hby d16_14) (by decide) (by decide) rfl (fun q => absurd q (by decide)) (fun _ => ?_)
 refine og_aloadN X12 hx rfl rfl (hb hby d16_17) rfl ?_
 refine og_aloadN X12 hx rfl rfl (hb hby d16_18) rfl ?_
 refine og_getfield X12 hx hZ (host := "") hown (Or.inl (ow23 hw)) Via.refl e12 F_value_a1 (hb hby d16_19) rfl (fun T13 X13 e13 => ?_)
 refine og_aloadN X13 hx rfl rfl (hb hby d16_22) rfl ?_
 refine og_iloadN X13 hx rfl (hb hby d16_23) rfl ?_
 refine og_private (pc' := 27) (cells' := 0) (slots' := 0) (W := 2) X13 hx hZ (rm_ncp_6 l Z a0 hw a1 bv kb _ h0 n0 O F_value_a1 F_coder_a1 V_bv) hown (ow198 hw) (ow199 hw) (own_selfp (ow201 hw) (ow199 hw) (ow200 hw) (by decide)) (ow200 hw) (ow15 hw) (ow202 hw) (by decide) (by rw [hml]; rfl) e13 opd_1 [(.int 6)] [(.ref bv), (.ref a1)] rfl rfl rfl rfl (by decide) (by decide) rfl rfl (by decide) (by decide) E_a1 (hb hby d16_24) rfl (fun v14 T14 h14 L14 X14 e14 z14 => ?_)
 obtain ⟨rfl, Nq14, hq14⟩ := z14; replace e14 := e14.trans hq14; have N := Fr.app N Nq14
 refine og_aloadN X14 hx rfl rfl (hb hby d16_27) rfl ?_
 refine og_getfield X14 hx hZ (host := "") hown (Or.inl (ow25 hw)) Via.refl e14 F_coder_a1 (hb hby d16_28) rfl (fun T15 X15 e15 => ?_)
 refine og_ishl X15 hx (hb hby d16_31) rfl ?_
 show OG p e below _ (T15.setTop (mkF m 32 #[.val (.ref a1), .val (.int 6), .val (.int 4)] [(.int 10), (.ref bv), (.ref a1)]))
 refine og_static (pc' := 35) (cells' := 1) (slots' := 10) (W := 1) X15 hx hZ (rm_cpo_4_10 l Z a0 hw bv kb v0 v1 v2 v3 h0 n0 O V_bv) hown (ow212 hw) (ow213 hw) (ow155 hw) (ow214 hw) (by decide) (by rw [hml]; rfl) e15 opd_7 [(.ref bv), (.int 10)] [(.ref a1)] rfl rfl rfl rfl (by decide) (by decide) rfl rfl (by decide) (by decide) (hb hby d16_32) rfl (fun v16 T16 h16 L16 X16 e16 z16 => ?_)
 obtain ⟨nb16, k16, rfl, Nq16, K16, sb16, V_nb16, E_nb16⟩ := z16; have N := Fr.app N Nq16
 have s_nb16 : h0.size ≤ nb16 := sb16; have g_nb16 : n0 ≤ nb16 := Nat.le_trans (own_n0 O) s_nb16; have sz_nb16 : h0.size ≤ nb16 := Nat.le_trans K.1 s_nb16; have ne_a1_nb16 : a1 ≠ nb16 := Nat.ne_of_lt (Nat.lt_of_lt_of_le E_a1.lt s_nb16); have ne_bv_nb16 : bv ≠ nb16 := Nat.ne_of_lt (Nat.lt_of_lt_of_le V_bv.lt s_nb16)
 have E_a1 := E_a1.keep K16; have F_value_a1 := F_value_a1.keep K16 nin0; have F_coder_a1 := F_coder_a1.keep K16 nin0; have F_count_a1 := F_count_a1.keep K16 nin0; have V_bv := V_bv.keep K16 nin0; have O := O.keep K16 all0
 have K := K.trans K16 all0
 refine og_putfield X16 hx hZ (ty := (.array .byte)) (host := "") hown (Or.inl (ow23 hw)) Via.refl e16 F_value_a1 E_a1 (Or.inl (ow24 hw)) (ow6 hw) (by decide) rfl rfl (hb hby d16_35) rfl (fun T17 h17 X17 e17 W17 => ?_)
 have F_value_a1_ := F_value_a1.same W17
 have E_a1 := E_a1.wr W17; have F_coder_a1 := F_coder_a1.other W17 (Or.inr (slot_ne (Or.inl (ow26 hw)) (Or.inl (ow24 hw)) (by decide) (t := .byte) (t' := (.array .byte)) (by decide) (by decide))); have F_count_a1 := F_count_a1.other W17 (Or.inr (slot_ne (Or.inl (ow82 hw)) (Or.inl (ow24 hw)) (by decide) (t := .int) (t' := (.array .byte)) (by decide) (by decide))); have V_bv := V_bv.other W17 (Ne.symm ne_a1_bv); have V_nb16 := V_nb16.other W17 (Ne.symm ne_a1_nb16); have E_nb16 := E_nb16.wr W17
 have O := O.wr W17 g_a1; have K := K.wr W17 (Or.inl (List.mem_of_getElem? (i := 0) rfl))
 have N := Fr.snoc X17 N g_a1; have F_value_a1 := F_value_a1_
 refine og_retV X17 hx hlk hret (hb hby d16_38) (by decide) (by decide) ?_
 rw [e17]; exact ⟨_, _, rfl, N, K, sz_nb16, E_a1, F_value_a1, F_coder_a1, F_count_a1, V_nb16, E_nb16⟩
theorem rm_max_3_6 (l : Launch) (Z : State) (a0 : Array Value) (hw : HW a0 Z)  (h0 : Heap) (n0 : Nat) (O : Old Z n0 h0) :
  Con l Z (⟨"java/lang/Math", "max", "(II)I"⟩ : MethodName) jdk_29_method_65_code 2 (some .int) ({ frames := 0, cells := 0, slots := 0, locals := 0 } : Room) #[(.int 3), (.int 6)] h0 (fun v h L => v = some (.int 6) ∧ Fr n0 L ∧ h = h0) := by
 refine own_startC opn_39 ?_
 intro p e s m below meth c T0 X0 hx hby hml hZ hown hnm hret hlk e0
 have N := Fr.nil n0; have K := Keep.refl h0 []
 refine OG.cast (oef7 m (3 : Int32) (6 : Int32)) ?_
 refine og_iloadN X0 hx rfl (hb hby d39_0) rfl ?_
 refine og_iloadN X0 hx rfl (hb hby d39_1) rfl ?_
 refine og_icmp_lt (pc1 := 9) (pc2 := 5) X0 hx (hb hby d39_2) (by decide) (by decide) rfl (fun _ => ?_) (fun q => absurd q (by decide))
 refine og_iloadN X0 hx rfl (hb hby d39_9) rfl ?_
 refine og_retI X0 hx hlk hret (hb hby d39_10) (by decide) (by decide) ?_
 rw [e0]; exact ⟨rfl, N, rfl⟩
theorem rm_nl_7 (l : Launch) (Z : State) (a0 : Array Value) (hw : HW a0 Z)  (h0 : Heap) (n0 : Nat) (O : Old Z n0 h0) :
  Con l Z (⟨"jdk/internal/util/ArraysSupport", "newLength", "(III)I"⟩ : MethodName) jdk_48_method_27_code 4 (some .int) ({ frames := 1, cells := 0, slots := 0, locals := 14 } : Room) #[(.int 4), (.int 3), (.int 6)] h0 (fun v h L => v = some (.int 10) ∧ Fr n0 L ∧ h = h0) := by
 refine own_startC opn_38 ?_
 intro p e s m below meth c T0 X0 hx hby hml hZ hown hnm hret hlk e0
 have N := Fr.nil n0; have K := Keep.refl h0 []
 refine OG.cast (oef8 m (4 : Int32) (3 : Int32) (6 : Int32)) ?_
 refine og_iloadN X0 hx rfl (hb hby d38_0) rfl ?_
 refine og_iloadN X0 hx rfl (hb hby d38_1) rfl ?_
 refine og_iloadN X0 hx rfl (hb hby d38_2) rfl ?_
 refine og_static (pc' := 6) (cells' := 0) (slots' := 0) (W := 1) X0 hx hZ (rm_max_3_6 l Z a0 hw h0 n0 O) hown (ow207 hw) (ow208 hw) (ow32 hw) (ow209 hw) (by decide) (by rw [hml]; rfl) e0 opd_5 [(.int 3), (.int 6)] [(.int 4)] rfl rfl rfl rfl (by decide) (by decide) rfl rfl (by decide) (by decide) (hb hby d38_3) rfl (fun v11 T11 h11 L11 X11 e11 z11 => ?_)
 obtain ⟨rfl, Nq11, hq11⟩ := z11; replace e11 := e11.trans hq11; have N := Fr.app N Nq11
 refine og_iadd X11 hx (hb hby d38_6) rfl ?_
 show OG p e below _ (T11.setTop (mkF m 7 #[.val (.int 4), .val (.int 3), .val (.int 6), .unset] [(.int 10)]))
 refine og_istoreN (L' := #[.val (.int 4), .val (.int 3), .val (.int 6), .val (.int 10)]) X11 hx rfl (hb hby d38_7) rfl ?_
 refine og_iconst (v := 0) X11 hx rfl (hb hby d38_8) rfl ?_
 refine og_iloadN X11 hx rfl (hb hby d38_9) rfl ?_
 refine og_icmp_ge (pc1 := 21) (pc2 := 13) X11 hx (hb hby d38_10) (by decide) (by decide) rfl (fun q => absurd q (by decide)) (fun _ => ?_)
 refine og_iloadN X11 hx rfl (hb hby d38_13) rfl ?_
 refine og_ldc X11 hx hZ hown (ow210 hw) (hb hby d38_14) rfl ?_
 refine og_icmp_gt (pc1 := 21) (pc2 := 19) X11 hx (hb hby d38_16) (by decide) (by decide) rfl (fun q => absurd q (by decide)) (fun _ => ?_)
 refine og_iloadN X11 hx rfl (hb hby d38_19) rfl ?_
 refine og_retI X11 hx hlk hret (hb hby d38_20) (by decide) (by decide) ?_
 rw [e11]; exact ⟨rfl, N, rfl⟩
theorem rm_ncp_7 (l : Launch) (Z : State) (a0 : Array Value) (hw : HW a0 Z) (a1 bv : Addr) (kb : ClassId) (vs : List Value) (h0 : Heap) (n0 : Nat) (O : Old Z n0 h0) (F_value_a1 : Fld Z h0 a1 "java/lang/AbstractStringBuilder" "value" "[B" (.ref bv)) (F_coder_a1 : Fld Z h0 a1 "java/lang/AbstractStringBuilder" "coder" "B" (.int 0)) (V_bv : Arv Z h0 bv kb .byte (4 : Int32) vs (.int 0)) :
  Con l Z (⟨"java/lang/AbstractStringBuilder", "newCapacity", "(I)I"⟩ : MethodName) jdk_68_method_10_code 6 (some .int) ({ frames := 2, cells := 0, slots := 0, locals := 29 } : Room) #[(.ref a1), (.int 7)] h0 (fun v h L => v = some (.int 10) ∧ Fr n0 L ∧ h = h0) := by
 refine own_startC opn_37 ?_
 intro p e s m below meth c T0 X0 hx hby hml hZ hown hnm hret hlk e0
 have N := Fr.nil n0; have K := Keep.refl h0 []
 refine OG.cast (oef9 m a1 (7 : Int32)) ?_
 refine og_aloadN X0 hx rfl rfl (hb hby d37_0) rfl ?_
 refine og_getfield X0 hx hZ (host := "") hown (Or.inl (ow23 hw)) Via.refl e0 F_value_a1 (hb hby d37_1) rfl (fun T11 X11 e11 => ?_)
 refine og_arraylength X11 hx hZ e11 V_bv (hb hby d37_4) rfl ?_
 refine og_istoreN (L' := #[.val (.ref a1), .val (.int 7), .val (.int 4), .unset, .unset, .unset]) X11 hx rfl (hb hby d37_5) rfl ?_
 refine og_iloadN X11 hx rfl (hb hby d37_6) rfl ?_
 refine og_aloadN X11 hx rfl rfl (hb hby d37_7) rfl ?_
 refine og_getfield X11 hx hZ (host := "") hown (Or.inl (ow25 hw)) Via.refl e11 F_coder_a1 (hb hby d37_8) rfl (fun T12 X12 e12 => ?_)
 refine og_ishl X12 hx (hb hby d37_11) rfl ?_
 show OG p e below _ (T12.setTop (mkF m 12 #[.val (.ref a1), .val (.int 7), .val (.int 4), .unset, .unset, .unset] [(.int 7)]))
 refine og_istoreN (L' := #[.val (.ref a1), .val (.int 7), .val (.int 4), .val (.int 7), .unset, .unset]) X12 hx rfl (hb hby d37_12) rfl ?_
 refine og_iloadN X12 hx rfl (hb hby d37_13) rfl ?_
 refine og_iloadN X12 hx rfl (hb hby d37_14) rfl ?_
 refine og_isub X12 hx (hb hby d37_15) rfl ?_
 show OG p e below _ (T12.setTop (mkF m 16 #[.val (.ref a1), .val (.int 7), .val (.int 4), .val (.int 7), .unset, .unset] [(.int 3)]))
 refine og_istore (L' := #[.val (.ref a1), .val (.int 7), .val (.int 4), .val (.int 7), .val (.int 3), .unset]) X12 hx rfl (hb hby d37_16) rfl ?_
 refine og_iloadN X12 hx rfl (hb hby d37_18) rfl ?_
 refine og_iload X12 hx rfl (hb hby d37_19) rfl ?_
 refine og_iloadN X12 hx rfl (hb hby d37_21) rfl ?_
 refine og_iconst (v := 2) X12 hx rfl (hb hby d37_22) rfl ?_
 refine og_aloadN X12 hx rfl rfl (hb hby d37_23) rfl ?_
 refine og_getfield X12 hx hZ (host := "") hown (Or.inl (ow25 hw)) Via.refl e12 F_coder_a1 (hb hby d37_24) rfl (fun T13 X13 e13 => ?_)
 refine og_ishl X13 hx (hb hby d37_27) rfl ?_
 show OG p e below _ (T13.setTop (mkF m 28 #[.val (.ref a1), .val (.int 7), .val (.int 4), .val (.int 7), .val (.int 3), .unset] [(.int 2), (.int 4), (.int 3), (.int 4)]))
 refine og_iadd X13 hx (hb hby d37_28) rfl ?_
 show OG p e below _ (T13.setTop (mkF m 29 #[.val (.ref a1), .val (.int 7), .val (.int 4), .val (.int 7), .val (.int 3), .unset] [(.int 6), (.int 3), (.int 4)]))
 refine og_static (pc' := 32) (cells' := 0) (slots' := 0) (W := 0) X13 hx hZ (rm_nl_7 l Z a0 hw h0 n0 O) hown (ow203 hw) (ow204 hw) (ow205 hw) (ow206 hw) (by decide) (by rw [hml]; rfl) e13 opd_6 [(.int 4), (.int 3), (.int 6)] [] rfl rfl rfl rfl (by decide) (by decide) rfl rfl (by decide) (by decide) (hb hby d37_29) rfl (fun v14 T14 h14 L14 X14 e14 z14 => ?_)
 obtain ⟨rfl, Nq14, hq14⟩ := z14; replace e14 := e14.trans hq14; have N := Fr.app N Nq14
 refine og_istore (L' := #[.val (.ref a1), .val (.int 7), .val (.int 4), .val (.int 7), .val (.int 3), .val (.int 10)]) X14 hx rfl (hb hby d37_32) rfl ?_
 refine og_iload X14 hx rfl (hb hby d37_34) rfl ?_
 refine og_ldc X14 hx hZ hown (ow211 hw) (hb hby d37_36) rfl ?_
 refine og_icmp_ne (pc1 := 51) (pc2 := 41) X14 hx (hb hby d37_38) (by decide) (by decide) rfl (fun _ => ?_) (fun q => absurd q (by decide))
 refine og_iload X14 hx rfl (hb hby d37_51) rfl ?_
 refine og_aloadN X14 hx rfl rfl (hb hby d37_53) rfl ?_
 refine og_getfield X14 hx hZ (host := "") hown (Or.inl (ow25 hw)) Via.refl e14 F_coder_a1 (hb hby d37_54) rfl (fun T15 X15 e15 => ?_)
 refine og_ishr X15 hx (hb hby d37_57) rfl ?_
 show OG p e below _ (T15.setTop (mkF m 58 #[.val (.ref a1), .val (.int 7), .val (.int 4), .val (.int 7), .val (.int 3), .val (.int 10)] [(.int 10)]))
 refine og_retI X15 hx hlk hret (hb hby d37_58) (by decide) (by decide) ?_
 rw [e15]; exact ⟨rfl, N, rfl⟩
theorem rm_ec_7 (l : Launch) (Z : State) (a0 : Array Value) (hw : HW a0 Z) (a1 bv : Addr) (kb : ClassId) (cn v0 v1 v2 v3 : Int32) (h0 : Heap) (n0 : Nat) (O : Old Z n0 h0) (E_a1 : Exa Z h0 a1 "java/lang/StringBuilder") (F_value_a1 : Fld Z h0 a1 "java/lang/AbstractStringBuilder" "value" "[B" (.ref bv)) (F_coder_a1 : Fld Z h0 a1 "java/lang/AbstractStringBuilder" "coder" "B" (.int 0)) (F_count_a1 : Fld Z h0 a1 "java/lang/AbstractStringBuilder" "count" "I" (.int cn)) (V_bv : Arv Z h0 bv kb .byte (4 : Int32) [(.int v0), (.int v1), (.int v2), (.int v3)] (.int 0)) (g_a1 : n0 ≤ a1) (ne_a1_bv : a1 ≠ bv) :
  Con l Z (⟨"java/lang/AbstractStringBuilder", "ensureCapacityInternal", "(I)V"⟩ : MethodName) jdk_68_method_9_code 3 none ({ frames := 3, cells := 1, slots := 11, locals := 48 } : Room) #[(.ref a1), (.int 7)] h0 (fun v h L => ∃ b k, v = none ∧ Fr n0 L ∧ Keep h0 h [a1] ∧ h0.size ≤ b ∧ Exa Z h a1 "java/lang/StringBuilder" ∧ Fld Z h a1 "java/lang/AbstractStringBuilder" "value" "[B" (.ref b) ∧ Fld Z h a1 "java/lang/AbstractStringBuilder" "coder" "B" (.int 0) ∧ Fld Z h a1 "java/lang/AbstractStringBuilder" "count" "I" (.int cn) ∧ Arv Z h b k .byte (10 : Int32) [(.int v0), (.int v1), (.int v2), (.int v3), (.int 0), (.int 0), (.int 0), (.int 0), (.int 0), (.int 0)] (.int 0) ∧ Exa Z h b "[B") := by
 refine own_startC opn_16 ?_
 intro p e s m below meth c T0 X0 hx hby hml hZ hown hnm hret hlk e0
 have N := Fr.nil n0; have K := Keep.refl h0 [a1]
 refine OG.cast (oef6 m a1 (7 : Int32)) ?_
 refine og_aloadN X0 hx rfl rfl (hb hby d16_0) rfl ?_
 refine og_getfield X0 hx hZ (host := "") hown (Or.inl (ow23 hw)) Via.refl e0 F_value_a1 (hb hby d16_1) rfl (fun T11 X11 e11 => ?_)
 refine og_arraylength X11 hx hZ e11 V_bv (hb hby d16_4) rfl ?_
 refine og_aloadN X11 hx rfl rfl (hb hby d16_5) rfl ?_
 refine og_getfield X11 hx hZ (host := "") hown (Or.inl (ow25 hw)) Via.refl e11 F_coder_a1 (hb hby d16_6) rfl (fun T12 X12 e12 => ?_)
 refine og_ishr X12 hx (hb hby d16_9) rfl ?_
 show OG p e below _ (T12.setTop (mkF m 10 #[.val (.ref a1), .val (.int 7), .unset] [(.int 4)]))
 refine og_istoreN (L' := #[.val (.ref a1), .val (.int 7), .val (.int 4)]) X12 hx rfl (hb hby d16_10) rfl ?_
 refine og_iloadN X12 hx rfl (hb hby d16_11) rfl ?_
 refine og_iloadN X12 hx rfl (hb hby d16_12) rfl ?_
 refine og_isub X12 hx (hb hby d16_13) rfl ?_
 show OG p e below _ (T12.setTop (mkF m 14 #[.val (.ref a1), .val (.int 7), .val (.int 4)] [(.int 3)]))
 refine og_if_le (pc1 := 38) (pc2 := 17) X12 hx (hb hby d16_14) (by decide) (by decide) rfl (fun q => absurd q (by decide)) (fun _ => ?_)
 refine og_aloadN X12 hx rfl rfl (hb hby d16_17) rfl ?_
 refine og_aloadN X12 hx rfl rfl (hb hby d16_18) rfl ?_
 refine og_getfield X12 hx hZ (host := "") hown (Or.inl (ow23 hw)) Via.refl e12 F_value_a1 (hb hby d16_19) rfl (fun T13 X13 e13 => ?_)
 refine og_aloadN X13 hx rfl rfl (hb hby d16_22) rfl ?_
 refine og_iloadN X13 hx rfl (hb hby d16_23) rfl ?_
 refine og_private (pc' := 27) (cells' := 0) (slots' := 0) (W := 2) X13 hx hZ (rm_ncp_7 l Z a0 hw a1 bv kb _ h0 n0 O F_value_a1 F_coder_a1 V_bv) hown (ow198 hw) (ow199 hw) (own_selfp (ow201 hw) (ow199 hw) (ow200 hw) (by decide)) (ow200 hw) (ow15 hw) (ow202 hw) (by decide) (by rw [hml]; rfl) e13 opd_1 [(.int 7)] [(.ref bv), (.ref a1)] rfl rfl rfl rfl (by decide) (by decide) rfl rfl (by decide) (by decide) E_a1 (hb hby d16_24) rfl (fun v14 T14 h14 L14 X14 e14 z14 => ?_)
 obtain ⟨rfl, Nq14, hq14⟩ := z14; replace e14 := e14.trans hq14; have N := Fr.app N Nq14
 refine og_aloadN X14 hx rfl rfl (hb hby d16_27) rfl ?_
 refine og_getfield X14 hx hZ (host := "") hown (Or.inl (ow25 hw)) Via.refl e14 F_coder_a1 (hb hby d16_28) rfl (fun T15 X15 e15 => ?_)
 refine og_ishl X15 hx (hb hby d16_31) rfl ?_
 show OG p e below _ (T15.setTop (mkF m 32 #[.val (.ref a1), .val (.int 7), .val (.int 4)] [(.int 10), (.ref bv), (.ref a1)]))
 refine og_static (pc' := 35) (cells' := 1) (slots' := 10) (W := 1) X15 hx hZ (rm_cpo_4_10 l Z a0 hw bv kb v0 v1 v2 v3 h0 n0 O V_bv) hown (ow212 hw) (ow213 hw) (ow155 hw) (ow214 hw) (by decide) (by rw [hml]; rfl) e15 opd_7 [(.ref bv), (.int 10)] [(.ref a1)] rfl rfl rfl rfl (by decide) (by decide) rfl rfl (by decide) (by decide) (hb hby d16_32) rfl (fun v16 T16 h16 L16 X16 e16 z16 => ?_)
 obtain ⟨nb16, k16, rfl, Nq16, K16, sb16, V_nb16, E_nb16⟩ := z16; have N := Fr.app N Nq16
 have s_nb16 : h0.size ≤ nb16 := sb16; have g_nb16 : n0 ≤ nb16 := Nat.le_trans (own_n0 O) s_nb16; have sz_nb16 : h0.size ≤ nb16 := Nat.le_trans K.1 s_nb16; have ne_a1_nb16 : a1 ≠ nb16 := Nat.ne_of_lt (Nat.lt_of_lt_of_le E_a1.lt s_nb16); have ne_bv_nb16 : bv ≠ nb16 := Nat.ne_of_lt (Nat.lt_of_lt_of_le V_bv.lt s_nb16)
 have E_a1 := E_a1.keep K16; have F_value_a1 := F_value_a1.keep K16 nin0; have F_coder_a1 := F_coder_a1.keep K16 nin0; have F_count_a1 := F_count_a1.keep K16 nin0; have V_bv := V_bv.keep K16 nin0; have O := O.keep K16 all0
 have K := K.trans K16 all0
 refine og_putfield X16 hx hZ (ty := (.array .byte)) (host := "") hown (Or.inl (ow23 hw)) Via.refl e16 F_value_a1 E_a1 (Or.inl (ow24 hw)) (ow6 hw) (by decide) rfl rfl (hb hby d16_35) rfl (fun T17 h17 X17 e17 W17 => ?_)
 have F_value_a1_ := F_value_a1.same W17
 have E_a1 := E_a1.wr W17; have F_coder_a1 := F_coder_a1.other W17 (Or.inr (slot_ne (Or.inl (ow26 hw)) (Or.inl (ow24 hw)) (by decide) (t := .byte) (t' := (.array .byte)) (by decide) (by decide))); have F_count_a1 := F_count_a1.other W17 (Or.inr (slot_ne (Or.inl (ow82 hw)) (Or.inl (ow24 hw)) (by decide) (t := .int) (t' := (.array .byte)) (by decide) (by decide))); have V_bv := V_bv.other W17 (Ne.symm ne_a1_bv); have V_nb16 := V_nb16.other W17 (Ne.symm ne_a1_nb16); have E_nb16 := E_nb16.wr W17
 have O := O.wr W17 g_a1; have K := K.wr W17 (Or.inl (List.mem_of_getElem? (i := 0) rfl))
 have N := Fr.snoc X17 N g_a1; have F_value_a1 := F_value_a1_
 refine og_retV X17 hx hlk hret (hb hby d16_38) (by decide) (by decide) ?_
 rw [e17]; exact ⟨_, _, rfl, N, K, sz_nb16, E_a1, F_value_a1, F_coder_a1, F_count_a1, V_nb16, E_nb16⟩
theorem rm_max_4_6 (l : Launch) (Z : State) (a0 : Array Value) (hw : HW a0 Z)  (h0 : Heap) (n0 : Nat) (O : Old Z n0 h0) :
  Con l Z (⟨"java/lang/Math", "max", "(II)I"⟩ : MethodName) jdk_29_method_65_code 2 (some .int) ({ frames := 0, cells := 0, slots := 0, locals := 0 } : Room) #[(.int 4), (.int 6)] h0 (fun v h L => v = some (.int 6) ∧ Fr n0 L ∧ h = h0) := by
 refine own_startC opn_39 ?_
 intro p e s m below meth c T0 X0 hx hby hml hZ hown hnm hret hlk e0
 have N := Fr.nil n0; have K := Keep.refl h0 []
 refine OG.cast (oef7 m (4 : Int32) (6 : Int32)) ?_
 refine og_iloadN X0 hx rfl (hb hby d39_0) rfl ?_
 refine og_iloadN X0 hx rfl (hb hby d39_1) rfl ?_
 refine og_icmp_lt (pc1 := 9) (pc2 := 5) X0 hx (hb hby d39_2) (by decide) (by decide) rfl (fun _ => ?_) (fun q => absurd q (by decide))
 refine og_iloadN X0 hx rfl (hb hby d39_9) rfl ?_
 refine og_retI X0 hx hlk hret (hb hby d39_10) (by decide) (by decide) ?_
 rw [e0]; exact ⟨rfl, N, rfl⟩
theorem rm_nl_8 (l : Launch) (Z : State) (a0 : Array Value) (hw : HW a0 Z)  (h0 : Heap) (n0 : Nat) (O : Old Z n0 h0) :
  Con l Z (⟨"jdk/internal/util/ArraysSupport", "newLength", "(III)I"⟩ : MethodName) jdk_48_method_27_code 4 (some .int) ({ frames := 1, cells := 0, slots := 0, locals := 14 } : Room) #[(.int 4), (.int 4), (.int 6)] h0 (fun v h L => v = some (.int 10) ∧ Fr n0 L ∧ h = h0) := by
 refine own_startC opn_38 ?_
 intro p e s m below meth c T0 X0 hx hby hml hZ hown hnm hret hlk e0
 have N := Fr.nil n0; have K := Keep.refl h0 []
 refine OG.cast (oef8 m (4 : Int32) (4 : Int32) (6 : Int32)) ?_
 refine og_iloadN X0 hx rfl (hb hby d38_0) rfl ?_
 refine og_iloadN X0 hx rfl (hb hby d38_1) rfl ?_
 refine og_iloadN X0 hx rfl (hb hby d38_2) rfl ?_
 refine og_static (pc' := 6) (cells' := 0) (slots' := 0) (W := 1) X0 hx hZ (rm_max_4_6 l Z a0 hw h0 n0 O) hown (ow207 hw) (ow208 hw) (ow32 hw) (ow209 hw) (by decide) (by rw [hml]; rfl) e0 opd_5 [(.int 4), (.int 6)] [(.int 4)] rfl rfl rfl rfl (by decide) (by decide) rfl rfl (by decide) (by decide) (hb hby d38_3) rfl (fun v11 T11 h11 L11 X11 e11 z11 => ?_)
 obtain ⟨rfl, Nq11, hq11⟩ := z11; replace e11 := e11.trans hq11; have N := Fr.app N Nq11
 refine og_iadd X11 hx (hb hby d38_6) rfl ?_
 show OG p e below _ (T11.setTop (mkF m 7 #[.val (.int 4), .val (.int 4), .val (.int 6), .unset] [(.int 10)]))
 refine og_istoreN (L' := #[.val (.int 4), .val (.int 4), .val (.int 6), .val (.int 10)]) X11 hx rfl (hb hby d38_7) rfl ?_
 refine og_iconst (v := 0) X11 hx rfl (hb hby d38_8) rfl ?_
 refine og_iloadN X11 hx rfl (hb hby d38_9) rfl ?_
 refine og_icmp_ge (pc1 := 21) (pc2 := 13) X11 hx (hb hby d38_10) (by decide) (by decide) rfl (fun q => absurd q (by decide)) (fun _ => ?_)
 refine og_iloadN X11 hx rfl (hb hby d38_13) rfl ?_
 refine og_ldc X11 hx hZ hown (ow210 hw) (hb hby d38_14) rfl ?_
 refine og_icmp_gt (pc1 := 21) (pc2 := 19) X11 hx (hb hby d38_16) (by decide) (by decide) rfl (fun q => absurd q (by decide)) (fun _ => ?_)
 refine og_iloadN X11 hx rfl (hb hby d38_19) rfl ?_
 refine og_retI X11 hx hlk hret (hb hby d38_20) (by decide) (by decide) ?_
 rw [e11]; exact ⟨rfl, N, rfl⟩
theorem rm_ncp_8 (l : Launch) (Z : State) (a0 : Array Value) (hw : HW a0 Z) (a1 bv : Addr) (kb : ClassId) (vs : List Value) (h0 : Heap) (n0 : Nat) (O : Old Z n0 h0) (F_value_a1 : Fld Z h0 a1 "java/lang/AbstractStringBuilder" "value" "[B" (.ref bv)) (F_coder_a1 : Fld Z h0 a1 "java/lang/AbstractStringBuilder" "coder" "B" (.int 0)) (V_bv : Arv Z h0 bv kb .byte (4 : Int32) vs (.int 0)) :
  Con l Z (⟨"java/lang/AbstractStringBuilder", "newCapacity", "(I)I"⟩ : MethodName) jdk_68_method_10_code 6 (some .int) ({ frames := 2, cells := 0, slots := 0, locals := 29 } : Room) #[(.ref a1), (.int 8)] h0 (fun v h L => v = some (.int 10) ∧ Fr n0 L ∧ h = h0) := by
 refine own_startC opn_37 ?_
 intro p e s m below meth c T0 X0 hx hby hml hZ hown hnm hret hlk e0
 have N := Fr.nil n0; have K := Keep.refl h0 []
 refine OG.cast (oef9 m a1 (8 : Int32)) ?_
 refine og_aloadN X0 hx rfl rfl (hb hby d37_0) rfl ?_
 refine og_getfield X0 hx hZ (host := "") hown (Or.inl (ow23 hw)) Via.refl e0 F_value_a1 (hb hby d37_1) rfl (fun T11 X11 e11 => ?_)
 refine og_arraylength X11 hx hZ e11 V_bv (hb hby d37_4) rfl ?_
 refine og_istoreN (L' := #[.val (.ref a1), .val (.int 8), .val (.int 4), .unset, .unset, .unset]) X11 hx rfl (hb hby d37_5) rfl ?_
 refine og_iloadN X11 hx rfl (hb hby d37_6) rfl ?_
 refine og_aloadN X11 hx rfl rfl (hb hby d37_7) rfl ?_
 refine og_getfield X11 hx hZ (host := "") hown (Or.inl (ow25 hw)) Via.refl e11 F_coder_a1 (hb hby d37_8) rfl (fun T12 X12 e12 => ?_)
 refine og_ishl X12 hx (hb hby d37_11) rfl ?_
 show OG p e below _ (T12.setTop (mkF m 12 #[.val (.ref a1), .val (.int 8), .val (.int 4), .unset, .unset, .unset] [(.int 8)]))
 refine og_istoreN (L' := #[.val (.ref a1), .val (.int 8), .val (.int 4), .val (.int 8), .unset, .unset]) X12 hx rfl (hb hby d37_12) rfl ?_
 refine og_iloadN X12 hx rfl (hb hby d37_13) rfl ?_
 refine og_iloadN X12 hx rfl (hb hby d37_14) rfl ?_
 refine og_isub X12 hx (hb hby d37_15) rfl ?_
 show OG p e below _ (T12.setTop (mkF m 16 #[.val (.ref a1), .val (.int 8), .val (.int 4), .val (.int 8), .unset, .unset] [(.int 4)]))
 refine og_istore (L' := #[.val (.ref a1), .val (.int 8), .val (.int 4), .val (.int 8), .val (.int 4), .unset]) X12 hx rfl (hb hby d37_16) rfl ?_
 refine og_iloadN X12 hx rfl (hb hby d37_18) rfl ?_
 refine og_iload X12 hx rfl (hb hby d37_19) rfl ?_
 refine og_iloadN X12 hx rfl (hb hby d37_21) rfl ?_
 refine og_iconst (v := 2) X12 hx rfl (hb hby d37_22) rfl ?_
 refine og_aloadN X12 hx rfl rfl (hb hby d37_23) rfl ?_
 refine og_getfield X12 hx hZ (host := "") hown (Or.inl (ow25 hw)) Via.refl e12 F_coder_a1 (hb hby d37_24) rfl (fun T13 X13 e13 => ?_)
 refine og_ishl X13 hx (hb hby d37_27) rfl ?_
 show OG p e below _ (T13.setTop (mkF m 28 #[.val (.ref a1), .val (.int 8), .val (.int 4), .val (.int 8), .val (.int 4), .unset] [(.int 2), (.int 4), (.int 4), (.int 4)]))
 refine og_iadd X13 hx (hb hby d37_28) rfl ?_
 show OG p e below _ (T13.setTop (mkF m 29 #[.val (.ref a1), .val (.int 8), .val (.int 4), .val (.int 8), .val (.int 4), .unset] [(.int 6), (.int 4), (.int 4)]))
 refine og_static (pc' := 32) (cells' := 0) (slots' := 0) (W := 0) X13 hx hZ (rm_nl_8 l Z a0 hw h0 n0 O) hown (ow203 hw) (ow204 hw) (ow205 hw) (ow206 hw) (by decide) (by rw [hml]; rfl) e13 opd_6 [(.int 4), (.int 4), (.int 6)] [] rfl rfl rfl rfl (by decide) (by decide) rfl rfl (by decide) (by decide) (hb hby d37_29) rfl (fun v14 T14 h14 L14 X14 e14 z14 => ?_)
 obtain ⟨rfl, Nq14, hq14⟩ := z14; replace e14 := e14.trans hq14; have N := Fr.app N Nq14
 refine og_istore (L' := #[.val (.ref a1), .val (.int 8), .val (.int 4), .val (.int 8), .val (.int 4), .val (.int 10)]) X14 hx rfl (hb hby d37_32) rfl ?_
 refine og_iload X14 hx rfl (hb hby d37_34) rfl ?_
 refine og_ldc X14 hx hZ hown (ow211 hw) (hb hby d37_36) rfl ?_
 refine og_icmp_ne (pc1 := 51) (pc2 := 41) X14 hx (hb hby d37_38) (by decide) (by decide) rfl (fun _ => ?_) (fun q => absurd q (by decide))
 refine og_iload X14 hx rfl (hb hby d37_51) rfl ?_
 refine og_aloadN X14 hx rfl rfl (hb hby d37_53) rfl ?_
 refine og_getfield X14 hx hZ (host := "") hown (Or.inl (ow25 hw)) Via.refl e14 F_coder_a1 (hb hby d37_54) rfl (fun T15 X15 e15 => ?_)
 refine og_ishr X15 hx (hb hby d37_57) rfl ?_
 show OG p e below _ (T15.setTop (mkF m 58 #[.val (.ref a1), .val (.int 8), .val (.int 4), .val (.int 8), .val (.int 4), .val (.int 10)] [(.int 10)]))
 refine og_retI X15 hx hlk hret (hb hby d37_58) (by decide) (by decide) ?_
 rw [e15]; exact ⟨rfl, N, rfl⟩
theorem rm_ec_8 (l : Launch) (Z : State) (a0 : Array Value) (hw : HW a0 Z) (a1 bv : Addr) (kb : ClassId) (cn v0 v1 v2 v3 : Int32) (h0 : Heap) (n0 : Nat) (O : Old Z n0 h0) (E_a1 : Exa Z h0 a1 "java/lang/StringBuilder") (F_value_a1 : Fld Z h0 a1 "java/lang/AbstractStringBuilder" "value" "[B" (.ref bv)) (F_coder_a1 : Fld Z h0 a1 "java/lang/AbstractStringBuilder" "coder" "B" (.int 0)) (F_count_a1 : Fld Z h0 a1 "java/lang/AbstractStringBuilder" "count" "I" (.int cn)) (V_bv : Arv Z h0 bv kb .byte (4 : Int32) [(.int v0), (.int v1), (.int v2), (.int v3)] (.int 0)) (g_a1 : n0 ≤ a1) (ne_a1_bv : a1 ≠ bv) :
  Con l Z (⟨"java/lang/AbstractStringBuilder", "ensureCapacityInternal", "(I)V"⟩ : MethodName) jdk_68_method_9_code 3 none ({ frames := 3, cells := 1, slots := 11, locals := 48 } : Room) #[(.ref a1), (.int 8)] h0 (fun v h L => ∃ b k, v = none ∧ Fr n0 L ∧ Keep h0 h [a1] ∧ h0.size ≤ b ∧ Exa Z h a1 "java/lang/StringBuilder" ∧ Fld Z h a1 "java/lang/AbstractStringBuilder" "value" "[B" (.ref b) ∧ Fld Z h a1 "java/lang/AbstractStringBuilder" "coder" "B" (.int 0) ∧ Fld Z h a1 "java/lang/AbstractStringBuilder" "count" "I" (.int cn) ∧ Arv Z h b k .byte (10 : Int32) [(.int v0), (.int v1), (.int v2), (.int v3), (.int 0), (.int 0), (.int 0), (.int 0), (.int 0), (.int 0)] (.int 0) ∧ Exa Z h b "[B") := by
 refine own_startC opn_16 ?_
 intro p e s m below meth c T0 X0 hx hby hml hZ hown hnm hret hlk e0
 have N := Fr.nil n0; have K := Keep.refl h0 [a1]
 refine OG.cast (oef6 m a1 (8 : Int32)) ?_
 refine og_aloadN X0 hx rfl rfl (hb hby d16_0) rfl ?_
 refine og_getfield X0 hx hZ (host := "") hown (Or.inl (ow23 hw)) Via.refl e0 F_value_a1 (hb hby d16_1) rfl (fun T11 X11 e11 => ?_)
 refine og_arraylength X11 hx hZ e11 V_bv (hb hby d16_4) rfl ?_
 refine og_aloadN X11 hx rfl rfl (hb hby d16_5) rfl ?_
 refine og_getfield X11 hx hZ (host := "") hown (Or.inl (ow25 hw)) Via.refl e11 F_coder_a1 (hb hby d16_6) rfl (fun T12 X12 e12 => ?_)
 refine og_ishr X12 hx (hb hby d16_9) rfl ?_
 show OG p e below _ (T12.setTop (mkF m 10 #[.val (.ref a1), .val (.int 8), .unset] [(.int 4)]))
 refine og_istoreN (L' := #[.val (.ref a1), .val (.int 8), .val (.int 4)]) X12 hx rfl (hb hby d16_10) rfl ?_
 refine og_iloadN X12 hx rfl (hb hby d16_11) rfl ?_
 refine og_iloadN X12 hx rfl (hb hby d16_12) rfl ?_
 refine og_isub X12 hx (hb hby d16_13) rfl ?_
 show OG p e below _ (T12.setTop (mkF m 14 #[.val (.ref a1), .val (.int 8), .val (.int 4)] [(.int 4)]))
 refine og_if_le (pc1 := 38) (pc2 := 17) X12 hx (hb hby d16_14) (by decide) (by decide) rfl (fun q => absurd q (by decide)) (fun _ => ?_)
 refine og_aloadN X12 hx rfl rfl (hb hby d16_17) rfl ?_
 refine og_aloadN X12 hx rfl rfl (hb hby d16_18) rfl ?_
 refine og_getfield X12 hx hZ (host := "") hown (Or.inl (ow23 hw)) Via.refl e12 F_value_a1 (hb hby d16_19) rfl (fun T13 X13 e13 => ?_)
 refine og_aloadN X13 hx rfl rfl (hb hby d16_22) rfl ?_
 refine og_iloadN X13 hx rfl (hb hby d16_23) rfl ?_
 refine og_private (pc' := 27) (cells' := 0) (slots' := 0) (W := 2) X13 hx hZ (rm_ncp_8 l Z a0 hw a1 bv kb _ h0 n0 O F_value_a1 F_coder_a1 V_bv) hown (ow198 hw) (ow199 hw) (own_selfp (ow201 hw) (ow199 hw) (ow200 hw) (by decide)) (ow200 hw) (ow15 hw) (ow202 hw) (by decide) (by rw [hml]; rfl) e13 opd_1 [(.int 8)] [(.ref bv), (.ref a1)] rfl rfl rfl rfl (by decide) (by decide) rfl rfl (by decide) (by decide) E_a1 (hb hby d16_24) rfl (fun v14 T14 h14 L14 X14 e14 z14 => ?_)
 obtain ⟨rfl, Nq14, hq14⟩ := z14; replace e14 := e14.trans hq14; have N := Fr.app N Nq14
 refine og_aloadN X14 hx rfl rfl (hb hby d16_27) rfl ?_
 refine og_getfield X14 hx hZ (host := "") hown (Or.inl (ow25 hw)) Via.refl e14 F_coder_a1 (hb hby d16_28) rfl (fun T15 X15 e15 => ?_)
 refine og_ishl X15 hx (hb hby d16_31) rfl ?_
 show OG p e below _ (T15.setTop (mkF m 32 #[.val (.ref a1), .val (.int 8), .val (.int 4)] [(.int 10), (.ref bv), (.ref a1)]))
 refine og_static (pc' := 35) (cells' := 1) (slots' := 10) (W := 1) X15 hx hZ (rm_cpo_4_10 l Z a0 hw bv kb v0 v1 v2 v3 h0 n0 O V_bv) hown (ow212 hw) (ow213 hw) (ow155 hw) (ow214 hw) (by decide) (by rw [hml]; rfl) e15 opd_7 [(.ref bv), (.int 10)] [(.ref a1)] rfl rfl rfl rfl (by decide) (by decide) rfl rfl (by decide) (by decide) (hb hby d16_32) rfl (fun v16 T16 h16 L16 X16 e16 z16 => ?_)
 obtain ⟨nb16, k16, rfl, Nq16, K16, sb16, V_nb16, E_nb16⟩ := z16; have N := Fr.app N Nq16
 have s_nb16 : h0.size ≤ nb16 := sb16; have g_nb16 : n0 ≤ nb16 := Nat.le_trans (own_n0 O) s_nb16; have sz_nb16 : h0.size ≤ nb16 := Nat.le_trans K.1 s_nb16; have ne_a1_nb16 : a1 ≠ nb16 := Nat.ne_of_lt (Nat.lt_of_lt_of_le E_a1.lt s_nb16); have ne_bv_nb16 : bv ≠ nb16 := Nat.ne_of_lt (Nat.lt_of_lt_of_le V_bv.lt s_nb16)
 have E_a1 := E_a1.keep K16; have F_value_a1 := F_value_a1.keep K16 nin0; have F_coder_a1 := F_coder_a1.keep K16 nin0; have F_count_a1 := F_count_a1.keep K16 nin0; have V_bv := V_bv.keep K16 nin0; have O := O.keep K16 all0
 have K := K.trans K16 all0
 refine og_putfield X16 hx hZ (ty := (.array .byte)) (host := "") hown (Or.inl (ow23 hw)) Via.refl e16 F_value_a1 E_a1 (Or.inl (ow24 hw)) (ow6 hw) (by decide) rfl rfl (hb hby d16_35) rfl (fun T17 h17 X17 e17 W17 => ?_)
 have F_value_a1_ := F_value_a1.same W17
 have E_a1 := E_a1.wr W17; have F_coder_a1 := F_coder_a1.other W17 (Or.inr (slot_ne (Or.inl (ow26 hw)) (Or.inl (ow24 hw)) (by decide) (t := .byte) (t' := (.array .byte)) (by decide) (by decide))); have F_count_a1 := F_count_a1.other W17 (Or.inr (slot_ne (Or.inl (ow82 hw)) (Or.inl (ow24 hw)) (by decide) (t := .int) (t' := (.array .byte)) (by decide) (by decide))); have V_bv := V_bv.other W17 (Ne.symm ne_a1_bv); have V_nb16 := V_nb16.other W17 (Ne.symm ne_a1_nb16); have E_nb16 := E_nb16.wr W17
 have O := O.wr W17 g_a1; have K := K.wr W17 (Or.inl (List.mem_of_getElem? (i := 0) rfl))
 have N := Fr.snoc X17 N g_a1; have F_value_a1 := F_value_a1_
 refine og_retV X17 hx hlk hret (hb hby d16_38) (by decide) (by decide) ?_
 rw [e17]; exact ⟨_, _, rfl, N, K, sz_nb16, E_a1, F_value_a1, F_coder_a1, F_count_a1, V_nb16, E_nb16⟩
theorem rm_max_5_6 (l : Launch) (Z : State) (a0 : Array Value) (hw : HW a0 Z)  (h0 : Heap) (n0 : Nat) (O : Old Z n0 h0) :
  Con l Z (⟨"java/lang/Math", "max", "(II)I"⟩ : MethodName) jdk_29_method_65_code 2 (some .int) ({ frames := 0, cells := 0, slots := 0, locals := 0 } : Room) #[(.int 5), (.int 6)] h0 (fun v h L => v = some (.int 6) ∧ Fr n0 L ∧ h = h0) := by
 refine own_startC opn_39 ?_
 intro p e s m below meth c T0 X0 hx hby hml hZ hown hnm hret hlk e0
 have N := Fr.nil n0; have K := Keep.refl h0 []
 refine OG.cast (oef7 m (5 : Int32) (6 : Int32)) ?_
 refine og_iloadN X0 hx rfl (hb hby d39_0) rfl ?_
 refine og_iloadN X0 hx rfl (hb hby d39_1) rfl ?_
 refine og_icmp_lt (pc1 := 9) (pc2 := 5) X0 hx (hb hby d39_2) (by decide) (by decide) rfl (fun _ => ?_) (fun q => absurd q (by decide))
 refine og_iloadN X0 hx rfl (hb hby d39_9) rfl ?_
 refine og_retI X0 hx hlk hret (hb hby d39_10) (by decide) (by decide) ?_
 rw [e0]; exact ⟨rfl, N, rfl⟩
theorem rm_nl_9 (l : Launch) (Z : State) (a0 : Array Value) (hw : HW a0 Z)  (h0 : Heap) (n0 : Nat) (O : Old Z n0 h0) :
  Con l Z (⟨"jdk/internal/util/ArraysSupport", "newLength", "(III)I"⟩ : MethodName) jdk_48_method_27_code 4 (some .int) ({ frames := 1, cells := 0, slots := 0, locals := 14 } : Room) #[(.int 4), (.int 5), (.int 6)] h0 (fun v h L => v = some (.int 10) ∧ Fr n0 L ∧ h = h0) := by
 refine own_startC opn_38 ?_
 intro p e s m below meth c T0 X0 hx hby hml hZ hown hnm hret hlk e0
 have N := Fr.nil n0; have K := Keep.refl h0 []
 refine OG.cast (oef8 m (4 : Int32) (5 : Int32) (6 : Int32)) ?_
 refine og_iloadN X0 hx rfl (hb hby d38_0) rfl ?_
 refine og_iloadN X0 hx rfl (hb hby d38_1) rfl ?_
 refine og_iloadN X0 hx rfl (hb hby d38_2) rfl ?_
 refine og_static (pc' := 6) (cells' := 0) (slots' := 0) (W := 1) X0 hx hZ (rm_max_5_6 l Z a0 hw h0 n0 O) hown (ow207 hw) (ow208 hw) (ow32 hw) (ow209 hw) (by decide) (by rw [hml]; rfl) e0 opd_5 [(.int 5), (.int 6)] [(.int 4)] rfl rfl rfl rfl (by decide) (by decide) rfl rfl (by decide) (by decide) (hb hby d38_3) rfl (fun v11 T11 h11 L11 X11 e11 z11 => ?_)
 obtain ⟨rfl, Nq11, hq11⟩ := z11; replace e11 := e11.trans hq11; have N := Fr.app N Nq11
 refine og_iadd X11 hx (hb hby d38_6) rfl ?_
 show OG p e below _ (T11.setTop (mkF m 7 #[.val (.int 4), .val (.int 5), .val (.int 6), .unset] [(.int 10)]))
 refine og_istoreN (L' := #[.val (.int 4), .val (.int 5), .val (.int 6), .val (.int 10)]) X11 hx rfl (hb hby d38_7) rfl ?_
 refine og_iconst (v := 0) X11 hx rfl (hb hby d38_8) rfl ?_
 refine og_iloadN X11 hx rfl (hb hby d38_9) rfl ?_
 refine og_icmp_ge (pc1 := 21) (pc2 := 13) X11 hx (hb hby d38_10) (by decide) (by decide) rfl (fun q => absurd q (by decide)) (fun _ => ?_)
 refine og_iloadN X11 hx rfl (hb hby d38_13) rfl ?_
 refine og_ldc X11 hx hZ hown (ow210 hw) (hb hby d38_14) rfl ?_
 refine og_icmp_gt (pc1 := 21) (pc2 := 19) X11 hx (hb hby d38_16) (by decide) (by decide) rfl (fun q => absurd q (by decide)) (fun _ => ?_)
 refine og_iloadN X11 hx rfl (hb hby d38_19) rfl ?_
 refine og_retI X11 hx hlk hret (hb hby d38_20) (by decide) (by decide) ?_
 rw [e11]; exact ⟨rfl, N, rfl⟩
theorem rm_ncp_9 (l : Launch) (Z : State) (a0 : Array Value) (hw : HW a0 Z) (a1 bv : Addr) (kb : ClassId) (vs : List Value) (h0 : Heap) (n0 : Nat) (O : Old Z n0 h0) (F_value_a1 : Fld Z h0 a1 "java/lang/AbstractStringBuilder" "value" "[B" (.ref bv)) (F_coder_a1 : Fld Z h0 a1 "java/lang/AbstractStringBuilder" "coder" "B" (.int 0)) (V_bv : Arv Z h0 bv kb .byte (4 : Int32) vs (.int 0)) :
  Con l Z (⟨"java/lang/AbstractStringBuilder", "newCapacity", "(I)I"⟩ : MethodName) jdk_68_method_10_code 6 (some .int) ({ frames := 2, cells := 0, slots := 0, locals := 29 } : Room) #[(.ref a1), (.int 9)] h0 (fun v h L => v = some (.int 10) ∧ Fr n0 L ∧ h = h0) := by
 refine own_startC opn_37 ?_
 intro p e s m below meth c T0 X0 hx hby hml hZ hown hnm hret hlk e0
 have N := Fr.nil n0; have K := Keep.refl h0 []
 refine OG.cast (oef9 m a1 (9 : Int32)) ?_
 refine og_aloadN X0 hx rfl rfl (hb hby d37_0) rfl ?_
 refine og_getfield X0 hx hZ (host := "") hown (Or.inl (ow23 hw)) Via.refl e0 F_value_a1 (hb hby d37_1) rfl (fun T11 X11 e11 => ?_)
 refine og_arraylength X11 hx hZ e11 V_bv (hb hby d37_4) rfl ?_
 refine og_istoreN (L' := #[.val (.ref a1), .val (.int 9), .val (.int 4), .unset, .unset, .unset]) X11 hx rfl (hb hby d37_5) rfl ?_
 refine og_iloadN X11 hx rfl (hb hby d37_6) rfl ?_
 refine og_aloadN X11 hx rfl rfl (hb hby d37_7) rfl ?_
 refine og_getfield X11 hx hZ (host := "") hown (Or.inl (ow25 hw)) Via.refl e11 F_coder_a1 (hb hby d37_8) rfl (fun T12 X12 e12 => ?_)
 refine og_ishl X12 hx (hb hby d37_11) rfl ?_
 show OG p e below _ (T12.setTop (mkF m 12 #[.val (.ref a1), .val (.int 9), .val (.int 4), .unset, .unset, .unset] [(.int 9)]))
 refine og_istoreN (L' := #[.val (.ref a1), .val (.int 9), .val (.int 4), .val (.int 9), .unset, .unset]) X12 hx rfl (hb hby d37_12) rfl ?_
 refine og_iloadN X12 hx rfl (hb hby d37_13) rfl ?_
 refine og_iloadN X12 hx rfl (hb hby d37_14) rfl ?_
 refine og_isub X12 hx (hb hby d37_15) rfl ?_
 show OG p e below _ (T12.setTop (mkF m 16 #[.val (.ref a1), .val (.int 9), .val (.int 4), .val (.int 9), .unset, .unset] [(.int 5)]))
 refine og_istore (L' := #[.val (.ref a1), .val (.int 9), .val (.int 4), .val (.int 9), .val (.int 5), .unset]) X12 hx rfl (hb hby d37_16) rfl ?_
 refine og_iloadN X12 hx rfl (hb hby d37_18) rfl ?_
 refine og_iload X12 hx rfl (hb hby d37_19) rfl ?_
 refine og_iloadN X12 hx rfl (hb hby d37_21) rfl ?_
 refine og_iconst (v := 2) X12 hx rfl (hb hby d37_22) rfl ?_
 refine og_aloadN X12 hx rfl rfl (hb hby d37_23) rfl ?_
 refine og_getfield X12 hx hZ (host := "") hown (Or.inl (ow25 hw)) Via.refl e12 F_coder_a1 (hb hby d37_24) rfl (fun T13 X13 e13 => ?_)
 refine og_ishl X13 hx (hb hby d37_27) rfl ?_
 show OG p e below _ (T13.setTop (mkF m 28 #[.val (.ref a1), .val (.int 9), .val (.int 4), .val (.int 9), .val (.int 5), .unset] [(.int 2), (.int 4), (.int 5), (.int 4)]))
 refine og_iadd X13 hx (hb hby d37_28) rfl ?_
 show OG p e below _ (T13.setTop (mkF m 29 #[.val (.ref a1), .val (.int 9), .val (.int 4), .val (.int 9), .val (.int 5), .unset] [(.int 6), (.int 5), (.int 4)]))
 refine og_static (pc' := 32) (cells' := 0) (slots' := 0) (W := 0) X13 hx hZ (rm_nl_9 l Z a0 hw h0 n0 O) hown (ow203 hw) (ow204 hw) (ow205 hw) (ow206 hw) (by decide) (by rw [hml]; rfl) e13 opd_6 [(.int 4), (.int 5), (.int 6)] [] rfl rfl rfl rfl (by decide) (by decide) rfl rfl (by decide) (by decide) (hb hby d37_29) rfl (fun v14 T14 h14 L14 X14 e14 z14 => ?_)
 obtain ⟨rfl, Nq14, hq14⟩ := z14; replace e14 := e14.trans hq14; have N := Fr.app N Nq14
 refine og_istore (L' := #[.val (.ref a1), .val (.int 9), .val (.int 4), .val (.int 9), .val (.int 5), .val (.int 10)]) X14 hx rfl (hb hby d37_32) rfl ?_
 refine og_iload X14 hx rfl (hb hby d37_34) rfl ?_
 refine og_ldc X14 hx hZ hown (ow211 hw) (hb hby d37_36) rfl ?_
 refine og_icmp_ne (pc1 := 51) (pc2 := 41) X14 hx (hb hby d37_38) (by decide) (by decide) rfl (fun _ => ?_) (fun q => absurd q (by decide))
 refine og_iload X14 hx rfl (hb hby d37_51) rfl ?_
 refine og_aloadN X14 hx rfl rfl (hb hby d37_53) rfl ?_
 refine og_getfield X14 hx hZ (host := "") hown (Or.inl (ow25 hw)) Via.refl e14 F_coder_a1 (hb hby d37_54) rfl (fun T15 X15 e15 => ?_)
 refine og_ishr X15 hx (hb hby d37_57) rfl ?_
 show OG p e below _ (T15.setTop (mkF m 58 #[.val (.ref a1), .val (.int 9), .val (.int 4), .val (.int 9), .val (.int 5), .val (.int 10)] [(.int 10)]))
 refine og_retI X15 hx hlk hret (hb hby d37_58) (by decide) (by decide) ?_
 rw [e15]; exact ⟨rfl, N, rfl⟩
theorem rm_ec_9 (l : Launch) (Z : State) (a0 : Array Value) (hw : HW a0 Z) (a1 bv : Addr) (kb : ClassId) (cn v0 v1 v2 v3 : Int32) (h0 : Heap) (n0 : Nat) (O : Old Z n0 h0) (E_a1 : Exa Z h0 a1 "java/lang/StringBuilder") (F_value_a1 : Fld Z h0 a1 "java/lang/AbstractStringBuilder" "value" "[B" (.ref bv)) (F_coder_a1 : Fld Z h0 a1 "java/lang/AbstractStringBuilder" "coder" "B" (.int 0)) (F_count_a1 : Fld Z h0 a1 "java/lang/AbstractStringBuilder" "count" "I" (.int cn)) (V_bv : Arv Z h0 bv kb .byte (4 : Int32) [(.int v0), (.int v1), (.int v2), (.int v3)] (.int 0)) (g_a1 : n0 ≤ a1) (ne_a1_bv : a1 ≠ bv) :
  Con l Z (⟨"java/lang/AbstractStringBuilder", "ensureCapacityInternal", "(I)V"⟩ : MethodName) jdk_68_method_9_code 3 none ({ frames := 3, cells := 1, slots := 11, locals := 48 } : Room) #[(.ref a1), (.int 9)] h0 (fun v h L => ∃ b k, v = none ∧ Fr n0 L ∧ Keep h0 h [a1] ∧ h0.size ≤ b ∧ Exa Z h a1 "java/lang/StringBuilder" ∧ Fld Z h a1 "java/lang/AbstractStringBuilder" "value" "[B" (.ref b) ∧ Fld Z h a1 "java/lang/AbstractStringBuilder" "coder" "B" (.int 0) ∧ Fld Z h a1 "java/lang/AbstractStringBuilder" "count" "I" (.int cn) ∧ Arv Z h b k .byte (10 : Int32) [(.int v0), (.int v1), (.int v2), (.int v3), (.int 0), (.int 0), (.int 0), (.int 0), (.int 0), (.int 0)] (.int 0) ∧ Exa Z h b "[B") := by
 refine own_startC opn_16 ?_
 intro p e s m below meth c T0 X0 hx hby hml hZ hown hnm hret hlk e0
 have N := Fr.nil n0; have K := Keep.refl h0 [a1]
 refine OG.cast (oef6 m a1 (9 : Int32)) ?_
 refine og_aloadN X0 hx rfl rfl (hb hby d16_0) rfl ?_
 refine og_getfield X0 hx hZ (host := "") hown (Or.inl (ow23 hw)) Via.refl e0 F_value_a1 (hb hby d16_1) rfl (fun T11 X11 e11 => ?_)
 refine og_arraylength X11 hx hZ e11 V_bv (hb hby d16_4) rfl ?_
 refine og_aloadN X11 hx rfl rfl (hb hby d16_5) rfl ?_
 refine og_getfield X11 hx hZ (host := "") hown (Or.inl (ow25 hw)) Via.refl e11 F_coder_a1 (hb hby d16_6) rfl (fun T12 X12 e12 => ?_)
 refine og_ishr X12 hx (hb hby d16_9) rfl ?_
 show OG p e below _ (T12.setTop (mkF m 10 #[.val (.ref a1), .val (.int 9), .unset] [(.int 4)]))
 refine og_istoreN (L' := #[.val (.ref a1), .val (.int 9), .val (.int 4)]) X12 hx rfl (hb hby d16_10) rfl ?_
 refine og_iloadN X12 hx rfl (hb hby d16_11) rfl ?_
 refine og_iloadN X12 hx rfl (hb hby d16_12) rfl ?_
 refine og_isub X12 hx (hb hby d16_13) rfl ?_
 show OG p e below _ (T12.setTop (mkF m 14 #[.val (.ref a1), .val (.int 9), .val (.int 4)] [(.int 5)]))
 refine og_if_le (pc1 := 38) (pc2 := 17) X12 hx (hb hby d16_14) (by decide) (by decide) rfl (fun q => absurd q (by decide)) (fun _ => ?_)
 refine og_aloadN X12 hx rfl rfl (hb hby d16_17) rfl ?_
 refine og_aloadN X12 hx rfl rfl (hb hby d16_18) rfl ?_
 refine og_getfield X12 hx hZ (host := "") hown (Or.inl (ow23 hw)) Via.refl e12 F_value_a1 (hb hby d16_19) rfl (fun T13 X13 e13 => ?_)
 refine og_aloadN X13 hx rfl rfl (hb hby d16_22) rfl ?_
 refine og_iloadN X13 hx rfl (hb hby d16_23) rfl ?_
 refine og_private (pc' := 27) (cells' := 0) (slots' := 0) (W := 2) X13 hx hZ (rm_ncp_9 l Z a0 hw a1 bv kb _ h0 n0 O F_value_a1 F_coder_a1 V_bv) hown (ow198 hw) (ow199 hw) (own_selfp (ow201 hw) (ow199 hw) (ow200 hw) (by decide)) (ow200 hw) (ow15 hw) (ow202 hw) (by decide) (by rw [hml]; rfl) e13 opd_1 [(.int 9)] [(.ref bv), (.ref a1)] rfl rfl rfl rfl (by decide) (by decide) rfl rfl (by decide) (by decide) E_a1 (hb hby d16_24) rfl (fun v14 T14 h14 L14 X14 e14 z14 => ?_)
 obtain ⟨rfl, Nq14, hq14⟩ := z14; replace e14 := e14.trans hq14; have N := Fr.app N Nq14
 refine og_aloadN X14 hx rfl rfl (hb hby d16_27) rfl ?_
 refine og_getfield X14 hx hZ (host := "") hown (Or.inl (ow25 hw)) Via.refl e14 F_coder_a1 (hb hby d16_28) rfl (fun T15 X15 e15 => ?_)
 refine og_ishl X15 hx (hb hby d16_31) rfl ?_
 show OG p e below _ (T15.setTop (mkF m 32 #[.val (.ref a1), .val (.int 9), .val (.int 4)] [(.int 10), (.ref bv), (.ref a1)]))
 refine og_static (pc' := 35) (cells' := 1) (slots' := 10) (W := 1) X15 hx hZ (rm_cpo_4_10 l Z a0 hw bv kb v0 v1 v2 v3 h0 n0 O V_bv) hown (ow212 hw) (ow213 hw) (ow155 hw) (ow214 hw) (by decide) (by rw [hml]; rfl) e15 opd_7 [(.ref bv), (.int 10)] [(.ref a1)] rfl rfl rfl rfl (by decide) (by decide) rfl rfl (by decide) (by decide) (hb hby d16_32) rfl (fun v16 T16 h16 L16 X16 e16 z16 => ?_)
 obtain ⟨nb16, k16, rfl, Nq16, K16, sb16, V_nb16, E_nb16⟩ := z16; have N := Fr.app N Nq16
 have s_nb16 : h0.size ≤ nb16 := sb16; have g_nb16 : n0 ≤ nb16 := Nat.le_trans (own_n0 O) s_nb16; have sz_nb16 : h0.size ≤ nb16 := Nat.le_trans K.1 s_nb16; have ne_a1_nb16 : a1 ≠ nb16 := Nat.ne_of_lt (Nat.lt_of_lt_of_le E_a1.lt s_nb16); have ne_bv_nb16 : bv ≠ nb16 := Nat.ne_of_lt (Nat.lt_of_lt_of_le V_bv.lt s_nb16)
 have E_a1 := E_a1.keep K16; have F_value_a1 := F_value_a1.keep K16 nin0; have F_coder_a1 := F_coder_a1.keep K16 nin0; have F_count_a1 := F_count_a1.keep K16 nin0; have V_bv := V_bv.keep K16 nin0; have O := O.keep K16 all0
 have K := K.trans K16 all0
 refine og_putfield X16 hx hZ (ty := (.array .byte)) (host := "") hown (Or.inl (ow23 hw)) Via.refl e16 F_value_a1 E_a1 (Or.inl (ow24 hw)) (ow6 hw) (by decide) rfl rfl (hb hby d16_35) rfl (fun T17 h17 X17 e17 W17 => ?_)
 have F_value_a1_ := F_value_a1.same W17
 have E_a1 := E_a1.wr W17; have F_coder_a1 := F_coder_a1.other W17 (Or.inr (slot_ne (Or.inl (ow26 hw)) (Or.inl (ow24 hw)) (by decide) (t := .byte) (t' := (.array .byte)) (by decide) (by decide))); have F_count_a1 := F_count_a1.other W17 (Or.inr (slot_ne (Or.inl (ow82 hw)) (Or.inl (ow24 hw)) (by decide) (t := .int) (t' := (.array .byte)) (by decide) (by decide))); have V_bv := V_bv.other W17 (Ne.symm ne_a1_bv); have V_nb16 := V_nb16.other W17 (Ne.symm ne_a1_nb16); have E_nb16 := E_nb16.wr W17
 have O := O.wr W17 g_a1; have K := K.wr W17 (Or.inl (List.mem_of_getElem? (i := 0) rfl))
 have N := Fr.snoc X17 N g_a1; have F_value_a1 := F_value_a1_
 refine og_retV X17 hx hlk hret (hb hby d16_38) (by decide) (by decide) ?_
 rw [e17]; exact ⟨_, _, rfl, N, K, sz_nb16, E_a1, F_value_a1, F_coder_a1, F_count_a1, V_nb16, E_nb16⟩
theorem rm_max_6_6 (l : Launch) (Z : State) (a0 : Array Value) (hw : HW a0 Z)  (h0 : Heap) (n0 : Nat) (O : Old Z n0 h0) :
  Con l Z (⟨"java/lang/Math", "max", "(II)I"⟩ : MethodName) jdk_29_method_65_code 2 (some .int) ({ frames := 0, cells := 0, slots := 0, locals := 0 } : Room) #[(.int 6), (.int 6)] h0 (fun v h L => v = some (.int 6) ∧ Fr n0 L ∧ h = h0) := by
 refine own_startC opn_39 ?_
 intro p e s m below meth c T0 X0 hx hby hml hZ hown hnm hret hlk e0
 have N := Fr.nil n0; have K := Keep.refl h0 []
 refine OG.cast (oef7 m (6 : Int32) (6 : Int32)) ?_
 refine og_iloadN X0 hx rfl (hb hby d39_0) rfl ?_
 refine og_iloadN X0 hx rfl (hb hby d39_1) rfl ?_
 refine og_icmp_lt (pc1 := 9) (pc2 := 5) X0 hx (hb hby d39_2) (by decide) (by decide) rfl (fun q => absurd q (by decide)) (fun _ => ?_)
 refine og_iloadN X0 hx rfl (hb hby d39_5) rfl ?_
 refine og_goto (pc' := 10) X0 hx (hb hby d39_6) (by decide) (by decide) ?_
 refine og_retI X0 hx hlk hret (hb hby d39_10) (by decide) (by decide) ?_
 rw [e0]; exact ⟨rfl, N, rfl⟩
theorem rm_nl_10 (l : Launch) (Z : State) (a0 : Array Value) (hw : HW a0 Z)  (h0 : Heap) (n0 : Nat) (O : Old Z n0 h0) :
  Con l Z (⟨"jdk/internal/util/ArraysSupport", "newLength", "(III)I"⟩ : MethodName) jdk_48_method_27_code 4 (some .int) ({ frames := 1, cells := 0, slots := 0, locals := 14 } : Room) #[(.int 4), (.int 6), (.int 6)] h0 (fun v h L => v = some (.int 10) ∧ Fr n0 L ∧ h = h0) := by
 refine own_startC opn_38 ?_
 intro p e s m below meth c T0 X0 hx hby hml hZ hown hnm hret hlk e0
 have N := Fr.nil n0; have K := Keep.refl h0 []
 refine OG.cast (oef8 m (4 : Int32) (6 : Int32) (6 : Int32)) ?_
 refine og_iloadN X0 hx rfl (hb hby d38_0) rfl ?_
 refine og_iloadN X0 hx rfl (hb hby d38_1) rfl ?_
 refine og_iloadN X0 hx rfl (hb hby d38_2) rfl ?_
 refine og_static (pc' := 6) (cells' := 0) (slots' := 0) (W := 1) X0 hx hZ (rm_max_6_6 l Z a0 hw h0 n0 O) hown (ow207 hw) (ow208 hw) (ow32 hw) (ow209 hw) (by decide) (by rw [hml]; rfl) e0 opd_5 [(.int 6), (.int 6)] [(.int 4)] rfl rfl rfl rfl (by decide) (by decide) rfl rfl (by decide) (by decide) (hb hby d38_3) rfl (fun v11 T11 h11 L11 X11 e11 z11 => ?_)
 obtain ⟨rfl, Nq11, hq11⟩ := z11; replace e11 := e11.trans hq11; have N := Fr.app N Nq11
 refine og_iadd X11 hx (hb hby d38_6) rfl ?_
 show OG p e below _ (T11.setTop (mkF m 7 #[.val (.int 4), .val (.int 6), .val (.int 6), .unset] [(.int 10)]))
 refine og_istoreN (L' := #[.val (.int 4), .val (.int 6), .val (.int 6), .val (.int 10)]) X11 hx rfl (hb hby d38_7) rfl ?_
 refine og_iconst (v := 0) X11 hx rfl (hb hby d38_8) rfl ?_
 refine og_iloadN X11 hx rfl (hb hby d38_9) rfl ?_
 refine og_icmp_ge (pc1 := 21) (pc2 := 13) X11 hx (hb hby d38_10) (by decide) (by decide) rfl (fun q => absurd q (by decide)) (fun _ => ?_)
 refine og_iloadN X11 hx rfl (hb hby d38_13) rfl ?_
 refine og_ldc X11 hx hZ hown (ow210 hw) (hb hby d38_14) rfl ?_
 refine og_icmp_gt (pc1 := 21) (pc2 := 19) X11 hx (hb hby d38_16) (by decide) (by decide) rfl (fun q => absurd q (by decide)) (fun _ => ?_)
 refine og_iloadN X11 hx rfl (hb hby d38_19) rfl ?_
 refine og_retI X11 hx hlk hret (hb hby d38_20) (by decide) (by decide) ?_
 rw [e11]; exact ⟨rfl, N, rfl⟩
theorem rm_ncp_10 (l : Launch) (Z : State) (a0 : Array Value) (hw : HW a0 Z) (a1 bv : Addr) (kb : ClassId) (vs : List Value) (h0 : Heap) (n0 : Nat) (O : Old Z n0 h0) (F_value_a1 : Fld Z h0 a1 "java/lang/AbstractStringBuilder" "value" "[B" (.ref bv)) (F_coder_a1 : Fld Z h0 a1 "java/lang/AbstractStringBuilder" "coder" "B" (.int 0)) (V_bv : Arv Z h0 bv kb .byte (4 : Int32) vs (.int 0)) :
  Con l Z (⟨"java/lang/AbstractStringBuilder", "newCapacity", "(I)I"⟩ : MethodName) jdk_68_method_10_code 6 (some .int) ({ frames := 2, cells := 0, slots := 0, locals := 29 } : Room) #[(.ref a1), (.int 10)] h0 (fun v h L => v = some (.int 10) ∧ Fr n0 L ∧ h = h0) := by
 refine own_startC opn_37 ?_
 intro p e s m below meth c T0 X0 hx hby hml hZ hown hnm hret hlk e0
 have N := Fr.nil n0; have K := Keep.refl h0 []
 refine OG.cast (oef9 m a1 (10 : Int32)) ?_
 refine og_aloadN X0 hx rfl rfl (hb hby d37_0) rfl ?_
 refine og_getfield X0 hx hZ (host := "") hown (Or.inl (ow23 hw)) Via.refl e0 F_value_a1 (hb hby d37_1) rfl (fun T11 X11 e11 => ?_)
 refine og_arraylength X11 hx hZ e11 V_bv (hb hby d37_4) rfl ?_
 refine og_istoreN (L' := #[.val (.ref a1), .val (.int 10), .val (.int 4), .unset, .unset, .unset]) X11 hx rfl (hb hby d37_5) rfl ?_
 refine og_iloadN X11 hx rfl (hb hby d37_6) rfl ?_
 refine og_aloadN X11 hx rfl rfl (hb hby d37_7) rfl ?_
 refine og_getfield X11 hx hZ (host := "") hown (Or.inl (ow25 hw)) Via.refl e11 F_coder_a1 (hb hby d37_8) rfl (fun T12 X12 e12 => ?_)
 refine og_ishl X12 hx (hb hby d37_11) rfl ?_
 show OG p e below _ (T12.setTop (mkF m 12 #[.val (.ref a1), .val (.int 10), .val (.int 4), .unset, .unset, .unset] [(.int 10)]))
 refine og_istoreN (L' := #[.val (.ref a1), .val (.int 10), .val (.int 4), .val (.int 10), .unset, .unset]) X12 hx rfl (hb hby d37_12) rfl ?_
 refine og_iloadN X12 hx rfl (hb hby d37_13) rfl ?_
 refine og_iloadN X12 hx rfl (hb hby d37_14) rfl ?_
 refine og_isub X12 hx (hb hby d37_15) rfl ?_
 show OG p e below _ (T12.setTop (mkF m 16 #[.val (.ref a1), .val (.int 10), .val (.int 4), .val (.int 10), .unset, .unset] [(.int 6)]))
 refine og_istore (L' := #[.val (.ref a1), .val (.int 10), .val (.int 4), .val (.int 10), .val (.int 6), .unset]) X12 hx rfl (hb hby d37_16) rfl ?_
 refine og_iloadN X12 hx rfl (hb hby d37_18) rfl ?_
 refine og_iload X12 hx rfl (hb hby d37_19) rfl ?_
 refine og_iloadN X12 hx rfl (hb hby d37_21) rfl ?_
 refine og_iconst (v := 2) X12 hx rfl (hb hby d37_22) rfl ?_
 refine og_aloadN X12 hx rfl rfl (hb hby d37_23) rfl ?_
 refine og_getfield X12 hx hZ (host := "") hown (Or.inl (ow25 hw)) Via.refl e12 F_coder_a1 (hb hby d37_24) rfl (fun T13 X13 e13 => ?_)
 refine og_ishl X13 hx (hb hby d37_27) rfl ?_
 show OG p e below _ (T13.setTop (mkF m 28 #[.val (.ref a1), .val (.int 10), .val (.int 4), .val (.int 10), .val (.int 6), .unset] [(.int 2), (.int 4), (.int 6), (.int 4)]))
 refine og_iadd X13 hx (hb hby d37_28) rfl ?_
 show OG p e below _ (T13.setTop (mkF m 29 #[.val (.ref a1), .val (.int 10), .val (.int 4), .val (.int 10), .val (.int 6), .unset] [(.int 6), (.int 6), (.int 4)]))
 refine og_static (pc' := 32) (cells' := 0) (slots' := 0) (W := 0) X13 hx hZ (rm_nl_10 l Z a0 hw h0 n0 O) hown (ow203 hw) (ow204 hw) (ow205 hw) (ow206 hw) (by decide) (by rw [hml]; rfl) e13 opd_6 [(.int 4), (.int 6), (.int 6)] [] rfl rfl rfl rfl (by decide) (by decide) rfl rfl (by decide) (by decide) (hb hby d37_29) rfl (fun v14 T14 h14 L14 X14 e14 z14 => ?_)
 obtain ⟨rfl, Nq14, hq14⟩ := z14; replace e14 := e14.trans hq14; have N := Fr.app N Nq14
 refine og_istore (L' := #[.val (.ref a1), .val (.int 10), .val (.int 4), .val (.int 10), .val (.int 6), .val (.int 10)]) X14 hx rfl (hb hby d37_32) rfl ?_
 refine og_iload X14 hx rfl (hb hby d37_34) rfl ?_
 refine og_ldc X14 hx hZ hown (ow211 hw) (hb hby d37_36) rfl ?_
 refine og_icmp_ne (pc1 := 51) (pc2 := 41) X14 hx (hb hby d37_38) (by decide) (by decide) rfl (fun _ => ?_) (fun q => absurd q (by decide))
 refine og_iload X14 hx rfl (hb hby d37_51) rfl ?_
 refine og_aloadN X14 hx rfl rfl (hb hby d37_53) rfl ?_
 refine og_getfield X14 hx hZ (host := "") hown (Or.inl (ow25 hw)) Via.refl e14 F_coder_a1 (hb hby d37_54) rfl (fun T15 X15 e15 => ?_)
 refine og_ishr X15 hx (hb hby d37_57) rfl ?_
 show OG p e below _ (T15.setTop (mkF m 58 #[.val (.ref a1), .val (.int 10), .val (.int 4), .val (.int 10), .val (.int 6), .val (.int 10)] [(.int 10)]))
 refine og_retI X15 hx hlk hret (hb hby d37_58) (by decide) (by decide) ?_
 rw [e15]; exact ⟨rfl, N, rfl⟩
theorem rm_ec_10 (l : Launch) (Z : State) (a0 : Array Value) (hw : HW a0 Z) (a1 bv : Addr) (kb : ClassId) (cn v0 v1 v2 v3 : Int32) (h0 : Heap) (n0 : Nat) (O : Old Z n0 h0) (E_a1 : Exa Z h0 a1 "java/lang/StringBuilder") (F_value_a1 : Fld Z h0 a1 "java/lang/AbstractStringBuilder" "value" "[B" (.ref bv)) (F_coder_a1 : Fld Z h0 a1 "java/lang/AbstractStringBuilder" "coder" "B" (.int 0)) (F_count_a1 : Fld Z h0 a1 "java/lang/AbstractStringBuilder" "count" "I" (.int cn)) (V_bv : Arv Z h0 bv kb .byte (4 : Int32) [(.int v0), (.int v1), (.int v2), (.int v3)] (.int 0)) (g_a1 : n0 ≤ a1) (ne_a1_bv : a1 ≠ bv) :
  Con l Z (⟨"java/lang/AbstractStringBuilder", "ensureCapacityInternal", "(I)V"⟩ : MethodName) jdk_68_method_9_code 3 none ({ frames := 3, cells := 1, slots := 11, locals := 48 } : Room) #[(.ref a1), (.int 10)] h0 (fun v h L => ∃ b k, v = none ∧ Fr n0 L ∧ Keep h0 h [a1] ∧ h0.size ≤ b ∧ Exa Z h a1 "java/lang/StringBuilder" ∧ Fld Z h a1 "java/lang/AbstractStringBuilder" "value" "[B" (.ref b) ∧ Fld Z h a1 "java/lang/AbstractStringBuilder" "coder" "B" (.int 0) ∧ Fld Z h a1 "java/lang/AbstractStringBuilder" "count" "I" (.int cn) ∧ Arv Z h b k .byte (10 : Int32) [(.int v0), (.int v1), (.int v2), (.int v3), (.int 0), (.int 0), (.int 0), (.int 0), (.int 0), (.int 0)] (.int 0) ∧ Exa Z h b "[B") := by
 refine own_startC opn_16 ?_
 intro p e s m below meth c T0 X0 hx hby hml hZ hown hnm hret hlk e0
 have N := Fr.nil n0; have K := Keep.refl h0 [a1]
 refine OG.cast (oef6 m a1 (10 : Int32)) ?_
 refine og_aloadN X0 hx rfl rfl (hb hby d16_0) rfl ?_
 refine og_getfield X0 hx hZ (host := "") hown (Or.inl (ow23 hw)) Via.refl e0 F_value_a1 (hb hby d16_1) rfl (fun T11 X11 e11 => ?_)
 refine og_arraylength X11 hx hZ e11 V_bv (hb hby d16_4) rfl ?_
 refine og_aloadN X11 hx rfl rfl (hb hby d16_5) rfl ?_
 refine og_getfield X11 hx hZ (host := "") hown (Or.inl (ow25 hw)) Via.refl e11 F_coder_a1 (hb hby d16_6) rfl (fun T12 X12 e12 => ?_)
 refine og_ishr X12 hx (hb hby d16_9) rfl ?_
 show OG p e below _ (T12.setTop (mkF m 10 #[.val (.ref a1), .val (.int 10), .unset] [(.int 4)]))
 refine og_istoreN (L' := #[.val (.ref a1), .val (.int 10), .val (.int 4)]) X12 hx rfl (hb hby d16_10) rfl ?_
 refine og_iloadN X12 hx rfl (hb hby d16_11) rfl ?_
 refine og_iloadN X12 hx rfl (hb hby d16_12) rfl ?_
 refine og_isub X12 hx (hb hby d16_13) rfl ?_
 show OG p e below _ (T12.setTop (mkF m 14 #[.val (.ref a1), .val (.int 10), .val (.int 4)] [(.int 6)]))
 refine og_if_le (pc1 := 38) (pc2 := 17) X12 hx (hb hby d16_14) (by decide) (by decide) rfl (fun q => absurd q (by decide)) (fun _ => ?_)
 refine og_aloadN X12 hx rfl rfl (hb hby d16_17) rfl ?_
 refine og_aloadN X12 hx rfl rfl (hb hby d16_18) rfl ?_
 refine og_getfield X12 hx hZ (host := "") hown (Or.inl (ow23 hw)) Via.refl e12 F_value_a1 (hb hby d16_19) rfl (fun T13 X13 e13 => ?_)
 refine og_aloadN X13 hx rfl rfl (hb hby d16_22) rfl ?_
 refine og_iloadN X13 hx rfl (hb hby d16_23) rfl ?_
 refine og_private (pc' := 27) (cells' := 0) (slots' := 0) (W := 2) X13 hx hZ (rm_ncp_10 l Z a0 hw a1 bv kb _ h0 n0 O F_value_a1 F_coder_a1 V_bv) hown (ow198 hw) (ow199 hw) (own_selfp (ow201 hw) (ow199 hw) (ow200 hw) (by decide)) (ow200 hw) (ow15 hw) (ow202 hw) (by decide) (by rw [hml]; rfl) e13 opd_1 [(.int 10)] [(.ref bv), (.ref a1)] rfl rfl rfl rfl (by decide) (by decide) rfl rfl (by decide) (by decide) E_a1 (hb hby d16_24) rfl (fun v14 T14 h14 L14 X14 e14 z14 => ?_)
 obtain ⟨rfl, Nq14, hq14⟩ := z14; replace e14 := e14.trans hq14; have N := Fr.app N Nq14
 refine og_aloadN X14 hx rfl rfl (hb hby d16_27) rfl ?_
 refine og_getfield X14 hx hZ (host := "") hown (Or.inl (ow25 hw)) Via.refl e14 F_coder_a1 (hb hby d16_28) rfl (fun T15 X15 e15 => ?_)
 refine og_ishl X15 hx (hb hby d16_31) rfl ?_
 show OG p e below _ (T15.setTop (mkF m 32 #[.val (.ref a1), .val (.int 10), .val (.int 4)] [(.int 10), (.ref bv), (.ref a1)]))
 refine og_static (pc' := 35) (cells' := 1) (slots' := 10) (W := 1) X15 hx hZ (rm_cpo_4_10 l Z a0 hw bv kb v0 v1 v2 v3 h0 n0 O V_bv) hown (ow212 hw) (ow213 hw) (ow155 hw) (ow214 hw) (by decide) (by rw [hml]; rfl) e15 opd_7 [(.ref bv), (.int 10)] [(.ref a1)] rfl rfl rfl rfl (by decide) (by decide) rfl rfl (by decide) (by decide) (hb hby d16_32) rfl (fun v16 T16 h16 L16 X16 e16 z16 => ?_)
 obtain ⟨nb16, k16, rfl, Nq16, K16, sb16, V_nb16, E_nb16⟩ := z16; have N := Fr.app N Nq16
 have s_nb16 : h0.size ≤ nb16 := sb16; have g_nb16 : n0 ≤ nb16 := Nat.le_trans (own_n0 O) s_nb16; have sz_nb16 : h0.size ≤ nb16 := Nat.le_trans K.1 s_nb16; have ne_a1_nb16 : a1 ≠ nb16 := Nat.ne_of_lt (Nat.lt_of_lt_of_le E_a1.lt s_nb16); have ne_bv_nb16 : bv ≠ nb16 := Nat.ne_of_lt (Nat.lt_of_lt_of_le V_bv.lt s_nb16)
 have E_a1 := E_a1.keep K16; have F_value_a1 := F_value_a1.keep K16 nin0; have F_coder_a1 := F_coder_a1.keep K16 nin0; have F_count_a1 := F_count_a1.keep K16 nin0; have V_bv := V_bv.keep K16 nin0; have O := O.keep K16 all0
 have K := K.trans K16 all0
 refine og_putfield X16 hx hZ (ty := (.array .byte)) (host := "") hown (Or.inl (ow23 hw)) Via.refl e16 F_value_a1 E_a1 (Or.inl (ow24 hw)) (ow6 hw) (by decide) rfl rfl (hb hby d16_35) rfl (fun T17 h17 X17 e17 W17 => ?_)
 have F_value_a1_ := F_value_a1.same W17
 have E_a1 := E_a1.wr W17; have F_coder_a1 := F_coder_a1.other W17 (Or.inr (slot_ne (Or.inl (ow26 hw)) (Or.inl (ow24 hw)) (by decide) (t := .byte) (t' := (.array .byte)) (by decide) (by decide))); have F_count_a1 := F_count_a1.other W17 (Or.inr (slot_ne (Or.inl (ow82 hw)) (Or.inl (ow24 hw)) (by decide) (t := .int) (t' := (.array .byte)) (by decide) (by decide))); have V_bv := V_bv.other W17 (Ne.symm ne_a1_bv); have V_nb16 := V_nb16.other W17 (Ne.symm ne_a1_nb16); have E_nb16 := E_nb16.wr W17
 have O := O.wr W17 g_a1; have K := K.wr W17 (Or.inl (List.mem_of_getElem? (i := 0) rfl))
 have N := Fr.snoc X17 N g_a1; have F_value_a1 := F_value_a1_
 refine og_retV X17 hx hlk hret (hb hby d16_38) (by decide) (by decide) ?_
 rw [e17]; exact ⟨_, _, rfl, N, K, sz_nb16, E_a1, F_value_a1, F_coder_a1, F_count_a1, V_nb16, E_nb16⟩
theorem rm_max_7_6 (l : Launch) (Z : State) (a0 : Array Value) (hw : HW a0 Z)  (h0 : Heap) (n0 : Nat) (O : Old Z n0 h0) :
  Con l Z (⟨"java/lang/Math", "max", "(II)I"⟩ : MethodName) jdk_29_method_65_code 2 (some .int) ({ frames := 0, cells := 0, slots := 0, locals := 0 } : Room) #[(.int 7), (.int 6)] h0 (fun v h L => v = some (.int 7) ∧ Fr n0 L ∧ h = h0) := by
 refine own_startC opn_39 ?_
 intro p e s m below meth c T0 X0 hx hby hml hZ hown hnm hret hlk e0
 have N := Fr.nil n0; have K := Keep.refl h0 []
 refine OG.cast (oef7 m (7 : Int32) (6 : Int32)) ?_
 refine og_iloadN X0 hx rfl (hb hby d39_0) rfl ?_
 refine og_iloadN X0 hx rfl (hb hby d39_1) rfl ?_
 refine og_icmp_lt (pc1 := 9) (pc2 := 5) X0 hx (hb hby d39_2) (by decide) (by decide) rfl (fun q => absurd q (by decide)) (fun _ => ?_)
 refine og_iloadN X0 hx rfl (hb hby d39_5) rfl ?_
 refine og_goto (pc' := 10) X0 hx (hb hby d39_6) (by decide) (by decide) ?_
 refine og_retI X0 hx hlk hret (hb hby d39_10) (by decide) (by decide) ?_
 rw [e0]; exact ⟨rfl, N, rfl⟩
theorem rm_nl_11 (l : Launch) (Z : State) (a0 : Array Value) (hw : HW a0 Z)  (h0 : Heap) (n0 : Nat) (O : Old Z n0 h0) :
  Con l Z (⟨"jdk/internal/util/ArraysSupport", "newLength", "(III)I"⟩ : MethodName) jdk_48_method_27_code 4 (some .int) ({ frames := 1, cells := 0, slots := 0, locals := 14 } : Room) #[(.int 4), (.int 7), (.int 6)] h0 (fun v h L => v = some (.int 11) ∧ Fr n0 L ∧ h = h0) := by
 refine own_startC opn_38 ?_
 intro p e s m below meth c T0 X0 hx hby hml hZ hown hnm hret hlk e0
 have N := Fr.nil n0; have K := Keep.refl h0 []
 refine OG.cast (oef8 m (4 : Int32) (7 : Int32) (6 : Int32)) ?_
 refine og_iloadN X0 hx rfl (hb hby d38_0) rfl ?_
 refine og_iloadN X0 hx rfl (hb hby d38_1) rfl ?_
 refine og_iloadN X0 hx rfl (hb hby d38_2) rfl ?_
 refine og_static (pc' := 6) (cells' := 0) (slots' := 0) (W := 1) X0 hx hZ (rm_max_7_6 l Z a0 hw h0 n0 O) hown (ow207 hw) (ow208 hw) (ow32 hw) (ow209 hw) (by decide) (by rw [hml]; rfl) e0 opd_5 [(.int 7), (.int 6)] [(.int 4)] rfl rfl rfl rfl (by decide) (by decide) rfl rfl (by decide) (by decide) (hb hby d38_3) rfl (fun v11 T11 h11 L11 X11 e11 z11 => ?_)
 obtain ⟨rfl, Nq11, hq11⟩ := z11; replace e11 := e11.trans hq11; have N := Fr.app N Nq11
 refine og_iadd X11 hx (hb hby d38_6) rfl ?_
 show OG p e below _ (T11.setTop (mkF m 7 #[.val (.int 4), .val (.int 7), .val (.int 6), .unset] [(.int 11)]))
 refine og_istoreN (L' := #[.val (.int 4), .val (.int 7), .val (.int 6), .val (.int 11)]) X11 hx rfl (hb hby d38_7) rfl ?_
 refine og_iconst (v := 0) X11 hx rfl (hb hby d38_8) rfl ?_
 refine og_iloadN X11 hx rfl (hb hby d38_9) rfl ?_
 refine og_icmp_ge (pc1 := 21) (pc2 := 13) X11 hx (hb hby d38_10) (by decide) (by decide) rfl (fun q => absurd q (by decide)) (fun _ => ?_)
 refine og_iloadN X11 hx rfl (hb hby d38_13) rfl ?_
 refine og_ldc X11 hx hZ hown (ow210 hw) (hb hby d38_14) rfl ?_
 refine og_icmp_gt (pc1 := 21) (pc2 := 19) X11 hx (hb hby d38_16) (by decide) (by decide) rfl (fun q => absurd q (by decide)) (fun _ => ?_)
 refine og_iloadN X11 hx rfl (hb hby d38_19) rfl ?_
 refine og_retI X11 hx hlk hret (hb hby d38_20) (by decide) (by decide) ?_
 rw [e11]; exact ⟨rfl, N, rfl⟩
theorem rm_ncp_11 (l : Launch) (Z : State) (a0 : Array Value) (hw : HW a0 Z) (a1 bv : Addr) (kb : ClassId) (vs : List Value) (h0 : Heap) (n0 : Nat) (O : Old Z n0 h0) (F_value_a1 : Fld Z h0 a1 "java/lang/AbstractStringBuilder" "value" "[B" (.ref bv)) (F_coder_a1 : Fld Z h0 a1 "java/lang/AbstractStringBuilder" "coder" "B" (.int 0)) (V_bv : Arv Z h0 bv kb .byte (4 : Int32) vs (.int 0)) :
  Con l Z (⟨"java/lang/AbstractStringBuilder", "newCapacity", "(I)I"⟩ : MethodName) jdk_68_method_10_code 6 (some .int) ({ frames := 2, cells := 0, slots := 0, locals := 29 } : Room) #[(.ref a1), (.int 11)] h0 (fun v h L => v = some (.int 11) ∧ Fr n0 L ∧ h = h0) := by
 refine own_startC opn_37 ?_
 intro p e s m below meth c T0 X0 hx hby hml hZ hown hnm hret hlk e0
 have N := Fr.nil n0; have K := Keep.refl h0 []
 refine OG.cast (oef9 m a1 (11 : Int32)) ?_
 refine og_aloadN X0 hx rfl rfl (hb hby d37_0) rfl ?_
 refine og_getfield X0 hx hZ (host := "") hown (Or.inl (ow23 hw)) Via.refl e0 F_value_a1 (hb hby d37_1) rfl (fun T11 X11 e11 => ?_)
 refine og_arraylength X11 hx hZ e11 V_bv (hb hby d37_4) rfl ?_
 refine og_istoreN (L' := #[.val (.ref a1), .val (.int 11), .val (.int 4), .unset, .unset, .unset]) X11 hx rfl (hb hby d37_5) rfl ?_
 refine og_iloadN X11 hx rfl (hb hby d37_6) rfl ?_
 refine og_aloadN X11 hx rfl rfl (hb hby d37_7) rfl ?_
 refine og_getfield X11 hx hZ (host := "") hown (Or.inl (ow25 hw)) Via.refl e11 F_coder_a1 (hb hby d37_8) rfl (fun T12 X12 e12 => ?_)
 refine og_ishl X12 hx (hb hby d37_11) rfl ?_
 show OG p e below _ (T12.setTop (mkF m 12 #[.val (.ref a1), .val (.int 11), .val (.int 4), .unset, .unset, .unset] [(.int 11)]))
 refine og_istoreN (L' := #[.val (.ref a1), .val (.int 11), .val (.int 4), .val (.int 11), .unset, .unset]) X12 hx rfl (hb hby d37_12) rfl ?_
 refine og_iloadN X12 hx rfl (hb hby d37_13) rfl ?_
 refine og_iloadN X12 hx rfl (hb hby d37_14) rfl ?_
 refine og_isub X12 hx (hb hby d37_15) rfl ?_
 show OG p e below _ (T12.setTop (mkF m 16 #[.val (.ref a1), .val (.int 11), .val (.int 4), .val (.int 11), .unset, .unset] [(.int 7)]))
 refine og_istore (L' := #[.val (.ref a1), .val (.int 11), .val (.int 4), .val (.int 11), .val (.int 7), .unset]) X12 hx rfl (hb hby d37_16) rfl ?_
 refine og_iloadN X12 hx rfl (hb hby d37_18) rfl ?_
 refine og_iload X12 hx rfl (hb hby d37_19) rfl ?_
 refine og_iloadN X12 hx rfl (hb hby d37_21) rfl ?_
 refine og_iconst (v := 2) X12 hx rfl (hb hby d37_22) rfl ?_
 refine og_aloadN X12 hx rfl rfl (hb hby d37_23) rfl ?_
 refine og_getfield X12 hx hZ (host := "") hown (Or.inl (ow25 hw)) Via.refl e12 F_coder_a1 (hb hby d37_24) rfl (fun T13 X13 e13 => ?_)
 refine og_ishl X13 hx (hb hby d37_27) rfl ?_
 show OG p e below _ (T13.setTop (mkF m 28 #[.val (.ref a1), .val (.int 11), .val (.int 4), .val (.int 11), .val (.int 7), .unset] [(.int 2), (.int 4), (.int 7), (.int 4)]))
 refine og_iadd X13 hx (hb hby d37_28) rfl ?_
 show OG p e below _ (T13.setTop (mkF m 29 #[.val (.ref a1), .val (.int 11), .val (.int 4), .val (.int 11), .val (.int 7), .unset] [(.int 6), (.int 7), (.int 4)]))
 refine og_static (pc' := 32) (cells' := 0) (slots' := 0) (W := 0) X13 hx hZ (rm_nl_11 l Z a0 hw h0 n0 O) hown (ow203 hw) (ow204 hw) (ow205 hw) (ow206 hw) (by decide) (by rw [hml]; rfl) e13 opd_6 [(.int 4), (.int 7), (.int 6)] [] rfl rfl rfl rfl (by decide) (by decide) rfl rfl (by decide) (by decide) (hb hby d37_29) rfl (fun v14 T14 h14 L14 X14 e14 z14 => ?_)
 obtain ⟨rfl, Nq14, hq14⟩ := z14; replace e14 := e14.trans hq14; have N := Fr.app N Nq14
 refine og_istore (L' := #[.val (.ref a1), .val (.int 11), .val (.int 4), .val (.int 11), .val (.int 7), .val (.int 11)]) X14 hx rfl (hb hby d37_32) rfl ?_
 refine og_iload X14 hx rfl (hb hby d37_34) rfl ?_
 refine og_ldc X14 hx hZ hown (ow211 hw) (hb hby d37_36) rfl ?_
 refine og_icmp_ne (pc1 := 51) (pc2 := 41) X14 hx (hb hby d37_38) (by decide) (by decide) rfl (fun _ => ?_) (fun q => absurd q (by decide))
 refine og_iload X14 hx rfl (hb hby d37_51) rfl ?_
 refine og_aloadN X14 hx rfl rfl (hb hby d37_53) rfl ?_
 refine og_getfield X14 hx hZ (host := "") hown (Or.inl (ow25 hw)) Via.refl e14 F_coder_a1 (hb hby d37_54) rfl (fun T15 X15 e15 => ?_)
 refine og_ishr X15 hx (hb hby d37_57) rfl ?_
 show OG p e below _ (T15.setTop (mkF m 58 #[.val (.ref a1), .val (.int 11), .val (.int 4), .val (.int 11), .val (.int 7), .val (.int 11)] [(.int 11)]))
 refine og_retI X15 hx hlk hret (hb hby d37_58) (by decide) (by decide) ?_
 rw [e15]; exact ⟨rfl, N, rfl⟩
theorem rm_min_4_11 (l : Launch) (Z : State) (a0 : Array Value) (hw : HW a0 Z)  (h0 : Heap) (n0 : Nat) (O : Old Z n0 h0) :
  Con l Z (⟨"java/lang/Math", "min", "(II)I"⟩ : MethodName) jdk_29_method_69_code 2 (some .int) ({ frames := 0, cells := 0, slots := 0, locals := 0 } : Room) #[(.int 4), (.int 11)] h0 (fun v h L => v = some (.int 4) ∧ Fr n0 L ∧ h = h0) := by
 refine own_startC opn_41 ?_
 intro p e s m below meth c T0 X0 hx hby hml hZ hown hnm hret hlk e0
 have N := Fr.nil n0; have K := Keep.refl h0 []
 refine OG.cast (oef7 m (4 : Int32) (11 : Int32)) ?_
 refine og_iloadN X0 hx rfl (hb hby d41_0) rfl ?_
 refine og_iloadN X0 hx rfl (hb hby d41_1) rfl ?_
 refine og_icmp_gt (pc1 := 9) (pc2 := 5) X0 hx (hb hby d41_2) (by decide) (by decide) rfl (fun q => absurd q (by decide)) (fun _ => ?_)
 refine og_iloadN X0 hx rfl (hb hby d41_5) rfl ?_
 refine og_goto (pc' := 10) X0 hx (hb hby d41_6) (by decide) (by decide) ?_
 refine og_retI X0 hx hlk hret (hb hby d41_10) (by decide) (by decide) ?_
 rw [e0]; exact ⟨rfl, N, rfl⟩
theorem rm_cpo_4_11 (l : Launch) (Z : State) (a0 : Array Value) (hw : HW a0 Z) (ba : Addr) (kb : ClassId) (v0 v1 v2 v3 : Int32) (h0 : Heap) (n0 : Nat) (O : Old Z n0 h0) (V_ba : Arv Z h0 ba kb .byte (4 : Int32) [(.int v0), (.int v1), (.int v2), (.int v3)] (.int 0)) :
  Con l Z (⟨"java/util/Arrays", "copyOf", "([BI)[B"⟩ : MethodName) jdk_65_method_121_code 3 (some (.array .byte)) ({ frames := 1, cells := 1, slots := 11, locals := 18 } : Room) #[(.ref ba), (.int 11)] h0 (fun v h L => ∃ b k, v = some (.ref b) ∧ Fr n0 L ∧ Keep h0 h [] ∧ h0.size ≤ b ∧ Arv Z h b k .byte (11 : Int32) [(.int v0), (.int v1), (.int v2), (.int v3), (.int 0), (.int 0), (.int 0), (.int 0), (.int 0), (.int 0), (.int 0)] (.int 0) ∧ Exa Z h b "[B") := by
 refine own_startC opn_40 ?_
 intro p e s m below meth c T0 X0 hx hby hml hZ hown hnm hret hlk e0
 have N := Fr.nil n0; have K := Keep.refl h0 []
 refine OG.cast (oef6 m ba (11 : Int32)) ?_
 refine og_iloadN X0 hx rfl (hb hby d40_0) rfl ?_
 refine og_aloadN X0 hx rfl rfl (hb hby d40_1) rfl ?_
 refine og_arraylength X0 hx hZ e0 V_ba (hb hby d40_2) rfl ?_
 refine og_icmp_ne (pc1 := 14) (pc2 := 6) X0 hx (hb hby d40_3) (by decide) (by decide) rfl (fun _ => ?_) (fun q => absurd q (by decide))
 refine og_iloadN X0 hx rfl (hb hby d40_14) rfl ?_
 refine og_newarrayE (pc' := 17) (cells' := 1) (slots' := 11) (cap := 11) (ty := .byte) X0 hx hZ rfl (ow22 hw) e0 (by decide) (by decide) (by decide) rfl (hb hby d40_15) rfl rfl rfl (by decide) (by decide) (fun T11 h11 nb11 kA11 X11 e11 E11 q11 V_nb11 E_nb11 => ?_)
 have s_nb11 : h0.size ≤ nb11 := Nat.le_of_eq q11.symm; have g_nb11 : n0 ≤ nb11 := Nat.le_trans (own_n0 O) s_nb11; have sz_nb11 : h0.size ≤ nb11 := Nat.le_trans K.1 s_nb11; have ne_ba_nb11 : ba ≠ nb11 := Nat.ne_of_lt (Nat.lt_of_lt_of_le V_ba.lt s_nb11)
 have V_ba := V_ba.ext E11; have O := O.ext E11; have K := K.ext E11
 have V_nb11 : Arv Z h11 nb11 kA11 .byte (11 : Int32) [(.int 0), (.int 0), (.int 0), (.int 0), (.int 0), (.int 0), (.int 0), (.int 0), (.int 0), (.int 0), (.int 0)] (.int 0) := V_nb11.pad (pad_rep [] (.int 0) 11)
 refine og_astoreN (L' := #[.val (.ref ba), .val (.int 11), .val (.ref nb11)]) X11 hx rfl rfl (hb hby d40_17) rfl ?_
 refine og_aloadN X11 hx rfl rfl (hb hby d40_18) rfl ?_
 refine og_iconst (v := 0) X11 hx rfl (hb hby d40_19) rfl ?_
 refine og_aloadN X11 hx rfl rfl (hb hby d40_20) rfl ?_
 refine og_iconst (v := 0) X11 hx rfl (hb hby d40_21) rfl ?_
 refine og_aloadN X11 hx rfl rfl (hb hby d40_22) rfl ?_
 refine og_arraylength X11 hx hZ e11 V_ba (hb hby d40_23) rfl ?_
 refine og_iloadN X11 hx rfl (hb hby d40_24) rfl ?_
 refine og_static (pc' := 28) (cells' := 1) (slots' := 11) (W := 4) X11 hx hZ (rm_min_4_11 l Z a0 hw h11 n0 O) hown (ow215 hw) (ow216 hw) (ow32 hw) (ow217 hw) (by decide) (by rw [hml]; rfl) e11 opd_5 [(.int 4), (.int 11)] [(.int 0), (.ref nb11), (.int 0), (.ref ba)] rfl rfl rfl rfl (by decide) (by decide) rfl rfl (by decide) (by decide) (hb hby d40_25) rfl (fun v12 T12 h12 L12 X12 e12 z12 => ?_)
 obtain ⟨rfl, Nq12, hq12⟩ := z12; replace e12 := e12.trans hq12; have N := Fr.app N Nq12
 refine og_arraycopy (pc' := 31) (W := 0) (us := [(.int v0), (.int v1), (.int v2), (.int v3)]) X12 hx hZ (by rw [hml]; rfl) hown (ow218 hw) (ow126 hw) (ow124 hw) (ow125 hw) e12 V_ba V_nb11 rfl (by decide) (by decide) (by decide) (by decide) (by decide) rfl (Nat.le_of_ble_eq_true rfl) N g_nb11 rfl (by decide) (by decide) (hb hby d40_28) rfl (fun T13 h13 l13 X13 e13 N K13 V13 => ?_)
 have V_ba := V_ba.keep K13 (ninS ne_ba_nb11 nin0); have E_nb11 := E_nb11.keep K13; have O := O.keep K13 (allS g_nb11 all0); have K := K.trans K13 (allS (Or.inr sz_nb11) all0)
 have V_nb11 : Arv Z h13 nb11 kA11 .byte (11 : Int32) [(.int v0), (.int v1), (.int v2), (.int v3), (.int 0), (.int 0), (.int 0), (.int 0), (.int 0), (.int 0), (.int 0)] (.int 0) := V13
 refine og_aloadN X13 hx rfl rfl (hb hby d40_31) rfl ?_
 refine og_retR X13 hx hlk hret rfl rfl rfl (hb hby d40_32) (by decide) (by decide) ?_
 rw [e13]; exact ⟨_, _, rfl, N, K, sz_nb11, V_nb11, E_nb11⟩
theorem rm_ec_11 (l : Launch) (Z : State) (a0 : Array Value) (hw : HW a0 Z) (a1 bv : Addr) (kb : ClassId) (cn v0 v1 v2 v3 : Int32) (h0 : Heap) (n0 : Nat) (O : Old Z n0 h0) (E_a1 : Exa Z h0 a1 "java/lang/StringBuilder") (F_value_a1 : Fld Z h0 a1 "java/lang/AbstractStringBuilder" "value" "[B" (.ref bv)) (F_coder_a1 : Fld Z h0 a1 "java/lang/AbstractStringBuilder" "coder" "B" (.int 0)) (F_count_a1 : Fld Z h0 a1 "java/lang/AbstractStringBuilder" "count" "I" (.int cn)) (V_bv : Arv Z h0 bv kb .byte (4 : Int32) [(.int v0), (.int v1), (.int v2), (.int v3)] (.int 0)) (g_a1 : n0 ≤ a1) (ne_a1_bv : a1 ≠ bv) :
  Con l Z (⟨"java/lang/AbstractStringBuilder", "ensureCapacityInternal", "(I)V"⟩ : MethodName) jdk_68_method_9_code 3 none ({ frames := 3, cells := 1, slots := 11, locals := 48 } : Room) #[(.ref a1), (.int 11)] h0 (fun v h L => ∃ b k, v = none ∧ Fr n0 L ∧ Keep h0 h [a1] ∧ h0.size ≤ b ∧ Exa Z h a1 "java/lang/StringBuilder" ∧ Fld Z h a1 "java/lang/AbstractStringBuilder" "value" "[B" (.ref b) ∧ Fld Z h a1 "java/lang/AbstractStringBuilder" "coder" "B" (.int 0) ∧ Fld Z h a1 "java/lang/AbstractStringBuilder" "count" "I" (.int cn) ∧ Arv Z h b k .byte (11 : Int32) [(.int v0), (.int v1), (.int v2), (.int v3), (.int 0), (.int 0), (.int 0), (.int 0), (.int 0), (.int 0), (.int 0)] (.int 0) ∧ Exa Z h b "[B") := by
 refine own_startC opn_16 ?_
 intro p e s m below meth c T0 X0 hx hby hml hZ hown hnm hret hlk e0
 have N := Fr.nil n0; have K := Keep.refl h0 [a1]
 refine OG.cast (oef6 m a1 (11 : Int32)) ?_
 refine og_aloadN X0 hx rfl rfl (hb hby d16_0) rfl ?_
 refine og_getfield X0 hx hZ (host := "") hown (Or.inl (ow23 hw)) Via.refl e0 F_value_a1 (hb hby d16_1) rfl (fun T11 X11 e11 => ?_)
 refine og_arraylength X11 hx hZ e11 V_bv (hb hby d16_4) rfl ?_
 refine og_aloadN X11 hx rfl rfl (hb hby d16_5) rfl ?_
 refine og_getfield X11 hx hZ (host := "") hown (Or.inl (ow25 hw)) Via.refl e11 F_coder_a1 (hb hby d16_6) rfl (fun T12 X12 e12 => ?_)
 refine og_ishr X12 hx (hb hby d16_9) rfl ?_
 show OG p e below _ (T12.setTop (mkF m 10 #[.val (.ref a1), .val (.int 11), .unset] [(.int 4)]))
 refine og_istoreN (L' := #[.val (.ref a1), .val (.int 11), .val (.int 4)]) X12 hx rfl (hb hby d16_10) rfl ?_
 refine og_iloadN X12 hx rfl (hb hby d16_11) rfl ?_
 refine og_iloadN X12 hx rfl (hb hby d16_12) rfl ?_
 refine og_isub X12 hx (hb hby d16_13) rfl ?_
 show OG p e below _ (T12.setTop (mkF m 14 #[.val (.ref a1), .val (.int 11), .val (.int 4)] [(.int 7)]))
 refine og_if_le (pc1 := 38) (pc2 := 17) X12 hx (hb hby d16_14) (by decide) (by decide) rfl (fun q => absurd q (by decide)) (fun _ => ?_)
 refine og_aloadN X12 hx rfl rfl (hb hby d16_17) rfl ?_
 refine og_aloadN X12 hx rfl rfl (hb hby d16_18) rfl ?_
 refine og_getfield X12 hx hZ (host := "") hown (Or.inl (ow23 hw)) Via.refl e12 F_value_a1 (hb hby d16_19) rfl (fun T13 X13 e13 => ?_)
 refine og_aloadN X13 hx rfl rfl (hb hby d16_22) rfl ?_
 refine og_iloadN X13 hx rfl (hb hby d16_23) rfl ?_
 refine og_private (pc' := 27) (cells' := 0) (slots' := 0) (W := 2) X13 hx hZ (rm_ncp_11 l Z a0 hw a1 bv kb _ h0 n0 O F_value_a1 F_coder_a1 V_bv) hown (ow198 hw) (ow199 hw) (own_selfp (ow201 hw) (ow199 hw) (ow200 hw) (by decide)) (ow200 hw) (ow15 hw) (ow202 hw) (by decide) (by rw [hml]; rfl) e13 opd_1 [(.int 11)] [(.ref bv), (.ref a1)] rfl rfl rfl rfl (by decide) (by decide) rfl rfl (by decide) (by decide) E_a1 (hb hby d16_24) rfl (fun v14 T14 h14 L14 X14 e14 z14 => ?_)
 obtain ⟨rfl, Nq14, hq14⟩ := z14; replace e14 := e14.trans hq14; have N := Fr.app N Nq14
 refine og_aloadN X14 hx rfl rfl (hb hby d16_27) rfl ?_
 refine og_getfield X14 hx hZ (host := "") hown (Or.inl (ow25 hw)) Via.refl e14 F_coder_a1 (hb hby d16_28) rfl (fun T15 X15 e15 => ?_)
 refine og_ishl X15 hx (hb hby d16_31) rfl ?_
 show OG p e below _ (T15.setTop (mkF m 32 #[.val (.ref a1), .val (.int 11), .val (.int 4)] [(.int 11), (.ref bv), (.ref a1)]))
 refine og_static (pc' := 35) (cells' := 1) (slots' := 11) (W := 1) X15 hx hZ (rm_cpo_4_11 l Z a0 hw bv kb v0 v1 v2 v3 h0 n0 O V_bv) hown (ow212 hw) (ow213 hw) (ow155 hw) (ow214 hw) (by decide) (by rw [hml]; rfl) e15 opd_7 [(.ref bv), (.int 11)] [(.ref a1)] rfl rfl rfl rfl (by decide) (by decide) rfl rfl (by decide) (by decide) (hb hby d16_32) rfl (fun v16 T16 h16 L16 X16 e16 z16 => ?_)
 obtain ⟨nb16, k16, rfl, Nq16, K16, sb16, V_nb16, E_nb16⟩ := z16; have N := Fr.app N Nq16
 have s_nb16 : h0.size ≤ nb16 := sb16; have g_nb16 : n0 ≤ nb16 := Nat.le_trans (own_n0 O) s_nb16; have sz_nb16 : h0.size ≤ nb16 := Nat.le_trans K.1 s_nb16; have ne_a1_nb16 : a1 ≠ nb16 := Nat.ne_of_lt (Nat.lt_of_lt_of_le E_a1.lt s_nb16); have ne_bv_nb16 : bv ≠ nb16 := Nat.ne_of_lt (Nat.lt_of_lt_of_le V_bv.lt s_nb16)
 have E_a1 := E_a1.keep K16; have F_value_a1 := F_value_a1.keep K16 nin0; have F_coder_a1 := F_coder_a1.keep K16 nin0; have F_count_a1 := F_count_a1.keep K16 nin0; have V_bv := V_bv.keep K16 nin0; have O := O.keep K16 all0
 have K := K.trans K16 all0
 refine og_putfield X16 hx hZ (ty := (.array .byte)) (host := "") hown (Or.inl (ow23 hw)) Via.refl e16 F_value_a1 E_a1 (Or.inl (ow24 hw)) (ow6 hw) (by decide) rfl rfl (hb hby d16_35) rfl (fun T17 h17 X17 e17 W17 => ?_)
 have F_value_a1_ := F_value_a1.same W17
 have E_a1 := E_a1.wr W17; have F_coder_a1 := F_coder_a1.other W17 (Or.inr (slot_ne (Or.inl (ow26 hw)) (Or.inl (ow24 hw)) (by decide) (t := .byte) (t' := (.array .byte)) (by decide) (by decide))); have F_count_a1 := F_count_a1.other W17 (Or.inr (slot_ne (Or.inl (ow82 hw)) (Or.inl (ow24 hw)) (by decide) (t := .int) (t' := (.array .byte)) (by decide) (by decide))); have V_bv := V_bv.other W17 (Ne.symm ne_a1_bv); have V_nb16 := V_nb16.other W17 (Ne.symm ne_a1_nb16); have E_nb16 := E_nb16.wr W17
 have O := O.wr W17 g_a1; have K := K.wr W17 (Or.inl (List.mem_of_getElem? (i := 0) rfl))
 have N := Fr.snoc X17 N g_a1; have F_value_a1 := F_value_a1_
 refine og_retV X17 hx hlk hret (hb hby d16_38) (by decide) (by decide) ?_
 rw [e17]; exact ⟨_, _, rfl, N, K, sz_nb16, E_a1, F_value_a1, F_coder_a1, F_count_a1, V_nb16, E_nb16⟩
theorem rm_ecG (l : Launch) (Z : State) (a0 : Array Value) (hw : HW a0 Z) (a1 bv : Addr) (kb : ClassId) (cn v0 v1 v2 v3 tt zz : Int32) (mm : Nat) (hc : own_cap tt zz mm) (h0 : Heap) (n0 : Nat) (O : Old Z n0 h0) (E_a1 : Exa Z h0 a1 "java/lang/StringBuilder") (F_value_a1 : Fld Z h0 a1 "java/lang/AbstractStringBuilder" "value" "[B" (.ref bv)) (F_coder_a1 : Fld Z h0 a1 "java/lang/AbstractStringBuilder" "coder" "B" (.int 0)) (F_count_a1 : Fld Z h0 a1 "java/lang/AbstractStringBuilder" "count" "I" (.int cn)) (V_bv : Arv Z h0 bv kb .byte (4 : Int32) [(.int v0), (.int v1), (.int v2), (.int v3)] (.int 0)) (g_a1 : n0 ≤ a1) (ne_a1_bv : a1 ≠ bv) :
    Con l Z (⟨"java/lang/AbstractStringBuilder", "ensureCapacityInternal", "(I)V"⟩ : MethodName) jdk_68_method_9_code 3 none ({ frames := 3, cells := 1, slots := 11, locals := 48 } : Room) #[(.ref a1), (.int tt)] h0 (fun v h L => ∃ b k, v = none ∧ Fr n0 L ∧ Keep h0 h [a1] ∧ h0.size ≤ b ∧ Exa Z h a1 "java/lang/StringBuilder" ∧ Fld Z h a1 "java/lang/AbstractStringBuilder" "value" "[B" (.ref b) ∧ Fld Z h a1 "java/lang/AbstractStringBuilder" "coder" "B" (.int 0) ∧ Fld Z h a1 "java/lang/AbstractStringBuilder" "count" "I" (.int cn) ∧ Arv Z h b k .byte zz (own_pad mm [.int v0, .int v1, .int v2, .int v3]) (.int 0) ∧ Exa Z h b "[B") := by
  rcases hc with ⟨rfl, rfl, rfl⟩ | ⟨rfl, rfl, rfl⟩ | ⟨rfl, rfl, rfl⟩ | ⟨rfl, rfl, rfl⟩ | ⟨rfl, rfl, rfl⟩ | ⟨rfl, rfl, rfl⟩ | ⟨rfl, rfl, rfl⟩
  · exact rm_ec_5 l Z a0 hw a1 bv kb cn v0 v1 v2 v3 h0 n0 O E_a1 F_value_a1 F_coder_a1 F_count_a1 V_bv g_a1 ne_a1_bv
  · exact rm_ec_6 l Z a0 hw a1 bv kb cn v0 v1 v2 v3 h0 n0 O E_a1 F_value_a1 F_coder_a1 F_count_a1 V_bv g_a1 ne_a1_bv
  · exact rm_ec_7 l Z a0 hw a1 bv kb cn v0 v1 v2 v3 h0 n0 O E_a1 F_value_a1 F_coder_a1 F_count_a1 V_bv g_a1 ne_a1_bv
  · exact rm_ec_8 l Z a0 hw a1 bv kb cn v0 v1 v2 v3 h0 n0 O E_a1 F_value_a1 F_coder_a1 F_count_a1 V_bv g_a1 ne_a1_bv
  · exact rm_ec_9 l Z a0 hw a1 bv kb cn v0 v1 v2 v3 h0 n0 O E_a1 F_value_a1 F_coder_a1 F_count_a1 V_bv g_a1 ne_a1_bv
  · exact rm_ec_10 l Z a0 hw a1 bv kb cn v0 v1 v2 v3 h0 n0 O E_a1 F_value_a1 F_coder_a1 F_count_a1 V_bv g_a1 ne_a1_bv
  · exact rm_ec_11 l Z a0 hw a1 bv kb cn v0 v1 v2 v3 h0 n0 O E_a1 F_value_a1 F_coder_a1 F_count_a1 V_bv g_a1 ne_a1_bv
theorem rm_can (l : Launch) (Z : State) (a0 : Array Value) (hw : HW a0 Z) (cc : Int32) (hcc : ¬ 255 < cc) (h0 : Heap) (n0 : Nat) (O : Old Z n0 h0) :
  Con l Z (⟨"java/lang/StringLatin1", "canEncode", "(C)Z"⟩ : MethodName) jdk_43_method_3_code 1 (some .boolean) ({ frames := 0, cells := 0, slots := 0, locals := 0 } : Room) #[(.int cc)] h0 (fun v h L => v = some (.int 1) ∧ Fr n0 L ∧ h = h0) := by
 refine own_startC opn_18 ?_
 intro p e s m below meth c T0 X0 hx hby hml hZ hown hnm hret hlk e0
 have N := Fr.nil n0; have K := Keep.refl h0 []
 refine OG.cast (oef10 m cc) ?_
 refine og_iloadN X0 hx rfl (hb hby d18_0) rfl ?_
 refine og_sipush (v := 255) X0 hx rfl (hb hby d18_1) rfl ?_
 refine og_icmp_gt (pc1 := 11) (pc2 := 7) X0 hx (hb hby d18_4) (by decide) (by decide) rfl (fun q => absurd q hcc) (fun _ => ?_)
 refine og_iconst (v := 1) X0 hx rfl (hb hby d18_7) rfl ?_
 refine og_goto (pc' := 12) X0 hx (hb hby d18_8) (by decide) (by decide) ?_
 refine og_retN X0 hx hlk hret (by simp) (hb hby d18_12) (by decide) (by decide) ?_
 rw [e0]; exact ⟨rfl, N, rfl⟩
theorem rm_aac_0_45 (l : Launch) (Z : State) (a0 : Array Value) (hw : HW a0 Z) (a1 bv : Addr) (kb : ClassId) (v0 v1 v2 v3 : Int32) (cs : Int32) (hcs : ¬ cs = 0) (h0 : Heap) (n0 : Nat) (O : Old Z n0 h0) (E_a1 : Exa Z h0 a1 "java/lang/StringBuilder") (F_value_a1 : Fld Z h0 a1 "java/lang/AbstractStringBuilder" "value" "[B" (.ref bv)) (F_coder_a1 : Fld Z h0 a1 "java/lang/AbstractStringBuilder" "coder" "B" (.int 0)) (F_count_a1 : Fld Z h0 a1 "java/lang/AbstractStringBuilder" "count" "I" (.int 0)) (V_bv : Arv Z h0 bv kb .byte (4 : Int32) [(.int v0), (.int v1), (.int v2), (.int v3)] (.int 0)) (S_CS : Sta Z Z.heap "java/lang/String" "COMPACT_STRINGS" "Z" (.int cs)) (g_a1 : n0 ≤ a1) (g_bv : n0 ≤ bv) (ne_a1_bv : a1 ≠ bv) :
  Con l Z (⟨"java/lang/AbstractStringBuilder", "append", "(C)Ljava/lang/AbstractStringBuilder;"⟩ : MethodName) jdk_68_method_31_code 2 (some (.object "java/lang/AbstractStringBuilder")) ({ frames := 1, cells := 0, slots := 0, locals := 14 } : Room) #[(.ref a1), (.int 45)] h0 (fun v h L => v = some (.ref a1) ∧ Fr n0 L ∧ Keep h0 h [a1, bv] ∧ Exa Z h a1 "java/lang/StringBuilder" ∧ Fld Z h a1 "java/lang/AbstractStringBuilder" "value" "[B" (.ref bv) ∧ Fld Z h a1 "java/lang/AbstractStringBuilder" "coder" "B" (.int 0) ∧ Fld Z h a1 "java/lang/AbstractStringBuilder" "count" "I" (.int 1) ∧ Arv Z h bv kb .byte (4 : Int32) [(.int 45), (.int v1), (.int v2), (.int v3)] (.int 0)) := by
 refine own_startC opn_15 ?_
 intro p e s m below meth c T0 X0 hx hby hml hZ hown hnm hret hlk e0
 have N := Fr.nil n0; have K := Keep.refl h0 [a1, bv]
 refine OG.cast (oef5 m a1 (45 : Int32)) ?_
 refine og_aloadN X0 hx rfl rfl (hb hby d15_0) rfl ?_
 refine og_aloadN X0 hx rfl rfl (hb hby d15_1) rfl ?_
 refine og_getfield X0 hx hZ (host := "") hown (Or.inl (ow81 hw)) Via.refl e0 F_count_a1 (hb hby d15_2) rfl (fun T11 X11 e11 => ?_)
 refine og_iconst (v := 1) X11 hx rfl (hb hby d15_5) rfl ?_
 refine og_iadd X11 hx (hb hby d15_6) rfl ?_
 show OG p e below _ (T11.setTop (mkF m 7 #[.val (.ref a1), .val (.int 45)] [(.int 1), (.ref a1)]))
 refine og_private (pc' := 10) (cells' := 0) (slots' := 0) (W := 0) X11 hx hZ (rm_ecN l Z a0 hw a1 bv kb (4 : Int32) (1 : Int32) _ (by decide) h0 n0 O F_value_a1 F_coder_a1 V_bv) hown (ow83 hw) (ow84 hw) (own_selfp (ow86 hw) (ow84 hw) (ow85 hw) (by decide)) (ow85 hw) (ow15 hw) (ow87 hw) (by decide) (by rw [hml]; rfl) e11 opd_4 [(.int 1)] [] rfl rfl rfl rfl (by decide) (by decide) rfl rfl (by decide) (by decide) E_a1 (hb hby d15_7) rfl (fun v12 T12 h12 L12 X12 e12 z12 => ?_)
 obtain ⟨rfl, Nq12, hq12⟩ := z12; replace e12 := e12.trans hq12; have N := Fr.app N Nq12
 refine og_aloadN X12 hx rfl rfl (hb hby d15_10) rfl ?_
 refine og_virtual (pc' := 14) (cells' := 0) (slots' := 0) (W := 0) X12 hx hZ (rm_ail l Z a0 hw a1 cs hcs h0 n0 O F_coder_a1 S_CS) hown (ow88 hw) (ow89 hw) (own_nf hZ (ow91 hw)) (ow91 hw) (ow90 hw) (ow15 hw) (ow92 hw) (by decide) (by rw [hml]; rfl) e12 opd_8 [] [] rfl rfl rfl rfl (by decide) (by decide) rfl rfl (by decide) (by decide) E_a1 (hb hby d15_11) rfl (fun v13 T13 h13 L13 X13 e13 z13 => ?_)
 obtain ⟨rfl, Nq13, hq13⟩ := z13; replace e13 := e13.trans hq13; have N := Fr.app N Nq13
 refine og_if_eq (pc1 := 45) (pc2 := 17) X13 hx (hb hby d15_14) (by decide) (by decide) rfl (fun q => absurd q (by decide)) (fun _ => ?_)
 refine og_iloadN X13 hx rfl (hb hby d15_17) rfl ?_
 refine og_static (pc' := 21) (cells' := 0) (slots' := 0) (W := 0) X13 hx hZ (rm_can l Z a0 hw (45 : Int32) (by decide) h0 n0 O) hown (ow93 hw) (ow94 hw) (ow95 hw) (ow96 hw) (by decide) (by rw [hml]; rfl) e13 opd_9 [(.int 45)] [] rfl rfl rfl rfl (by decide) (by decide) rfl rfl (by decide) (by decide) (hb hby d15_18) rfl (fun v14 T14 h14 L14 X14 e14 z14 => ?_)
 obtain ⟨rfl, Nq14, hq14⟩ := z14; replace e14 := e14.trans hq14; have N := Fr.app N Nq14
 refine og_if_eq (pc1 := 45) (pc2 := 24) X14 hx (hb hby d15_21) (by decide) (by decide) rfl (fun q => absurd q (by decide)) (fun _ => ?_)
 refine og_aloadN X14 hx rfl rfl (hb hby d15_24) rfl ?_
 refine og_getfield X14 hx hZ (host := "") hown (Or.inl (ow23 hw)) Via.refl e14 F_value_a1 (hb hby d15_25) rfl (fun T15 X15 e15 => ?_)
 refine og_aloadN X15 hx rfl rfl (hb hby d15_28) rfl ?_
 refine og_dup X15 hx rfl (hb hby d15_29) rfl ?_
 refine og_getfield X15 hx hZ (host := "") hown (Or.inl (ow81 hw)) Via.refl e15 F_count_a1 (hb hby d15_30) rfl (fun T16 X16 e16 => ?_)
 refine og_dup_x1 X16 hx rfl rfl (hb hby d15_33) rfl ?_
 refine og_iconst (v := 1) X16 hx rfl (hb hby d15_34) rfl ?_
 refine og_iadd X16 hx (hb hby d15_35) rfl ?_
 show OG p e below _ (T16.setTop (mkF m 36 #[.val (.ref a1), .val (.int 45)] [(.int 1), (.ref a1), (.int 0), (.ref bv)]))
 refine og_putfield X16 hx hZ (ty := .int) (host := "") hown (Or.inl (ow81 hw)) Via.refl e16 F_count_a1 E_a1 (Or.inl (ow82 hw)) (ow6 hw) (by decide) rfl rfl (hb hby d15_36) rfl (fun T17 h17 X17 e17 W17 => ?_)
 have F_count_a1_ := F_count_a1.same W17
 have E_a1 := E_a1.wr W17; have F_value_a1 := F_value_a1.other W17 (Or.inr (slot_ne (Or.inl (ow24 hw)) (Or.inl (ow82 hw)) (by decide) (t := (.array .byte)) (t' := .int) (by decide) (by decide))); have F_coder_a1 := F_coder_a1.other W17 (Or.inr (slot_ne (Or.inl (ow26 hw)) (Or.inl (ow82 hw)) (by decide) (t := .byte) (t' := .int) (by decide) (by decide))); have V_bv := V_bv.other W17 (Ne.symm ne_a1_bv); have O := O.wr W17 g_a1; have K := K.wr W17 (Or.inl (List.mem_of_getElem? (i := 0) rfl))
 have N := Fr.snoc X17 N g_a1; have F_count_a1 := F_count_a1_
 refine og_iloadN X17 hx rfl (hb hby d15_39) rfl ?_
 refine og_i2b X17 hx (hb hby d15_40) rfl ?_
 show OG p e below _ (T17.setTop (mkF m 41 #[.val (.ref a1), .val (.int 45)] [(.int 45), (.int 0), (.ref bv)]))
 refine og_bastore X17 hx hZ e17 V_bv ⟨by decide, by decide⟩ 0 (by decide) (Nat.le_of_ble_eq_true rfl) (hb hby d15_41) rfl (fun T18 h18 X18 e18 W18 V18 => ?_)
 have E_a1 := E_a1.wr W18; have F_value_a1 := F_value_a1.other W18 (Or.inl ne_a1_bv); have F_coder_a1 := F_coder_a1.other W18 (Or.inl ne_a1_bv); have F_count_a1 := F_count_a1.other W18 (Or.inl ne_a1_bv); have O := O.wr W18 g_bv; have K := K.wr W18 (Or.inl (List.mem_of_getElem? (i := 1) rfl))
 have N := Fr.snoc X18 N g_bv
 have V_bv : Arv Z h18 bv kb .byte (4 : Int32) [(.int 45), (.int v1), (.int v2), (.int v3)] (.int 0) := V18
 refine og_goto (pc' := 75) X18 hx (hb hby d15_42) (by decide) (by decide) ?_
 refine og_aloadN X18 hx rfl rfl (hb hby d15_75) rfl ?_
 refine og_retR X18 hx hlk hret rfl rfl rfl (hb hby d15_76) (by decide) (by decide) ?_
 rw [e18]; exact ⟨rfl, N, K, E_a1, F_value_a1, F_coder_a1, F_count_a1, V_bv⟩
theorem rm_sac_0_45 (l : Launch) (Z : State) (a0 : Array Value) (hw : HW a0 Z) (a1 bv : Addr) (kb : ClassId) (v0 v1 v2 v3 : Int32) (cs : Int32) (hcs : ¬ cs = 0) (h0 : Heap) (n0 : Nat) (O : Old Z n0 h0) (E_a1 : Exa Z h0 a1 "java/lang/StringBuilder") (F_value_a1 : Fld Z h0 a1 "java/lang/AbstractStringBuilder" "value" "[B" (.ref bv)) (F_coder_a1 : Fld Z h0 a1 "java/lang/AbstractStringBuilder" "coder" "B" (.int 0)) (F_count_a1 : Fld Z h0 a1 "java/lang/AbstractStringBuilder" "count" "I" (.int 0)) (V_bv : Arv Z h0 bv kb .byte (4 : Int32) [(.int v0), (.int v1), (.int v2), (.int v3)] (.int 0)) (S_CS : Sta Z Z.heap "java/lang/String" "COMPACT_STRINGS" "Z" (.int cs)) (g_a1 : n0 ≤ a1) (g_bv : n0 ≤ bv) (ne_a1_bv : a1 ≠ bv) :
  Con l Z (⟨"java/lang/StringBuilder", "append", "(C)Ljava/lang/StringBuilder;"⟩ : MethodName) jdk_67_method_14_code 2 (some (.object "java/lang/StringBuilder")) ({ frames := 2, cells := 0, slots := 0, locals := 27 } : Room) #[(.ref a1), (.int 45)] h0 (fun v h L => v = some (.ref a1) ∧ Fr n0 L ∧ Keep h0 h [a1, bv] ∧ Exa Z h a1 "java/lang/StringBuilder" ∧ Fld Z h a1 "java/lang/AbstractStringBuilder" "value" "[B" (.ref bv) ∧ Fld Z h a1 "java/lang/AbstractStringBuilder" "coder" "B" (.int 0) ∧ Fld Z h a1 "java/lang/AbstractStringBuilder" "count" "I" (.int 1) ∧ Arv Z h bv kb .byte (4 : Int32) [(.int 45), (.int v1), (.int v2), (.int v3)] (.int 0)) := by
 refine own_startC opn_14 ?_
 intro p e s m below meth c T0 X0 hx hby hml hZ hown hnm hret hlk e0
 have N := Fr.nil n0; have K := Keep.refl h0 [a1, bv]
 refine OG.cast (oef5 m a1 (45 : Int32)) ?_
 refine og_aloadN X0 hx rfl rfl (hb hby d14_0) rfl ?_
 refine og_iloadN X0 hx rfl (hb hby d14_1) rfl ?_
 refine og_super (pc' := 5) (cells' := 0) (slots' := 0) (W := 0) X0 hx hZ (y := (⟨"java/lang/AbstractStringBuilder", "append", "(C)Ljava/lang/AbstractStringBuilder;"⟩ : MethodName)) (rm_aac_0_45 l Z a0 hw a1 bv kb v0 v1 v2 v3 cs hcs h0 n0 O E_a1 F_value_a1 F_coder_a1 F_count_a1 V_bv S_CS g_a1 g_bv ne_a1_bv) hown (ow76 hw) (own_sameM (ow79 hw) (own_nfc (ow89 hw) (ow91 hw) rfl) (by decide)) (ow77 hw) (ow78 hw) (by decide) (ow15 hw) (ow80 hw) (by decide) (by rw [hml]; rfl) e0 opd_10 [(.int 45)] [] rfl rfl rfl rfl (by decide) (by decide) rfl rfl (by decide) (by decide) E_a1 (hb hby d14_2) rfl (fun v11 T11 h11 L11 X11 e11 z11 => ?_)
 obtain ⟨rfl, Nq11, K11, E_a1', F_value_a1', F_coder_a1', F_count_a1', V_bv'⟩ := z11; have N := Fr.app N Nq11
 have E_a1 := E_a1.keep K11; have O := O.keep K11 (allS g_a1 (allS g_bv all0)); have K := K.trans K11 (allS (Or.inl (List.mem_of_getElem? (i := 0) rfl)) (allS (Or.inl (List.mem_of_getElem? (i := 1) rfl)) all0))
 have V_bv := V_bv'
 have E_a1 := E_a1'; have F_value_a1 := F_value_a1'; have F_coder_a1 := F_coder_a1'; have F_count_a1 := F_count_a1'
 refine og_pop X11 hx rfl (hb hby d14_5) rfl ?_
 refine og_aloadN X11 hx rfl rfl (hb hby d14_6) rfl ?_
 refine og_retR X11 hx hlk hret rfl rfl rfl (hb hby d14_7) (by decide) (by decide) ?_
 rw [e11]; exact ⟨rfl, N, K, E_a1, F_value_a1, F_coder_a1, F_count_a1, V_bv⟩
theorem rm_aac_0_48 (l : Launch) (Z : State) (a0 : Array Value) (hw : HW a0 Z) (a1 bv : Addr) (kb : ClassId) (v0 v1 v2 v3 : Int32) (cs : Int32) (hcs : ¬ cs = 0) (h0 : Heap) (n0 : Nat) (O : Old Z n0 h0) (E_a1 : Exa Z h0 a1 "java/lang/StringBuilder") (F_value_a1 : Fld Z h0 a1 "java/lang/AbstractStringBuilder" "value" "[B" (.ref bv)) (F_coder_a1 : Fld Z h0 a1 "java/lang/AbstractStringBuilder" "coder" "B" (.int 0)) (F_count_a1 : Fld Z h0 a1 "java/lang/AbstractStringBuilder" "count" "I" (.int 0)) (V_bv : Arv Z h0 bv kb .byte (4 : Int32) [(.int v0), (.int v1), (.int v2), (.int v3)] (.int 0)) (S_CS : Sta Z Z.heap "java/lang/String" "COMPACT_STRINGS" "Z" (.int cs)) (g_a1 : n0 ≤ a1) (g_bv : n0 ≤ bv) (ne_a1_bv : a1 ≠ bv) :
  Con l Z (⟨"java/lang/AbstractStringBuilder", "append", "(C)Ljava/lang/AbstractStringBuilder;"⟩ : MethodName) jdk_68_method_31_code 2 (some (.object "java/lang/AbstractStringBuilder")) ({ frames := 1, cells := 0, slots := 0, locals := 14 } : Room) #[(.ref a1), (.int 48)] h0 (fun v h L => v = some (.ref a1) ∧ Fr n0 L ∧ Keep h0 h [a1, bv] ∧ Exa Z h a1 "java/lang/StringBuilder" ∧ Fld Z h a1 "java/lang/AbstractStringBuilder" "value" "[B" (.ref bv) ∧ Fld Z h a1 "java/lang/AbstractStringBuilder" "coder" "B" (.int 0) ∧ Fld Z h a1 "java/lang/AbstractStringBuilder" "count" "I" (.int 1) ∧ Arv Z h bv kb .byte (4 : Int32) [(.int 48), (.int v1), (.int v2), (.int v3)] (.int 0)) := by
 refine own_startC opn_15 ?_
 intro p e s m below meth c T0 X0 hx hby hml hZ hown hnm hret hlk e0
 have N := Fr.nil n0; have K := Keep.refl h0 [a1, bv]
 refine OG.cast (oef5 m a1 (48 : Int32)) ?_
 refine og_aloadN X0 hx rfl rfl (hb hby d15_0) rfl ?_
 refine og_aloadN X0 hx rfl rfl (hb hby d15_1) rfl ?_
 refine og_getfield X0 hx hZ (host := "") hown (Or.inl (ow81 hw)) Via.refl e0 F_count_a1 (hb hby d15_2) rfl (fun T11 X11 e11 => ?_)
 refine og_iconst (v := 1) X11 hx rfl (hb hby d15_5) rfl ?_
 refine og_iadd X11 hx (hb hby d15_6) rfl ?_
 show OG p e below _ (T11.setTop (mkF m 7 #[.val (.ref a1), .val (.int 48)] [(.int 1), (.ref a1)]))
 refine og_private (pc' := 10) (cells' := 0) (slots' := 0) (W := 0) X11 hx hZ (rm_ecN l Z a0 hw a1 bv kb (4 : Int32) (1 : Int32) _ (by decide) h0 n0 O F_value_a1 F_coder_a1 V_bv) hown (ow83 hw) (ow84 hw) (own_selfp (ow86 hw) (ow84 hw) (ow85 hw) (by decide)) (ow85 hw) (ow15 hw) (ow87 hw) (by decide) (by rw [hml]; rfl) e11 opd_4 [(.int 1)] [] rfl rfl rfl rfl (by decide) (by decide) rfl rfl (by decide) (by decide) E_a1 (hb hby d15_7) rfl (fun v12 T12 h12 L12 X12 e12 z12 => ?_)
 obtain ⟨rfl, Nq12, hq12⟩ := z12; replace e12 := e12.trans hq12; have N := Fr.app N Nq12
 refine og_aloadN X12 hx rfl rfl (hb hby d15_10) rfl ?_
 refine og_virtual (pc' := 14) (cells' := 0) (slots' := 0) (W := 0) X12 hx hZ (rm_ail l Z a0 hw a1 cs hcs h0 n0 O F_coder_a1 S_CS) hown (ow88 hw) (ow89 hw) (own_nf hZ (ow91 hw)) (ow91 hw) (ow90 hw) (ow15 hw) (ow92 hw) (by decide) (by rw [hml]; rfl) e12 opd_8 [] [] rfl rfl rfl rfl (by decide) (by decide) rfl rfl (by decide) (by decide) E_a1 (hb hby d15_11) rfl (fun v13 T13 h13 L13 X13 e13 z13 => ?_)
 obtain ⟨rfl, Nq13, hq13⟩ := z13; replace e13 := e13.trans hq13; have N := Fr.app N Nq13
 refine og_if_eq (pc1 := 45) (pc2 := 17) X13 hx (hb hby d15_14) (by decide) (by decide) rfl (fun q => absurd q (by decide)) (fun _ => ?_)
 refine og_iloadN X13 hx rfl (hb hby d15_17) rfl ?_
 refine og_static (pc' := 21) (cells' := 0) (slots' := 0) (W := 0) X13 hx hZ (rm_can l Z a0 hw (48 : Int32) (by decide) h0 n0 O) hown (ow93 hw) (ow94 hw) (ow95 hw) (ow96 hw) (by decide) (by rw [hml]; rfl) e13 opd_9 [(.int 48)] [] rfl rfl rfl rfl (by decide) (by decide) rfl rfl (by decide) (by decide) (hb hby d15_18) rfl (fun v14 T14 h14 L14 X14 e14 z14 => ?_)
 obtain ⟨rfl, Nq14, hq14⟩ := z14; replace e14 := e14.trans hq14; have N := Fr.app N Nq14
 refine og_if_eq (pc1 := 45) (pc2 := 24) X14 hx (hb hby d15_21) (by decide) (by decide) rfl (fun q => absurd q (by decide)) (fun _ => ?_)
 refine og_aloadN X14 hx rfl rfl (hb hby d15_24) rfl ?_
 refine og_getfield X14 hx hZ (host := "") hown (Or.inl (ow23 hw)) Via.refl e14 F_value_a1 (hb hby d15_25) rfl (fun T15 X15 e15 => ?_)
 refine og_aloadN X15 hx rfl rfl (hb hby d15_28) rfl ?_
 refine og_dup X15 hx rfl (hb hby d15_29) rfl ?_
 refine og_getfield X15 hx hZ (host := "") hown (Or.inl (ow81 hw)) Via.refl e15 F_count_a1 (hb hby d15_30) rfl (fun T16 X16 e16 => ?_)
 refine og_dup_x1 X16 hx rfl rfl (hb hby d15_33) rfl ?_
 refine og_iconst (v := 1) X16 hx rfl (hb hby d15_34) rfl ?_
 refine og_iadd X16 hx (hb hby d15_35) rfl ?_
 show OG p e below _ (T16.setTop (mkF m 36 #[.val (.ref a1), .val (.int 48)] [(.int 1), (.ref a1), (.int 0), (.ref bv)]))
 refine og_putfield X16 hx hZ (ty := .int) (host := "") hown (Or.inl (ow81 hw)) Via.refl e16 F_count_a1 E_a1 (Or.inl (ow82 hw)) (ow6 hw) (by decide) rfl rfl (hb hby d15_36) rfl (fun T17 h17 X17 e17 W17 => ?_)
 have F_count_a1_ := F_count_a1.same W17
 have E_a1 := E_a1.wr W17; have F_value_a1 := F_value_a1.other W17 (Or.inr (slot_ne (Or.inl (ow24 hw)) (Or.inl (ow82 hw)) (by decide) (t := (.array .byte)) (t' := .int) (by decide) (by decide))); have F_coder_a1 := F_coder_a1.other W17 (Or.inr (slot_ne (Or.inl (ow26 hw)) (Or.inl (ow82 hw)) (by decide) (t := .byte) (t' := .int) (by decide) (by decide))); have V_bv := V_bv.other W17 (Ne.symm ne_a1_bv); have O := O.wr W17 g_a1; have K := K.wr W17 (Or.inl (List.mem_of_getElem? (i := 0) rfl))
 have N := Fr.snoc X17 N g_a1; have F_count_a1 := F_count_a1_
 refine og_iloadN X17 hx rfl (hb hby d15_39) rfl ?_
 refine og_i2b X17 hx (hb hby d15_40) rfl ?_
 show OG p e below _ (T17.setTop (mkF m 41 #[.val (.ref a1), .val (.int 48)] [(.int 48), (.int 0), (.ref bv)]))
 refine og_bastore X17 hx hZ e17 V_bv ⟨by decide, by decide⟩ 0 (by decide) (Nat.le_of_ble_eq_true rfl) (hb hby d15_41) rfl (fun T18 h18 X18 e18 W18 V18 => ?_)
 have E_a1 := E_a1.wr W18; have F_value_a1 := F_value_a1.other W18 (Or.inl ne_a1_bv); have F_coder_a1 := F_coder_a1.other W18 (Or.inl ne_a1_bv); have F_count_a1 := F_count_a1.other W18 (Or.inl ne_a1_bv); have O := O.wr W18 g_bv; have K := K.wr W18 (Or.inl (List.mem_of_getElem? (i := 1) rfl))
 have N := Fr.snoc X18 N g_bv
 have V_bv : Arv Z h18 bv kb .byte (4 : Int32) [(.int 48), (.int v1), (.int v2), (.int v3)] (.int 0) := V18
 refine og_goto (pc' := 75) X18 hx (hb hby d15_42) (by decide) (by decide) ?_
 refine og_aloadN X18 hx rfl rfl (hb hby d15_75) rfl ?_
 refine og_retR X18 hx hlk hret rfl rfl rfl (hb hby d15_76) (by decide) (by decide) ?_
 rw [e18]; exact ⟨rfl, N, K, E_a1, F_value_a1, F_coder_a1, F_count_a1, V_bv⟩
theorem rm_sac_0_48 (l : Launch) (Z : State) (a0 : Array Value) (hw : HW a0 Z) (a1 bv : Addr) (kb : ClassId) (v0 v1 v2 v3 : Int32) (cs : Int32) (hcs : ¬ cs = 0) (h0 : Heap) (n0 : Nat) (O : Old Z n0 h0) (E_a1 : Exa Z h0 a1 "java/lang/StringBuilder") (F_value_a1 : Fld Z h0 a1 "java/lang/AbstractStringBuilder" "value" "[B" (.ref bv)) (F_coder_a1 : Fld Z h0 a1 "java/lang/AbstractStringBuilder" "coder" "B" (.int 0)) (F_count_a1 : Fld Z h0 a1 "java/lang/AbstractStringBuilder" "count" "I" (.int 0)) (V_bv : Arv Z h0 bv kb .byte (4 : Int32) [(.int v0), (.int v1), (.int v2), (.int v3)] (.int 0)) (S_CS : Sta Z Z.heap "java/lang/String" "COMPACT_STRINGS" "Z" (.int cs)) (g_a1 : n0 ≤ a1) (g_bv : n0 ≤ bv) (ne_a1_bv : a1 ≠ bv) :
  Con l Z (⟨"java/lang/StringBuilder", "append", "(C)Ljava/lang/StringBuilder;"⟩ : MethodName) jdk_67_method_14_code 2 (some (.object "java/lang/StringBuilder")) ({ frames := 2, cells := 0, slots := 0, locals := 27 } : Room) #[(.ref a1), (.int 48)] h0 (fun v h L => v = some (.ref a1) ∧ Fr n0 L ∧ Keep h0 h [a1, bv] ∧ Exa Z h a1 "java/lang/StringBuilder" ∧ Fld Z h a1 "java/lang/AbstractStringBuilder" "value" "[B" (.ref bv) ∧ Fld Z h a1 "java/lang/AbstractStringBuilder" "coder" "B" (.int 0) ∧ Fld Z h a1 "java/lang/AbstractStringBuilder" "count" "I" (.int 1) ∧ Arv Z h bv kb .byte (4 : Int32) [(.int 48), (.int v1), (.int v2), (.int v3)] (.int 0)) := by
 refine own_startC opn_14 ?_
 intro p e s m below meth c T0 X0 hx hby hml hZ hown hnm hret hlk e0
 have N := Fr.nil n0; have K := Keep.refl h0 [a1, bv]
 refine OG.cast (oef5 m a1 (48 : Int32)) ?_
 refine og_aloadN X0 hx rfl rfl (hb hby d14_0) rfl ?_
 refine og_iloadN X0 hx rfl (hb hby d14_1) rfl ?_
 refine og_super (pc' := 5) (cells' := 0) (slots' := 0) (W := 0) X0 hx hZ (y := (⟨"java/lang/AbstractStringBuilder", "append", "(C)Ljava/lang/AbstractStringBuilder;"⟩ : MethodName)) (rm_aac_0_48 l Z a0 hw a1 bv kb v0 v1 v2 v3 cs hcs h0 n0 O E_a1 F_value_a1 F_coder_a1 F_count_a1 V_bv S_CS g_a1 g_bv ne_a1_bv) hown (ow76 hw) (own_sameM (ow79 hw) (own_nfc (ow89 hw) (ow91 hw) rfl) (by decide)) (ow77 hw) (ow78 hw) (by decide) (ow15 hw) (ow80 hw) (by decide) (by rw [hml]; rfl) e0 opd_10 [(.int 48)] [] rfl rfl rfl rfl (by decide) (by decide) rfl rfl (by decide) (by decide) E_a1 (hb hby d14_2) rfl (fun v11 T11 h11 L11 X11 e11 z11 => ?_)
 obtain ⟨rfl, Nq11, K11, E_a1', F_value_a1', F_coder_a1', F_count_a1', V_bv'⟩ := z11; have N := Fr.app N Nq11
 have E_a1 := E_a1.keep K11; have O := O.keep K11 (allS g_a1 (allS g_bv all0)); have K := K.trans K11 (allS (Or.inl (List.mem_of_getElem? (i := 0) rfl)) (allS (Or.inl (List.mem_of_getElem? (i := 1) rfl)) all0))
 have V_bv := V_bv'
 have E_a1 := E_a1'; have F_value_a1 := F_value_a1'; have F_coder_a1 := F_coder_a1'; have F_count_a1 := F_count_a1'
 refine og_pop X11 hx rfl (hb hby d14_5) rfl ?_
 refine og_aloadN X11 hx rfl rfl (hb hby d14_6) rfl ?_
 refine og_retR X11 hx hlk hret rfl rfl rfl (hb hby d14_7) (by decide) (by decide) ?_
 rw [e11]; exact ⟨rfl, N, K, E_a1, F_value_a1, F_coder_a1, F_count_a1, V_bv⟩
theorem rm_aac_1_48 (l : Launch) (Z : State) (a0 : Array Value) (hw : HW a0 Z) (a1 bv : Addr) (kb : ClassId) (v0 v1 v2 v3 : Int32) (cs : Int32) (hcs : ¬ cs = 0) (h0 : Heap) (n0 : Nat) (O : Old Z n0 h0) (E_a1 : Exa Z h0 a1 "java/lang/StringBuilder") (F_value_a1 : Fld Z h0 a1 "java/lang/AbstractStringBuilder" "value" "[B" (.ref bv)) (F_coder_a1 : Fld Z h0 a1 "java/lang/AbstractStringBuilder" "coder" "B" (.int 0)) (F_count_a1 : Fld Z h0 a1 "java/lang/AbstractStringBuilder" "count" "I" (.int 1)) (V_bv : Arv Z h0 bv kb .byte (4 : Int32) [(.int v0), (.int v1), (.int v2), (.int v3)] (.int 0)) (S_CS : Sta Z Z.heap "java/lang/String" "COMPACT_STRINGS" "Z" (.int cs)) (g_a1 : n0 ≤ a1) (g_bv : n0 ≤ bv) (ne_a1_bv : a1 ≠ bv) :
  Con l Z (⟨"java/lang/AbstractStringBuilder", "append", "(C)Ljava/lang/AbstractStringBuilder;"⟩ : MethodName) jdk_68_method_31_code 2 (some (.object "java/lang/AbstractStringBuilder")) ({ frames := 1, cells := 0, slots := 0, locals := 14 } : Room) #[(.ref a1), (.int 48)] h0 (fun v h L => v = some (.ref a1) ∧ Fr n0 L ∧ Keep h0 h [a1, bv] ∧ Exa Z h a1 "java/lang/StringBuilder" ∧ Fld Z h a1 "java/lang/AbstractStringBuilder" "value" "[B" (.ref bv) ∧ Fld Z h a1 "java/lang/AbstractStringBuilder" "coder" "B" (.int 0) ∧ Fld Z h a1 "java/lang/AbstractStringBuilder" "count" "I" (.int 2) ∧ Arv Z h bv kb .byte (4 : Int32) [(.int v0), (.int 48), (.int v2), (.int v3)] (.int 0)) := by
 refine own_startC opn_15 ?_
 intro p e s m below meth c T0 X0 hx hby hml hZ hown hnm hret hlk e0
 have N := Fr.nil n0; have K := Keep.refl h0 [a1, bv]
 refine OG.cast (oef5 m a1 (48 : Int32)) ?_
 refine og_aloadN X0 hx rfl rfl (hb hby d15_0) rfl ?_
 refine og_aloadN X0 hx rfl rfl (hb hby d15_1) rfl ?_
 refine og_getfield X0 hx hZ (host := "") hown (Or.inl (ow81 hw)) Via.refl e0 F_count_a1 (hb hby d15_2) rfl (fun T11 X11 e11 => ?_)
 refine og_iconst (v := 1) X11 hx rfl (hb hby d15_5) rfl ?_
 refine og_iadd X11 hx (hb hby d15_6) rfl ?_
 show OG p e below _ (T11.setTop (mkF m 7 #[.val (.ref a1), .val (.int 48)] [(.int 2), (.ref a1)]))
 refine og_private (pc' := 10) (cells' := 0) (slots' := 0) (W := 0) X11 hx hZ (rm_ecN l Z a0 hw a1 bv kb (4 : Int32) (2 : Int32) _ (by decide) h0 n0 O F_value_a1 F_coder_a1 V_bv) hown (ow83 hw) (ow84 hw) (own_selfp (ow86 hw) (ow84 hw) (ow85 hw) (by decide)) (ow85 hw) (ow15 hw) (ow87 hw) (by decide) (by rw [hml]; rfl) e11 opd_4 [(.int 2)] [] rfl rfl rfl rfl (by decide) (by decide) rfl rfl (by decide) (by decide) E_a1 (hb hby d15_7) rfl (fun v12 T12 h12 L12 X12 e12 z12 => ?_)
 obtain ⟨rfl, Nq12, hq12⟩ := z12; replace e12 := e12.trans hq12; have N := Fr.app N Nq12
 refine og_aloadN X12 hx rfl rfl (hb hby d15_10) rfl ?_
 refine og_virtual (pc' := 14) (cells' := 0) (slots' := 0) (W := 0) X12 hx hZ (rm_ail l Z a0 hw a1 cs hcs h0 n0 O F_coder_a1 S_CS) hown (ow88 hw) (ow89 hw) (own_nf hZ (ow91 hw)) (ow91 hw) (ow90 hw) (ow15 hw) (ow92 hw) (by decide) (by rw [hml]; rfl) e12 opd_8 [] [] rfl rfl rfl rfl (by decide) (by decide) rfl rfl (by decide) (by decide) E_a1 (hb hby d15_11) rfl (fun v13 T13 h13 L13 X13 e13 z13 => ?_)
 obtain ⟨rfl, Nq13, hq13⟩ := z13; replace e13 := e13.trans hq13; have N := Fr.app N Nq13
 refine og_if_eq (pc1 := 45) (pc2 := 17) X13 hx (hb hby d15_14) (by decide) (by decide) rfl (fun q => absurd q (by decide)) (fun _ => ?_)
 refine og_iloadN X13 hx rfl (hb hby d15_17) rfl ?_
 refine og_static (pc' := 21) (cells' := 0) (slots' := 0) (W := 0) X13 hx hZ (rm_can l Z a0 hw (48 : Int32) (by decide) h0 n0 O) hown (ow93 hw) (ow94 hw) (ow95 hw) (ow96 hw) (by decide) (by rw [hml]; rfl) e13 opd_9 [(.int 48)] [] rfl rfl rfl rfl (by decide) (by decide) rfl rfl (by decide) (by decide) (hb hby d15_18) rfl (fun v14 T14 h14 L14 X14 e14 z14 => ?_)
 obtain ⟨rfl, Nq14, hq14⟩ := z14; replace e14 := e14.trans hq14; have N := Fr.app N Nq14
 refine og_if_eq (pc1 := 45) (pc2 := 24) X14 hx (hb hby d15_21) (by decide) (by decide) rfl (fun q => absurd q (by decide)) (fun _ => ?_)
 refine og_aloadN X14 hx rfl rfl (hb hby d15_24) rfl ?_
 refine og_getfield X14 hx hZ (host := "") hown (Or.inl (ow23 hw)) Via.refl e14 F_value_a1 (hb hby d15_25) rfl (fun T15 X15 e15 => ?_)
 refine og_aloadN X15 hx rfl rfl (hb hby d15_28) rfl ?_
 refine og_dup X15 hx rfl (hb hby d15_29) rfl ?_
 refine og_getfield X15 hx hZ (host := "") hown (Or.inl (ow81 hw)) Via.refl e15 F_count_a1 (hb hby d15_30) rfl (fun T16 X16 e16 => ?_)
 refine og_dup_x1 X16 hx rfl rfl (hb hby d15_33) rfl ?_
 refine og_iconst (v := 1) X16 hx rfl (hb hby d15_34) rfl ?_
 refine og_iadd X16 hx (hb hby d15_35) rfl ?_
 show OG p e below _ (T16.setTop (mkF m 36 #[.val (.ref a1), .val (.int 48)] [(.int 2), (.ref a1), (.int 1), (.ref bv)]))
 refine og_putfield X16 hx hZ (ty := .int) (host := "") hown (Or.inl (ow81 hw)) Via.refl e16 F_count_a1 E_a1 (Or.inl (ow82 hw)) (ow6 hw) (by decide) rfl rfl (hb hby d15_36) rfl (fun T17 h17 X17 e17 W17 => ?_)
 have F_count_a1_ := F_count_a1.same W17
 have E_a1 := E_a1.wr W17; have F_value_a1 := F_value_a1.other W17 (Or.inr (slot_ne (Or.inl (ow24 hw)) (Or.inl (ow82 hw)) (by decide) (t := (.array .byte)) (t' := .int) (by decide) (by decide))); have F_coder_a1 := F_coder_a1.other W17 (Or.inr (slot_ne (Or.inl (ow26 hw)) (Or.inl (ow82 hw)) (by decide) (t := .byte) (t' := .int) (by decide) (by decide))); have V_bv := V_bv.other W17 (Ne.symm ne_a1_bv); have O := O.wr W17 g_a1; have K := K.wr W17 (Or.inl (List.mem_of_getElem? (i := 0) rfl))
 have N := Fr.snoc X17 N g_a1; have F_count_a1 := F_count_a1_
 refine og_iloadN X17 hx rfl (hb hby d15_39) rfl ?_
 refine og_i2b X17 hx (hb hby d15_40) rfl ?_
 show OG p e below _ (T17.setTop (mkF m 41 #[.val (.ref a1), .val (.int 48)] [(.int 48), (.int 1), (.ref bv)]))
 refine og_bastore X17 hx hZ e17 V_bv ⟨by decide, by decide⟩ 1 (by decide) (Nat.le_of_ble_eq_true rfl) (hb hby d15_41) rfl (fun T18 h18 X18 e18 W18 V18 => ?_)
 have E_a1 := E_a1.wr W18; have F_value_a1 := F_value_a1.other W18 (Or.inl ne_a1_bv); have F_coder_a1 := F_coder_a1.other W18 (Or.inl ne_a1_bv); have F_count_a1 := F_count_a1.other W18 (Or.inl ne_a1_bv); have O := O.wr W18 g_bv; have K := K.wr W18 (Or.inl (List.mem_of_getElem? (i := 1) rfl))
 have N := Fr.snoc X18 N g_bv
 have V_bv : Arv Z h18 bv kb .byte (4 : Int32) [(.int v0), (.int 48), (.int v2), (.int v3)] (.int 0) := V18
 refine og_goto (pc' := 75) X18 hx (hb hby d15_42) (by decide) (by decide) ?_
 refine og_aloadN X18 hx rfl rfl (hb hby d15_75) rfl ?_
 refine og_retR X18 hx hlk hret rfl rfl rfl (hb hby d15_76) (by decide) (by decide) ?_
 rw [e18]; exact ⟨rfl, N, K, E_a1, F_value_a1, F_coder_a1, F_count_a1, V_bv⟩
theorem rm_sac_1_48 (l : Launch) (Z : State) (a0 : Array Value) (hw : HW a0 Z) (a1 bv : Addr) (kb : ClassId) (v0 v1 v2 v3 : Int32) (cs : Int32) (hcs : ¬ cs = 0) (h0 : Heap) (n0 : Nat) (O : Old Z n0 h0) (E_a1 : Exa Z h0 a1 "java/lang/StringBuilder") (F_value_a1 : Fld Z h0 a1 "java/lang/AbstractStringBuilder" "value" "[B" (.ref bv)) (F_coder_a1 : Fld Z h0 a1 "java/lang/AbstractStringBuilder" "coder" "B" (.int 0)) (F_count_a1 : Fld Z h0 a1 "java/lang/AbstractStringBuilder" "count" "I" (.int 1)) (V_bv : Arv Z h0 bv kb .byte (4 : Int32) [(.int v0), (.int v1), (.int v2), (.int v3)] (.int 0)) (S_CS : Sta Z Z.heap "java/lang/String" "COMPACT_STRINGS" "Z" (.int cs)) (g_a1 : n0 ≤ a1) (g_bv : n0 ≤ bv) (ne_a1_bv : a1 ≠ bv) :
  Con l Z (⟨"java/lang/StringBuilder", "append", "(C)Ljava/lang/StringBuilder;"⟩ : MethodName) jdk_67_method_14_code 2 (some (.object "java/lang/StringBuilder")) ({ frames := 2, cells := 0, slots := 0, locals := 27 } : Room) #[(.ref a1), (.int 48)] h0 (fun v h L => v = some (.ref a1) ∧ Fr n0 L ∧ Keep h0 h [a1, bv] ∧ Exa Z h a1 "java/lang/StringBuilder" ∧ Fld Z h a1 "java/lang/AbstractStringBuilder" "value" "[B" (.ref bv) ∧ Fld Z h a1 "java/lang/AbstractStringBuilder" "coder" "B" (.int 0) ∧ Fld Z h a1 "java/lang/AbstractStringBuilder" "count" "I" (.int 2) ∧ Arv Z h bv kb .byte (4 : Int32) [(.int v0), (.int 48), (.int v2), (.int v3)] (.int 0)) := by
 refine own_startC opn_14 ?_
 intro p e s m below meth c T0 X0 hx hby hml hZ hown hnm hret hlk e0
 have N := Fr.nil n0; have K := Keep.refl h0 [a1, bv]
 refine OG.cast (oef5 m a1 (48 : Int32)) ?_
 refine og_aloadN X0 hx rfl rfl (hb hby d14_0) rfl ?_
 refine og_iloadN X0 hx rfl (hb hby d14_1) rfl ?_
 refine og_super (pc' := 5) (cells' := 0) (slots' := 0) (W := 0) X0 hx hZ (y := (⟨"java/lang/AbstractStringBuilder", "append", "(C)Ljava/lang/AbstractStringBuilder;"⟩ : MethodName)) (rm_aac_1_48 l Z a0 hw a1 bv kb v0 v1 v2 v3 cs hcs h0 n0 O E_a1 F_value_a1 F_coder_a1 F_count_a1 V_bv S_CS g_a1 g_bv ne_a1_bv) hown (ow76 hw) (own_sameM (ow79 hw) (own_nfc (ow89 hw) (ow91 hw) rfl) (by decide)) (ow77 hw) (ow78 hw) (by decide) (ow15 hw) (ow80 hw) (by decide) (by rw [hml]; rfl) e0 opd_10 [(.int 48)] [] rfl rfl rfl rfl (by decide) (by decide) rfl rfl (by decide) (by decide) E_a1 (hb hby d14_2) rfl (fun v11 T11 h11 L11 X11 e11 z11 => ?_)
 obtain ⟨rfl, Nq11, K11, E_a1', F_value_a1', F_coder_a1', F_count_a1', V_bv'⟩ := z11; have N := Fr.app N Nq11
 have E_a1 := E_a1.keep K11; have O := O.keep K11 (allS g_a1 (allS g_bv all0)); have K := K.trans K11 (allS (Or.inl (List.mem_of_getElem? (i := 0) rfl)) (allS (Or.inl (List.mem_of_getElem? (i := 1) rfl)) all0))
 have V_bv := V_bv'
 have E_a1 := E_a1'; have F_value_a1 := F_value_a1'; have F_coder_a1 := F_coder_a1'; have F_count_a1 := F_count_a1'
 refine og_pop X11 hx rfl (hb hby d14_5) rfl ?_
 refine og_aloadN X11 hx rfl rfl (hb hby d14_6) rfl ?_
 refine og_retR X11 hx hlk hret rfl rfl rfl (hb hby d14_7) (by decide) (by decide) ?_
 rw [e11]; exact ⟨rfl, N, K, E_a1, F_value_a1, F_coder_a1, F_count_a1, V_bv⟩
theorem rm_aac_2_48 (l : Launch) (Z : State) (a0 : Array Value) (hw : HW a0 Z) (a1 bv : Addr) (kb : ClassId) (v0 v1 v2 v3 : Int32) (cs : Int32) (hcs : ¬ cs = 0) (h0 : Heap) (n0 : Nat) (O : Old Z n0 h0) (E_a1 : Exa Z h0 a1 "java/lang/StringBuilder") (F_value_a1 : Fld Z h0 a1 "java/lang/AbstractStringBuilder" "value" "[B" (.ref bv)) (F_coder_a1 : Fld Z h0 a1 "java/lang/AbstractStringBuilder" "coder" "B" (.int 0)) (F_count_a1 : Fld Z h0 a1 "java/lang/AbstractStringBuilder" "count" "I" (.int 2)) (V_bv : Arv Z h0 bv kb .byte (4 : Int32) [(.int v0), (.int v1), (.int v2), (.int v3)] (.int 0)) (S_CS : Sta Z Z.heap "java/lang/String" "COMPACT_STRINGS" "Z" (.int cs)) (g_a1 : n0 ≤ a1) (g_bv : n0 ≤ bv) (ne_a1_bv : a1 ≠ bv) :
  Con l Z (⟨"java/lang/AbstractStringBuilder", "append", "(C)Ljava/lang/AbstractStringBuilder;"⟩ : MethodName) jdk_68_method_31_code 2 (some (.object "java/lang/AbstractStringBuilder")) ({ frames := 1, cells := 0, slots := 0, locals := 14 } : Room) #[(.ref a1), (.int 48)] h0 (fun v h L => v = some (.ref a1) ∧ Fr n0 L ∧ Keep h0 h [a1, bv] ∧ Exa Z h a1 "java/lang/StringBuilder" ∧ Fld Z h a1 "java/lang/AbstractStringBuilder" "value" "[B" (.ref bv) ∧ Fld Z h a1 "java/lang/AbstractStringBuilder" "coder" "B" (.int 0) ∧ Fld Z h a1 "java/lang/AbstractStringBuilder" "count" "I" (.int 3) ∧ Arv Z h bv kb .byte (4 : Int32) [(.int v0), (.int v1), (.int 48), (.int v3)] (.int 0)) := by
 refine own_startC opn_15 ?_
 intro p e s m below meth c T0 X0 hx hby hml hZ hown hnm hret hlk e0
 have N := Fr.nil n0; have K := Keep.refl h0 [a1, bv]
 refine OG.cast (oef5 m a1 (48 : Int32)) ?_
 refine og_aloadN X0 hx rfl rfl (hb hby d15_0) rfl ?_
 refine og_aloadN X0 hx rfl rfl (hb hby d15_1) rfl ?_
 refine og_getfield X0 hx hZ (host := "") hown (Or.inl (ow81 hw)) Via.refl e0 F_count_a1 (hb hby d15_2) rfl (fun T11 X11 e11 => ?_)
 refine og_iconst (v := 1) X11 hx rfl (hb hby d15_5) rfl ?_
 refine og_iadd X11 hx (hb hby d15_6) rfl ?_
 show OG p e below _ (T11.setTop (mkF m 7 #[.val (.ref a1), .val (.int 48)] [(.int 3), (.ref a1)]))
 refine og_private (pc' := 10) (cells' := 0) (slots' := 0) (W := 0) X11 hx hZ (rm_ecN l Z a0 hw a1 bv kb (4 : Int32) (3 : Int32) _ (by decide) h0 n0 O F_value_a1 F_coder_a1 V_bv) hown (ow83 hw) (ow84 hw) (own_selfp (ow86 hw) (ow84 hw) (ow85 hw) (by decide)) (ow85 hw) (ow15 hw) (ow87 hw) (by decide) (by rw [hml]; rfl) e11 opd_4 [(.int 3)] [] rfl rfl rfl rfl (by decide) (by decide) rfl rfl (by decide) (by decide) E_a1 (hb hby d15_7) rfl (fun v12 T12 h12 L12 X12 e12 z12 => ?_)
 obtain ⟨rfl, Nq12, hq12⟩ := z12; replace e12 := e12.trans hq12; have N := Fr.app N Nq12
 refine og_aloadN X12 hx rfl rfl (hb hby d15_10) rfl ?_
 refine og_virtual (pc' := 14) (cells' := 0) (slots' := 0) (W := 0) X12 hx hZ (rm_ail l Z a0 hw a1 cs hcs h0 n0 O F_coder_a1 S_CS) hown (ow88 hw) (ow89 hw) (own_nf hZ (ow91 hw)) (ow91 hw) (ow90 hw) (ow15 hw) (ow92 hw) (by decide) (by rw [hml]; rfl) e12 opd_8 [] [] rfl rfl rfl rfl (by decide) (by decide) rfl rfl (by decide) (by decide) E_a1 (hb hby d15_11) rfl (fun v13 T13 h13 L13 X13 e13 z13 => ?_)
 obtain ⟨rfl, Nq13, hq13⟩ := z13; replace e13 := e13.trans hq13; have N := Fr.app N Nq13
 refine og_if_eq (pc1 := 45) (pc2 := 17) X13 hx (hb hby d15_14) (by decide) (by decide) rfl (fun q => absurd q (by decide)) (fun _ => ?_)
 refine og_iloadN X13 hx rfl (hb hby d15_17) rfl ?_
 refine og_static (pc' := 21) (cells' := 0) (slots' := 0) (W := 0) X13 hx hZ (rm_can l Z a0 hw (48 : Int32) (by decide) h0 n0 O) hown (ow93 hw) (ow94 hw) (ow95 hw) (ow96 hw) (by decide) (by rw [hml]; rfl) e13 opd_9 [(.int 48)] [] rfl rfl rfl rfl (by decide) (by decide) rfl rfl (by decide) (by decide) (hb hby d15_18) rfl (fun v14 T14 h14 L14 X14 e14 z14 => ?_)
 obtain ⟨rfl, Nq14, hq14⟩ := z14; replace e14 := e14.trans hq14; have N := Fr.app N Nq14
 refine og_if_eq (pc1 := 45) (pc2 := 24) X14 hx (hb hby d15_21) (by decide) (by decide) rfl (fun q => absurd q (by decide)) (fun _ => ?_)
 refine og_aloadN X14 hx rfl rfl (hb hby d15_24) rfl ?_
 refine og_getfield X14 hx hZ (host := "") hown (Or.inl (ow23 hw)) Via.refl e14 F_value_a1 (hb hby d15_25) rfl (fun T15 X15 e15 => ?_)
 refine og_aloadN X15 hx rfl rfl (hb hby d15_28) rfl ?_
 refine og_dup X15 hx rfl (hb hby d15_29) rfl ?_
 refine og_getfield X15 hx hZ (host := "") hown (Or.inl (ow81 hw)) Via.refl e15 F_count_a1 (hb hby d15_30) rfl (fun T16 X16 e16 => ?_)
 refine og_dup_x1 X16 hx rfl rfl (hb hby d15_33) rfl ?_
 refine og_iconst (v := 1) X16 hx rfl (hb hby d15_34) rfl ?_
 refine og_iadd X16 hx (hb hby d15_35) rfl ?_
 show OG p e below _ (T16.setTop (mkF m 36 #[.val (.ref a1), .val (.int 48)] [(.int 3), (.ref a1), (.int 2), (.ref bv)]))
 refine og_putfield X16 hx hZ (ty := .int) (host := "") hown (Or.inl (ow81 hw)) Via.refl e16 F_count_a1 E_a1 (Or.inl (ow82 hw)) (ow6 hw) (by decide) rfl rfl (hb hby d15_36) rfl (fun T17 h17 X17 e17 W17 => ?_)
 have F_count_a1_ := F_count_a1.same W17
 have E_a1 := E_a1.wr W17; have F_value_a1 := F_value_a1.other W17 (Or.inr (slot_ne (Or.inl (ow24 hw)) (Or.inl (ow82 hw)) (by decide) (t := (.array .byte)) (t' := .int) (by decide) (by decide))); have F_coder_a1 := F_coder_a1.other W17 (Or.inr (slot_ne (Or.inl (ow26 hw)) (Or.inl (ow82 hw)) (by decide) (t := .byte) (t' := .int) (by decide) (by decide))); have V_bv := V_bv.other W17 (Ne.symm ne_a1_bv); have O := O.wr W17 g_a1; have K := K.wr W17 (Or.inl (List.mem_of_getElem? (i := 0) rfl))
 have N := Fr.snoc X17 N g_a1; have F_count_a1 := F_count_a1_
 refine og_iloadN X17 hx rfl (hb hby d15_39) rfl ?_
 refine og_i2b X17 hx (hb hby d15_40) rfl ?_
 show OG p e below _ (T17.setTop (mkF m 41 #[.val (.ref a1), .val (.int 48)] [(.int 48), (.int 2), (.ref bv)]))
 refine og_bastore X17 hx hZ e17 V_bv ⟨by decide, by decide⟩ 2 (by decide) (Nat.le_of_ble_eq_true rfl) (hb hby d15_41) rfl (fun T18 h18 X18 e18 W18 V18 => ?_)
 have E_a1 := E_a1.wr W18; have F_value_a1 := F_value_a1.other W18 (Or.inl ne_a1_bv); have F_coder_a1 := F_coder_a1.other W18 (Or.inl ne_a1_bv); have F_count_a1 := F_count_a1.other W18 (Or.inl ne_a1_bv); have O := O.wr W18 g_bv; have K := K.wr W18 (Or.inl (List.mem_of_getElem? (i := 1) rfl))
 have N := Fr.snoc X18 N g_bv
 have V_bv : Arv Z h18 bv kb .byte (4 : Int32) [(.int v0), (.int v1), (.int 48), (.int v3)] (.int 0) := V18
 refine og_goto (pc' := 75) X18 hx (hb hby d15_42) (by decide) (by decide) ?_
 refine og_aloadN X18 hx rfl rfl (hb hby d15_75) rfl ?_
 refine og_retR X18 hx hlk hret rfl rfl rfl (hb hby d15_76) (by decide) (by decide) ?_
 rw [e18]; exact ⟨rfl, N, K, E_a1, F_value_a1, F_coder_a1, F_count_a1, V_bv⟩
theorem rm_sac_2_48 (l : Launch) (Z : State) (a0 : Array Value) (hw : HW a0 Z) (a1 bv : Addr) (kb : ClassId) (v0 v1 v2 v3 : Int32) (cs : Int32) (hcs : ¬ cs = 0) (h0 : Heap) (n0 : Nat) (O : Old Z n0 h0) (E_a1 : Exa Z h0 a1 "java/lang/StringBuilder") (F_value_a1 : Fld Z h0 a1 "java/lang/AbstractStringBuilder" "value" "[B" (.ref bv)) (F_coder_a1 : Fld Z h0 a1 "java/lang/AbstractStringBuilder" "coder" "B" (.int 0)) (F_count_a1 : Fld Z h0 a1 "java/lang/AbstractStringBuilder" "count" "I" (.int 2)) (V_bv : Arv Z h0 bv kb .byte (4 : Int32) [(.int v0), (.int v1), (.int v2), (.int v3)] (.int 0)) (S_CS : Sta Z Z.heap "java/lang/String" "COMPACT_STRINGS" "Z" (.int cs)) (g_a1 : n0 ≤ a1) (g_bv : n0 ≤ bv) (ne_a1_bv : a1 ≠ bv) :
  Con l Z (⟨"java/lang/StringBuilder", "append", "(C)Ljava/lang/StringBuilder;"⟩ : MethodName) jdk_67_method_14_code 2 (some (.object "java/lang/StringBuilder")) ({ frames := 2, cells := 0, slots := 0, locals := 27 } : Room) #[(.ref a1), (.int 48)] h0 (fun v h L => v = some (.ref a1) ∧ Fr n0 L ∧ Keep h0 h [a1, bv] ∧ Exa Z h a1 "java/lang/StringBuilder" ∧ Fld Z h a1 "java/lang/AbstractStringBuilder" "value" "[B" (.ref bv) ∧ Fld Z h a1 "java/lang/AbstractStringBuilder" "coder" "B" (.int 0) ∧ Fld Z h a1 "java/lang/AbstractStringBuilder" "count" "I" (.int 3) ∧ Arv Z h bv kb .byte (4 : Int32) [(.int v0), (.int v1), (.int 48), (.int v3)] (.int 0)) := by
 refine own_startC opn_14 ?_
 intro p e s m below meth c T0 X0 hx hby hml hZ hown hnm hret hlk e0
 have N := Fr.nil n0; have K := Keep.refl h0 [a1, bv]
 refine OG.cast (oef5 m a1 (48 : Int32)) ?_
 refine og_aloadN X0 hx rfl rfl (hb hby d14_0) rfl ?_
 refine og_iloadN X0 hx rfl (hb hby d14_1) rfl ?_
 refine og_super (pc' := 5) (cells' := 0) (slots' := 0) (W := 0) X0 hx hZ (y := (⟨"java/lang/AbstractStringBuilder", "append", "(C)Ljava/lang/AbstractStringBuilder;"⟩ : MethodName)) (rm_aac_2_48 l Z a0 hw a1 bv kb v0 v1 v2 v3 cs hcs h0 n0 O E_a1 F_value_a1 F_coder_a1 F_count_a1 V_bv S_CS g_a1 g_bv ne_a1_bv) hown (ow76 hw) (own_sameM (ow79 hw) (own_nfc (ow89 hw) (ow91 hw) rfl) (by decide)) (ow77 hw) (ow78 hw) (by decide) (ow15 hw) (ow80 hw) (by decide) (by rw [hml]; rfl) e0 opd_10 [(.int 48)] [] rfl rfl rfl rfl (by decide) (by decide) rfl rfl (by decide) (by decide) E_a1 (hb hby d14_2) rfl (fun v11 T11 h11 L11 X11 e11 z11 => ?_)
 obtain ⟨rfl, Nq11, K11, E_a1', F_value_a1', F_coder_a1', F_count_a1', V_bv'⟩ := z11; have N := Fr.app N Nq11
 have E_a1 := E_a1.keep K11; have O := O.keep K11 (allS g_a1 (allS g_bv all0)); have K := K.trans K11 (allS (Or.inl (List.mem_of_getElem? (i := 0) rfl)) (allS (Or.inl (List.mem_of_getElem? (i := 1) rfl)) all0))
 have V_bv := V_bv'
 have E_a1 := E_a1'; have F_value_a1 := F_value_a1'; have F_coder_a1 := F_coder_a1'; have F_count_a1 := F_count_a1'
 refine og_pop X11 hx rfl (hb hby d14_5) rfl ?_
 refine og_aloadN X11 hx rfl rfl (hb hby d14_6) rfl ?_
 refine og_retR X11 hx hlk hret rfl rfl rfl (hb hby d14_7) (by decide) (by decide) ?_
 rw [e11]; exact ⟨rfl, N, K, E_a1, F_value_a1, F_coder_a1, F_count_a1, V_bv⟩
theorem rm_aac_3_48 (l : Launch) (Z : State) (a0 : Array Value) (hw : HW a0 Z) (a1 bv : Addr) (kb : ClassId) (v0 v1 v2 v3 : Int32) (cs : Int32) (hcs : ¬ cs = 0) (h0 : Heap) (n0 : Nat) (O : Old Z n0 h0) (E_a1 : Exa Z h0 a1 "java/lang/StringBuilder") (F_value_a1 : Fld Z h0 a1 "java/lang/AbstractStringBuilder" "value" "[B" (.ref bv)) (F_coder_a1 : Fld Z h0 a1 "java/lang/AbstractStringBuilder" "coder" "B" (.int 0)) (F_count_a1 : Fld Z h0 a1 "java/lang/AbstractStringBuilder" "count" "I" (.int 3)) (V_bv : Arv Z h0 bv kb .byte (4 : Int32) [(.int v0), (.int v1), (.int v2), (.int v3)] (.int 0)) (S_CS : Sta Z Z.heap "java/lang/String" "COMPACT_STRINGS" "Z" (.int cs)) (g_a1 : n0 ≤ a1) (g_bv : n0 ≤ bv) (ne_a1_bv : a1 ≠ bv) :
  Con l Z (⟨"java/lang/AbstractStringBuilder", "append", "(C)Ljava/lang/AbstractStringBuilder;"⟩ : MethodName) jdk_68_method_31_code 2 (some (.object "java/lang/AbstractStringBuilder")) ({ frames := 1, cells := 0, slots := 0, locals := 14 } : Room) #[(.ref a1), (.int 48)] h0 (fun v h L => v = some (.ref a1) ∧ Fr n0 L ∧ Keep h0 h [a1, bv] ∧ Exa Z h a1 "java/lang/StringBuilder" ∧ Fld Z h a1 "java/lang/AbstractStringBuilder" "value" "[B" (.ref bv) ∧ Fld Z h a1 "java/lang/AbstractStringBuilder" "coder" "B" (.int 0) ∧ Fld Z h a1 "java/lang/AbstractStringBuilder" "count" "I" (.int 4) ∧ Arv Z h bv kb .byte (4 : Int32) [(.int v0), (.int v1), (.int v2), (.int 48)] (.int 0)) := by
 refine own_startC opn_15 ?_
 intro p e s m below meth c T0 X0 hx hby hml hZ hown hnm hret hlk e0
 have N := Fr.nil n0; have K := Keep.refl h0 [a1, bv]
 refine OG.cast (oef5 m a1 (48 : Int32)) ?_
 refine og_aloadN X0 hx rfl rfl (hb hby d15_0) rfl ?_
 refine og_aloadN X0 hx rfl rfl (hb hby d15_1) rfl ?_
 refine og_getfield X0 hx hZ (host := "") hown (Or.inl (ow81 hw)) Via.refl e0 F_count_a1 (hb hby d15_2) rfl (fun T11 X11 e11 => ?_)
 refine og_iconst (v := 1) X11 hx rfl (hb hby d15_5) rfl ?_
 refine og_iadd X11 hx (hb hby d15_6) rfl ?_
 show OG p e below _ (T11.setTop (mkF m 7 #[.val (.ref a1), .val (.int 48)] [(.int 4), (.ref a1)]))
 refine og_private (pc' := 10) (cells' := 0) (slots' := 0) (W := 0) X11 hx hZ (rm_ecN l Z a0 hw a1 bv kb (4 : Int32) (4 : Int32) _ (by decide) h0 n0 O F_value_a1 F_coder_a1 V_bv) hown (ow83 hw) (ow84 hw) (own_selfp (ow86 hw) (ow84 hw) (ow85 hw) (by decide)) (ow85 hw) (ow15 hw) (ow87 hw) (by decide) (by rw [hml]; rfl) e11 opd_4 [(.int 4)] [] rfl rfl rfl rfl (by decide) (by decide) rfl rfl (by decide) (by decide) E_a1 (hb hby d15_7) rfl (fun v12 T12 h12 L12 X12 e12 z12 => ?_)
 obtain ⟨rfl, Nq12, hq12⟩ := z12; replace e12 := e12.trans hq12; have N := Fr.app N Nq12
 refine og_aloadN X12 hx rfl rfl (hb hby d15_10) rfl ?_
 refine og_virtual (pc' := 14) (cells' := 0) (slots' := 0) (W := 0) X12 hx hZ (rm_ail l Z a0 hw a1 cs hcs h0 n0 O F_coder_a1 S_CS) hown (ow88 hw) (ow89 hw) (own_nf hZ (ow91 hw)) (ow91 hw) (ow90 hw) (ow15 hw) (ow92 hw) (by decide) (by rw [hml]; rfl) e12 opd_8 [] [] rfl rfl rfl rfl (by decide) (by decide) rfl rfl (by decide) (by decide) E_a1 (hb hby d15_11) rfl (fun v13 T13 h13 L13 X13 e13 z13 => ?_)
 obtain ⟨rfl, Nq13, hq13⟩ := z13; replace e13 := e13.trans hq13; have N := Fr.app N Nq13
 refine og_if_eq (pc1 := 45) (pc2 := 17) X13 hx (hb hby d15_14) (by decide) (by decide) rfl (fun q => absurd q (by decide)) (fun _ => ?_)
 refine og_iloadN X13 hx rfl (hb hby d15_17) rfl ?_
 refine og_static (pc' := 21) (cells' := 0) (slots' := 0) (W := 0) X13 hx hZ (rm_can l Z a0 hw (48 : Int32) (by decide) h0 n0 O) hown (ow93 hw) (ow94 hw) (ow95 hw) (ow96 hw) (by decide) (by rw [hml]; rfl) e13 opd_9 [(.int 48)] [] rfl rfl rfl rfl (by decide) (by decide) rfl rfl (by decide) (by decide) (hb hby d15_18) rfl (fun v14 T14 h14 L14 X14 e14 z14 => ?_)
 obtain ⟨rfl, Nq14, hq14⟩ := z14; replace e14 := e14.trans hq14; have N := Fr.app N Nq14
 refine og_if_eq (pc1 := 45) (pc2 := 24) X14 hx (hb hby d15_21) (by decide) (by decide) rfl (fun q => absurd q (by decide)) (fun _ => ?_)
 refine og_aloadN X14 hx rfl rfl (hb hby d15_24) rfl ?_
 refine og_getfield X14 hx hZ (host := "") hown (Or.inl (ow23 hw)) Via.refl e14 F_value_a1 (hb hby d15_25) rfl (fun T15 X15 e15 => ?_)
 refine og_aloadN X15 hx rfl rfl (hb hby d15_28) rfl ?_
 refine og_dup X15 hx rfl (hb hby d15_29) rfl ?_
 refine og_getfield X15 hx hZ (host := "") hown (Or.inl (ow81 hw)) Via.refl e15 F_count_a1 (hb hby d15_30) rfl (fun T16 X16 e16 => ?_)
 refine og_dup_x1 X16 hx rfl rfl (hb hby d15_33) rfl ?_
 refine og_iconst (v := 1) X16 hx rfl (hb hby d15_34) rfl ?_
 refine og_iadd X16 hx (hb hby d15_35) rfl ?_
 show OG p e below _ (T16.setTop (mkF m 36 #[.val (.ref a1), .val (.int 48)] [(.int 4), (.ref a1), (.int 3), (.ref bv)]))
 refine og_putfield X16 hx hZ (ty := .int) (host := "") hown (Or.inl (ow81 hw)) Via.refl e16 F_count_a1 E_a1 (Or.inl (ow82 hw)) (ow6 hw) (by decide) rfl rfl (hb hby d15_36) rfl (fun T17 h17 X17 e17 W17 => ?_)
 have F_count_a1_ := F_count_a1.same W17
 have E_a1 := E_a1.wr W17; have F_value_a1 := F_value_a1.other W17 (Or.inr (slot_ne (Or.inl (ow24 hw)) (Or.inl (ow82 hw)) (by decide) (t := (.array .byte)) (t' := .int) (by decide) (by decide))); have F_coder_a1 := F_coder_a1.other W17 (Or.inr (slot_ne (Or.inl (ow26 hw)) (Or.inl (ow82 hw)) (by decide) (t := .byte) (t' := .int) (by decide) (by decide))); have V_bv := V_bv.other W17 (Ne.symm ne_a1_bv); have O := O.wr W17 g_a1; have K := K.wr W17 (Or.inl (List.mem_of_getElem? (i := 0) rfl))
 have N := Fr.snoc X17 N g_a1; have F_count_a1 := F_count_a1_
 refine og_iloadN X17 hx rfl (hb hby d15_39) rfl ?_
 refine og_i2b X17 hx (hb hby d15_40) rfl ?_
 show OG p e below _ (T17.setTop (mkF m 41 #[.val (.ref a1), .val (.int 48)] [(.int 48), (.int 3), (.ref bv)]))
 refine og_bastore X17 hx hZ e17 V_bv ⟨by decide, by decide⟩ 3 (by decide) (Nat.le_of_ble_eq_true rfl) (hb hby d15_41) rfl (fun T18 h18 X18 e18 W18 V18 => ?_)
 have E_a1 := E_a1.wr W18; have F_value_a1 := F_value_a1.other W18 (Or.inl ne_a1_bv); have F_coder_a1 := F_coder_a1.other W18 (Or.inl ne_a1_bv); have F_count_a1 := F_count_a1.other W18 (Or.inl ne_a1_bv); have O := O.wr W18 g_bv; have K := K.wr W18 (Or.inl (List.mem_of_getElem? (i := 1) rfl))
 have N := Fr.snoc X18 N g_bv
 have V_bv : Arv Z h18 bv kb .byte (4 : Int32) [(.int v0), (.int v1), (.int v2), (.int 48)] (.int 0) := V18
 refine og_goto (pc' := 75) X18 hx (hb hby d15_42) (by decide) (by decide) ?_
 refine og_aloadN X18 hx rfl rfl (hb hby d15_75) rfl ?_
 refine og_retR X18 hx hlk hret rfl rfl rfl (hb hby d15_76) (by decide) (by decide) ?_
 rw [e18]; exact ⟨rfl, N, K, E_a1, F_value_a1, F_coder_a1, F_count_a1, V_bv⟩
theorem rm_sac_3_48 (l : Launch) (Z : State) (a0 : Array Value) (hw : HW a0 Z) (a1 bv : Addr) (kb : ClassId) (v0 v1 v2 v3 : Int32) (cs : Int32) (hcs : ¬ cs = 0) (h0 : Heap) (n0 : Nat) (O : Old Z n0 h0) (E_a1 : Exa Z h0 a1 "java/lang/StringBuilder") (F_value_a1 : Fld Z h0 a1 "java/lang/AbstractStringBuilder" "value" "[B" (.ref bv)) (F_coder_a1 : Fld Z h0 a1 "java/lang/AbstractStringBuilder" "coder" "B" (.int 0)) (F_count_a1 : Fld Z h0 a1 "java/lang/AbstractStringBuilder" "count" "I" (.int 3)) (V_bv : Arv Z h0 bv kb .byte (4 : Int32) [(.int v0), (.int v1), (.int v2), (.int v3)] (.int 0)) (S_CS : Sta Z Z.heap "java/lang/String" "COMPACT_STRINGS" "Z" (.int cs)) (g_a1 : n0 ≤ a1) (g_bv : n0 ≤ bv) (ne_a1_bv : a1 ≠ bv) :
  Con l Z (⟨"java/lang/StringBuilder", "append", "(C)Ljava/lang/StringBuilder;"⟩ : MethodName) jdk_67_method_14_code 2 (some (.object "java/lang/StringBuilder")) ({ frames := 2, cells := 0, slots := 0, locals := 27 } : Room) #[(.ref a1), (.int 48)] h0 (fun v h L => v = some (.ref a1) ∧ Fr n0 L ∧ Keep h0 h [a1, bv] ∧ Exa Z h a1 "java/lang/StringBuilder" ∧ Fld Z h a1 "java/lang/AbstractStringBuilder" "value" "[B" (.ref bv) ∧ Fld Z h a1 "java/lang/AbstractStringBuilder" "coder" "B" (.int 0) ∧ Fld Z h a1 "java/lang/AbstractStringBuilder" "count" "I" (.int 4) ∧ Arv Z h bv kb .byte (4 : Int32) [(.int v0), (.int v1), (.int v2), (.int 48)] (.int 0)) := by
 refine own_startC opn_14 ?_
 intro p e s m below meth c T0 X0 hx hby hml hZ hown hnm hret hlk e0
 have N := Fr.nil n0; have K := Keep.refl h0 [a1, bv]
 refine OG.cast (oef5 m a1 (48 : Int32)) ?_
 refine og_aloadN X0 hx rfl rfl (hb hby d14_0) rfl ?_
 refine og_iloadN X0 hx rfl (hb hby d14_1) rfl ?_
 refine og_super (pc' := 5) (cells' := 0) (slots' := 0) (W := 0) X0 hx hZ (y := (⟨"java/lang/AbstractStringBuilder", "append", "(C)Ljava/lang/AbstractStringBuilder;"⟩ : MethodName)) (rm_aac_3_48 l Z a0 hw a1 bv kb v0 v1 v2 v3 cs hcs h0 n0 O E_a1 F_value_a1 F_coder_a1 F_count_a1 V_bv S_CS g_a1 g_bv ne_a1_bv) hown (ow76 hw) (own_sameM (ow79 hw) (own_nfc (ow89 hw) (ow91 hw) rfl) (by decide)) (ow77 hw) (ow78 hw) (by decide) (ow15 hw) (ow80 hw) (by decide) (by rw [hml]; rfl) e0 opd_10 [(.int 48)] [] rfl rfl rfl rfl (by decide) (by decide) rfl rfl (by decide) (by decide) E_a1 (hb hby d14_2) rfl (fun v11 T11 h11 L11 X11 e11 z11 => ?_)
 obtain ⟨rfl, Nq11, K11, E_a1', F_value_a1', F_coder_a1', F_count_a1', V_bv'⟩ := z11; have N := Fr.app N Nq11
 have E_a1 := E_a1.keep K11; have O := O.keep K11 (allS g_a1 (allS g_bv all0)); have K := K.trans K11 (allS (Or.inl (List.mem_of_getElem? (i := 0) rfl)) (allS (Or.inl (List.mem_of_getElem? (i := 1) rfl)) all0))
 have V_bv := V_bv'
 have E_a1 := E_a1'; have F_value_a1 := F_value_a1'; have F_coder_a1 := F_coder_a1'; have F_count_a1 := F_count_a1'
 refine og_pop X11 hx rfl (hb hby d14_5) rfl ?_
 refine og_aloadN X11 hx rfl rfl (hb hby d14_6) rfl ?_
 refine og_retR X11 hx hlk hret rfl rfl rfl (hb hby d14_7) (by decide) (by decide) ?_
 rw [e11]; exact ⟨rfl, N, K, E_a1, F_value_a1, F_coder_a1, F_count_a1, V_bv⟩
theorem rm_gb (l : Launch) (Z : State) (a0 : Array Value) (hw : HW a0 Z) (a1 ba bv : Addr) (kb kv : ClassId) (dp nn zz : Int32) (vs vd us vd' : List Value) (h2 : ¬ dp < 0) (h3 : ¬ nn < 0) (h4 : (0 : Int32).toNatClampNeg + nn.toNatClampNeg ≤ nn.toNatClampNeg) (h5 : dp.toNatClampNeg + nn.toNatClampNeg ≤ zz.toNatClampNeg) (hus : us = (List.range nn.toNatClampNeg).map fun i => vs.getD ((0 : Int32).toNatClampNeg + i) (.int 0)) (hl : dp.toNatClampNeg + nn.toNatClampNeg ≤ vd.length) (hvd : vd.take dp.toNatClampNeg ++ us ++ vd.drop (dp.toNatClampNeg + nn.toNatClampNeg) = vd') (cs : Int32) (hcs : ¬ cs = 0) (h0 : Heap) (n0 : Nat) (O : Old Z n0 h0) (E_a1 : Exa Z h0 a1 "java/lang/String") (F_value_a1 : Fld Z h0 a1 "java/lang/String" "value" "[B" (.ref ba)) (F_coder_a1 : Fld Z h0 a1 "java/lang/String" "coder" "B" (.int 0)) (V_ba : Arv Z h0 ba kb .byte nn vs (.int 0)) (V_bv : Arv Z h0 bv kv .byte zz vd (.int 0)) (S_CS : Sta Z Z.heap "java/lang/String" "COMPACT_STRINGS" "Z" (.int cs)) (g_bv : n0 ≤ bv) (ne_a1_bv : a1 ≠ bv) (ne_ba_bv : ba ≠ bv) :
  Con l Z (⟨"java/lang/String", "getBytes", "([BIB)V"⟩ : MethodName) jdk_42_method_147_code 4 none ({ frames := 1, cells := 0, slots := 0, locals := 18 } : Room) #[(.ref a1), (.ref bv), (.int dp), (.int 0)] h0 (fun v h L => v = none ∧ Fr n0 L ∧ Keep h0 h [bv] ∧ Arv Z h bv kv .byte zz vd' (.int 0)) := by
 refine own_startC opn_23 ?_
 intro p e s m below meth c T0 X0 hx hby hml hZ hown hnm hret hlk e0
 have N := Fr.nil n0; have K := Keep.refl h0 [bv]
 refine OG.cast (oef11 m a1 bv dp (0 : Int32)) ?_
 refine og_aloadN X0 hx rfl rfl (hb hby d23_0) rfl ?_
 refine og_virtual (pc' := 4) (cells' := 0) (slots' := 0) (W := 0) X0 hx hZ (rm_cod l Z a0 hw a1 cs hcs h0 n0 O F_coder_a1 S_CS) hown (ow65 hw) (ow66 hw) (own_nf hZ (ow68 hw)) (ow68 hw) (ow67 hw) (ow21 hw) (ow69 hw) (by decide) (by rw [hml]; rfl) e0 opd_0 [] [] rfl rfl rfl rfl (by decide) (by decide) rfl rfl (by decide) (by decide) E_a1 (hb hby d23_1) rfl (fun v11 T11 h11 L11 X11 e11 z11 => ?_)
 obtain ⟨rfl, Nq11, hq11⟩ := z11; replace e11 := e11.trans hq11; have N := Fr.app N Nq11
 refine og_iloadN X11 hx rfl (hb hby d23_4) rfl ?_
 refine og_icmp_ne (pc1 := 28) (pc2 := 8) X11 hx (hb hby d23_5) (by decide) (by decide) rfl (fun q => absurd q (by decide)) (fun _ => ?_)
 refine og_aloadN X11 hx rfl rfl (hb hby d23_8) rfl ?_
 refine og_getfield X11 hx hZ (host := "") hown (Or.inl (ow56 hw)) Via.refl e11 F_value_a1 (hb hby d23_9) rfl (fun T12 X12 e12 => ?_)
 refine og_iconst (v := 0) X12 hx rfl (hb hby d23_12) rfl ?_
 refine og_aloadN X12 hx rfl rfl (hb hby d23_13) rfl ?_
 refine og_iloadN X12 hx rfl (hb hby d23_14) rfl ?_
 refine og_iloadN X12 hx rfl (hb hby d23_15) rfl ?_
 refine og_ishl X12 hx (hb hby d23_16) rfl ?_
 rw [own_shl0]
 refine og_aloadN X12 hx rfl rfl (hb hby d23_17) rfl ?_
 refine og_getfield X12 hx hZ (host := "") hown (Or.inl (ow56 hw)) Via.refl e12 F_value_a1 (hb hby d23_18) rfl (fun T13 X13 e13 => ?_)
 refine og_arraylength X13 hx hZ e13 V_ba (hb hby d23_21) rfl ?_
 refine og_arraycopy (pc' := 25) (W := 0) (us := us) X13 hx hZ (by rw [hml]; rfl) hown (ow123 hw) (ow126 hw) (ow124 hw) (ow125 hw) e13 V_ba V_bv rfl (by decide) h2 h3 h4 h5 hus hl N g_bv rfl (by decide) (by decide) (hb hby d23_22) rfl (fun T14 h14 l14 X14 e14 N K14 V14 => ?_)
 have E_a1 := E_a1.keep K14; have F_value_a1 := F_value_a1.keep K14 (ninS ne_a1_bv nin0); have F_coder_a1 := F_coder_a1.keep K14 (ninS ne_a1_bv nin0); have V_ba := V_ba.keep K14 (ninS ne_ba_bv nin0); have O := O.keep K14 (allS g_bv all0); have K := K.trans K14 (allS (Or.inl (List.mem_of_getElem? (i := 0) rfl)) all0)
 rw [hvd] at V14; have V_bv := V14
 refine og_goto (pc' := 43) X14 hx (hb hby d23_25) (by decide) (by decide) ?_
 refine og_retV X14 hx hlk hret (hb hby d23_43) (by decide) (by decide) ?_
 rw [e14]; exact ⟨rfl, N, K, V_bv⟩
theorem rm_inf (l : Launch) (Z : State) (a0 : Array Value) (hw : HW a0 Z) (a1 a2 : Addr) (cs : Int32) (hcs : ¬ cs = 0) (h0 : Heap) (n0 : Nat) (O : Old Z n0 h0) (F_coder_a1 : Fld Z h0 a1 "java/lang/AbstractStringBuilder" "coder" "B" (.int 0)) (E_a2 : Exa Z h0 a2 "java/lang/String") (F_coder_a2 : Fld Z h0 a2 "java/lang/String" "coder" "B" (.int 0)) (S_CS : Sta Z Z.heap "java/lang/String" "COMPACT_STRINGS" "Z" (.int cs)) :
  Con l Z (⟨"java/lang/AbstractStringBuilder", "inflateIfNeededFor", "(Ljava/lang/String;)V"⟩ : MethodName) jdk_68_method_71_code 2 none ({ frames := 1, cells := 0, slots := 0, locals := 13 } : Room) #[(.ref a1), (.ref a2)] h0 (fun v h L => v = none ∧ Fr n0 L ∧ h = h0) := by
 refine own_startC opn_22 ?_
 intro p e s m below meth c T0 X0 hx hby hml hZ hown hnm hret hlk e0
 have N := Fr.nil n0; have K := Keep.refl h0 []
 refine OG.cast (oef12 m a1 a2) ?_
 refine og_getstatic X0 hx hZ (host := "") hown (Or.inl (ow20 hw)) Via.refl e0 (S_CS.ext O.2) (hb hby d22_0) rfl (fun T11 X11 e11 => ?_)
 refine og_if_eq (pc1 := 21) (pc2 := 6) X11 hx (hb hby d22_3) (by decide) (by decide) rfl (fun q => absurd q hcs) (fun _ => ?_)
 refine og_aloadN X11 hx rfl rfl (hb hby d22_6) rfl ?_
 refine og_getfield X11 hx hZ (host := "") hown (Or.inl (ow25 hw)) Via.refl e11 F_coder_a1 (hb hby d22_7) rfl (fun T12 X12 e12 => ?_)
 refine og_aloadN X12 hx rfl rfl (hb hby d22_10) rfl ?_
 refine og_virtual (pc' := 14) (cells' := 0) (slots' := 0) (W := 1) X12 hx hZ (rm_cod l Z a0 hw a2 cs hcs h0 n0 O F_coder_a2 S_CS) hown (ow117 hw) (ow66 hw) (own_nf hZ (ow68 hw)) (ow68 hw) (ow67 hw) (ow21 hw) (ow69 hw) (by decide) (by rw [hml]; rfl) e12 opd_0 [] [(.int 0)] rfl rfl rfl rfl (by decide) (by decide) rfl rfl (by decide) (by decide) E_a2 (hb hby d22_11) rfl (fun v13 T13 h13 L13 X13 e13 z13 => ?_)
 obtain ⟨rfl, Nq13, hq13⟩ := z13; replace e13 := e13.trans hq13; have N := Fr.app N Nq13
 refine og_icmp_eq (pc1 := 21) (pc2 := 17) X13 hx (hb hby d22_14) (by decide) (by decide) rfl (fun _ => ?_) (fun q => absurd q (by decide))
 refine og_retV X13 hx hlk hret (hb hby d22_21) (by decide) (by decide) ?_
 rw [e13]; exact ⟨rfl, N, rfl⟩
theorem rm_psa (l : Launch) (Z : State) (a0 : Array Value) (hw : HW a0 Z) (a1 a2 ba bv : Addr) (kb kv : ClassId) (dp nn zz : Int32) (vs vd us vd' : List Value) (h2 : ¬ dp < 0) (h3 : ¬ nn < 0) (h4 : (0 : Int32).toNatClampNeg + nn.toNatClampNeg ≤ nn.toNatClampNeg) (h5 : dp.toNatClampNeg + nn.toNatClampNeg ≤ zz.toNatClampNeg) (hus : us = (List.range nn.toNatClampNeg).map fun i => vs.getD ((0 : Int32).toNatClampNeg + i) (.int 0)) (hl : dp.toNatClampNeg + nn.toNatClampNeg ≤ vd.length) (hvd : vd.take dp.toNatClampNeg ++ us ++ vd.drop (dp.toNatClampNeg + nn.toNatClampNeg) = vd') (cs : Int32) (hcs : ¬ cs = 0) (h0 : Heap) (n0 : Nat) (O : Old Z n0 h0) (E_a1 : Exa Z h0 a1 "java/lang/StringBuilder") (F_value_a1 : Fld Z h0 a1 "java/lang/AbstractStringBuilder" "value" "[B" (.ref bv)) (F_coder_a1 : Fld Z h0 a1 "java/lang/AbstractStringBuilder" "coder" "B" (.int 0)) (E_a2 : Exa Z h0 a2 "java/lang/String") (F_value_a2 : Fld Z h0 a2 "java/lang/String" "value" "[B" (.ref ba)) (F_coder_a2 : Fld Z h0 a2 "java/lang/String" "coder" "B" (.int 0)) (V_ba : Arv Z h0 ba kb .byte nn vs (.int 0)) (V_bv : Arv Z h0 bv kv .byte zz vd (.int 0)) (S_CS : Sta Z Z.heap "java/lang/String" "COMPACT_STRINGS" "Z" (.int cs)) (g_bv : n0 ≤ bv) (ne_a1_bv : a1 ≠ bv) (ne_a2_bv : a2 ≠ bv) (ne_ba_bv : ba ≠ bv) :
  Con l Z (⟨"java/lang/AbstractStringBuilder", "putStringAt", "(ILjava/lang/String;)V"⟩ : MethodName) jdk_68_method_73_code 3 none ({ frames := 2, cells := 0, slots := 0, locals := 33 } : Room) #[(.ref a1), (.int dp), (.ref a2)] h0 (fun v h L => v = none ∧ Fr n0 L ∧ Keep h0 h [bv] ∧ Arv Z h bv kv .byte zz vd' (.int 0)) := by
 refine own_startC opn_21 ?_
 intro p e s m below meth c T0 X0 hx hby hml hZ hown hnm hret hlk e0
 have N := Fr.nil n0; have K := Keep.refl h0 [bv]
 refine OG.cast (oef13 m a1 dp a2) ?_
 refine og_aloadN X0 hx rfl rfl (hb hby d21_0) rfl ?_
 refine og_aloadN X0 hx rfl rfl (hb hby d21_1) rfl ?_
 refine og_private (pc' := 5) (cells' := 0) (slots' := 0) (W := 0) X0 hx hZ (rm_inf l Z a0 hw a1 a2 cs hcs h0 n0 O F_coder_a1 E_a2 F_coder_a2 S_CS) hown (ow112 hw) (ow113 hw) (own_selfp (ow115 hw) (ow113 hw) (ow114 hw) (by decide)) (ow114 hw) (ow15 hw) (ow116 hw) (by decide) (by rw [hml]; rfl) e0 opd_11 [(.ref a2)] [] rfl rfl rfl rfl (by decide) (by decide) rfl rfl (by decide) (by decide) E_a1 (hb hby d21_2) rfl (fun v11 T11 h11 L11 X11 e11 z11 => ?_)
 obtain ⟨rfl, Nq11, hq11⟩ := z11; replace e11 := e11.trans hq11; have N := Fr.app N Nq11
 refine og_aloadN X11 hx rfl rfl (hb hby d21_5) rfl ?_
 refine og_aloadN X11 hx rfl rfl (hb hby d21_6) rfl ?_
 refine og_getfield X11 hx hZ (host := "") hown (Or.inl (ow23 hw)) Via.refl e11 F_value_a1 (hb hby d21_7) rfl (fun T12 X12 e12 => ?_)
 refine og_iloadN X12 hx rfl (hb hby d21_10) rfl ?_
 refine og_aloadN X12 hx rfl rfl (hb hby d21_11) rfl ?_
 refine og_getfield X12 hx hZ (host := "") hown (Or.inl (ow25 hw)) Via.refl e12 F_coder_a1 (hb hby d21_12) rfl (fun T13 X13 e13 => ?_)
 refine og_virtual (pc' := 18) (cells' := 0) (slots' := 0) (W := 0) X13 hx hZ (rm_gb l Z a0 hw a2 ba bv kb kv dp nn zz vs vd us vd' h2 h3 h4 h5 hus hl hvd cs hcs h0 n0 O E_a2 F_value_a2 F_coder_a2 V_ba V_bv S_CS g_bv ne_a2_bv ne_ba_bv) hown (ow118 hw) (ow119 hw) (own_nf hZ (ow121 hw)) (ow121 hw) (ow120 hw) (ow21 hw) (ow122 hw) (by decide) (by rw [hml]; rfl) e13 opd_12 [(.ref bv), (.int dp), (.int 0)] [] rfl rfl rfl rfl (by decide) (by decide) rfl rfl (by decide) (by decide) E_a2 (hb hby d21_15) rfl (fun v14 T14 h14 L14 X14 e14 z14 => ?_)
 obtain ⟨rfl, Nq14, K14, V_bv'⟩ := z14; have N := Fr.app N Nq14
 have E_a1 := E_a1.keep K14; have F_value_a1 := F_value_a1.keep K14 (ninS ne_a1_bv nin0); have F_coder_a1 := F_coder_a1.keep K14 (ninS ne_a1_bv nin0); have E_a2 := E_a2.keep K14; have F_value_a2 := F_value_a2.keep K14 (ninS ne_a2_bv nin0); have F_coder_a2 := F_coder_a2.keep K14 (ninS ne_a2_bv nin0)
 have V_ba := V_ba.keep K14 (ninS ne_ba_bv nin0); have O := O.keep K14 (allS g_bv all0); have K := K.trans K14 (allS (Or.inl (List.mem_of_getElem? (i := 0) rfl)) all0)
 have V_bv := V_bv'
 refine og_retV X14 hx hlk hret (hb hby d21_18) (by decide) (by decide) ?_
 rw [e14]; exact ⟨rfl, N, K, V_bv⟩
theorem rm_aasN (l : Launch) (Z : State) (a0 : Array Value) (hw : HW a0 Z) (a1 a2 bv b2 : Addr) (kb k2 : ClassId) (tt : Int32) (cn nn zz : Int32) (vs vd us vd' : List Value) (h2 : ¬ cn < 0) (h3 : ¬ nn < 0) (h4 : (0 : Int32).toNatClampNeg + nn.toNatClampNeg ≤ nn.toNatClampNeg) (h5 : cn.toNatClampNeg + nn.toNatClampNeg ≤ zz.toNatClampNeg) (hus : us = (List.range nn.toNatClampNeg).map fun i => vs.getD ((0 : Int32).toNatClampNeg + i) (.int 0)) (hl : cn.toNatClampNeg + nn.toNatClampNeg ≤ vd.length) (hvd : vd.take cn.toNatClampNeg ++ us ++ vd.drop (cn.toNatClampNeg + nn.toNatClampNeg) = vd') (ht : cn + nn = tt) (hle : ¬ 0 < tt - zz) (cs : Int32) (hcs : ¬ cs = 0) (h0 : Heap) (n0 : Nat) (O : Old Z n0 h0) (E_a1 : Exa Z h0 a1 "java/lang/StringBuilder") (F_value_a1 : Fld Z h0 a1 "java/lang/AbstractStringBuilder" "value" "[B" (.ref bv)) (F_coder_a1 : Fld Z h0 a1 "java/lang/AbstractStringBuilder" "coder" "B" (.int 0)) (F_count_a1 : Fld Z h0 a1 "java/lang/AbstractStringBuilder" "count" "I" (.int cn)) (E_bv : Exa Z h0 bv "[B") (V_bv : Arv Z h0 bv kb .byte zz vd (.int 0)) (E_a2 : Exa Z h0 a2 "java/lang/String") (F_value_a2 : Fld Z h0 a2 "java/lang/String" "value" "[B" (.ref b2)) (F_coder_a2 : Fld Z h0 a2 "java/lang/String" "coder" "B" (.int 0)) (V_b2 : Arv Z h0 b2 k2 .byte nn vs (.int 0)) (S_CS : Sta Z Z.heap "java/lang/String" "COMPACT_STRINGS" "Z" (.int cs)) (g_a1 : n0 ≤ a1) (g_bv : n0 ≤ bv) (ne_a1_bv : a1 ≠ bv) (ne_a2_bv : a2 ≠ bv) (ne_b2_bv : b2 ≠ bv) (ne_a2_a1 : a2 ≠ a1) (ne_b2_a1 : b2 ≠ a1) :
  Con l Z (⟨"java/lang/AbstractStringBuilder", "append", "(Ljava/lang/String;)Ljava/lang/AbstractStringBuilder;"⟩ : MethodName) jdk_68_method_22_code 3 (some (.object "java/lang/AbstractStringBuilder")) ({ frames := 3, cells := 0, slots := 0, locals := 47 } : Room) #[(.ref a1), (.ref a2)] h0 (fun v h L => v = some (.ref a1) ∧ Fr n0 L ∧ Keep h0 h [a1, bv] ∧ Exa Z h a1 "java/lang/StringBuilder" ∧ Fld Z h a1 "java/lang/AbstractStringBuilder" "value" "[B" (.ref bv) ∧ Fld Z h a1 "java/lang/AbstractStringBuilder" "coder" "B" (.int 0) ∧ Fld Z h a1 "java/lang/AbstractStringBuilder" "count" "I" (.int tt) ∧ Arv Z h bv kb .byte zz vd' (.int 0)) := by
 refine own_startC opn_20 ?_
 intro p e s m below meth c T0 X0 hx hby hml hZ hown hnm hret hlk e0
 have N := Fr.nil n0; have K := Keep.refl h0 [a1, bv]
 refine OG.cast (oef14 m a1 a2) ?_
 refine og_aloadN X0 hx rfl rfl (hb hby d20_0) rfl ?_
 refine og_ifnonnull (pc1 := 9) (pc2 := 4) X0 hx rfl (hb hby d20_1) (by decide) (by decide) rfl (fun _ => ?_) (fun q => absurd q nofun)
 refine og_aloadN X0 hx rfl rfl (hb hby d20_9) rfl ?_
 refine og_virtual (pc' := 13) (cells' := 0) (slots' := 0) (W := 0) X0 hx hZ (rm_len l Z a0 hw a2 b2 k2 nn _ cs hcs h0 n0 O E_a2 F_value_a2 F_coder_a2 V_b2 S_CS) hown (ow106 hw) (ow61 hw) (own_nf hZ (ow63 hw)) (ow63 hw) (ow62 hw) (ow21 hw) (ow64 hw) (by decide) (by rw [hml]; rfl) e0 opd_13 [] [] rfl rfl rfl rfl (by decide) (by decide) rfl rfl (by decide) (by decide) E_a2 (hb hby d20_10) rfl (fun v11 T11 h11 L11 X11 e11 z11 => ?_)
 obtain ⟨rfl, Nq11, hq11⟩ := z11; replace e11 := e11.trans hq11; have N := Fr.app N Nq11
 refine og_istoreN (L' := #[.val (.ref a1), .val (.ref a2), .val (.int nn)]) X11 hx rfl (hb hby d20_13) rfl ?_
 refine og_aloadN X11 hx rfl rfl (hb hby d20_14) rfl ?_
 refine og_aloadN X11 hx rfl rfl (hb hby d20_15) rfl ?_
 refine og_getfield X11 hx hZ (host := "") hown (Or.inl (ow81 hw)) Via.refl e11 F_count_a1 (hb hby d20_16) rfl (fun T12 X12 e12 => ?_)
 refine og_iloadN X12 hx rfl (hb hby d20_19) rfl ?_
 refine og_iadd X12 hx (hb hby d20_20) rfl ?_
 rw [ht]
 refine og_private (pc' := 24) (cells' := 0) (slots' := 0) (W := 0) X12 hx hZ (rm_ecN l Z a0 hw a1 bv kb zz tt _ hle h0 n0 O F_value_a1 F_coder_a1 V_bv) hown (ow83 hw) (ow84 hw) (own_selfp (ow86 hw) (ow84 hw) (ow85 hw) (by decide)) (ow85 hw) (ow15 hw) (ow87 hw) (by decide) (by rw [hml]; rfl) e12 opd_4 [(.int tt)] [] rfl rfl rfl rfl (by decide) (by decide) rfl rfl (by decide) (by decide) E_a1 (hb hby d20_21) rfl (fun v13 T13 h13 L13 X13 e13 z13 => ?_)
 obtain ⟨rfl, Nq13, hq13⟩ := z13; replace e13 := e13.trans hq13; have N := Fr.app N Nq13
 refine og_aloadN X13 hx rfl rfl (hb hby d20_24) rfl ?_
 refine og_aloadN X13 hx rfl rfl (hb hby d20_25) rfl ?_
 refine og_getfield X13 hx hZ (host := "") hown (Or.inl (ow81 hw)) Via.refl e13 F_count_a1 (hb hby d20_26) rfl (fun T14 X14 e14 => ?_)
 refine og_aloadN X14 hx rfl rfl (hb hby d20_29) rfl ?_
 refine og_private (pc' := 33) (cells' := 0) (slots' := 0) (W := 0) X14 hx hZ (rm_psa l Z a0 hw a1 a2 b2 bv k2 kb cn nn zz vs vd us vd' h2 h3 h4 h5 hus hl hvd cs hcs h0 n0 O E_a1 F_value_a1 F_coder_a1 E_a2 F_value_a2 F_coder_a2 V_b2 V_bv S_CS g_bv ne_a1_bv ne_a2_bv ne_b2_bv) hown (ow107 hw) (ow108 hw) (own_selfp (ow110 hw) (ow108 hw) (ow109 hw) (by decide)) (ow109 hw) (ow15 hw) (ow111 hw) (by decide) (by rw [hml]; rfl) e14 opd_14 [(.int cn), (.ref a2)] [] rfl rfl rfl rfl (by decide) (by decide) rfl rfl (by decide) (by decide) E_a1 (hb hby d20_30) rfl (fun v15 T15 h15 L15 X15 e15 z15 => ?_)
 obtain ⟨rfl, Nq15, K15, V_bv'⟩ := z15; have N := Fr.app N Nq15
 have E_a1 := E_a1.keep K15; have F_value_a1 := F_value_a1.keep K15 (ninS ne_a1_bv nin0); have F_coder_a1 := F_coder_a1.keep K15 (ninS ne_a1_bv nin0); have F_count_a1 := F_count_a1.keep K15 (ninS ne_a1_bv nin0); have E_bv := E_bv.keep K15; have E_a2 := E_a2.keep K15
 have F_value_a2 := F_value_a2.keep K15 (ninS ne_a2_bv nin0); have F_coder_a2 := F_coder_a2.keep K15 (ninS ne_a2_bv nin0); have V_b2 := V_b2.keep K15 (ninS ne_b2_bv nin0); have O := O.keep K15 (allS g_bv all0); have K := K.trans K15 (allS (Or.inl (List.mem_of_getElem? (i := 1) rfl)) all0)
 have V_bv := V_bv'
 refine og_aloadN X15 hx rfl rfl (hb hby d20_33) rfl ?_
 refine og_dup X15 hx rfl (hb hby d20_34) rfl ?_
 refine og_getfield X15 hx hZ (host := "") hown (Or.inl (ow81 hw)) Via.refl e15 F_count_a1 (hb hby d20_35) rfl (fun T16 X16 e16 => ?_)
 refine og_iloadN X16 hx rfl (hb hby d20_38) rfl ?_
 refine og_iadd X16 hx (hb hby d20_39) rfl ?_
 rw [ht]
 refine og_putfield X16 hx hZ (ty := .int) (host := "") hown (Or.inl (ow81 hw)) Via.refl e16 F_count_a1 E_a1 (Or.inl (ow82 hw)) (ow6 hw) (by decide) rfl rfl (hb hby d20_40) rfl (fun T17 h17 X17 e17 W17 => ?_)
 have F_count_a1_ := F_count_a1.same W17
 have E_a1 := E_a1.wr W17; have F_value_a1 := F_value_a1.other W17 (Or.inr (slot_ne (Or.inl (ow24 hw)) (Or.inl (ow82 hw)) (by decide) (t := (.array .byte)) (t' := .int) (by decide) (by decide))); have F_coder_a1 := F_coder_a1.other W17 (Or.inr (slot_ne (Or.inl (ow26 hw)) (Or.inl (ow82 hw)) (by decide) (t := .byte) (t' := .int) (by decide) (by decide))); have E_bv := E_bv.wr W17; have E_a2 := E_a2.wr W17; have F_value_a2 := F_value_a2.other W17 (Or.inl ne_a2_a1)
 have F_coder_a2 := F_coder_a2.other W17 (Or.inl ne_a2_a1); have V_b2 := V_b2.other W17 ne_b2_a1; have V_bv := V_bv.other W17 (Ne.symm ne_a1_bv); have O := O.wr W17 g_a1; have K := K.wr W17 (Or.inl (List.mem_of_getElem? (i := 0) rfl))
 have N := Fr.snoc X17 N g_a1; have F_count_a1 := F_count_a1_
 refine og_aloadN X17 hx rfl rfl (hb hby d20_43) rfl ?_
 refine og_retR X17 hx hlk hret rfl rfl rfl (hb hby d20_44) (by decide) (by decide) ?_
 rw [e17]; exact ⟨rfl, N, K, E_a1, F_value_a1, F_coder_a1, F_count_a1, V_bv⟩
theorem rm_sasN (l : Launch) (Z : State) (a0 : Array Value) (hw : HW a0 Z) (a1 a2 bv b2 : Addr) (kb k2 : ClassId) (tt : Int32) (cn nn zz : Int32) (vs vd us vd' : List Value) (h2 : ¬ cn < 0) (h3 : ¬ nn < 0) (h4 : (0 : Int32).toNatClampNeg + nn.toNatClampNeg ≤ nn.toNatClampNeg) (h5 : cn.toNatClampNeg + nn.toNatClampNeg ≤ zz.toNatClampNeg) (hus : us = (List.range nn.toNatClampNeg).map fun i => vs.getD ((0 : Int32).toNatClampNeg + i) (.int 0)) (hl : cn.toNatClampNeg + nn.toNatClampNeg ≤ vd.length) (hvd : vd.take cn.toNatClampNeg ++ us ++ vd.drop (cn.toNatClampNeg + nn.toNatClampNeg) = vd') (ht : cn + nn = tt) (hle : ¬ 0 < tt - zz) (cs : Int32) (hcs : ¬ cs = 0) (h0 : Heap) (n0 : Nat) (O : Old Z n0 h0) (E_a1 : Exa Z h0 a1 "java/lang/StringBuilder") (F_value_a1 : Fld Z h0 a1 "java/lang/AbstractStringBuilder" "value" "[B" (.ref bv)) (F_coder_a1 : Fld Z h0 a1 "java/lang/AbstractStringBuilder" "coder" "B" (.int 0)) (F_count_a1 : Fld Z h0 a1 "java/lang/AbstractStringBuilder" "count" "I" (.int cn)) (E_bv : Exa Z h0 bv "[B") (V_bv : Arv Z h0 bv kb .byte zz vd (.int 0)) (E_a2 : Exa Z h0 a2 "java/lang/String") (F_value_a2 : Fld Z h0 a2 "java/lang/String" "value" "[B" (.ref b2)) (F_coder_a2 : Fld Z h0 a2 "java/lang/String" "coder" "B" (.int 0)) (V_b2 : Arv Z h0 b2 k2 .byte nn vs (.int 0)) (S_CS : Sta Z Z.heap "java/lang/String" "COMPACT_STRINGS" "Z" (.int cs)) (g_a1 : n0 ≤ a1) (g_bv : n0 ≤ bv) (ne_a1_bv : a1 ≠ bv) (ne_a2_bv : a2 ≠ bv) (ne_b2_bv : b2 ≠ bv) (ne_a2_a1 : a2 ≠ a1) (ne_b2_a1 : b2 ≠ a1) :
  Con l Z (⟨"java/lang/StringBuilder", "append", "(Ljava/lang/String;)Ljava/lang/StringBuilder;"⟩ : MethodName) jdk_67_method_7_code 2 (some (.object "java/lang/StringBuilder")) ({ frames := 4, cells := 0, slots := 0, locals := 61 } : Room) #[(.ref a1), (.ref a2)] h0 (fun v h L => v = some (.ref a1) ∧ Fr n0 L ∧ Keep h0 h [a1, bv] ∧ Exa Z h a1 "java/lang/StringBuilder" ∧ Fld Z h a1 "java/lang/AbstractStringBuilder" "value" "[B" (.ref bv) ∧ Fld Z h a1 "java/lang/AbstractStringBuilder" "coder" "B" (.int 0) ∧ Fld Z h a1 "java/lang/AbstractStringBuilder" "count" "I" (.int tt) ∧ Arv Z h bv kb .byte zz vd' (.int 0)) := by
 refine own_startC opn_19 ?_
 intro p e s m below meth c T0 X0 hx hby hml hZ hown hnm hret hlk e0
 have N := Fr.nil n0; have K := Keep.refl h0 [a1, bv]
 refine OG.cast (oef12 m a1 a2) ?_
 refine og_aloadN X0 hx rfl rfl (hb hby d19_0) rfl ?_
 refine og_aloadN X0 hx rfl rfl (hb hby d19_1) rfl ?_
 refine og_super (pc' := 5) (cells' := 0) (slots' := 0) (W := 0) X0 hx hZ (y := (⟨"java/lang/AbstractStringBuilder", "append", "(Ljava/lang/String;)Ljava/lang/AbstractStringBuilder;"⟩ : MethodName)) (rm_aasN l Z a0 hw a1 a2 bv b2 kb k2 tt cn nn zz vs vd us vd' h2 h3 h4 h5 hus hl hvd ht hle cs hcs h0 n0 O E_a1 F_value_a1 F_coder_a1 F_count_a1 E_bv V_bv E_a2 F_value_a2 F_coder_a2 V_b2 S_CS g_a1 g_bv ne_a1_bv ne_a2_bv ne_b2_bv ne_a2_a1 ne_b2_a1) hown (ow102 hw) (own_sameM (ow104 hw) (own_nfc (ow89 hw) (ow91 hw) rfl) (by decide)) (ow103 hw) (ow78 hw) (by decide) (ow15 hw) (ow105 hw) (by decide) (by rw [hml]; rfl) e0 opd_15 [(.ref a2)] [] rfl rfl rfl rfl (by decide) (by decide) rfl rfl (by decide) (by decide) E_a1 (hb hby d19_2) rfl (fun v11 T11 h11 L11 X11 e11 z11 => ?_)
 obtain ⟨rfl, Nq11, K11, E_a1', F_value_a1', F_coder_a1', F_count_a1', V_bv'⟩ := z11; have N := Fr.app N Nq11
 have E_a1 := E_a1.keep K11; have E_bv := E_bv.keep K11; have E_a2 := E_a2.keep K11; have F_value_a2 := F_value_a2.keep K11 (ninS ne_a2_a1 (ninS ne_a2_bv nin0)); have F_coder_a2 := F_coder_a2.keep K11 (ninS ne_a2_a1 (ninS ne_a2_bv nin0)); have V_b2 := V_b2.keep K11 (ninS ne_b2_a1 (ninS ne_b2_bv nin0))
 have O := O.keep K11 (allS g_a1 (allS g_bv all0)); have K := K.trans K11 (allS (Or.inl (List.mem_of_getElem? (i := 0) rfl)) (allS (Or.inl (List.mem_of_getElem? (i := 1) rfl)) all0))
 have V_bv := V_bv'
 have E_a1 := E_a1'; have F_value_a1 := F_value_a1'; have F_coder_a1 := F_coder_a1'; have F_count_a1 := F_count_a1'
 refine og_pop X11 hx rfl (hb hby d19_5) rfl ?_
 refine og_aloadN X11 hx rfl rfl (hb hby d19_6) rfl ?_
 refine og_retR X11 hx hlk hret rfl rfl rfl (hb hby d19_7) (by decide) (by decide) ?_
 rw [e11]; exact ⟨rfl, N, K, E_a1, F_value_a1, F_coder_a1, F_count_a1, V_bv⟩
theorem rm_aasG (l : Launch) (Z : State) (a0 : Array Value) (hw : HW a0 Z) (a1 a2 bv b2 : Addr) (kb k2 : ClassId) (tt : Int32) (cn nn zz : Int32) (vs vd us vd' : List Value) (h2 : ¬ cn < 0) (h3 : ¬ nn < 0) (h4 : (0 : Int32).toNatClampNeg + nn.toNatClampNeg ≤ nn.toNatClampNeg) (h5 : cn.toNatClampNeg + nn.toNatClampNeg ≤ zz.toNatClampNeg) (hus : us = (List.range nn.toNatClampNeg).map fun i => vs.getD ((0 : Int32).toNatClampNeg + i) (.int 0)) (hl : cn.toNatClampNeg + nn.toNatClampNeg ≤ vd.length) (hvd : vd.take cn.toNatClampNeg ++ us ++ vd.drop (cn.toNatClampNeg + nn.toNatClampNeg) = vd') (ht : cn + nn = tt) (v0 v1 v2 v3 : Int32) (mm : Nat) (hvd0 : vd = (own_pad mm [.int v0, .int v1, .int v2, .int v3])) (hc : own_cap tt zz mm) (cs : Int32) (hcs : ¬ cs = 0) (h0 : Heap) (n0 : Nat) (O : Old Z n0 h0) (E_a1 : Exa Z h0 a1 "java/lang/StringBuilder") (F_value_a1 : Fld Z h0 a1 "java/lang/AbstractStringBuilder" "value" "[B" (.ref bv)) (F_coder_a1 : Fld Z h0 a1 "java/lang/AbstractStringBuilder" "coder" "B" (.int 0)) (F_count_a1 : Fld Z h0 a1 "java/lang/AbstractStringBuilder" "count" "I" (.int cn)) (E_bv : Exa Z h0 bv "[B") (V_bv : Arv Z h0 bv kb .byte (4 : Int32) [(.int v0), (.int v1), (.int v2), (.int v3)] (.int 0)) (E_a2 : Exa Z h0 a2 "java/lang/String") (F_value_a2 : Fld Z h0 a2 "java/lang/String" "value" "[B" (.ref b2)) (F_coder_a2 : Fld Z h0 a2 "java/lang/String" "coder" "B" (.int 0)) (V_b2 : Arv Z h0 b2 k2 .byte nn vs (.int 0)) (S_CS : Sta Z Z.heap "java/lang/String" "COMPACT_STRINGS" "Z" (.int cs)) (g_a1 : n0 ≤ a1) (g_bv : n0 ≤ bv) (ne_a1_bv : a1 ≠ bv) (ne_a2_bv : a2 ≠ bv) (ne_b2_bv : b2 ≠ bv) (ne_a2_a1 : a2 ≠ a1) (ne_b2_a1 : b2 ≠ a1) :
  Con l Z (⟨"java/lang/AbstractStringBuilder", "append", "(Ljava/lang/String;)Ljava/lang/AbstractStringBuilder;"⟩ : MethodName) jdk_68_method_22_code 3 (some (.object "java/lang/AbstractStringBuilder")) ({ frames := 4, cells := 1, slots := 11, locals := 62 } : Room) #[(.ref a1), (.ref a2)] h0 (fun v h L => ∃ b k, v = some (.ref a1) ∧ Fr n0 L ∧ Keep h0 h [a1, bv] ∧ h0.size ≤ b ∧ Exa Z h a1 "java/lang/StringBuilder" ∧ Fld Z h a1 "java/lang/AbstractStringBuilder" "value" "[B" (.ref b) ∧ Fld Z h a1 "java/lang/AbstractStringBuilder" "coder" "B" (.int 0) ∧ Fld Z h a1 "java/lang/AbstractStringBuilder" "count" "I" (.int tt) ∧ Arv Z h b k .byte zz vd' (.int 0) ∧ Exa Z h b "[B") := by
 refine own_startC opn_20 ?_
 intro p e s m below meth c T0 X0 hx hby hml hZ hown hnm hret hlk e0
 have N := Fr.nil n0; have K := Keep.refl h0 [a1, bv]
 refine OG.cast (oef14 m a1 a2) ?_
 refine og_aloadN X0 hx rfl rfl (hb hby d20_0) rfl ?_
 refine og_ifnonnull (pc1 := 9) (pc2 := 4) X0 hx rfl (hb hby d20_1) (by decide) (by decide) rfl (fun _ => ?_) (fun q => absurd q nofun)
 refine og_aloadN X0 hx rfl rfl (hb hby d20_9) rfl ?_
 refine og_virtual (pc' := 13) (cells' := 0) (slots' := 0) (W := 0) X0 hx hZ (rm_len l Z a0 hw a2 b2 k2 nn _ cs hcs h0 n0 O E_a2 F_value_a2 F_coder_a2 V_b2 S_CS) hown (ow106 hw) (ow61 hw) (own_nf hZ (ow63 hw)) (ow63 hw) (ow62 hw) (ow21 hw) (ow64 hw) (by decide) (by rw [hml]; rfl) e0 opd_13 [] [] rfl rfl rfl rfl (by decide) (by decide) rfl rfl (by decide) (by decide) E_a2 (hb hby d20_10) rfl (fun v11 T11 h11 L11 X11 e11 z11 => ?_)
 obtain ⟨rfl, Nq11, hq11⟩ := z11; replace e11 := e11.trans hq11; have N := Fr.app N Nq11
 refine og_istoreN (L' := #[.val (.ref a1), .val (.ref a2), .val (.int nn)]) X11 hx rfl (hb hby d20_13) rfl ?_
 refine og_aloadN X11 hx rfl rfl (hb hby d20_14) rfl ?_
 refine og_aloadN X11 hx rfl rfl (hb hby d20_15) rfl ?_
 refine og_getfield X11 hx hZ (host := "") hown (Or.inl (ow81 hw)) Via.refl e11 F_count_a1 (hb hby d20_16) rfl (fun T12 X12 e12 => ?_)
 refine og_iloadN X12 hx rfl (hb hby d20_19) rfl ?_
 refine og_iadd X12 hx (hb hby d20_20) rfl ?_
 rw [ht]
 refine og_private (pc' := 24) (cells' := 1) (slots' := 11) (W := 0) X12 hx hZ (rm_ecG l Z a0 hw a1 bv kb cn v0 v1 v2 v3 tt zz mm hc h0 n0 O E_a1 F_value_a1 F_coder_a1 F_count_a1 V_bv g_a1 ne_a1_bv) hown (ow83 hw) (ow84 hw) (own_selfp (ow86 hw) (ow84 hw) (ow85 hw) (by decide)) (ow85 hw) (ow15 hw) (ow87 hw) (by decide) (by rw [hml]; rfl) e12 opd_4 [(.int tt)] [] rfl rfl rfl rfl (by decide) (by decide) rfl rfl (by decide) (by decide) E_a1 (hb hby d20_21) rfl (fun v13 T13 h13 L13 X13 e13 z13 => ?_)
 obtain ⟨nb13, k13, rfl, Nq13, K13, sb13, E_a1', F_value_a1', F_coder_a1', F_count_a1', V_nb13, E_nb13⟩ := z13; have N := Fr.app N Nq13
 have s_nb13 : h0.size ≤ nb13 := sb13; have g_nb13 : n0 ≤ nb13 := Nat.le_trans (own_n0 O) s_nb13; have sz_nb13 : h0.size ≤ nb13 := Nat.le_trans K.1 s_nb13; have ne_a1_nb13 : a1 ≠ nb13 := Nat.ne_of_lt (Nat.lt_of_lt_of_le E_a1.lt s_nb13); have ne_bv_nb13 : bv ≠ nb13 := Nat.ne_of_lt (Nat.lt_of_lt_of_le E_bv.lt s_nb13); have ne_a2_nb13 : a2 ≠ nb13 := Nat.ne_of_lt (Nat.lt_of_lt_of_le E_a2.lt s_nb13)
 have ne_b2_nb13 : b2 ≠ nb13 := Nat.ne_of_lt (Nat.lt_of_lt_of_le V_b2.lt s_nb13)
 have E_a1 := E_a1.keep K13; have E_bv := E_bv.keep K13; have V_bv := V_bv.keep K13 (ninS (Ne.symm ne_a1_bv) nin0); have E_a2 := E_a2.keep K13; have F_value_a2 := F_value_a2.keep K13 (ninS ne_a2_a1 nin0); have F_coder_a2 := F_coder_a2.keep K13 (ninS ne_a2_a1 nin0)
 have V_b2 := V_b2.keep K13 (ninS ne_b2_a1 nin0); have O := O.keep K13 (allS g_a1 all0); have K := K.trans K13 (allS (Or.inl (List.mem_of_getElem? (i := 0) rfl)) all0)
 have E_a1 := E_a1'; have F_value_a1 := F_value_a1'; have F_coder_a1 := F_coder_a1'; have F_count_a1 := F_count_a1'
 rw [← hvd0] at V_nb13
 show OG p e below _ (T13.setTop (mkF m 24 #[.val (.ref a1), .val (.ref a2), .val (.int nn)] []))
 refine og_aloadN X13 hx rfl rfl (hb hby d20_24) rfl ?_
 refine og_aloadN X13 hx rfl rfl (hb hby d20_25) rfl ?_
 refine og_getfield X13 hx hZ (host := "") hown (Or.inl (ow81 hw)) Via.refl e13 F_count_a1 (hb hby d20_26) rfl (fun T14 X14 e14 => ?_)
 refine og_aloadN X14 hx rfl rfl (hb hby d20_29) rfl ?_
 refine og_private (pc' := 33) (cells' := 1) (slots' := 11) (W := 0) X14 hx hZ (rm_psa l Z a0 hw a1 a2 b2 nb13 k2 k13 cn nn zz vs vd us vd' h2 h3 h4 h5 hus hl hvd cs hcs h13 n0 O E_a1 F_value_a1 F_coder_a1 E_a2 F_value_a2 F_coder_a2 V_b2 V_nb13 S_CS g_nb13 ne_a1_nb13 ne_a2_nb13 ne_b2_nb13) hown (ow107 hw) (ow108 hw) (own_selfp (ow110 hw) (ow108 hw) (ow109 hw) (by decide)) (ow109 hw) (ow15 hw) (ow111 hw) (by decide) (by rw [hml]; rfl) e14 opd_14 [(.int cn), (.ref a2)] [] rfl rfl rfl rfl (by decide) (by decide) rfl rfl (by decide) (by decide) E_a1 (hb hby d20_30) rfl (fun v15 T15 h15 L15 X15 e15 z15 => ?_)
 obtain ⟨rfl, Nq15, K15, V_nb13'⟩ := z15; have N := Fr.app N Nq15
 have E_a1 := E_a1.keep K15; have E_bv := E_bv.keep K15; have V_bv := V_bv.keep K15 (ninS ne_bv_nb13 nin0); have E_a2 := E_a2.keep K15; have F_value_a2 := F_value_a2.keep K15 (ninS ne_a2_nb13 nin0); have F_coder_a2 := F_coder_a2.keep K15 (ninS ne_a2_nb13 nin0)
 have V_b2 := V_b2.keep K15 (ninS ne_b2_nb13 nin0); have F_value_a1 := F_value_a1.keep K15 (ninS ne_a1_nb13 nin0); have F_coder_a1 := F_coder_a1.keep K15 (ninS ne_a1_nb13 nin0); have F_count_a1 := F_count_a1.keep K15 (ninS ne_a1_nb13 nin0); have E_nb13 := E_nb13.keep K15; have O := O.keep K15 (allS g_nb13 all0)
 have K := K.trans K15 (allS (Or.inr sz_nb13) all0)
 have V_nb13 := V_nb13'
 refine og_aloadN X15 hx rfl rfl (hb hby d20_33) rfl ?_
 refine og_dup X15 hx rfl (hb hby d20_34) rfl ?_
 refine og_getfield X15 hx hZ (host := "") hown (Or.inl (ow81 hw)) Via.refl e15 F_count_a1 (hb hby d20_35) rfl (fun T16 X16 e16 => ?_)
 refine og_iloadN X16 hx rfl (hb hby d20_38) rfl ?_
 refine og_iadd X16 hx (hb hby d20_39) rfl ?_
 rw [ht]
 refine og_putfield X16 hx hZ (ty := .int) (host := "") hown (Or.inl (ow81 hw)) Via.refl e16 F_count_a1 E_a1 (Or.inl (ow82 hw)) (ow6 hw) (by decide) rfl rfl (hb hby d20_40) rfl (fun T17 h17 X17 e17 W17 => ?_)
 have F_count_a1_ := F_count_a1.same W17
 have E_a1 := E_a1.wr W17; have E_bv := E_bv.wr W17; have V_bv := V_bv.other W17 (Ne.symm ne_a1_bv); have E_a2 := E_a2.wr W17; have F_value_a2 := F_value_a2.other W17 (Or.inl ne_a2_a1); have F_coder_a2 := F_coder_a2.other W17 (Or.inl ne_a2_a1)
 have V_b2 := V_b2.other W17 ne_b2_a1; have F_value_a1 := F_value_a1.other W17 (Or.inr (slot_ne (Or.inl (ow24 hw)) (Or.inl (ow82 hw)) (by decide) (t := (.array .byte)) (t' := .int) (by decide) (by decide))); have F_coder_a1 := F_coder_a1.other W17 (Or.inr (slot_ne (Or.inl (ow26 hw)) (Or.inl (ow82 hw)) (by decide) (t := .byte) (t' := .int) (by decide) (by decide))); have E_nb13 := E_nb13.wr W17; have V_nb13 := V_nb13.other W17 (Ne.symm ne_a1_nb13); have O := O.wr W17 g_a1
 have K := K.wr W17 (Or.inl (List.mem_of_getElem? (i := 0) rfl))
 have N := Fr.snoc X17 N g_a1; have F_count_a1 := F_count_a1_
 refine og_aloadN X17 hx rfl rfl (hb hby d20_43) rfl ?_
 refine og_retR X17 hx hlk hret rfl rfl rfl (hb hby d20_44) (by decide) (by decide) ?_
 rw [e17]; exact ⟨_, _, rfl, N, K, sz_nb13, E_a1, F_value_a1, F_coder_a1, F_count_a1, V_nb13, E_nb13⟩
theorem rm_sasG (l : Launch) (Z : State) (a0 : Array Value) (hw : HW a0 Z) (a1 a2 bv b2 : Addr) (kb k2 : ClassId) (tt : Int32) (cn nn zz : Int32) (vs vd us vd' : List Value) (h2 : ¬ cn < 0) (h3 : ¬ nn < 0) (h4 : (0 : Int32).toNatClampNeg + nn.toNatClampNeg ≤ nn.toNatClampNeg) (h5 : cn.toNatClampNeg + nn.toNatClampNeg ≤ zz.toNatClampNeg) (hus : us = (List.range nn.toNatClampNeg).map fun i => vs.getD ((0 : Int32).toNatClampNeg + i) (.int 0)) (hl : cn.toNatClampNeg + nn.toNatClampNeg ≤ vd.length) (hvd : vd.take cn.toNatClampNeg ++ us ++ vd.drop (cn.toNatClampNeg + nn.toNatClampNeg) = vd') (ht : cn + nn = tt) (v0 v1 v2 v3 : Int32) (mm : Nat) (hvd0 : vd = (own_pad mm [.int v0, .int v1, .int v2, .int v3])) (hc : own_cap tt zz mm) (cs : Int32) (hcs : ¬ cs = 0) (h0 : Heap) (n0 : Nat) (O : Old Z n0 h0) (E_a1 : Exa Z h0 a1 "java/lang/StringBuilder") (F_value_a1 : Fld Z h0 a1 "java/lang/AbstractStringBuilder" "value" "[B" (.ref bv)) (F_coder_a1 : Fld Z h0 a1 "java/lang/AbstractStringBuilder" "coder" "B" (.int 0)) (F_count_a1 : Fld Z h0 a1 "java/lang/AbstractStringBuilder" "count" "I" (.int cn)) (E_bv : Exa Z h0 bv "[B") (V_bv : Arv Z h0 bv kb .byte (4 : Int32) [(.int v0), (.int v1), (.int v2), (.int v3)] (.int 0)) (E_a2 : Exa Z h0 a2 "java/lang/String") (F_value_a2 : Fld Z h0 a2 "java/lang/String" "value" "[B" (.ref b2)) (F_coder_a2 : Fld Z h0 a2 "java/lang/String" "coder" "B" (.int 0)) (V_b2 : Arv Z h0 b2 k2 .byte nn vs (.int 0)) (S_CS : Sta Z Z.heap "java/lang/String" "COMPACT_STRINGS" "Z" (.int cs)) (g_a1 : n0 ≤ a1) (g_bv : n0 ≤ bv) (ne_a1_bv : a1 ≠ bv) (ne_a2_bv : a2 ≠ bv) (ne_b2_bv : b2 ≠ bv) (ne_a2_a1 : a2 ≠ a1) (ne_b2_a1 : b2 ≠ a1) :
  Con l Z (⟨"java/lang/StringBuilder", "append", "(Ljava/lang/String;)Ljava/lang/StringBuilder;"⟩ : MethodName) jdk_67_method_7_code 2 (some (.object "java/lang/StringBuilder")) ({ frames := 5, cells := 1, slots := 11, locals := 76 } : Room) #[(.ref a1), (.ref a2)] h0 (fun v h L => ∃ b k, v = some (.ref a1) ∧ Fr n0 L ∧ Keep h0 h [a1, bv] ∧ h0.size ≤ b ∧ Exa Z h a1 "java/lang/StringBuilder" ∧ Fld Z h a1 "java/lang/AbstractStringBuilder" "value" "[B" (.ref b) ∧ Fld Z h a1 "java/lang/AbstractStringBuilder" "coder" "B" (.int 0) ∧ Fld Z h a1 "java/lang/AbstractStringBuilder" "count" "I" (.int tt) ∧ Arv Z h b k .byte zz vd' (.int 0) ∧ Exa Z h b "[B") := by
 refine own_startC opn_19 ?_
 intro p e s m below meth c T0 X0 hx hby hml hZ hown hnm hret hlk e0
 have N := Fr.nil n0; have K := Keep.refl h0 [a1, bv]
 refine OG.cast (oef12 m a1 a2) ?_
 refine og_aloadN X0 hx rfl rfl (hb hby d19_0) rfl ?_
 refine og_aloadN X0 hx rfl rfl (hb hby d19_1) rfl ?_
 refine og_super (pc' := 5) (cells' := 1) (slots' := 11) (W := 0) X0 hx hZ (y := (⟨"java/lang/AbstractStringBuilder", "append", "(Ljava/lang/String;)Ljava/lang/AbstractStringBuilder;"⟩ : MethodName)) (rm_aasG l Z a0 hw a1 a2 bv b2 kb k2 tt cn nn zz vs vd us vd' h2 h3 h4 h5 hus hl hvd ht v0 v1 v2 v3 mm hvd0 hc cs hcs h0 n0 O E_a1 F_value_a1 F_coder_a1 F_count_a1 E_bv V_bv E_a2 F_value_a2 F_coder_a2 V_b2 S_CS g_a1 g_bv ne_a1_bv ne_a2_bv ne_b2_bv ne_a2_a1 ne_b2_a1) hown (ow102 hw) (own_sameM (ow104 hw) (own_nfc (ow89 hw) (ow91 hw) rfl) (by decide)) (ow103 hw) (ow78 hw) (by decide) (ow15 hw) (ow105 hw) (by decide) (by rw [hml]; rfl) e0 opd_15 [(.ref a2)] [] rfl rfl rfl rfl (by decide) (by decide) rfl rfl (by decide) (by decide) E_a1 (hb hby d19_2) rfl (fun v11 T11 h11 L11 X11 e11 z11 => ?_)
 obtain ⟨nb11, k11, rfl, Nq11, K11, sb11, E_a1', F_value_a1', F_coder_a1', F_count_a1', V_nb11, E_nb11⟩ := z11; have N := Fr.app N Nq11
 have s_nb11 : h0.size ≤ nb11 := sb11; have g_nb11 : n0 ≤ nb11 := Nat.le_trans (own_n0 O) s_nb11; have sz_nb11 : h0.size ≤ nb11 := Nat.le_trans K.1 s_nb11; have ne_a1_nb11 : a1 ≠ nb11 := Nat.ne_of_lt (Nat.lt_of_lt_of_le E_a1.lt s_nb11); have ne_bv_nb11 : bv ≠ nb11 := Nat.ne_of_lt (Nat.lt_of_lt_of_le E_bv.lt s_nb11); have ne_a2_nb11 : a2 ≠ nb11 := Nat.ne_of_lt (Nat.lt_of_lt_of_le E_a2.lt s_nb11)
 have ne_b2_nb11 : b2 ≠ nb11 := Nat.ne_of_lt (Nat.lt_of_lt_of_le V_b2.lt s_nb11)
 have E_a1 := E_a1.keep K11; have E_bv := E_bv.keep K11; have E_a2 := E_a2.keep K11; have F_value_a2 := F_value_a2.keep K11 (ninS ne_a2_a1 (ninS ne_a2_bv nin0)); have F_coder_a2 := F_coder_a2.keep K11 (ninS ne_a2_a1 (ninS ne_a2_bv nin0)); have V_b2 := V_b2.keep K11 (ninS ne_b2_a1 (ninS ne_b2_bv nin0))
 have O := O.keep K11 (allS g_a1 (allS g_bv all0)); have K := K.trans K11 (allS (Or.inl (List.mem_of_getElem? (i := 0) rfl)) (allS (Or.inl (List.mem_of_getElem? (i := 1) rfl)) all0))
 have E_a1 := E_a1'; have F_value_a1 := F_value_a1'; have F_coder_a1 := F_coder_a1'; have F_count_a1 := F_count_a1'
 refine og_pop X11 hx rfl (hb hby d19_5) rfl ?_
 refine og_aloadN X11 hx rfl rfl (hb hby d19_6) rfl ?_
 refine og_retR X11 hx hlk hret rfl rfl rfl (hb hby d19_7) (by decide) (by decide) ?_
 rw [e11]; exact ⟨_, _, rfl, N, K, sz_nb11, E_a1, F_value_a1, F_coder_a1, F_count_a1, V_nb11, E_nb11⟩
theorem rm_abs0 (l : Launch) (Z : State) (a0 : Array Value) (hw : HW a0 Z) (yy : Int32) (hy : ¬ yy < 0) (h0 : Heap) (n0 : Nat) (O : Old Z n0 h0) :
  Con l Z (⟨"java/lang/Math", "abs", "(I)I"⟩ : MethodName) jdk_29_method_59_code 1 (some .int) ({ frames := 0, cells := 0, slots := 0, locals := 0 } : Room) #[(.int yy)] h0 (fun v h L => v = some (.int yy) ∧ Fr n0 L ∧ h = h0) := by
 refine own_startC opn_6 ?_
 intro p e s m below meth c T0 X0 hx hby hml hZ hown hnm hret hlk e0
 have N := Fr.nil n0; have K := Keep.refl h0 []
 refine OG.cast (oef10 m yy) ?_
 refine og_iloadN X0 hx rfl (hb hby d6_0) rfl ?_
 refine og_if_ge (pc1 := 9) (pc2 := 4) X0 hx (hb hby d6_1) (by decide) (by decide) rfl (fun _ => ?_) (fun q => absurd q hy)
 refine og_iloadN X0 hx rfl (hb hby d6_9) rfl ?_
 refine og_retI X0 hx hlk hret (hb hby d6_10) (by decide) (by decide) ?_
 rw [e0]; exact ⟨rfl, N, rfl⟩
theorem rm_abs1 (l : Launch) (Z : State) (a0 : Array Value) (hw : HW a0 Z) (yy : Int32) (hy : yy < 0) (h0 : Heap) (n0 : Nat) (O : Old Z n0 h0) :
  Con l Z (⟨"java/lang/Math", "abs", "(I)I"⟩ : MethodName) jdk_29_method_59_code 1 (some .int) ({ frames := 0, cells := 0, slots := 0, locals := 0 } : Room) #[(.int yy)] h0 (fun v h L => v = some (.int (-yy)) ∧ Fr n0 L ∧ h = h0) := by
 refine own_startC opn_6 ?_
 intro p e s m below meth c T0 X0 hx hby hml hZ hown hnm hret hlk e0
 have N := Fr.nil n0; have K := Keep.refl h0 []
 refine OG.cast (oef10 m yy) ?_
 refine og_iloadN X0 hx rfl (hb hby d6_0) rfl ?_
 refine og_if_ge (pc1 := 9) (pc2 := 4) X0 hx (hb hby d6_1) (by decide) (by decide) rfl (fun q => absurd hy q) (fun _ => ?_)
 refine og_iloadN X0 hx rfl (hb hby d6_4) rfl ?_
 refine og_ineg X0 hx (hb hby d6_5) rfl ?_
 refine og_goto (pc' := 10) X0 hx (hb hby d6_6) (by decide) (by decide) ?_
 refine og_retI X0 hx hlk hret (hb hby d6_10) (by decide) (by decide) ?_
 rw [e0]; exact ⟨rfl, N, rfl⟩
theorem rm_cpr_4_4 (l : Launch) (Z : State) (a0 : Array Value) (hw : HW a0 Z) (ba : Addr) (kb : ClassId) (v0 v1 v2 v3 : Int32) (h0 : Heap) (n0 : Nat) (O : Old Z n0 h0) (V_ba : Arv Z h0 ba kb .byte (4 : Int32) [(.int v0), (.int v1), (.int v2), (.int v3)] (.int 0)) (E_ba : Exa Z h0 ba "[B") :
  Con l Z (⟨"java/util/Arrays", "copyOfRange", "([BII)[B"⟩ : MethodName) jdk_65_method_132_code 3 (some (.array .byte)) ({ frames := 2, cells := 1, slots := 11, locals := 34 } : Room) #[(.ref ba), (.int 0), (.int 4)] h0 (fun v h L => ∃ b k, v = some (.ref b) ∧ Fr n0 L ∧ Keep h0 h [] ∧ h0.size ≤ b ∧ Arv Z h b k .byte (4 : Int32) [(.int v0), (.int v1), (.int v2), (.int v3)] (.int 0) ∧ Exa Z h b "[B") := by
 refine own_startC opn_30 ?_
 intro p e s m below meth c T0 X0 hx hby hml hZ hown hnm hret hlk e0
 have N := Fr.nil n0; have K := Keep.refl h0 []
 refine OG.cast (oef15 m ba (0 : Int32) (4 : Int32)) ?_
 refine og_iloadN X0 hx rfl (hb hby d30_0) rfl ?_
 refine og_if_ne (pc1 := 10) (pc2 := 4) X0 hx (hb hby d30_1) (by decide) (by decide) rfl (fun q => absurd q (by decide)) (fun _ => ?_)
 refine og_iloadN X0 hx rfl (hb hby d30_4) rfl ?_
 refine og_aloadN X0 hx rfl rfl (hb hby d30_5) rfl ?_
 refine og_arraylength X0 hx hZ e0 V_ba (hb hby d30_6) rfl ?_
 refine og_icmp_eq (pc1 := 17) (pc2 := 10) X0 hx (hb hby d30_7) (by decide) (by decide) rfl (fun _ => ?_) (fun q => absurd q (by decide))
 refine og_aloadN X0 hx rfl rfl (hb hby d30_17) rfl ?_
 refine og_clone (pc' := 21) (cells' := 1) (slots' := 4) (cap := 4) (W := 0) X0 hx hZ (by rw [hml]; rfl) hown (ow157 hw) (ow158 hw) (ow162 hw) (ow160 hw) (ow161 hw) (ow163 hw) e0 V_ba E_ba rfl (by decide) (by decide) (by decide) rfl rfl (by decide) (by decide) (hb hby d30_18) rfl (fun T11 h11 nb11 X11 e11 E11 q11 V_nb11 E_nb11 => ?_)
 have s_nb11 : h0.size ≤ nb11 := Nat.le_of_eq q11.symm; have g_nb11 : n0 ≤ nb11 := Nat.le_trans (own_n0 O) s_nb11; have sz_nb11 : h0.size ≤ nb11 := Nat.le_trans K.1 s_nb11; have ne_ba_nb11 : ba ≠ nb11 := Nat.ne_of_lt (Nat.lt_of_lt_of_le V_ba.lt s_nb11)
 have V_ba := V_ba.ext E11; have E_ba := E_ba.ext E11; have O := O.ext E11; have K := K.ext E11
 obtain ⟨T12, X12, e12, st12⟩ := castY X11 hx hZ hown (ow164 hw) e11 (Ins.self E_nb11) (g := (mkF m 21 #[.val (.ref ba), .val (.int 0), .val (.int 4)] [(.ref nb11)])) rfl rfl (hb hby d30_21)
 refine OG.of st12 ?_
 show OG p e below _ (T12.setTop (mkF m 24 #[.val (.ref ba), .val (.int 0), .val (.int 4)] [(.ref nb11)]))
 refine og_retR X12 hx hlk hret rfl rfl rfl (hb hby d30_24) (by decide) (by decide) ?_
 rw [e12]; exact ⟨_, _, rfl, N, K, sz_nb11, V_nb11, E_nb11⟩
theorem rm_min_10_5 (l : Launch) (Z : State) (a0 : Array Value) (hw : HW a0 Z)  (h0 : Heap) (n0 : Nat) (O : Old Z n0 h0) :
  Con l Z (⟨"java/lang/Math", "min", "(II)I"⟩ : MethodName) jdk_29_method_69_code 2 (some .int) ({ frames := 0, cells := 0, slots := 0, locals := 0 } : Room) #[(.int 10), (.int 5)] h0 (fun v h L => v = some (.int 5) ∧ Fr n0 L ∧ h = h0) := by
 refine own_startC opn_41 ?_
 intro p e s m below meth c T0 X0 hx hby hml hZ hown hnm hret hlk e0
 have N := Fr.nil n0; have K := Keep.refl h0 []
 refine OG.cast (oef7 m (10 : Int32) (5 : Int32)) ?_
 refine og_iloadN X0 hx rfl (hb hby d41_0) rfl ?_
 refine og_iloadN X0 hx rfl (hb hby d41_1) rfl ?_
 refine og_icmp_gt (pc1 := 9) (pc2 := 5) X0 hx (hb hby d41_2) (by decide) (by decide) rfl (fun _ => ?_) (fun q => absurd q (by decide))
 refine og_iloadN X0 hx rfl (hb hby d41_9) rfl ?_
 refine og_retI X0 hx hlk hret (hb hby d41_10) (by decide) (by decide) ?_
 rw [e0]; exact ⟨rfl, N, rfl⟩
theorem rm_chl_5 (l : Launch) (Z : State) (a0 : Array Value) (hw : HW a0 Z)  (h0 : Heap) (n0 : Nat) (O : Old Z n0 h0) :
  Con l Z (⟨"java/util/Arrays", "checkLength", "(II)V"⟩ : MethodName) jdk_65_method_131_code 2 none ({ frames := 0, cells := 0, slots := 0, locals := 0 } : Room) #[(.int 0), (.int 5)] h0 (fun v h L => v = none ∧ Fr n0 L ∧ h = h0) := by
 refine own_startC opn_43 ?_
 intro p e s m below meth c T0 X0 hx hby hml hZ hown hnm hret hlk e0
 have N := Fr.nil n0; have K := Keep.refl h0 []
 refine OG.cast (oef7 m (0 : Int32) (5 : Int32)) ?_
 refine og_iloadN X0 hx rfl (hb hby d43_0) rfl ?_
 refine og_iloadN X0 hx rfl (hb hby d43_1) rfl ?_
 refine og_icmp_ge (pc1 := 37) (pc2 := 5) X0 hx (hb hby d43_2) (by decide) (by decide) rfl (fun _ => ?_) (fun q => absurd q (by decide))
 refine og_retV X0 hx hlk hret (hb hby d43_37) (by decide) (by decide) ?_
 rw [e0]; exact ⟨rfl, N, rfl⟩
theorem rm_crb_10_5 (l : Launch) (Z : State) (a0 : Array Value) (hw : HW a0 Z) (ba : Addr) (kb : ClassId) (v0 v1 v2 v3 v4 v5 v6 v7 v8 v9 : Int32) (h0 : Heap) (n0 : Nat) (O : Old Z n0 h0) (V_ba : Arv Z h0 ba kb .byte (10 : Int32) [(.int v0), (.int v1), (.int v2), (.int v3), (.int v4), (.int v5), (.int v6), (.int v7), (.int v8), (.int v9)] (.int 0)) :
  Con l Z (⟨"java/util/Arrays", "copyOfRangeByte", "([BII)[B"⟩ : MethodName) jdk_65_method_133_code 5 (some (.array .byte)) ({ frames := 1, cells := 1, slots := 5, locals := 18 } : Room) #[(.ref ba), (.int 0), (.int 5)] h0 (fun v h L => ∃ b k, v = some (.ref b) ∧ Fr n0 L ∧ Keep h0 h [] ∧ h0.size ≤ b ∧ Arv Z h b k .byte (5 : Int32) [(.int v0), (.int v1), (.int v2), (.int v3), (.int v4)] (.int 0) ∧ Exa Z h b "[B") := by
 refine own_startC opn_42 ?_
 intro p e s m below meth c T0 X0 hx hby hml hZ hown hnm hret hlk e0
 have N := Fr.nil n0; have K := Keep.refl h0 []
 refine OG.cast (oef16 m ba (0 : Int32) (5 : Int32)) ?_
 refine og_iloadN X0 hx rfl (hb hby d42_0) rfl ?_
 refine og_iloadN X0 hx rfl (hb hby d42_1) rfl ?_
 refine og_static (pc' := 5) (cells' := 0) (slots' := 0) (W := 0) X0 hx hZ (rm_chl_5 l Z a0 hw h0 n0 O) hown (ow222 hw) (ow223 hw) (ow155 hw) (ow224 hw) (by decide) (by rw [hml]; rfl) e0 opd_16 [(.int 0), (.int 5)] [] rfl rfl rfl rfl (by decide) (by decide) rfl rfl (by decide) (by decide) (hb hby d42_2) rfl (fun v11 T11 h11 L11 X11 e11 z11 => ?_)
 obtain ⟨rfl, Nq11, hq11⟩ := z11; replace e11 := e11.trans hq11; have N := Fr.app N Nq11
 refine og_iloadN X11 hx rfl (hb hby d42_5) rfl ?_
 refine og_iloadN X11 hx rfl (hb hby d42_6) rfl ?_
 refine og_isub X11 hx (hb hby d42_7) rfl ?_
 show OG p e below _ (T11.setTop (mkF m 8 #[.val (.ref ba), .val (.int 0), .val (.int 5), .unset, .unset] [(.int 5)]))
 refine og_istoreN (L' := #[.val (.ref ba), .val (.int 0), .val (.int 5), .val (.int 5), .unset]) X11 hx rfl (hb hby d42_8) rfl ?_
 refine og_iloadN X11 hx rfl (hb hby d42_9) rfl ?_
 refine og_newarrayE (pc' := 12) (cells' := 1) (slots' := 5) (cap := 5) (ty := .byte) X11 hx hZ rfl (ow22 hw) e11 (by decide) (by decide) (by decide) rfl (hb hby d42_10) rfl rfl rfl (by decide) (by decide) (fun T12 h12 nb12 kA12 X12 e12 E12 q12 V_nb12 E_nb12 => ?_)
 have s_nb12 : h0.size ≤ nb12 := Nat.le_of_eq q12.symm; have g_nb12 : n0 ≤ nb12 := Nat.le_trans (own_n0 O) s_nb12; have sz_nb12 : h0.size ≤ nb12 := Nat.le_trans K.1 s_nb12; have ne_ba_nb12 : ba ≠ nb12 := Nat.ne_of_lt (Nat.lt_of_lt_of_le V_ba.lt s_nb12)
 have V_ba := V_ba.ext E12; have O := O.ext E12; have K := K.ext E12
 have V_nb12 : Arv Z h12 nb12 kA12 .byte (5 : Int32) [(.int 0), (.int 0), (.int 0), (.int 0), (.int 0)] (.int 0) := V_nb12.pad (pad_rep [] (.int 0) 5)
 refine og_astore (L' := #[.val (.ref ba), .val (.int 0), .val (.int 5), .val (.int 5), .val (.ref nb12)]) X12 hx rfl rfl (hb hby d42_12) rfl ?_
 refine og_aloadN X12 hx rfl rfl (hb hby d42_14) rfl ?_
 refine og_iloadN X12 hx rfl (hb hby d42_15) rfl ?_
 refine og_aload X12 hx rfl rfl (hb hby d42_16) rfl ?_
 refine og_iconst (v := 0) X12 hx rfl (hb hby d42_18) rfl ?_
 refine og_aloadN X12 hx rfl rfl (hb hby d42_19) rfl ?_
 refine og_arraylength X12 hx hZ e12 V_ba (hb hby d42_20) rfl ?_
 refine og_iloadN X12 hx rfl (hb hby d42_21) rfl ?_
 refine og_isub X12 hx (hb hby d42_22) rfl ?_
 show OG p e below _ (T12.setTop (mkF m 23 #[.val (.ref ba), .val (.int 0), .val (.int 5), .val (.int 5), .val (.ref nb12)] [(.int 10), (.int 0), (.ref nb12), (.int 0), (.ref ba)]))
 refine og_iloadN X12 hx rfl (hb hby d42_23) rfl ?_
 refine og_static (pc' := 27) (cells' := 1) (slots' := 5) (W := 4) X12 hx hZ (rm_min_10_5 l Z a0 hw h12 n0 O) hown (ow215 hw) (ow216 hw) (ow32 hw) (ow217 hw) (by decide) (by rw [hml]; rfl) e12 opd_5 [(.int 10), (.int 5)] [(.int 0), (.ref nb12), (.int 0), (.ref ba)] rfl rfl rfl rfl (by decide) (by decide) rfl rfl (by decide) (by decide) (hb hby d42_24) rfl (fun v13 T13 h13 L13 X13 e13 z13 => ?_)
 obtain ⟨rfl, Nq13, hq13⟩ := z13; replace e13 := e13.trans hq13; have N := Fr.app N Nq13
 refine og_arraycopy (pc' := 30) (W := 0) (us := [(.int v0), (.int v1), (.int v2), (.int v3), (.int v4)]) X13 hx hZ (by rw [hml]; rfl) hown (ow218 hw) (ow126 hw) (ow124 hw) (ow125 hw) e13 V_ba V_nb12 rfl (by decide) (by decide) (by decide) (by decide) (by decide) rfl (Nat.le_of_ble_eq_true rfl) N g_nb12 rfl (by decide) (by decide) (hb hby d42_27) rfl (fun T14 h14 l14 X14 e14 N K14 V14 => ?_)
 have V_ba := V_ba.keep K14 (ninS ne_ba_nb12 nin0); have E_nb12 := E_nb12.keep K14; have O := O.keep K14 (allS g_nb12 all0); have K := K.trans K14 (allS (Or.inr sz_nb12) all0)
 have V_nb12 : Arv Z h14 nb12 kA12 .byte (5 : Int32) [(.int v0), (.int v1), (.int v2), (.int v3), (.int v4)] (.int 0) := V14
 refine og_aload X14 hx rfl rfl (hb hby d42_30) rfl ?_
 refine og_retR X14 hx hlk hret rfl rfl rfl (hb hby d42_32) (by decide) (by decide) ?_
 rw [e14]; exact ⟨_, _, rfl, N, K, sz_nb12, V_nb12, E_nb12⟩
theorem rm_cpr_10_5 (l : Launch) (Z : State) (a0 : Array Value) (hw : HW a0 Z) (ba : Addr) (kb : ClassId) (v0 v1 v2 v3 v4 v5 v6 v7 v8 v9 : Int32) (h0 : Heap) (n0 : Nat) (O : Old Z n0 h0) (V_ba : Arv Z h0 ba kb .byte (10 : Int32) [(.int v0), (.int v1), (.int v2), (.int v3), (.int v4), (.int v5), (.int v6), (.int v7), (.int v8), (.int v9)] (.int 0)) (E_ba : Exa Z h0 ba "[B") :
  Con l Z (⟨"java/util/Arrays", "copyOfRange", "([BII)[B"⟩ : MethodName) jdk_65_method_132_code 3 (some (.array .byte)) ({ frames := 2, cells := 1, slots := 11, locals := 34 } : Room) #[(.ref ba), (.int 0), (.int 5)] h0 (fun v h L => ∃ b k, v = some (.ref b) ∧ Fr n0 L ∧ Keep h0 h [] ∧ h0.size ≤ b ∧ Arv Z h b k .byte (5 : Int32) [(.int v0), (.int v1), (.int v2), (.int v3), (.int v4)] (.int 0) ∧ Exa Z h b "[B") := by
 refine own_startC opn_30 ?_
 intro p e s m below meth c T0 X0 hx hby hml hZ hown hnm hret hlk e0
 have N := Fr.nil n0; have K := Keep.refl h0 []
 refine OG.cast (oef15 m ba (0 : Int32) (5 : Int32)) ?_
 refine og_iloadN X0 hx rfl (hb hby d30_0) rfl ?_
 refine og_if_ne (pc1 := 10) (pc2 := 4) X0 hx (hb hby d30_1) (by decide) (by decide) rfl (fun q => absurd q (by decide)) (fun _ => ?_)
 refine og_iloadN X0 hx rfl (hb hby d30_4) rfl ?_
 refine og_aloadN X0 hx rfl rfl (hb hby d30_5) rfl ?_
 refine og_arraylength X0 hx hZ e0 V_ba (hb hby d30_6) rfl ?_
 refine og_icmp_eq (pc1 := 17) (pc2 := 10) X0 hx (hb hby d30_7) (by decide) (by decide) rfl (fun q => absurd q (by decide)) (fun _ => ?_)
 refine og_aloadN X0 hx rfl rfl (hb hby d30_10) rfl ?_
 refine og_iloadN X0 hx rfl (hb hby d30_11) rfl ?_
 refine og_iloadN X0 hx rfl (hb hby d30_12) rfl ?_
 refine og_static (pc' := 16) (cells' := 1) (slots' := 5) (W := 0) X0 hx hZ (rm_crb_10_5 l Z a0 hw ba kb v0 v1 v2 v3 v4 v5 v6 v7 v8 v9 h0 n0 O V_ba) hown (ow219 hw) (ow220 hw) (ow155 hw) (ow221 hw) (by decide) (by rw [hml]; rfl) e0 opd_17 [(.ref ba), (.int 0), (.int 5)] [] rfl rfl rfl rfl (by decide) (by decide) rfl rfl (by decide) (by decide) (hb hby d30_13) rfl (fun v11 T11 h11 L11 X11 e11 z11 => ?_)
 obtain ⟨nb11, k11, rfl, Nq11, K11, sb11, V_nb11, E_nb11⟩ := z11; have N := Fr.app N Nq11
 have s_nb11 : h0.size ≤ nb11 := sb11; have g_nb11 : n0 ≤ nb11 := Nat.le_trans (own_n0 O) s_nb11; have sz_nb11 : h0.size ≤ nb11 := Nat.le_trans K.1 s_nb11; have ne_ba_nb11 : ba ≠ nb11 := Nat.ne_of_lt (Nat.lt_of_lt_of_le V_ba.lt s_nb11)
 have V_ba := V_ba.keep K11 nin0; have E_ba := E_ba.keep K11; have O := O.keep K11 all0; have K := K.trans K11 all0
 refine og_retR X11 hx hlk hret rfl rfl rfl (hb hby d30_16) (by decide) (by decide) ?_
 rw [e11]; exact ⟨_, _, rfl, N, K, sz_nb11, V_nb11, E_nb11⟩
theorem rm_min_10_6 (l : Launch) (Z : State) (a0 : Array Value) (hw : HW a0 Z)  (h0 : Heap) (n0 : Nat) (O : Old Z n0 h0) :
  Con l Z (⟨"java/lang/Math", "min", "(II)I"⟩ : MethodName) jdk_29_method_69_code 2 (some .int) ({ frames := 0, cells := 0, slots := 0, locals := 0 } : Room) #[(.int 10), (.int 6)] h0 (fun v h L => v = some (.int 6) ∧ Fr n0 L ∧ h = h0) := by
 refine own_startC opn_41 ?_
 intro p e s m below meth c T0 X0 hx hby hml hZ hown hnm hret hlk e0
 have N := Fr.nil n0; have K := Keep.refl h0 []
 refine OG.cast (oef7 m (10 : Int32) (6 : Int32)) ?_
 refine og_iloadN X0 hx rfl (hb hby d41_0) rfl ?_
 refine og_iloadN X0 hx rfl (hb hby d41_1) rfl ?_
 refine og_icmp_gt (pc1 := 9) (pc2 := 5) X0 hx (hb hby d41_2) (by decide) (by decide) rfl (fun _ => ?_) (fun q => absurd q (by decide))
 refine og_iloadN X0 hx rfl (hb hby d41_9) rfl ?_
 refine og_retI X0 hx hlk hret (hb hby d41_10) (by decide) (by decide) ?_
 rw [e0]; exact ⟨rfl, N, rfl⟩
theorem rm_chl_6 (l : Launch) (Z : State) (a0 : Array Value) (hw : HW a0 Z)  (h0 : Heap) (n0 : Nat) (O : Old Z n0 h0) :
  Con l Z (⟨"java/util/Arrays", "checkLength", "(II)V"⟩ : MethodName) jdk_65_method_131_code 2 none ({ frames := 0, cells := 0, slots := 0, locals := 0 } : Room) #[(.int 0), (.int 6)] h0 (fun v h L => v = none ∧ Fr n0 L ∧ h = h0) := by
 refine own_startC opn_43 ?_
 intro p e s m below meth c T0 X0 hx hby hml hZ hown hnm hret hlk e0
 have N := Fr.nil n0; have K := Keep.refl h0 []
 refine OG.cast (oef7 m (0 : Int32) (6 : Int32)) ?_
 refine og_iloadN X0 hx rfl (hb hby d43_0) rfl ?_
 refine og_iloadN X0 hx rfl (hb hby d43_1) rfl ?_
 refine og_icmp_ge (pc1 := 37) (pc2 := 5) X0 hx (hb hby d43_2) (by decide) (by decide) rfl (fun _ => ?_) (fun q => absurd q (by decide))
 refine og_retV X0 hx hlk hret (hb hby d43_37) (by decide) (by decide) ?_
 rw [e0]; exact ⟨rfl, N, rfl⟩
theorem rm_crb_10_6 (l : Launch) (Z : State) (a0 : Array Value) (hw : HW a0 Z) (ba : Addr) (kb : ClassId) (v0 v1 v2 v3 v4 v5 v6 v7 v8 v9 : Int32) (h0 : Heap) (n0 : Nat) (O : Old Z n0 h0) (V_ba : Arv Z h0 ba kb .byte (10 : Int32) [(.int v0), (.int v1), (.int v2), (.int v3), (.int v4), (.int v5), (.int v6), (.int v7), (.int v8), (.int v9)] (.int 0)) :
  Con l Z (⟨"java/util/Arrays", "copyOfRangeByte", "([BII)[B"⟩ : MethodName) jdk_65_method_133_code 5 (some (.array .byte)) ({ frames := 1, cells := 1, slots := 6, locals := 18 } : Room) #[(.ref ba), (.int 0), (.int 6)] h0 (fun v h L => ∃ b k, v = some (.ref b) ∧ Fr n0 L ∧ Keep h0 h [] ∧ h0.size ≤ b ∧ Arv Z h b k .byte (6 : Int32) [(.int v0), (.int v1), (.int v2), (.int v3), (.int v4), (.int v5)] (.int 0) ∧ Exa Z h b "[B") := by
 refine own_startC opn_42 ?_
 intro p e s m below meth c T0 X0 hx hby hml hZ hown hnm hret hlk e0
 have N := Fr.nil n0; have K := Keep.refl h0 []
 refine OG.cast (oef16 m ba (0 : Int32) (6 : Int32)) ?_
 refine og_iloadN X0 hx rfl (hb hby d42_0) rfl ?_
 refine og_iloadN X0 hx rfl (hb hby d42_1) rfl ?_
 refine og_static (pc' := 5) (cells' := 0) (slots' := 0) (W := 0) X0 hx hZ (rm_chl_6 l Z a0 hw h0 n0 O) hown (ow222 hw) (ow223 hw) (ow155 hw) (ow224 hw) (by decide) (by rw [hml]; rfl) e0 opd_16 [(.int 0), (.int 6)] [] rfl rfl rfl rfl (by decide) (by decide) rfl rfl (by decide) (by decide) (hb hby d42_2) rfl (fun v11 T11 h11 L11 X11 e11 z11 => ?_)
 obtain ⟨rfl, Nq11, hq11⟩ := z11; replace e11 := e11.trans hq11; have N := Fr.app N Nq11
 refine og_iloadN X11 hx rfl (hb hby d42_5) rfl ?_
 refine og_iloadN X11 hx rfl (hb hby d42_6) rfl ?_
 refine og_isub X11 hx (hb hby d42_7) rfl ?_
 show OG p e below _ (T11.setTop (mkF m 8 #[.val (.ref ba), .val (.int 0), .val (.int 6), .unset, .unset] [(.int 6)]))
 refine og_istoreN (L' := #[.val (.ref ba), .val (.int 0), .val (.int 6), .val (.int 6), .unset]) X11 hx rfl (hb hby d42_8) rfl ?_
 refine og_iloadN X11 hx rfl (hb hby d42_9) rfl ?_
 refine og_newarrayE (pc' := 12) (cells' := 1) (slots' := 6) (cap := 6) (ty := .byte) X11 hx hZ rfl (ow22 hw) e11 (by decide) (by decide) (by decide) rfl (hb hby d42_10) rfl rfl rfl (by decide) (by decide) (fun T12 h12 nb12 kA12 X12 e12 E12 q12 V_nb12 E_nb12 => ?_)
 have s_nb12 : h0.size ≤ nb12 := Nat.le_of_eq q12.symm; have g_nb12 : n0 ≤ nb12 := Nat.le_trans (own_n0 O) s_nb12; have sz_nb12 : h0.size ≤ nb12 := Nat.le_trans K.1 s_nb12; have ne_ba_nb12 : ba ≠ nb12 := Nat.ne_of_lt (Nat.lt_of_lt_of_le V_ba.lt s_nb12)
 have V_ba := V_ba.ext E12; have O := O.ext E12; have K := K.ext E12
 have V_nb12 : Arv Z h12 nb12 kA12 .byte (6 : Int32) [(.int 0), (.int 0), (.int 0), (.int 0), (.int 0), (.int 0)] (.int 0) := V_nb12.pad (pad_rep [] (.int 0) 6)
 refine og_astore (L' := #[.val (.ref ba), .val (.int 0), .val (.int 6), .val (.int 6), .val (.ref nb12)]) X12 hx rfl rfl (hb hby d42_12) rfl ?_
 refine og_aloadN X12 hx rfl rfl (hb hby d42_14) rfl ?_
 refine og_iloadN X12 hx rfl (hb hby d42_15) rfl ?_
 refine og_aload X12 hx rfl rfl (hb hby d42_16) rfl ?_
 refine og_iconst (v := 0) X12 hx rfl (hb hby d42_18) rfl ?_
 refine og_aloadN X12 hx rfl rfl (hb hby d42_19) rfl ?_
 refine og_arraylength X12 hx hZ e12 V_ba (hb hby d42_20) rfl ?_
 refine og_iloadN X12 hx rfl (hb hby d42_21) rfl ?_
 refine og_isub X12 hx (hb hby d42_22) rfl ?_
 show OG p e below _ (T12.setTop (mkF m 23 #[.val (.ref ba), .val (.int 0), .val (.int 6), .val (.int 6), .val (.ref nb12)] [(.int 10), (.int 0), (.ref nb12), (.int 0), (.ref ba)]))
 refine og_iloadN X12 hx rfl (hb hby d42_23) rfl ?_
 refine og_static (pc' := 27) (cells' := 1) (slots' := 6) (W := 4) X12 hx hZ (rm_min_10_6 l Z a0 hw h12 n0 O) hown (ow215 hw) (ow216 hw) (ow32 hw) (ow217 hw) (by decide) (by rw [hml]; rfl) e12 opd_5 [(.int 10), (.int 6)] [(.int 0), (.ref nb12), (.int 0), (.ref ba)] rfl rfl rfl rfl (by decide) (by decide) rfl rfl (by decide) (by decide) (hb hby d42_24) rfl (fun v13 T13 h13 L13 X13 e13 z13 => ?_)
 obtain ⟨rfl, Nq13, hq13⟩ := z13; replace e13 := e13.trans hq13; have N := Fr.app N Nq13
 refine og_arraycopy (pc' := 30) (W := 0) (us := [(.int v0), (.int v1), (.int v2), (.int v3), (.int v4), (.int v5)]) X13 hx hZ (by rw [hml]; rfl) hown (ow218 hw) (ow126 hw) (ow124 hw) (ow125 hw) e13 V_ba V_nb12 rfl (by decide) (by decide) (by decide) (by decide) (by decide) rfl (Nat.le_of_ble_eq_true rfl) N g_nb12 rfl (by decide) (by decide) (hb hby d42_27) rfl (fun T14 h14 l14 X14 e14 N K14 V14 => ?_)
 have V_ba := V_ba.keep K14 (ninS ne_ba_nb12 nin0); have E_nb12 := E_nb12.keep K14; have O := O.keep K14 (allS g_nb12 all0); have K := K.trans K14 (allS (Or.inr sz_nb12) all0)
 have V_nb12 : Arv Z h14 nb12 kA12 .byte (6 : Int32) [(.int v0), (.int v1), (.int v2), (.int v3), (.int v4), (.int v5)] (.int 0) := V14
 refine og_aload X14 hx rfl rfl (hb hby d42_30) rfl ?_
 refine og_retR X14 hx hlk hret rfl rfl rfl (hb hby d42_32) (by decide) (by decide) ?_
 rw [e14]; exact ⟨_, _, rfl, N, K, sz_nb12, V_nb12, E_nb12⟩
theorem rm_cpr_10_6 (l : Launch) (Z : State) (a0 : Array Value) (hw : HW a0 Z) (ba : Addr) (kb : ClassId) (v0 v1 v2 v3 v4 v5 v6 v7 v8 v9 : Int32) (h0 : Heap) (n0 : Nat) (O : Old Z n0 h0) (V_ba : Arv Z h0 ba kb .byte (10 : Int32) [(.int v0), (.int v1), (.int v2), (.int v3), (.int v4), (.int v5), (.int v6), (.int v7), (.int v8), (.int v9)] (.int 0)) (E_ba : Exa Z h0 ba "[B") :
  Con l Z (⟨"java/util/Arrays", "copyOfRange", "([BII)[B"⟩ : MethodName) jdk_65_method_132_code 3 (some (.array .byte)) ({ frames := 2, cells := 1, slots := 11, locals := 34 } : Room) #[(.ref ba), (.int 0), (.int 6)] h0 (fun v h L => ∃ b k, v = some (.ref b) ∧ Fr n0 L ∧ Keep h0 h [] ∧ h0.size ≤ b ∧ Arv Z h b k .byte (6 : Int32) [(.int v0), (.int v1), (.int v2), (.int v3), (.int v4), (.int v5)] (.int 0) ∧ Exa Z h b "[B") := by
 refine own_startC opn_30 ?_
 intro p e s m below meth c T0 X0 hx hby hml hZ hown hnm hret hlk e0
 have N := Fr.nil n0; have K := Keep.refl h0 []
 refine OG.cast (oef15 m ba (0 : Int32) (6 : Int32)) ?_
 refine og_iloadN X0 hx rfl (hb hby d30_0) rfl ?_
 refine og_if_ne (pc1 := 10) (pc2 := 4) X0 hx (hb hby d30_1) (by decide) (by decide) rfl (fun q => absurd q (by decide)) (fun _ => ?_)
 refine og_iloadN X0 hx rfl (hb hby d30_4) rfl ?_
 refine og_aloadN X0 hx rfl rfl (hb hby d30_5) rfl ?_
 refine og_arraylength X0 hx hZ e0 V_ba (hb hby d30_6) rfl ?_
 refine og_icmp_eq (pc1 := 17) (pc2 := 10) X0 hx (hb hby d30_7) (by decide) (by decide) rfl (fun q => absurd q (by decide)) (fun _ => ?_)
 refine og_aloadN X0 hx rfl rfl (hb hby d30_10) rfl ?_
 refine og_iloadN X0 hx rfl (hb hby d30_11) rfl ?_
 refine og_iloadN X0 hx rfl (hb hby d30_12) rfl ?_
 refine og_static (pc' := 16) (cells' := 1) (slots' := 6) (W := 0) X0 hx hZ (rm_crb_10_6 l Z a0 hw ba kb v0 v1 v2 v3 v4 v5 v6 v7 v8 v9 h0 n0 O V_ba) hown (ow219 hw) (ow220 hw) (ow155 hw) (ow221 hw) (by decide) (by rw [hml]; rfl) e0 opd_17 [(.ref ba), (.int 0), (.int 6)] [] rfl rfl rfl rfl (by decide) (by decide) rfl rfl (by decide) (by decide) (hb hby d30_13) rfl (fun v11 T11 h11 L11 X11 e11 z11 => ?_)
 obtain ⟨nb11, k11, rfl, Nq11, K11, sb11, V_nb11, E_nb11⟩ := z11; have N := Fr.app N Nq11
 have s_nb11 : h0.size ≤ nb11 := sb11; have g_nb11 : n0 ≤ nb11 := Nat.le_trans (own_n0 O) s_nb11; have sz_nb11 : h0.size ≤ nb11 := Nat.le_trans K.1 s_nb11; have ne_ba_nb11 : ba ≠ nb11 := Nat.ne_of_lt (Nat.lt_of_lt_of_le V_ba.lt s_nb11)
 have V_ba := V_ba.keep K11 nin0; have E_ba := E_ba.keep K11; have O := O.keep K11 all0; have K := K.trans K11 all0
 refine og_retR X11 hx hlk hret rfl rfl rfl (hb hby d30_16) (by decide) (by decide) ?_
 rw [e11]; exact ⟨_, _, rfl, N, K, sz_nb11, V_nb11, E_nb11⟩
theorem rm_min_10_7 (l : Launch) (Z : State) (a0 : Array Value) (hw : HW a0 Z)  (h0 : Heap) (n0 : Nat) (O : Old Z n0 h0) :
  Con l Z (⟨"java/lang/Math", "min", "(II)I"⟩ : MethodName) jdk_29_method_69_code 2 (some .int) ({ frames := 0, cells := 0, slots := 0, locals := 0 } : Room) #[(.int 10), (.int 7)] h0 (fun v h L => v = some (.int 7) ∧ Fr n0 L ∧ h = h0) := by
 refine own_startC opn_41 ?_
 intro p e s m below meth c T0 X0 hx hby hml hZ hown hnm hret hlk e0
 have N := Fr.nil n0; have K := Keep.refl h0 []
 refine OG.cast (oef7 m (10 : Int32) (7 : Int32)) ?_
 refine og_iloadN X0 hx rfl (hb hby d41_0) rfl ?_
 refine og_iloadN X0 hx rfl (hb hby d41_1) rfl ?_
 refine og_icmp_gt (pc1 := 9) (pc2 := 5) X0 hx (hb hby d41_2) (by decide) (by decide) rfl (fun _ => ?_) (fun q => absurd q (by decide))
 refine og_iloadN X0 hx rfl (hb hby d41_9) rfl ?_
 refine og_retI X0 hx hlk hret (hb hby d41_10) (by decide) (by decide) ?_
 rw [e0]; exact ⟨rfl, N, rfl⟩
theorem rm_chl_7 (l : Launch) (Z : State) (a0 : Array Value) (hw : HW a0 Z)  (h0 : Heap) (n0 : Nat) (O : Old Z n0 h0) :
  Con l Z (⟨"java/util/Arrays", "checkLength", "(II)V"⟩ : MethodName) jdk_65_method_131_code 2 none ({ frames := 0, cells := 0, slots := 0, locals := 0 } : Room) #[(.int 0), (.int 7)] h0 (fun v h L => v = none ∧ Fr n0 L ∧ h = h0) := by
 refine own_startC opn_43 ?_
 intro p e s m below meth c T0 X0 hx hby hml hZ hown hnm hret hlk e0
 have N := Fr.nil n0; have K := Keep.refl h0 []
 refine OG.cast (oef7 m (0 : Int32) (7 : Int32)) ?_
 refine og_iloadN X0 hx rfl (hb hby d43_0) rfl ?_
 refine og_iloadN X0 hx rfl (hb hby d43_1) rfl ?_
 refine og_icmp_ge (pc1 := 37) (pc2 := 5) X0 hx (hb hby d43_2) (by decide) (by decide) rfl (fun _ => ?_) (fun q => absurd q (by decide))
 refine og_retV X0 hx hlk hret (hb hby d43_37) (by decide) (by decide) ?_
 rw [e0]; exact ⟨rfl, N, rfl⟩
theorem rm_crb_10_7 (l : Launch) (Z : State) (a0 : Array Value) (hw : HW a0 Z) (ba : Addr) (kb : ClassId) (v0 v1 v2 v3 v4 v5 v6 v7 v8 v9 : Int32) (h0 : Heap) (n0 : Nat) (O : Old Z n0 h0) (V_ba : Arv Z h0 ba kb .byte (10 : Int32) [(.int v0), (.int v1), (.int v2), (.int v3), (.int v4), (.int v5), (.int v6), (.int v7), (.int v8), (.int v9)] (.int 0)) :
  Con l Z (⟨"java/util/Arrays", "copyOfRangeByte", "([BII)[B"⟩ : MethodName) jdk_65_method_133_code 5 (some (.array .byte)) ({ frames := 1, cells := 1, slots := 7, locals := 18 } : Room) #[(.ref ba), (.int 0), (.int 7)] h0 (fun v h L => ∃ b k, v = some (.ref b) ∧ Fr n0 L ∧ Keep h0 h [] ∧ h0.size ≤ b ∧ Arv Z h b k .byte (7 : Int32) [(.int v0), (.int v1), (.int v2), (.int v3), (.int v4), (.int v5), (.int v6)] (.int 0) ∧ Exa Z h b "[B") := by
 refine own_startC opn_42 ?_
 intro p e s m below meth c T0 X0 hx hby hml hZ hown hnm hret hlk e0
 have N := Fr.nil n0; have K := Keep.refl h0 []
 refine OG.cast (oef16 m ba (0 : Int32) (7 : Int32)) ?_
 refine og_iloadN X0 hx rfl (hb hby d42_0) rfl ?_
 refine og_iloadN X0 hx rfl (hb hby d42_1) rfl ?_
 refine og_static (pc' := 5) (cells' := 0) (slots' := 0) (W := 0) X0 hx hZ (rm_chl_7 l Z a0 hw h0 n0 O) hown (ow222 hw) (ow223 hw) (ow155 hw) (ow224 hw) (by decide) (by rw [hml]; rfl) e0 opd_16 [(.int 0), (.int 7)] [] rfl rfl rfl rfl (by decide) (by decide) rfl rfl (by decide) (by decide) (hb hby d42_2) rfl (fun v11 T11 h11 L11 X11 e11 z11 => ?_)
 obtain ⟨rfl, Nq11, hq11⟩ := z11; replace e11 := e11.trans hq11; have N := Fr.app N Nq11
 refine og_iloadN X11 hx rfl (hb hby d42_5) rfl ?_
 refine og_iloadN X11 hx rfl (hb hby d42_6) rfl ?_
 refine og_isub X11 hx (hb hby d42_7) rfl ?_
 show OG p e below _ (T11.setTop (mkF m 8 #[.val (.ref ba), .val (.int 0), .val (.int 7), .unset, .unset] [(.int 7)]))
 refine og_istoreN (L' := #[.val (.ref ba), .val (.int 0), .val (.int 7), .val (.int 7), .unset]) X11 hx rfl (hb hby d42_8) rfl ?_
 refine og_iloadN X11 hx rfl (hb hby d42_9) rfl ?_
 refine og_newarrayE (pc' := 12) (cells' := 1) (slots' := 7) (cap := 7) (ty := .byte) X11 hx hZ rfl (ow22 hw) e11 (by decide) (by decide) (by decide) rfl (hb hby d42_10) rfl rfl rfl (by decide) (by decide) (fun T12 h12 nb12 kA12 X12 e12 E12 q12 V_nb12 E_nb12 => ?_)
 have s_nb12 : h0.size ≤ nb12 := Nat.le_of_eq q12.symm; have g_nb12 : n0 ≤ nb12 := Nat.le_trans (own_n0 O) s_nb12; have sz_nb12 : h0.size ≤ nb12 := Nat.le_trans K.1 s_nb12; have ne_ba_nb12 : ba ≠ nb12 := Nat.ne_of_lt (Nat.lt_of_lt_of_le V_ba.lt s_nb12)
 have V_ba := V_ba.ext E12; have O := O.ext E12; have K := K.ext E12
 have V_nb12 : Arv Z h12 nb12 kA12 .byte (7 : Int32) [(.int 0), (.int 0), (.int 0), (.int 0), (.int 0), (.int 0), (.int 0)] (.int 0) := V_nb12.pad (pad_rep [] (.int 0) 7)
 refine og_astore (L' := #[.val (.ref ba), .val (.int 0), .val (.int 7), .val (.int 7), .val (.ref nb12)]) X12 hx rfl rfl (hb hby d42_12) rfl ?_
 refine og_aloadN X12 hx rfl rfl (hb hby d42_14) rfl ?_
 refine og_iloadN X12 hx rfl (hb hby d42_15) rfl ?_
 refine og_aload X12 hx rfl rfl (hb hby d42_16) rfl ?_
 refine og_iconst (v := 0) X12 hx rfl (hb hby d42_18) rfl ?_
 refine og_aloadN X12 hx rfl rfl (hb hby d42_19) rfl ?_
 refine og_arraylength X12 hx hZ e12 V_ba (hb hby d42_20) rfl ?_
 refine og_iloadN X12 hx rfl (hb hby d42_21) rfl ?_
 refine og_isub X12 hx (hb hby d42_22) rfl ?_
 show OG p e below _ (T12.setTop (mkF m 23 #[.val (.ref ba), .val (.int 0), .val (.int 7), .val (.int 7), .val (.ref nb12)] [(.int 10), (.int 0), (.ref nb12), (.int 0), (.ref ba)]))
 refine og_iloadN X12 hx rfl (hb hby d42_23) rfl ?_
 refine og_static (pc' := 27) (cells' := 1) (slots' := 7) (W := 4) X12 hx hZ (rm_min_10_7 l Z a0 hw h12 n0 O) hown (ow215 hw) (ow216 hw) (ow32 hw) (ow217 hw) (by decide) (by rw [hml]; rfl) e12 opd_5 [(.int 10), (.int 7)] [(.int 0), (.ref nb12), (.int 0), (.ref ba)] rfl rfl rfl rfl (by decide) (by decide) rfl rfl (by decide) (by decide) (hb hby d42_24) rfl (fun v13 T13 h13 L13 X13 e13 z13 => ?_)
 obtain ⟨rfl, Nq13, hq13⟩ := z13; replace e13 := e13.trans hq13; have N := Fr.app N Nq13
 refine og_arraycopy (pc' := 30) (W := 0) (us := [(.int v0), (.int v1), (.int v2), (.int v3), (.int v4), (.int v5), (.int v6)]) X13 hx hZ (by rw [hml]; rfl) hown (ow218 hw) (ow126 hw) (ow124 hw) (ow125 hw) e13 V_ba V_nb12 rfl (by decide) (by decide) (by decide) (by decide) (by decide) rfl (Nat.le_of_ble_eq_true rfl) N g_nb12 rfl (by decide) (by decide) (hb hby d42_27) rfl (fun T14 h14 l14 X14 e14 N K14 V14 => ?_)
 have V_ba := V_ba.keep K14 (ninS ne_ba_nb12 nin0); have E_nb12 := E_nb12.keep K14; have O := O.keep K14 (allS g_nb12 all0); have K := K.trans K14 (allS (Or.inr sz_nb12) all0)
 have V_nb12 : Arv Z h14 nb12 kA12 .byte (7 : Int32) [(.int v0), (.int v1), (.int v2), (.int v3), (.int v4), (.int v5), (.int v6)] (.int 0) := V14
 refine og_aload X14 hx rfl rfl (hb hby d42_30) rfl ?_
 refine og_retR X14 hx hlk hret rfl rfl rfl (hb hby d42_32) (by decide) (by decide) ?_
 rw [e14]; exact ⟨_, _, rfl, N, K, sz_nb12, V_nb12, E_nb12⟩
theorem rm_cpr_10_7 (l : Launch) (Z : State) (a0 : Array Value) (hw : HW a0 Z) (ba : Addr) (kb : ClassId) (v0 v1 v2 v3 v4 v5 v6 v7 v8 v9 : Int32) (h0 : Heap) (n0 : Nat) (O : Old Z n0 h0) (V_ba : Arv Z h0 ba kb .byte (10 : Int32) [(.int v0), (.int v1), (.int v2), (.int v3), (.int v4), (.int v5), (.int v6), (.int v7), (.int v8), (.int v9)] (.int 0)) (E_ba : Exa Z h0 ba "[B") :
  Con l Z (⟨"java/util/Arrays", "copyOfRange", "([BII)[B"⟩ : MethodName) jdk_65_method_132_code 3 (some (.array .byte)) ({ frames := 2, cells := 1, slots := 11, locals := 34 } : Room) #[(.ref ba), (.int 0), (.int 7)] h0 (fun v h L => ∃ b k, v = some (.ref b) ∧ Fr n0 L ∧ Keep h0 h [] ∧ h0.size ≤ b ∧ Arv Z h b k .byte (7 : Int32) [(.int v0), (.int v1), (.int v2), (.int v3), (.int v4), (.int v5), (.int v6)] (.int 0) ∧ Exa Z h b "[B") := by
 refine own_startC opn_30 ?_
 intro p e s m below meth c T0 X0 hx hby hml hZ hown hnm hret hlk e0
 have N := Fr.nil n0; have K := Keep.refl h0 []
 refine OG.cast (oef15 m ba (0 : Int32) (7 : Int32)) ?_
 refine og_iloadN X0 hx rfl (hb hby d30_0) rfl ?_
 refine og_if_ne (pc1 := 10) (pc2 := 4) X0 hx (hb hby d30_1) (by decide) (by decide) rfl (fun q => absurd q (by decide)) (fun _ => ?_)
 refine og_iloadN X0 hx rfl (hb hby d30_4) rfl ?_
 refine og_aloadN X0 hx rfl rfl (hb hby d30_5) rfl ?_
 refine og_arraylength X0 hx hZ e0 V_ba (hb hby d30_6) rfl ?_
 refine og_icmp_eq (pc1 := 17) (pc2 := 10) X0 hx (hb hby d30_7) (by decide) (by decide) rfl (fun q => absurd q (by decide)) (fun _ => ?_)
 refine og_aloadN X0 hx rfl rfl (hb hby d30_10) rfl ?_
 refine og_iloadN X0 hx rfl (hb hby d30_11) rfl ?_
 refine og_iloadN X0 hx rfl (hb hby d30_12) rfl ?_
 refine og_static (pc' := 16) (cells' := 1) (slots' := 7) (W := 0) X0 hx hZ (rm_crb_10_7 l Z a0 hw ba kb v0 v1 v2 v3 v4 v5 v6 v7 v8 v9 h0 n0 O V_ba) hown (ow219 hw) (ow220 hw) (ow155 hw) (ow221 hw) (by decide) (by rw [hml]; rfl) e0 opd_17 [(.ref ba), (.int 0), (.int 7)] [] rfl rfl rfl rfl (by decide) (by decide) rfl rfl (by decide) (by decide) (hb hby d30_13) rfl (fun v11 T11 h11 L11 X11 e11 z11 => ?_)
 obtain ⟨nb11, k11, rfl, Nq11, K11, sb11, V_nb11, E_nb11⟩ := z11; have N := Fr.app N Nq11
 have s_nb11 : h0.size ≤ nb11 := sb11; have g_nb11 : n0 ≤ nb11 := Nat.le_trans (own_n0 O) s_nb11; have sz_nb11 : h0.size ≤ nb11 := Nat.le_trans K.1 s_nb11; have ne_ba_nb11 : ba ≠ nb11 := Nat.ne_of_lt (Nat.lt_of_lt_of_le V_ba.lt s_nb11)
 have V_ba := V_ba.keep K11 nin0; have E_ba := E_ba.keep K11; have O := O.keep K11 all0; have K := K.trans K11 all0
 refine og_retR X11 hx hlk hret rfl rfl rfl (hb hby d30_16) (by decide) (by decide) ?_
 rw [e11]; exact ⟨_, _, rfl, N, K, sz_nb11, V_nb11, E_nb11⟩
theorem rm_min_10_8 (l : Launch) (Z : State) (a0 : Array Value) (hw : HW a0 Z)  (h0 : Heap) (n0 : Nat) (O : Old Z n0 h0) :
  Con l Z (⟨"java/lang/Math", "min", "(II)I"⟩ : MethodName) jdk_29_method_69_code 2 (some .int) ({ frames := 0, cells := 0, slots := 0, locals := 0 } : Room) #[(.int 10), (.int 8)] h0 (fun v h L => v = some (.int 8) ∧ Fr n0 L ∧ h = h0) := by
 refine own_startC opn_41 ?_
 intro p e s m below meth c T0 X0 hx hby hml hZ hown hnm hret hlk e0
 have N := Fr.nil n0; have K := Keep.refl h0 []
 refine OG.cast (oef7 m (10 : Int32) (8 : Int32)) ?_
 refine og_iloadN X0 hx rfl (hb hby d41_0) rfl ?_
 refine og_iloadN X0 hx rfl (hb hby d41_1) rfl ?_
 refine og_icmp_gt (pc1 := 9) (pc2 := 5) X0 hx (hb hby d41_2) (by decide) (by decide) rfl (fun _ => ?_) (fun q => absurd q (by decide))
 refine og_iloadN X0 hx rfl (hb hby d41_9) rfl ?_
 refine og_retI X0 hx hlk hret (hb hby d41_10) (by decide) (by decide) ?_
 rw [e0]; exact ⟨rfl, N, rfl⟩
theorem rm_chl_8 (l : Launch) (Z : State) (a0 : Array Value) (hw : HW a0 Z)  (h0 : Heap) (n0 : Nat) (O : Old Z n0 h0) :
  Con l Z (⟨"java/util/Arrays", "checkLength", "(II)V"⟩ : MethodName) jdk_65_method_131_code 2 none ({ frames := 0, cells := 0, slots := 0, locals := 0 } : Room) #[(.int 0), (.int 8)] h0 (fun v h L => v = none ∧ Fr n0 L ∧ h = h0) := by
 refine own_startC opn_43 ?_
 intro p e s m below meth c T0 X0 hx hby hml hZ hown hnm hret hlk e0
 have N := Fr.nil n0; have K := Keep.refl h0 []
 refine OG.cast (oef7 m (0 : Int32) (8 : Int32)) ?_
 refine og_iloadN X0 hx rfl (hb hby d43_0) rfl ?_
 refine og_iloadN X0 hx rfl (hb hby d43_1) rfl ?_
 refine og_icmp_ge (pc1 := 37) (pc2 := 5) X0 hx (hb hby d43_2) (by decide) (by decide) rfl (fun _ => ?_) (fun q => absurd q (by decide))
 refine og_retV X0 hx hlk hret (hb hby d43_37) (by decide) (by decide) ?_
 rw [e0]; exact ⟨rfl, N, rfl⟩
theorem rm_crb_10_8 (l : Launch) (Z : State) (a0 : Array Value) (hw : HW a0 Z) (ba : Addr) (kb : ClassId) (v0 v1 v2 v3 v4 v5 v6 v7 v8 v9 : Int32) (h0 : Heap) (n0 : Nat) (O : Old Z n0 h0) (V_ba : Arv Z h0 ba kb .byte (10 : Int32) [(.int v0), (.int v1), (.int v2), (.int v3), (.int v4), (.int v5), (.int v6), (.int v7), (.int v8), (.int v9)] (.int 0)) :
  Con l Z (⟨"java/util/Arrays", "copyOfRangeByte", "([BII)[B"⟩ : MethodName) jdk_65_method_133_code 5 (some (.array .byte)) ({ frames := 1, cells := 1, slots := 8, locals := 18 } : Room) #[(.ref ba), (.int 0), (.int 8)] h0 (fun v h L => ∃ b k, v = some (.ref b) ∧ Fr n0 L ∧ Keep h0 h [] ∧ h0.size ≤ b ∧ Arv Z h b k .byte (8 : Int32) [(.int v0), (.int v1), (.int v2), (.int v3), (.int v4), (.int v5), (.int v6), (.int v7)] (.int 0) ∧ Exa Z h b "[B") := by
 refine own_startC opn_42 ?_
 intro p e s m below meth c T0 X0 hx hby hml hZ hown hnm hret hlk e0
 have N := Fr.nil n0; have K := Keep.refl h0 []
 refine OG.cast (oef16 m ba (0 : Int32) (8 : Int32)) ?_
 refine og_iloadN X0 hx rfl (hb hby d42_0) rfl ?_
 refine og_iloadN X0 hx rfl (hb hby d42_1) rfl ?_
 refine og_static (pc' := 5) (cells' := 0) (slots' := 0) (W := 0) X0 hx hZ (rm_chl_8 l Z a0 hw h0 n0 O) hown (ow222 hw) (ow223 hw) (ow155 hw) (ow224 hw) (by decide) (by rw [hml]; rfl) e0 opd_16 [(.int 0), (.int 8)] [] rfl rfl rfl rfl (by decide) (by decide) rfl rfl (by decide) (by decide) (hb hby d42_2) rfl (fun v11 T11 h11 L11 X11 e11 z11 => ?_)
 obtain ⟨rfl, Nq11, hq11⟩ := z11; replace e11 := e11.trans hq11; have N := Fr.app N Nq11
 refine og_iloadN X11 hx rfl (hb hby d42_5) rfl ?_
 refine og_iloadN X11 hx rfl (hb hby d42_6) rfl ?_
 refine og_isub X11 hx (hb hby d42_7) rfl ?_
 show OG p e below _ (T11.setTop (mkF m 8 #[.val (.ref ba), .val (.int 0), .val (.int 8), .unset, .unset] [(.int 8)]))
 refine og_istoreN (L' := #[.val (.ref ba), .val (.int 0), .val (.int 8), .val (.int 8), .unset]) X11 hx rfl (hb hby d42_8) rfl ?_
 refine og_iloadN X11 hx rfl (hb hby d42_9) rfl ?_
 refine og_newarrayE (pc' := 12) (cells' := 1) (slots' := 8) (cap := 8) (ty := .byte) X11 hx hZ rfl (ow22 hw) e11 (by decide) (by decide) (by decide) rfl (hb hby d42_10) rfl rfl rfl (by decide) (by decide) (fun T12 h12 nb12 kA12 X12 e12 E12 q12 V_nb12 E_nb12 => ?_)
 have s_nb12 : h0.size ≤ nb12 := Nat.le_of_eq q12.symm; have g_nb12 : n0 ≤ nb12 := Nat.le_trans (own_n0 O) s_nb12; have sz_nb12 : h0.size ≤ nb12 := Nat.le_trans K.1 s_nb12; have ne_ba_nb12 : ba ≠ nb12 := Nat.ne_of_lt (Nat.lt_of_lt_of_le V_ba.lt s_nb12)
 have V_ba := V_ba.ext E12; have O := O.ext E12; have K := K.ext E12
 have V_nb12 : Arv Z h12 nb12 kA12 .byte (8 : Int32) [(.int 0), (.int 0), (.int 0), (.int 0), (.int 0), (.int 0), (.int 0), (.int 0)] (.int 0) := V_nb12.pad (pad_rep [] (.int 0) 8)
 refine og_astore (L' := #[.val (.ref ba), .val (.int 0), .val (.int 8), .val (.int 8), .val (.ref nb12)]) X12 hx rfl rfl (hb hby d42_12) rfl ?_
 refine og_aloadN X12 hx rfl rfl (hb hby d42_14) rfl ?_
 refine og_iloadN X12 hx rfl (hb hby d42_15) rfl ?_
 refine og_aload X12 hx rfl rfl (hb hby d42_16) rfl ?_
 refine og_iconst (v := 0) X12 hx rfl (hb hby d42_18) rfl ?_
 refine og_aloadN X12 hx rfl rfl (hb hby d42_19) rfl ?_
 refine og_arraylength X12 hx hZ e12 V_ba (hb hby d42_20) rfl ?_
 refine og_iloadN X12 hx rfl (hb hby d42_21) rfl ?_
 refine og_isub X12 hx (hb hby d42_22) rfl ?_
 show OG p e below _ (T12.setTop (mkF m 23 #[.val (.ref ba), .val (.int 0), .val (.int 8), .val (.int 8), .val (.ref nb12)] [(.int 10), (.int 0), (.ref nb12), (.int 0), (.ref ba)]))
 refine og_iloadN X12 hx rfl (hb hby d42_23) rfl ?_
 refine og_static (pc' := 27) (cells' := 1) (slots' := 8) (W := 4) X12 hx hZ (rm_min_10_8 l Z a0 hw h12 n0 O) hown (ow215 hw) (ow216 hw) (ow32 hw) (ow217 hw) (by decide) (by rw [hml]; rfl) e12 opd_5 [(.int 10), (.int 8)] [(.int 0), (.ref nb12), (.int 0), (.ref ba)] rfl rfl rfl rfl (by decide) (by decide) rfl rfl (by decide) (by decide) (hb hby d42_24) rfl (fun v13 T13 h13 L13 X13 e13 z13 => ?_)
 obtain ⟨rfl, Nq13, hq13⟩ := z13; replace e13 := e13.trans hq13; have N := Fr.app N Nq13
 refine og_arraycopy (pc' := 30) (W := 0) (us := [(.int v0), (.int v1), (.int v2), (.int v3), (.int v4), (.int v5), (.int v6), (.int v7)]) X13 hx hZ (by rw [hml]; rfl) hown (ow218 hw) (ow126 hw) (ow124 hw) (ow125 hw) e13 V_ba V_nb12 rfl (by decide) (by decide) (by decide) (by decide) (by decide) rfl (Nat.le_of_ble_eq_true rfl) N g_nb12 rfl (by decide) (by decide) (hb hby d42_27) rfl (fun T14 h14 l14 X14 e14 N K14 V14 => ?_)
 have V_ba := V_ba.keep K14 (ninS ne_ba_nb12 nin0); have E_nb12 := E_nb12.keep K14; have O := O.keep K14 (allS g_nb12 all0); have K := K.trans K14 (allS (Or.inr sz_nb12) all0)
 have V_nb12 : Arv Z h14 nb12 kA12 .byte (8 : Int32) [(.int v0), (.int v1), (.int v2), (.int v3), (.int v4), (.int v5), (.int v6), (.int v7)] (.int 0) := V14
 refine og_aload X14 hx rfl rfl (hb hby d42_30) rfl ?_
 refine og_retR X14 hx hlk hret rfl rfl rfl (hb hby d42_32) (by decide) (by decide) ?_
 rw [e14]; exact ⟨_, _, rfl, N, K, sz_nb12, V_nb12, E_nb12⟩
theorem rm_cpr_10_8 (l : Launch) (Z : State) (a0 : Array Value) (hw : HW a0 Z) (ba : Addr) (kb : ClassId) (v0 v1 v2 v3 v4 v5 v6 v7 v8 v9 : Int32) (h0 : Heap) (n0 : Nat) (O : Old Z n0 h0) (V_ba : Arv Z h0 ba kb .byte (10 : Int32) [(.int v0), (.int v1), (.int v2), (.int v3), (.int v4), (.int v5), (.int v6), (.int v7), (.int v8), (.int v9)] (.int 0)) (E_ba : Exa Z h0 ba "[B") :
  Con l Z (⟨"java/util/Arrays", "copyOfRange", "([BII)[B"⟩ : MethodName) jdk_65_method_132_code 3 (some (.array .byte)) ({ frames := 2, cells := 1, slots := 11, locals := 34 } : Room) #[(.ref ba), (.int 0), (.int 8)] h0 (fun v h L => ∃ b k, v = some (.ref b) ∧ Fr n0 L ∧ Keep h0 h [] ∧ h0.size ≤ b ∧ Arv Z h b k .byte (8 : Int32) [(.int v0), (.int v1), (.int v2), (.int v3), (.int v4), (.int v5), (.int v6), (.int v7)] (.int 0) ∧ Exa Z h b "[B") := by
 refine own_startC opn_30 ?_
 intro p e s m below meth c T0 X0 hx hby hml hZ hown hnm hret hlk e0
 have N := Fr.nil n0; have K := Keep.refl h0 []
 refine OG.cast (oef15 m ba (0 : Int32) (8 : Int32)) ?_
 refine og_iloadN X0 hx rfl (hb hby d30_0) rfl ?_
 refine og_if_ne (pc1 := 10) (pc2 := 4) X0 hx (hb hby d30_1) (by decide) (by decide) rfl (fun q => absurd q (by decide)) (fun _ => ?_)
 refine og_iloadN X0 hx rfl (hb hby d30_4) rfl ?_
 refine og_aloadN X0 hx rfl rfl (hb hby d30_5) rfl ?_
 refine og_arraylength X0 hx hZ e0 V_ba (hb hby d30_6) rfl ?_
 refine og_icmp_eq (pc1 := 17) (pc2 := 10) X0 hx (hb hby d30_7) (by decide) (by decide) rfl (fun q => absurd q (by decide)) (fun _ => ?_)
 refine og_aloadN X0 hx rfl rfl (hb hby d30_10) rfl ?_
 refine og_iloadN X0 hx rfl (hb hby d30_11) rfl ?_
 refine og_iloadN X0 hx rfl (hb hby d30_12) rfl ?_
 refine og_static (pc' := 16) (cells' := 1) (slots' := 8) (W := 0) X0 hx hZ (rm_crb_10_8 l Z a0 hw ba kb v0 v1 v2 v3 v4 v5 v6 v7 v8 v9 h0 n0 O V_ba) hown (ow219 hw) (ow220 hw) (ow155 hw) (ow221 hw) (by decide) (by rw [hml]; rfl) e0 opd_17 [(.ref ba), (.int 0), (.int 8)] [] rfl rfl rfl rfl (by decide) (by decide) rfl rfl (by decide) (by decide) (hb hby d30_13) rfl (fun v11 T11 h11 L11 X11 e11 z11 => ?_)
 obtain ⟨nb11, k11, rfl, Nq11, K11, sb11, V_nb11, E_nb11⟩ := z11; have N := Fr.app N Nq11
 have s_nb11 : h0.size ≤ nb11 := sb11; have g_nb11 : n0 ≤ nb11 := Nat.le_trans (own_n0 O) s_nb11; have sz_nb11 : h0.size ≤ nb11 := Nat.le_trans K.1 s_nb11; have ne_ba_nb11 : ba ≠ nb11 := Nat.ne_of_lt (Nat.lt_of_lt_of_le V_ba.lt s_nb11)
 have V_ba := V_ba.keep K11 nin0; have E_ba := E_ba.keep K11; have O := O.keep K11 all0; have K := K.trans K11 all0
 refine og_retR X11 hx hlk hret rfl rfl rfl (hb hby d30_16) (by decide) (by decide) ?_
 rw [e11]; exact ⟨_, _, rfl, N, K, sz_nb11, V_nb11, E_nb11⟩
theorem rm_min_10_9 (l : Launch) (Z : State) (a0 : Array Value) (hw : HW a0 Z)  (h0 : Heap) (n0 : Nat) (O : Old Z n0 h0) :
  Con l Z (⟨"java/lang/Math", "min", "(II)I"⟩ : MethodName) jdk_29_method_69_code 2 (some .int) ({ frames := 0, cells := 0, slots := 0, locals := 0 } : Room) #[(.int 10), (.int 9)] h0 (fun v h L => v = some (.int 9) ∧ Fr n0 L ∧ h = h0) := by
 refine own_startC opn_41 ?_
 intro p e s m below meth c T0 X0 hx hby hml hZ hown hnm hret hlk e0
 have N := Fr.nil n0; have K := Keep.refl h0 []
 refine OG.cast (oef7 m (10 : Int32) (9 : Int32)) ?_
 refine og_iloadN X0 hx rfl (hb hby d41_0) rfl ?_
 refine og_iloadN X0 hx rfl (hb hby d41_1) rfl ?_
 refine og_icmp_gt (pc1 := 9) (pc2 := 5) X0 hx (hb hby d41_2) (by decide) (by decide) rfl (fun _ => ?_) (fun q => absurd q (by decide))
 refine og_iloadN X0 hx rfl (hb hby d41_9) rfl ?_
 refine og_retI X0 hx hlk hret (hb hby d41_10) (by decide) (by decide) ?_
 rw [e0]; exact ⟨rfl, N, rfl⟩
theorem rm_chl_9 (l : Launch) (Z : State) (a0 : Array Value) (hw : HW a0 Z)  (h0 : Heap) (n0 : Nat) (O : Old Z n0 h0) :
  Con l Z (⟨"java/util/Arrays", "checkLength", "(II)V"⟩ : MethodName) jdk_65_method_131_code 2 none ({ frames := 0, cells := 0, slots := 0, locals := 0 } : Room) #[(.int 0), (.int 9)] h0 (fun v h L => v = none ∧ Fr n0 L ∧ h = h0) := by
 refine own_startC opn_43 ?_
 intro p e s m below meth c T0 X0 hx hby hml hZ hown hnm hret hlk e0
 have N := Fr.nil n0; have K := Keep.refl h0 []
 refine OG.cast (oef7 m (0 : Int32) (9 : Int32)) ?_
 refine og_iloadN X0 hx rfl (hb hby d43_0) rfl ?_
 refine og_iloadN X0 hx rfl (hb hby d43_1) rfl ?_
 refine og_icmp_ge (pc1 := 37) (pc2 := 5) X0 hx (hb hby d43_2) (by decide) (by decide) rfl (fun _ => ?_) (fun q => absurd q (by decide))
 refine og_retV X0 hx hlk hret (hb hby d43_37) (by decide) (by decide) ?_
 rw [e0]; exact ⟨rfl, N, rfl⟩
theorem rm_crb_10_9 (l : Launch) (Z : State) (a0 : Array Value) (hw : HW a0 Z) (ba : Addr) (kb : ClassId) (v0 v1 v2 v3 v4 v5 v6 v7 v8 v9 : Int32) (h0 : Heap) (n0 : Nat) (O : Old Z n0 h0) (V_ba : Arv Z h0 ba kb .byte (10 : Int32) [(.int v0), (.int v1), (.int v2), (.int v3), (.int v4), (.int v5), (.int v6), (.int v7), (.int v8), (.int v9)] (.int 0)) :
  Con l Z (⟨"java/util/Arrays", "copyOfRangeByte", "([BII)[B"⟩ : MethodName) jdk_65_method_133_code 5 (some (.array .byte)) ({ frames := 1, cells := 1, slots := 9, locals := 18 } : Room) #[(.ref ba), (.int 0), (.int 9)] h0 (fun v h L => ∃ b k, v = some (.ref b) ∧ Fr n0 L ∧ Keep h0 h [] ∧ h0.size ≤ b ∧ Arv Z h b k .byte (9 : Int32) [(.int v0), (.int v1), (.int v2), (.int v3), (.int v4), (.int v5), (.int v6), (.int v7), (.int v8)] (.int 0) ∧ Exa Z h b "[B") := by
 refine own_startC opn_42 ?_
 intro p e s m below meth c T0 X0 hx hby hml hZ hown hnm hret hlk e0
 have N := Fr.nil n0; have K := Keep.refl h0 []
 refine OG.cast (oef16 m ba (0 : Int32) (9 : Int32)) ?_
 refine og_iloadN X0 hx rfl (hb hby d42_0) rfl ?_
 refine og_iloadN X0 hx rfl (hb hby d42_1) rfl ?_
 refine og_static (pc' := 5) (cells' := 0) (slots' := 0) (W := 0) X0 hx hZ (rm_chl_9 l Z a0 hw h0 n0 O) hown (ow222 hw) (ow223 hw) (ow155 hw) (ow224 hw) (by decide) (by rw [hml]; rfl) e0 opd_16 [(.int 0), (.int 9)] [] rfl rfl rfl rfl (by decide) (by decide) rfl rfl (by decide) (by decide) (hb hby d42_2) rfl (fun v11 T11 h11 L11 X11 e11 z11 => ?_)
 obtain ⟨rfl, Nq11, hq11⟩ := z11; replace e11 := e11.trans hq11; have N := Fr.app N Nq11
 refine og_iloadN X11 hx rfl (hb hby d42_5) rfl ?_
 refine og_iloadN X11 hx rfl (hb hby d42_6) rfl ?_
 refine og_isub X11 hx (hb hby d42_7) rfl ?_
 show OG p e below _ (T11.setTop (mkF m 8 #[.val (.ref ba), .val (.int 0), .val (.int 9), .unset, .unset] [(.int 9)]))
 refine og_istoreN (L' := #[.val (.ref ba), .val (.int 0), .val (.int 9), .val (.int 9), .unset]) X11 hx rfl (hb hby d42_8) rfl ?_
 refine og_iloadN X11 hx rfl (hb hby d42_9) rfl ?_
 refine og_newarrayE (pc' := 12) (cells' := 1) (slots' := 9) (cap := 9) (ty := .byte) X11 hx hZ rfl (ow22 hw) e11 (by decide) (by decide) (by decide) rfl (hb hby d42_10) rfl rfl rfl (by decide) (by decide) (fun T12 h12 nb12 kA12 X12 e12 E12 q12 V_nb12 E_nb12 => ?_)
 have s_nb12 : h0.size ≤ nb12 := Nat.le_of_eq q12.symm; have g_nb12 : n0 ≤ nb12 := Nat.le_trans (own_n0 O) s_nb12; have sz_nb12 : h0.size ≤ nb12 := Nat.le_trans K.1 s_nb12; have ne_ba_nb12 : ba ≠ nb12 := Nat.ne_of_lt (Nat.lt_of_lt_of_le V_ba.lt s_nb12)
 have V_ba := V_ba.ext E12; have O := O.ext E12; have K := K.ext E12
 have V_nb12 : Arv Z h12 nb12 kA12 .byte (9 : Int32) [(.int 0), (.int 0), (.int 0), (.int 0), (.int 0), (.int 0), (.int 0), (.int 0), (.int 0)] (.int 0) := V_nb12.pad (pad_rep [] (.int 0) 9)
 refine og_astore (L' := #[.val (.ref ba), .val (.int 0), .val (.int 9), .val (.int 9), .val (.ref nb12)]) X12 hx rfl rfl (hb hby d42_12) rfl ?_
 refine og_aloadN X12 hx rfl rfl (hb hby d42_14) rfl ?_
 refine og_iloadN X12 hx rfl (hb hby d42_15) rfl ?_
 refine og_aload X12 hx rfl rfl (hb hby d42_16) rfl ?_
 refine og_iconst (v := 0) X12 hx rfl (hb hby d42_18) rfl ?_
 refine og_aloadN X12 hx rfl rfl (hb hby d42_19) rfl ?_
 refine og_arraylength X12 hx hZ e12 V_ba (hb hby d42_20) rfl ?_
 refine og_iloadN X12 hx rfl (hb hby d42_21) rfl ?_
 refine og_isub X12 hx (hb hby d42_22) rfl ?_
 show OG p e below _ (T12.setTop (mkF m 23 #[.val (.ref ba), .val (.int 0), .val (.int 9), .val (.int 9), .val (.ref nb12)] [(.int 10), (.int 0), (.ref nb12), (.int 0), (.ref ba)]))
 refine og_iloadN X12 hx rfl (hb hby d42_23) rfl ?_
 refine og_static (pc' := 27) (cells' := 1) (slots' := 9) (W := 4) X12 hx hZ (rm_min_10_9 l Z a0 hw h12 n0 O) hown (ow215 hw) (ow216 hw) (ow32 hw) (ow217 hw) (by decide) (by rw [hml]; rfl) e12 opd_5 [(.int 10), (.int 9)] [(.int 0), (.ref nb12), (.int 0), (.ref ba)] rfl rfl rfl rfl (by decide) (by decide) rfl rfl (by decide) (by decide) (hb hby d42_24) rfl (fun v13 T13 h13 L13 X13 e13 z13 => ?_)
 obtain ⟨rfl, Nq13, hq13⟩ := z13; replace e13 := e13.trans hq13; have N := Fr.app N Nq13
 refine og_arraycopy (pc' := 30) (W := 0) (us := [(.int v0), (.int v1), (.int v2), (.int v3), (.int v4), (.int v5), (.int v6), (.int v7), (.int v8)]) X13 hx hZ (by rw [hml]; rfl) hown (ow218 hw) (ow126 hw) (ow124 hw) (ow125 hw) e13 V_ba V_nb12 rfl (by decide) (by decide) (by decide) (by decide) (by decide) rfl (Nat.le_of_ble_eq_true rfl) N g_nb12 rfl (by decide) (by decide) (hb hby d42_27) rfl (fun T14 h14 l14 X14 e14 N K14 V14 => ?_)
 have V_ba := V_ba.keep K14 (ninS ne_ba_nb12 nin0); have E_nb12 := E_nb12.keep K14; have O := O.keep K14 (allS g_nb12 all0); have K := K.trans K14 (allS (Or.inr sz_nb12) all0)
 have V_nb12 : Arv Z h14 nb12 kA12 .byte (9 : Int32) [(.int v0), (.int v1), (.int v2), (.int v3), (.int v4), (.int v5), (.int v6), (.int v7), (.int v8)] (.int 0) := V14
 refine og_aload X14 hx rfl rfl (hb hby d42_30) rfl ?_
 refine og_retR X14 hx hlk hret rfl rfl rfl (hb hby d42_32) (by decide) (by decide) ?_
 rw [e14]; exact ⟨_, _, rfl, N, K, sz_nb12, V_nb12, E_nb12⟩
theorem rm_cpr_10_9 (l : Launch) (Z : State) (a0 : Array Value) (hw : HW a0 Z) (ba : Addr) (kb : ClassId) (v0 v1 v2 v3 v4 v5 v6 v7 v8 v9 : Int32) (h0 : Heap) (n0 : Nat) (O : Old Z n0 h0) (V_ba : Arv Z h0 ba kb .byte (10 : Int32) [(.int v0), (.int v1), (.int v2), (.int v3), (.int v4), (.int v5), (.int v6), (.int v7), (.int v8), (.int v9)] (.int 0)) (E_ba : Exa Z h0 ba "[B") :
  Con l Z (⟨"java/util/Arrays", "copyOfRange", "([BII)[B"⟩ : MethodName) jdk_65_method_132_code 3 (some (.array .byte)) ({ frames := 2, cells := 1, slots := 11, locals := 34 } : Room) #[(.ref ba), (.int 0), (.int 9)] h0 (fun v h L => ∃ b k, v = some (.ref b) ∧ Fr n0 L ∧ Keep h0 h [] ∧ h0.size ≤ b ∧ Arv Z h b k .byte (9 : Int32) [(.int v0), (.int v1), (.int v2), (.int v3), (.int v4), (.int v5), (.int v6), (.int v7), (.int v8)] (.int 0) ∧ Exa Z h b "[B") := by
 refine own_startC opn_30 ?_
 intro p e s m below meth c T0 X0 hx hby hml hZ hown hnm hret hlk e0
 have N := Fr.nil n0; have K := Keep.refl h0 []
 refine OG.cast (oef15 m ba (0 : Int32) (9 : Int32)) ?_
 refine og_iloadN X0 hx rfl (hb hby d30_0) rfl ?_
 refine og_if_ne (pc1 := 10) (pc2 := 4) X0 hx (hb hby d30_1) (by decide) (by decide) rfl (fun q => absurd q (by decide)) (fun _ => ?_)
 refine og_iloadN X0 hx rfl (hb hby d30_4) rfl ?_
 refine og_aloadN X0 hx rfl rfl (hb hby d30_5) rfl ?_
 refine og_arraylength X0 hx hZ e0 V_ba (hb hby d30_6) rfl ?_
 refine og_icmp_eq (pc1 := 17) (pc2 := 10) X0 hx (hb hby d30_7) (by decide) (by decide) rfl (fun q => absurd q (by decide)) (fun _ => ?_)
 refine og_aloadN X0 hx rfl rfl (hb hby d30_10) rfl ?_
 refine og_iloadN X0 hx rfl (hb hby d30_11) rfl ?_
 refine og_iloadN X0 hx rfl (hb hby d30_12) rfl ?_
 refine og_static (pc' := 16) (cells' := 1) (slots' := 9) (W := 0) X0 hx hZ (rm_crb_10_9 l Z a0 hw ba kb v0 v1 v2 v3 v4 v5 v6 v7 v8 v9 h0 n0 O V_ba) hown (ow219 hw) (ow220 hw) (ow155 hw) (ow221 hw) (by decide) (by rw [hml]; rfl) e0 opd_17 [(.ref ba), (.int 0), (.int 9)] [] rfl rfl rfl rfl (by decide) (by decide) rfl rfl (by decide) (by decide) (hb hby d30_13) rfl (fun v11 T11 h11 L11 X11 e11 z11 => ?_)
 obtain ⟨nb11, k11, rfl, Nq11, K11, sb11, V_nb11, E_nb11⟩ := z11; have N := Fr.app N Nq11
 have s_nb11 : h0.size ≤ nb11 := sb11; have g_nb11 : n0 ≤ nb11 := Nat.le_trans (own_n0 O) s_nb11; have sz_nb11 : h0.size ≤ nb11 := Nat.le_trans K.1 s_nb11; have ne_ba_nb11 : ba ≠ nb11 := Nat.ne_of_lt (Nat.lt_of_lt_of_le V_ba.lt s_nb11)
 have V_ba := V_ba.keep K11 nin0; have E_ba := E_ba.keep K11; have O := O.keep K11 all0; have K := K.trans K11 all0
 refine og_retR X11 hx hlk hret rfl rfl rfl (hb hby d30_16) (by decide) (by decide) ?_
 rw [e11]; exact ⟨_, _, rfl, N, K, sz_nb11, V_nb11, E_nb11⟩
theorem rm_cpr_10_10 (l : Launch) (Z : State) (a0 : Array Value) (hw : HW a0 Z) (ba : Addr) (kb : ClassId) (v0 v1 v2 v3 v4 v5 v6 v7 v8 v9 : Int32) (h0 : Heap) (n0 : Nat) (O : Old Z n0 h0) (V_ba : Arv Z h0 ba kb .byte (10 : Int32) [(.int v0), (.int v1), (.int v2), (.int v3), (.int v4), (.int v5), (.int v6), (.int v7), (.int v8), (.int v9)] (.int 0)) (E_ba : Exa Z h0 ba "[B") :
  Con l Z (⟨"java/util/Arrays", "copyOfRange", "([BII)[B"⟩ : MethodName) jdk_65_method_132_code 3 (some (.array .byte)) ({ frames := 2, cells := 1, slots := 11, locals := 34 } : Room) #[(.ref ba), (.int 0), (.int 10)] h0 (fun v h L => ∃ b k, v = some (.ref b) ∧ Fr n0 L ∧ Keep h0 h [] ∧ h0.size ≤ b ∧ Arv Z h b k .byte (10 : Int32) [(.int v0), (.int v1), (.int v2), (.int v3), (.int v4), (.int v5), (.int v6), (.int v7), (.int v8), (.int v9)] (.int 0) ∧ Exa Z h b "[B") := by
 refine own_startC opn_30 ?_
 intro p e s m below meth c T0 X0 hx hby hml hZ hown hnm hret hlk e0
 have N := Fr.nil n0; have K := Keep.refl h0 []
 refine OG.cast (oef15 m ba (0 : Int32) (10 : Int32)) ?_
 refine og_iloadN X0 hx rfl (hb hby d30_0) rfl ?_
 refine og_if_ne (pc1 := 10) (pc2 := 4) X0 hx (hb hby d30_1) (by decide) (by decide) rfl (fun q => absurd q (by decide)) (fun _ => ?_)
 refine og_iloadN X0 hx rfl (hb hby d30_4) rfl ?_
 refine og_aloadN X0 hx rfl rfl (hb hby d30_5) rfl ?_
 refine og_arraylength X0 hx hZ e0 V_ba (hb hby d30_6) rfl ?_
 refine og_icmp_eq (pc1 := 17) (pc2 := 10) X0 hx (hb hby d30_7) (by decide) (by decide) rfl (fun _ => ?_) (fun q => absurd q (by decide))
 refine og_aloadN X0 hx rfl rfl (hb hby d30_17) rfl ?_
 refine og_clone (pc' := 21) (cells' := 1) (slots' := 10) (cap := 10) (W := 0) X0 hx hZ (by rw [hml]; rfl) hown (ow157 hw) (ow158 hw) (ow162 hw) (ow160 hw) (ow161 hw) (ow163 hw) e0 V_ba E_ba rfl (by decide) (by decide) (by decide) rfl rfl (by decide) (by decide) (hb hby d30_18) rfl (fun T11 h11 nb11 X11 e11 E11 q11 V_nb11 E_nb11 => ?_)
 have s_nb11 : h0.size ≤ nb11 := Nat.le_of_eq q11.symm; have g_nb11 : n0 ≤ nb11 := Nat.le_trans (own_n0 O) s_nb11; have sz_nb11 : h0.size ≤ nb11 := Nat.le_trans K.1 s_nb11; have ne_ba_nb11 : ba ≠ nb11 := Nat.ne_of_lt (Nat.lt_of_lt_of_le V_ba.lt s_nb11)
 have V_ba := V_ba.ext E11; have E_ba := E_ba.ext E11; have O := O.ext E11; have K := K.ext E11
 obtain ⟨T12, X12, e12, st12⟩ := castY X11 hx hZ hown (ow164 hw) e11 (Ins.self E_nb11) (g := (mkF m 21 #[.val (.ref ba), .val (.int 0), .val (.int 10)] [(.ref nb11)])) rfl rfl (hb hby d30_21)
 refine OG.of st12 ?_
 show OG p e below _ (T12.setTop (mkF m 24 #[.val (.ref ba), .val (.int 0), .val (.int 10)] [(.ref nb11)]))
 refine og_retR X12 hx hlk hret rfl rfl rfl (hb hby d30_24) (by decide) (by decide) ?_
 rw [e12]; exact ⟨_, _, rfl, N, K, sz_nb11, V_nb11, E_nb11⟩
theorem rm_cpr_11_11 (l : Launch) (Z : State) (a0 : Array Value) (hw : HW a0 Z) (ba : Addr) (kb : ClassId) (v0 v1 v2 v3 v4 v5 v6 v7 v8 v9 v10 : Int32) (h0 : Heap) (n0 : Nat) (O : Old Z n0 h0) (V_ba : Arv Z h0 ba kb .byte (11 : Int32) [(.int v0), (.int v1), (.int v2), (.int v3), (.int v4), (.int v5), (.int v6), (.int v7), (.int v8), (.int v9), (.int v10)] (.int 0)) (E_ba : Exa Z h0 ba "[B") :
  Con l Z (⟨"java/util/Arrays", "copyOfRange", "([BII)[B"⟩ : MethodName) jdk_65_method_132_code 3 (some (.array .byte)) ({ frames := 2, cells := 1, slots := 11, locals := 34 } : Room) #[(.ref ba), (.int 0), (.int 11)] h0 (fun v h L => ∃ b k, v = some (.ref b) ∧ Fr n0 L ∧ Keep h0 h [] ∧ h0.size ≤ b ∧ Arv Z h b k .byte (11 : Int32) [(.int v0), (.int v1), (.int v2), (.int v3), (.int v4), (.int v5), (.int v6), (.int v7), (.int v8), (.int v9), (.int v10)] (.int 0) ∧ Exa Z h b "[B") := by
 refine own_startC opn_30 ?_
 intro p e s m below meth c T0 X0 hx hby hml hZ hown hnm hret hlk e0
 have N := Fr.nil n0; have K := Keep.refl h0 []
 refine OG.cast (oef15 m ba (0 : Int32) (11 : Int32)) ?_
 refine og_iloadN X0 hx rfl (hb hby d30_0) rfl ?_
 refine og_if_ne (pc1 := 10) (pc2 := 4) X0 hx (hb hby d30_1) (by decide) (by decide) rfl (fun q => absurd q (by decide)) (fun _ => ?_)
 refine og_iloadN X0 hx rfl (hb hby d30_4) rfl ?_
 refine og_aloadN X0 hx rfl rfl (hb hby d30_5) rfl ?_
 refine og_arraylength X0 hx hZ e0 V_ba (hb hby d30_6) rfl ?_
 refine og_icmp_eq (pc1 := 17) (pc2 := 10) X0 hx (hb hby d30_7) (by decide) (by decide) rfl (fun _ => ?_) (fun q => absurd q (by decide))
 refine og_aloadN X0 hx rfl rfl (hb hby d30_17) rfl ?_
 refine og_clone (pc' := 21) (cells' := 1) (slots' := 11) (cap := 11) (W := 0) X0 hx hZ (by rw [hml]; rfl) hown (ow157 hw) (ow158 hw) (ow162 hw) (ow160 hw) (ow161 hw) (ow163 hw) e0 V_ba E_ba rfl (by decide) (by decide) (by decide) rfl rfl (by decide) (by decide) (hb hby d30_18) rfl (fun T11 h11 nb11 X11 e11 E11 q11 V_nb11 E_nb11 => ?_)
 have s_nb11 : h0.size ≤ nb11 := Nat.le_of_eq q11.symm; have g_nb11 : n0 ≤ nb11 := Nat.le_trans (own_n0 O) s_nb11; have sz_nb11 : h0.size ≤ nb11 := Nat.le_trans K.1 s_nb11; have ne_ba_nb11 : ba ≠ nb11 := Nat.ne_of_lt (Nat.lt_of_lt_of_le V_ba.lt s_nb11)
 have V_ba := V_ba.ext E11; have E_ba := E_ba.ext E11; have O := O.ext E11; have K := K.ext E11
 obtain ⟨T12, X12, e12, st12⟩ := castY X11 hx hZ hown (ow164 hw) e11 (Ins.self E_nb11) (g := (mkF m 21 #[.val (.ref ba), .val (.int 0), .val (.int 11)] [(.ref nb11)])) rfl rfl (hb hby d30_21)
 refine OG.of st12 ?_
 show OG p e below _ (T12.setTop (mkF m 24 #[.val (.ref ba), .val (.int 0), .val (.int 11)] [(.ref nb11)]))
 refine og_retR X12 hx hlk hret rfl rfl rfl (hb hby d30_24) (by decide) (by decide) ?_
 rw [e12]; exact ⟨_, _, rfl, N, K, sz_nb11, V_nb11, E_nb11⟩
theorem rm_cprG (l : Launch) (Z : State) (a0 : Array Value) (hw : HW a0 Z) (ba : Addr) (kb : ClassId) (zz nn : Int32) (vs : List Value) (hcz : own_cz zz nn vs) (h0 : Heap) (n0 : Nat) (O : Old Z n0 h0) (V_ba : Arv Z h0 ba kb .byte zz vs (.int 0)) (E_ba : Exa Z h0 ba "[B") :
    Con l Z (⟨"java/util/Arrays", "copyOfRange", "([BII)[B"⟩ : MethodName) jdk_65_method_132_code 3 (some (.array .byte)) ({ frames := 2, cells := 1, slots := 11, locals := 34 } : Room) #[(.ref ba), (.int 0), (.int nn)] h0 (fun v h L => ∃ b k, v = some (.ref b) ∧ Fr n0 L ∧ Keep h0 h [] ∧ h0.size ≤ b ∧ Arv Z h b k .byte nn (vs.take nn.toNatClampNeg) (.int 0) ∧ Exa Z h b "[B") := by
  rcases hcz with ⟨rfl, rfl, v0, v1, v2, v3, rfl⟩ | ⟨rfl, rfl, v0, v1, v2, v3, v4, v5, v6, v7, v8, v9, rfl⟩ | ⟨rfl, rfl, v0, v1, v2, v3, v4, v5, v6, v7, v8, v9, rfl⟩ | ⟨rfl, rfl, v0, v1, v2, v3, v4, v5, v6, v7, v8, v9, rfl⟩ | ⟨rfl, rfl, v0, v1, v2, v3, v4, v5, v6, v7, v8, v9, rfl⟩ | ⟨rfl, rfl, v0, v1, v2, v3, v4, v5, v6, v7, v8, v9, rfl⟩ | ⟨rfl, rfl, v0, v1, v2, v3, v4, v5, v6, v7, v8, v9, rfl⟩ | ⟨rfl, rfl, v0, v1, v2, v3, v4, v5, v6, v7, v8, v9, v10, rfl⟩
  · exact rm_cpr_4_4 l Z a0 hw ba kb v0 v1 v2 v3 h0 n0 O V_ba E_ba
  · exact rm_cpr_10_5 l Z a0 hw ba kb v0 v1 v2 v3 v4 v5 v6 v7 v8 v9 h0 n0 O V_ba E_ba
  · exact rm_cpr_10_6 l Z a0 hw ba kb v0 v1 v2 v3 v4 v5 v6 v7 v8 v9 h0 n0 O V_ba E_ba
  · exact rm_cpr_10_7 l Z a0 hw ba kb v0 v1 v2 v3 v4 v5 v6 v7 v8 v9 h0 n0 O V_ba E_ba
  · exact rm_cpr_10_8 l Z a0 hw ba kb v0 v1 v2 v3 v4 v5 v6 v7 v8 v9 h0 n0 O V_ba E_ba
  · exact rm_cpr_10_9 l Z a0 hw ba kb v0 v1 v2 v3 v4 v5 v6 v7 v8 v9 h0 n0 O V_ba E_ba
  · exact rm_cpr_10_10 l Z a0 hw ba kb v0 v1 v2 v3 v4 v5 v6 v7 v8 v9 h0 n0 O V_ba E_ba
  · exact rm_cpr_11_11 l Z a0 hw ba kb v0 v1 v2 v3 v4 v5 v6 v7 v8 v9 v10 h0 n0 O V_ba E_ba
theorem rm_gv (l : Launch) (Z : State) (a0 : Array Value) (hw : HW a0 Z) (a1 bv : Addr) (h0 : Heap) (n0 : Nat) (O : Old Z n0 h0) (F_value_a1 : Fld Z h0 a1 "java/lang/AbstractStringBuilder" "value" "[B" (.ref bv)) :
  Con l Z (⟨"java/lang/AbstractStringBuilder", "getValue", "()[B"⟩ : MethodName) jdk_68_method_64_code 1 (some (.array .byte)) ({ frames := 0, cells := 0, slots := 0, locals := 0 } : Room) #[(.ref a1)] h0 (fun v h L => v = some (.ref bv) ∧ Fr n0 L ∧ h = h0) := by
 refine own_startC opn_27 ?_
 intro p e s m below meth c T0 X0 hx hby hml hZ hown hnm hret hlk e0
 have N := Fr.nil n0; have K := Keep.refl h0 []
 refine OG.cast (oef0 m a1) ?_
 refine og_aloadN X0 hx rfl rfl (hb hby d27_0) rfl ?_
 refine og_getfield X0 hx hZ (host := "") hown (Or.inl (ow23 hw)) Via.refl e0 F_value_a1 (hb hby d27_1) rfl (fun T11 X11 e11 => ?_)
 refine og_retR X11 hx hlk hret rfl rfl rfl (hb hby d27_4) (by decide) (by decide) ?_
 rw [e11]; exact ⟨rfl, N, rfl⟩
theorem rm_al (l : Launch) (Z : State) (a0 : Array Value) (hw : HW a0 Z) (a1 : Addr) (cn : Int32) (h0 : Heap) (n0 : Nat) (O : Old Z n0 h0) (F_count_a1 : Fld Z h0 a1 "java/lang/AbstractStringBuilder" "count" "I" (.int cn)) :
  Con l Z (⟨"java/lang/AbstractStringBuilder", "length", "()I"⟩ : MethodName) jdk_68_method_6_code 1 (some .int) ({ frames := 0, cells := 0, slots := 0, locals := 0 } : Room) #[(.ref a1)] h0 (fun v h L => v = some (.int cn) ∧ Fr n0 L ∧ h = h0) := by
 refine own_startC opn_29 ?_
 intro p e s m below meth c T0 X0 hx hby hml hZ hown hnm hret hlk e0
 have N := Fr.nil n0; have K := Keep.refl h0 []
 refine OG.cast (oef0 m a1) ?_
 refine og_aloadN X0 hx rfl rfl (hb hby d29_0) rfl ?_
 refine og_getfield X0 hx hZ (host := "") hown (Or.inl (ow81 hw)) Via.refl e0 F_count_a1 (hb hby d29_1) rfl (fun T11 X11 e11 => ?_)
 refine og_retI X11 hx hlk hret (hb hby d29_4) (by decide) (by decide) ?_
 rw [e11]; exact ⟨rfl, N, rfl⟩
theorem rm_sl (l : Launch) (Z : State) (a0 : Array Value) (hw : HW a0 Z) (a1 : Addr) (cn : Int32) (h0 : Heap) (n0 : Nat) (O : Old Z n0 h0) (E_a1 : Exa Z h0 a1 "java/lang/StringBuilder") (F_count_a1 : Fld Z h0 a1 "java/lang/AbstractStringBuilder" "count" "I" (.int cn)) :
  Con l Z (⟨"java/lang/StringBuilder", "length", "()I"⟩ : MethodName) jdk_67_method_93_code 1 (some .int) ({ frames := 1, cells := 0, slots := 0, locals := 12 } : Room) #[(.ref a1)] h0 (fun v h L => v = some (.int cn) ∧ Fr n0 L ∧ h = h0) := by
 refine own_startC opn_28 ?_
 intro p e s m below meth c T0 X0 hx hby hml hZ hown hnm hret hlk e0
 have N := Fr.nil n0; have K := Keep.refl h0 []
 refine OG.cast (oef0 m a1) ?_
 refine og_aloadN X0 hx rfl rfl (hb hby d28_0) rfl ?_
 refine og_super (pc' := 4) (cells' := 0) (slots' := 0) (W := 0) X0 hx hZ (y := (⟨"java/lang/AbstractStringBuilder", "length", "()I"⟩ : MethodName)) (rm_al l Z a0 hw a1 cn h0 n0 O F_count_a1) hown (ow150 hw) (own_sameM (ow145 hw) (own_nfc (ow89 hw) (ow91 hw) rfl) (by decide)) (ow146 hw) (ow78 hw) (by decide) (ow15 hw) (ow151 hw) (by decide) (by rw [hml]; rfl) e0 opd_13 [] [] rfl rfl rfl rfl (by decide) (by decide) rfl rfl (by decide) (by decide) E_a1 (hb hby d28_1) rfl (fun v11 T11 h11 L11 X11 e11 z11 => ?_)
 obtain ⟨rfl, Nq11, hq11⟩ := z11; replace e11 := e11.trans hq11; have N := Fr.app N Nq11
 refine og_retI X11 hx hlk hret (hb hby d28_4) (by decide) (by decide) ?_
 rw [e11]; exact ⟨rfl, N, rfl⟩
theorem rm_sva (l : Launch) (Z : State) (a0 : Array Value) (hw : HW a0 Z) (a1 a2 bv : Addr) (kb : ClassId) (zz nn : Int32) (vs : List Value) (hcz : own_cz zz nn vs) (cs : Int32) (hcs : ¬ cs = 0) (h0 : Heap) (n0 : Nat) (O : Old Z n0 h0) (E_a1 : Exa Z h0 a1 "java/lang/String") (F_value_a1 : Fld Z h0 a1 "java/lang/String" "value" "[B" .null) (F_coder_a1 : Fld Z h0 a1 "java/lang/String" "coder" "B" (.int 0)) (E_a2 : Exa Z h0 a2 "java/lang/StringBuilder") (F_value_a2 : Fld Z h0 a2 "java/lang/AbstractStringBuilder" "value" "[B" (.ref bv)) (F_coder_a2 : Fld Z h0 a2 "java/lang/AbstractStringBuilder" "coder" "B" (.int 0)) (F_count_a2 : Fld Z h0 a2 "java/lang/AbstractStringBuilder" "count" "I" (.int nn)) (E_bv : Exa Z h0 bv "[B") (V_bv : Arv Z h0 bv kb .byte zz vs (.int 0)) (S_CS : Sta Z Z.heap "java/lang/String" "COMPACT_STRINGS" "Z" (.int cs)) (g_a1 : n0 ≤ a1) (ne_a2_a1 : a2 ≠ a1) (ne_bv_a1 : bv ≠ a1) :
  Con l Z (⟨"java/lang/String", "<init>", "(Ljava/lang/AbstractStringBuilder;Ljava/lang/Void;)V"⟩ : MethodName) jdk_42_method_150_code 5 none ({ frames := 3, cells := 1, slots := 11, locals := 49 } : Room) #[(.ref a1), (.ref a2), .null] h0 (fun v h L => ∃ b k, v = none ∧ Fr n0 L ∧ Keep h0 h [a1] ∧ h0.size ≤ b ∧ Exa Z h a1 "java/lang/String" ∧ Fld Z h a1 "java/lang/String" "value" "[B" (.ref b) ∧ Fld Z h a1 "java/lang/String" "coder" "B" (.int 0) ∧ Arv Z h b k .byte nn (vs.take nn.toNatClampNeg) (.int 0)) := by
 refine own_startC opn_26 ?_
 intro p e s m below meth c T0 X0 hx hby hml hZ hown hnm hret hlk e0
 have N := Fr.nil n0; have K := Keep.refl h0 [a1]
 refine OG.cast (oef17 m a1 a2) ?_
 refine og_aloadN X0 hx rfl rfl (hb hby d26_0) rfl ?_
 refine og_initO (pc' := 4) X0 hx hZ (W := 0) (by rw [hml]; rfl) hown (ow55 hw) (ow18 hw) (ow19 hw) e0 rfl (by decide) (by decide) (hb hby d26_1) rfl (fun T11 X11 e11 => ?_)
 refine og_aloadN X11 hx rfl rfl (hb hby d26_4) rfl ?_
 refine og_virtual (pc' := 8) (cells' := 0) (slots' := 0) (W := 0) X11 hx hZ (rm_gv l Z a0 hw a2 bv h0 n0 O F_value_a2) hown (ow139 hw) (ow140 hw) (own_nf hZ (ow142 hw)) (ow142 hw) (ow141 hw) (ow15 hw) (ow143 hw) (by decide) (by rw [hml]; rfl) e11 opd_18 [] [] rfl rfl rfl rfl (by decide) (by decide) rfl rfl (by decide) (by decide) E_a2 (hb hby d26_5) rfl (fun v12 T12 h12 L12 X12 e12 z12 => ?_)
 obtain ⟨rfl, Nq12, hq12⟩ := z12; replace e12 := e12.trans hq12; have N := Fr.app N Nq12
 refine og_astoreN (L' := #[.val (.ref a1), .val (.ref a2), .val .null, .val (.ref bv), .unset]) X12 hx rfl rfl (hb hby d26_8) rfl ?_
 refine og_aloadN X12 hx rfl rfl (hb hby d26_9) rfl ?_
 refine og_virtual (pc' := 13) (cells' := 0) (slots' := 0) (W := 0) X12 hx hZ (rm_sl l Z a0 hw a2 nn h0 n0 O E_a2 F_count_a2) hown (ow144 hw) (ow145 hw) (own_nfc (Z := s) (a0 := #[]) (mvT hZ (ow89 hw)) (mvT hZ (ow91 hw)) rfl) (ow147 hw) (ow148 hw) (ow7 hw) (ow149 hw) (by decide) (by rw [hml]; rfl) e12 opd_13 [] [] rfl rfl rfl rfl (by decide) (by decide) rfl rfl (by decide) (by decide) E_a2 (hb hby d26_10) rfl (fun v13 T13 h13 L13 X13 e13 z13 => ?_)
 obtain ⟨rfl, Nq13, hq13⟩ := z13; replace e13 := e13.trans hq13; have N := Fr.app N Nq13
 refine og_istore (L' := #[.val (.ref a1), .val (.ref a2), .val .null, .val (.ref bv), .val (.int nn)]) X13 hx rfl (hb hby d26_13) rfl ?_
 refine og_aloadN X13 hx rfl rfl (hb hby d26_15) rfl ?_
 refine og_virtual (pc' := 19) (cells' := 0) (slots' := 0) (W := 0) X13 hx hZ (rm_ail l Z a0 hw a2 cs hcs h0 n0 O F_coder_a2 S_CS) hown (ow152 hw) (ow89 hw) (own_nf hZ (ow91 hw)) (ow91 hw) (ow90 hw) (ow15 hw) (ow92 hw) (by decide) (by rw [hml]; rfl) e13 opd_8 [] [] rfl rfl rfl rfl (by decide) (by decide) rfl rfl (by decide) (by decide) E_a2 (hb hby d26_16) rfl (fun v14 T14 h14 L14 X14 e14 z14 => ?_)
 obtain ⟨rfl, Nq14, hq14⟩ := z14; replace e14 := e14.trans hq14; have N := Fr.app N Nq14
 refine og_if_eq (pc1 := 41) (pc2 := 22) X14 hx (hb hby d26_19) (by decide) (by decide) rfl (fun q => absurd q (by decide)) (fun _ => ?_)
 refine og_aloadN X14 hx rfl rfl (hb hby d26_22) rfl ?_
 refine og_iconst (v := 0) X14 hx rfl (hb hby d26_23) rfl ?_
 refine og_putfield X14 hx hZ (ty := .byte) (host := "") hown (Or.inl (ow58 hw)) Via.refl e14 F_coder_a1 E_a1 (Or.inr ⟨(ow59 hw), rfl, hnm⟩) (ow50 hw) (by decide) rfl rfl (hb hby d26_24) rfl (fun T15 h15 X15 e15 W15 => ?_)
 have F_coder_a1_ := F_coder_a1.same W15
 have E_a1 := E_a1.wr W15; have F_value_a1 := F_value_a1.other W15 (Or.inr (slot_ne (Or.inr (ow57 hw)) (Or.inr (ow59 hw)) (by decide) (t := (.array .byte)) (t' := .byte) (by decide) (by decide))); have E_a2 := E_a2.wr W15; have F_value_a2 := F_value_a2.other W15 (Or.inl ne_a2_a1); have F_coder_a2 := F_coder_a2.other W15 (Or.inl ne_a2_a1); have F_count_a2 := F_count_a2.other W15 (Or.inl ne_a2_a1)
 have E_bv := E_bv.wr W15; have V_bv := V_bv.other W15 ne_bv_a1; have O := O.wr W15 g_a1; have K := K.wr W15 (Or.inl (List.mem_of_getElem? (i := 0) rfl))
 have N := Fr.snoc X15 N g_a1; have F_coder_a1 := F_coder_a1_
 refine og_aloadN X15 hx rfl rfl (hb hby d26_27) rfl ?_
 refine og_aloadN X15 hx rfl rfl (hb hby d26_28) rfl ?_
 refine og_iconst (v := 0) X15 hx rfl (hb hby d26_29) rfl ?_
 refine og_iload X15 hx rfl (hb hby d26_30) rfl ?_
 refine og_static (pc' := 35) (cells' := 1) (slots' := 11) (W := 1) X15 hx hZ (rm_cprG l Z a0 hw bv kb zz nn vs hcz h15 n0 O V_bv E_bv) hown (ow153 hw) (ow154 hw) (ow155 hw) (ow156 hw) (by decide) (by rw [hml]; rfl) e15 opd_17 [(.ref bv), (.int 0), (.int nn)] [(.ref a1)] rfl rfl rfl rfl (by decide) (by decide) rfl rfl (by decide) (by decide) (hb hby d26_32) rfl (fun v16 T16 h16 L16 X16 e16 z16 => ?_)
 obtain ⟨nb16, k16, rfl, Nq16, K16, sb16, V_nb16, E_nb16⟩ := z16; have N := Fr.app N Nq16
 have s_nb16 : h15.size ≤ nb16 := sb16; have g_nb16 : n0 ≤ nb16 := Nat.le_trans (own_n0 O) s_nb16; have sz_nb16 : h0.size ≤ nb16 := Nat.le_trans K.1 s_nb16; have ne_a1_nb16 : a1 ≠ nb16 := Nat.ne_of_lt (Nat.lt_of_lt_of_le E_a1.lt s_nb16); have ne_a2_nb16 : a2 ≠ nb16 := Nat.ne_of_lt (Nat.lt_of_lt_of_le E_a2.lt s_nb16); have ne_bv_nb16 : bv ≠ nb16 := Nat.ne_of_lt (Nat.lt_of_lt_of_le E_bv.lt s_nb16)
 have E_a1 := E_a1.keep K16; have F_value_a1 := F_value_a1.keep K16 nin0; have E_a2 := E_a2.keep K16; have F_value_a2 := F_value_a2.keep K16 nin0; have F_coder_a2 := F_coder_a2.keep K16 nin0; have F_count_a2 := F_count_a2.keep K16 nin0
 have E_bv := E_bv.keep K16; have V_bv := V_bv.keep K16 nin0; have F_coder_a1 := F_coder_a1.keep K16 nin0; have O := O.keep K16 all0; have K := K.trans K16 all0
 refine og_putfield X16 hx hZ (ty := (.array .byte)) (host := "") hown (Or.inl (ow56 hw)) Via.refl e16 F_value_a1 E_a1 (Or.inr ⟨(ow57 hw), rfl, hnm⟩) (ow50 hw) (by decide) rfl rfl (hb hby d26_35) rfl (fun T17 h17 X17 e17 W17 => ?_)
 have F_value_a1_ := F_value_a1.same W17
 have E_a1 := E_a1.wr W17; have E_a2 := E_a2.wr W17; have F_value_a2 := F_value_a2.other W17 (Or.inl ne_a2_a1); have F_coder_a2 := F_coder_a2.other W17 (Or.inl ne_a2_a1); have F_count_a2 := F_count_a2.other W17 (Or.inl ne_a2_a1); have E_bv := E_bv.wr W17
 have V_bv := V_bv.other W17 ne_bv_a1; have F_coder_a1 := F_coder_a1.other W17 (Or.inr (slot_ne (Or.inr (ow59 hw)) (Or.inr (ow57 hw)) (by decide) (t := .byte) (t' := (.array .byte)) (by decide) (by decide))); have V_nb16 := V_nb16.other W17 (Ne.symm ne_a1_nb16); have E_nb16 := E_nb16.wr W17; have O := O.wr W17 g_a1; have K := K.wr W17 (Or.inl (List.mem_of_getElem? (i := 0) rfl))
 have N := Fr.snoc X17 N g_a1; have F_value_a1 := F_value_a1_
 refine og_goto (pc' := 97) X17 hx (hb hby d26_38) (by decide) (by decide) ?_
 refine og_retV X17 hx hlk hret (hb hby d26_97) (by decide) (by decide) ?_
 rw [e17]; exact ⟨_, _, rfl, N, K, sz_nb16, E_a1, F_value_a1, F_coder_a1, V_nb16⟩
theorem rm_svb (l : Launch) (Z : State) (a0 : Array Value) (hw : HW a0 Z) (a1 a2 bv : Addr) (kb : ClassId) (zz nn : Int32) (vs : List Value) (hcz : own_cz zz nn vs) (cs : Int32) (hcs : ¬ cs = 0) (h0 : Heap) (n0 : Nat) (O : Old Z n0 h0) (E_a1 : Exa Z h0 a1 "java/lang/String") (F_value_a1 : Fld Z h0 a1 "java/lang/String" "value" "[B" .null) (F_coder_a1 : Fld Z h0 a1 "java/lang/String" "coder" "B" (.int 0)) (E_a2 : Exa Z h0 a2 "java/lang/StringBuilder") (F_value_a2 : Fld Z h0 a2 "java/lang/AbstractStringBuilder" "value" "[B" (.ref bv)) (F_coder_a2 : Fld Z h0 a2 "java/lang/AbstractStringBuilder" "coder" "B" (.int 0)) (F_count_a2 : Fld Z h0 a2 "java/lang/AbstractStringBuilder" "count" "I" (.int nn)) (E_bv : Exa Z h0 bv "[B") (V_bv : Arv Z h0 bv kb .byte zz vs (.int 0)) (S_CS : Sta Z Z.heap "java/lang/String" "COMPACT_STRINGS" "Z" (.int cs)) (g_a1 : n0 ≤ a1) (ne_a2_a1 : a2 ≠ a1) (ne_bv_a1 : bv ≠ a1) :
  Con l Z (⟨"java/lang/String", "<init>", "(Ljava/lang/StringBuilder;)V"⟩ : MethodName) jdk_42_method_53_code 2 none ({ frames := 4, cells := 1, slots := 11, locals := 65 } : Room) #[(.ref a1), (.ref a2)] h0 (fun v h L => ∃ b k, v = none ∧ Fr n0 L ∧ Keep h0 h [a1] ∧ h0.size ≤ b ∧ Exa Z h a1 "java/lang/String" ∧ Fld Z h a1 "java/lang/String" "value" "[B" (.ref b) ∧ Fld Z h a1 "java/lang/String" "coder" "B" (.int 0) ∧ Arv Z h b k .byte nn (vs.take nn.toNatClampNeg) (.int 0)) := by
 refine own_startC opn_25 ?_
 intro p e s m below meth c T0 X0 hx hby hml hZ hown hnm hret hlk e0
 have N := Fr.nil n0; have K := Keep.refl h0 [a1]
 refine OG.cast (oef12 m a1 a2) ?_
 refine og_aloadN X0 hx rfl rfl (hb hby d25_0) rfl ?_
 refine og_aloadN X0 hx rfl rfl (hb hby d25_1) rfl ?_
 refine og_aconst_null X0 hx (hb hby d25_2) rfl ?_
 refine og_special (pc' := 6) (cells' := 1) (slots' := 11) (W := 0) X0 hx hZ (rm_sva l Z a0 hw a1 a2 bv kb zz nn vs hcz cs hcs h0 n0 O E_a1 F_value_a1 F_coder_a1 E_a2 F_value_a2 F_coder_a2 F_count_a2 E_bv V_bv S_CS g_a1 ne_a2_a1 ne_bv_a1) rfl hown (ow136 hw) (ow137 hw) (ow21 hw) (ow138 hw) (by decide) (by rw [hml]; rfl) e0 opd_19 [(.ref a2), .null] [] rfl rfl rfl rfl (by decide) (by decide) rfl rfl (by decide) (by decide) (hb hby d25_3) rfl (fun v11 T11 h11 L11 X11 e11 z11 => ?_)
 obtain ⟨nb11, k11, rfl, Nq11, K11, sb11, E_a1', F_value_a1', F_coder_a1', V_nb11⟩ := z11; have N := Fr.app N Nq11
 have s_nb11 : h0.size ≤ nb11 := sb11; have g_nb11 : n0 ≤ nb11 := Nat.le_trans (own_n0 O) s_nb11; have sz_nb11 : h0.size ≤ nb11 := Nat.le_trans K.1 s_nb11; have ne_a1_nb11 : a1 ≠ nb11 := Nat.ne_of_lt (Nat.lt_of_lt_of_le E_a1.lt s_nb11); have ne_a2_nb11 : a2 ≠ nb11 := Nat.ne_of_lt (Nat.lt_of_lt_of_le E_a2.lt s_nb11); have ne_bv_nb11 : bv ≠ nb11 := Nat.ne_of_lt (Nat.lt_of_lt_of_le E_bv.lt s_nb11)
 have E_a1 := E_a1.keep K11; have E_a2 := E_a2.keep K11; have F_value_a2 := F_value_a2.keep K11 (ninS ne_a2_a1 nin0); have F_coder_a2 := F_coder_a2.keep K11 (ninS ne_a2_a1 nin0); have F_count_a2 := F_count_a2.keep K11 (ninS ne_a2_a1 nin0); have E_bv := E_bv.keep K11
 have V_bv := V_bv.keep K11 (ninS ne_bv_a1 nin0); have O := O.keep K11 (allS g_a1 all0); have K := K.trans K11 (allS (Or.inl (List.mem_of_getElem? (i := 0) rfl)) all0)
 have E_a1 := E_a1'; have F_value_a1 := F_value_a1'; have F_coder_a1 := F_coder_a1'
 refine og_retV X11 hx hlk hret (hb hby d25_6) (by decide) (by decide) ?_
 rw [e11]; exact ⟨_, _, rfl, N, K, sz_nb11, E_a1, F_value_a1, F_coder_a1, V_nb11⟩
theorem rm_tos (l : Launch) (Z : State) (a0 : Array Value) (hw : HW a0 Z) (a1 bv : Addr) (kb : ClassId) (zz nn : Int32) (vs : List Value) (hcz : own_cz zz nn vs) (cs : Int32) (hcs : ¬ cs = 0) (h0 : Heap) (n0 : Nat) (O : Old Z n0 h0) (E_a1 : Exa Z h0 a1 "java/lang/StringBuilder") (F_value_a1 : Fld Z h0 a1 "java/lang/AbstractStringBuilder" "value" "[B" (.ref bv)) (F_coder_a1 : Fld Z h0 a1 "java/lang/AbstractStringBuilder" "coder" "B" (.int 0)) (F_count_a1 : Fld Z h0 a1 "java/lang/AbstractStringBuilder" "count" "I" (.int nn)) (E_bv : Exa Z h0 bv "[B") (V_bv : Arv Z h0 bv kb .byte zz vs (.int 0)) (S_CS : Sta Z Z.heap "java/lang/String" "COMPACT_STRINGS" "Z" (.int cs)) :
  Con l Z (⟨"java/lang/StringBuilder", "toString", "()Ljava/lang/String;"⟩ : MethodName) jdk_67_method_42_code 1 (some (.object "java/lang/String")) ({ frames := 5, cells := 2, slots := 15, locals := 79 } : Room) #[(.ref a1)] h0 (fun v h L => ∃ a b k, v = some (.ref a) ∧ Fr n0 L ∧ Keep h0 h [] ∧ h0.size ≤ a ∧ h0.size ≤ b ∧ Exa Z h a "java/lang/String" ∧ Fld Z h a "java/lang/String" "value" "[B" (.ref b) ∧ Fld Z h a "java/lang/String" "coder" "B" (.int 0) ∧ Arv Z h b k .byte nn (vs.take nn.toNatClampNeg) (.int 0)) := by
 refine own_startC opn_24 ?_
 intro p e s m below meth c T0 X0 hx hby hml hZ hown hnm hret hlk e0
 have N := Fr.nil n0; have K := Keep.refl h0 []
 refine OG.cast (oef0 m a1) ?_
 refine og_new (pc' := 3) (cells' := 1) (slots' := 4) X0 hx hZ hown (ow132 hw) (ow50 hw) (ow21 hw) e0 (hb hby d24_0) rfl rfl rfl (by decide) (by decide) (fun T11 h11 nb11 X11 e11 E11 q11 E_nb11 D11 B11 => ?_)
 have s_nb11 : h0.size ≤ nb11 := Nat.le_of_eq q11.symm; have g_nb11 : n0 ≤ nb11 := Nat.le_trans (own_n0 O) s_nb11; have sz_nb11 : h0.size ≤ nb11 := Nat.le_trans K.1 s_nb11; have ne_a1_nb11 : a1 ≠ nb11 := Nat.ne_of_lt (Nat.lt_of_lt_of_le E_a1.lt s_nb11); have ne_bv_nb11 : bv ≠ nb11 := Nat.ne_of_lt (Nat.lt_of_lt_of_le E_bv.lt s_nb11)
 have E_a1 := E_a1.ext E11; have F_value_a1 := F_value_a1.ext E11; have F_coder_a1 := F_coder_a1.ext E11; have F_count_a1 := F_count_a1.ext E11; have E_bv := E_bv.ext E11; have V_bv := V_bv.ext E11
 have O := O.ext E11; have K := K.ext E11
 have F_value_nb11 : Fld Z h11 nb11 "java/lang/String" "value" "[B" .null := D11 (Or.inr (ow57 hw)) (ty := (.array .byte)) (by decide)
 have F_coder_nb11 : Fld Z h11 nb11 "java/lang/String" "coder" "B" (.int 0) := D11 (Or.inr (ow59 hw)) (ty := .byte) (by decide)
 refine og_dup X11 hx rfl (hb hby d24_3) rfl ?_
 refine og_aloadN X11 hx rfl rfl (hb hby d24_4) rfl ?_
 refine og_special (pc' := 8) (cells' := 2) (slots' := 15) (W := 1) X11 hx hZ (rm_svb l Z a0 hw nb11 a1 bv kb zz nn vs hcz cs hcs h11 n0 O E_nb11 F_value_nb11 F_coder_nb11 E_a1 F_value_a1 F_coder_a1 F_count_a1 E_bv V_bv S_CS g_nb11 ne_a1_nb11 ne_bv_nb11) rfl hown (ow133 hw) (ow134 hw) (ow21 hw) (ow135 hw) (by decide) (by rw [hml]; rfl) e11 opd_20 [(.ref a1)] [(.ref nb11)] rfl rfl rfl rfl (by decide) (by decide) rfl rfl (by decide) (by decide) (hb hby d24_5) rfl (fun v12 T12 h12 L12 X12 e12 z12 => ?_)
 obtain ⟨nb12, k12, rfl, Nq12, K12, sb12, E_nb11', F_value_nb11', F_coder_nb11', V_nb12⟩ := z12; have N := Fr.app N Nq12
 have s_nb12 : h11.size ≤ nb12 := sb12; have g_nb12 : n0 ≤ nb12 := Nat.le_trans (own_n0 O) s_nb12; have sz_nb12 : h0.size ≤ nb12 := Nat.le_trans K.1 s_nb12; have ne_a1_nb12 : a1 ≠ nb12 := Nat.ne_of_lt (Nat.lt_of_lt_of_le E_a1.lt s_nb12); have ne_bv_nb12 : bv ≠ nb12 := Nat.ne_of_lt (Nat.lt_of_lt_of_le E_bv.lt s_nb12); have ne_nb11_nb12 : nb11 ≠ nb12 := Nat.ne_of_lt (Nat.lt_of_lt_of_le E_nb11.lt s_nb12)
 have E_a1 := E_a1.keep K12; have F_value_a1 := F_value_a1.keep K12 (ninS ne_a1_nb11 nin0); have F_coder_a1 := F_coder_a1.keep K12 (ninS ne_a1_nb11 nin0); have F_count_a1 := F_count_a1.keep K12 (ninS ne_a1_nb11 nin0); have E_bv := E_bv.keep K12; have V_bv := V_bv.keep K12 (ninS ne_bv_nb11 nin0)
 have E_nb11 := E_nb11.keep K12; have O := O.keep K12 (allS g_nb11 all0); have K := K.trans K12 (allS (Or.inr sz_nb11) all0)
 have E_nb11 := E_nb11'; have F_value_nb11 := F_value_nb11'; have F_coder_nb11 := F_coder_nb11'
 refine og_retR X12 hx hlk hret rfl rfl rfl (hb hby d24_8) (by decide) (by decide) ?_
 rw [e12]; exact ⟨_, _, _, rfl, N, K, sz_nb11, sz_nb12, E_nb11, F_value_nb11, F_coder_nb11, V_nb12⟩
theorem rm_an0 (l : Launch) (Z : State) (a0 : Array Value) (hw : HW a0 Z) (a1 bv : Addr) (kb : ClassId) (aa : Int32) (h0a : 0 ≤ aa.toInt) (dO dT : Addr) (kdO kdT : ClassId) (ldO ldT : List Value) (hO : own_tab ldO fun r => 48 + r % 10) (hT : own_tab ldT fun r => 48 + r / 10) (cs : Int32) (hcs : ¬ cs = 0) (h0 : Heap) (n0 : Nat) (O : Old Z n0 h0) (E_a1 : Exa Z h0 a1 "java/lang/StringBuilder") (F_value_a1 : Fld Z h0 a1 "java/lang/AbstractStringBuilder" "value" "[B" (.ref bv)) (F_coder_a1 : Fld Z h0 a1 "java/lang/AbstractStringBuilder" "coder" "B" (.int 0)) (F_count_a1 : Fld Z h0 a1 "java/lang/AbstractStringBuilder" "count" "I" (.int 0)) (E_bv : Exa Z h0 bv "[B") (V_bv : Arv Z h0 bv kb .byte (4 : Int32) [(.int 0), (.int 0), (.int 0), (.int 0)] (.int 0)) (S_dO : Sta Z Z.heap "java/lang/Integer" "DigitOnes" "[B" (.ref dO)) (V_dO : Arv Z Z.heap dO kdO .byte (100 : Int32) ldO (.int 0)) (S_dT : Sta Z Z.heap "java/lang/Integer" "DigitTens" "[B" (.ref dT)) (V_dT : Arv Z Z.heap dT kdT .byte (100 : Int32) ldT (.int 0)) (S_CS : Sta Z Z.heap "java/lang/String" "COMPACT_STRINGS" "Z" (.int cs)) (g_a1 : n0 ≤ a1) (g_bv : n0 ≤ bv) (ne_a1_bv : a1 ≠ bv) :
  Con l Z (⟨"com/example/neith/neith/io/DateTimeText", "appendNumber", "(Ljava/lang/StringBuilder;II)V"⟩ : MethodName) prog_2_method_14_code 5 none ({ frames := 6, cells := 3, slots := 25, locals := 89 } : Room) #[(.ref a1), (.int aa), (.int 4)] h0 (fun v h L => ∃ b k cn zz vs, v = none ∧ Fr n0 L ∧ Keep h0 h [a1, bv] ∧ Exa Z h a1 "java/lang/StringBuilder" ∧ Fld Z h a1 "java/lang/AbstractStringBuilder" "value" "[B" (.ref b) ∧ Fld Z h a1 "java/lang/AbstractStringBuilder" "coder" "B" (.int 0) ∧ Fld Z h a1 "java/lang/AbstractStringBuilder" "count" "I" (.int cn) ∧ Arv Z h b k .byte zz vs (.int 0) ∧ Exa Z h b "[B" ∧ own_W0 aa.toInt cn zz vs) := by
 refine own_startC opn_7 ?_
 intro p e s m below meth c T0 X0 hx hby hml hZ hown hnm hret hlk e0
 have N := Fr.nil n0; have K := Keep.refl h0 [a1, bv]
 refine OG.cast (oef16 m a1 aa (4 : Int32)) ?_
 refine og_iloadN X0 hx rfl (hb hby d7_0) rfl ?_
 refine og_static (pc' := 4) (cells' := 2) (slots' := 14) (W := 0) X0 hx hZ (rm_ts l Z a0 hw aa h0a dO dT kdO kdT ldO ldT hO hT cs hcs h0 n0 O S_dO V_dO S_dT V_dT S_CS) hown (ow37 hw) (ow38 hw) (ow39 hw) (ow40 hw) (by decide) (by rw [hml]; rfl) e0 opd_21 [(.int aa)] [] rfl rfl rfl rfl (by decide) (by decide) rfl rfl (by decide) (by decide) (hb hby d7_1) rfl (fun v11 T11 h11 L11 X11 e11 z11 => ?_)
 obtain ⟨na11, nb11, k11, kk, gl, rfl, Nq11, K11, sa11, sb11, E_na11, F_value_na11, F_coder_na11, V_nb11, hds⟩ := z11; have N := Fr.app N Nq11
 have s_na11 : h0.size ≤ na11 := sa11; have g_na11 : n0 ≤ na11 := Nat.le_trans (own_n0 O) s_na11; have sz_na11 : h0.size ≤ na11 := Nat.le_trans K.1 s_na11; have ne_a1_na11 : a1 ≠ na11 := Nat.ne_of_lt (Nat.lt_of_lt_of_le E_a1.lt s_na11); have ne_bv_na11 : bv ≠ na11 := Nat.ne_of_lt (Nat.lt_of_lt_of_le E_bv.lt s_na11); have ne_dO_na11 : dO ≠ na11 := O.ne V_dO.lt g_na11
 have ne_dT_na11 : dT ≠ na11 := O.ne V_dT.lt g_na11
 have s_nb11 : h0.size ≤ nb11 := sb11; have g_nb11 : n0 ≤ nb11 := Nat.le_trans (own_n0 O) s_nb11; have sz_nb11 : h0.size ≤ nb11 := Nat.le_trans K.1 s_nb11; have ne_a1_nb11 : a1 ≠ nb11 := Nat.ne_of_lt (Nat.lt_of_lt_of_le E_a1.lt s_nb11); have ne_bv_nb11 : bv ≠ nb11 := Nat.ne_of_lt (Nat.lt_of_lt_of_le E_bv.lt s_nb11); have ne_dO_nb11 : dO ≠ nb11 := O.ne V_dO.lt g_nb11
 have ne_dT_nb11 : dT ≠ nb11 := O.ne V_dT.lt g_nb11
 have E_a1 := E_a1.keep K11; have F_value_a1 := F_value_a1.keep K11 nin0; have F_coder_a1 := F_coder_a1.keep K11 nin0; have F_count_a1 := F_count_a1.keep K11 nin0; have E_bv := E_bv.keep K11; have V_bv := V_bv.keep K11 nin0
 have O := O.keep K11 all0; have K := K.trans K11 all0
 have ne_na11_nb11 : na11 ≠ nb11 := fun q => own_strarr E_na11 V_nb11 (ow50 hw) q
 rcases hds with ⟨rfl, g0, rfl, hg0, hhi⟩ | ⟨rfl, g0, g1, rfl, hg0, hg1, hlo, hhi⟩ | ⟨rfl, g0, g1, g2, rfl, hg0, hg1, hg2, hlo, hhi⟩ | ⟨rfl, g0, g1, g2, g3, rfl, hg0, hg1, hg2, hg3, hlo, hhi⟩ | ⟨rfl, g0, g1, g2, g3, g4, rfl, hg0, hg1, hg2, hg3, hg4, hlo, hhi⟩ | ⟨rfl, g0, g1, g2, g3, g4, g5, rfl, hg0, hg1, hg2, hg3, hg4, hg5, hlo, hhi⟩ | ⟨rfl, g0, g1, g2, g3, g4, g5, g6, rfl, hg0, hg1, hg2, hg3, hg4, hg5, hg6, hlo, hhi⟩ | ⟨rfl, g0, g1, g2, g3, g4, g5, g6, g7, rfl, hg0, hg1, hg2, hg3, hg4, hg5, hg6, hg7, hlo, hhi⟩ | ⟨rfl, g0, g1, g2, g3, g4, g5, g6, g7, g8, rfl, hg0, hg1, hg2, hg3, hg4, hg5, hg6, hg7, hg8, hlo, hhi⟩ | ⟨rfl, g0, g1, g2, g3, g4, g5, g6, g7, g8, g9, rfl, hg0, hg1, hg2, hg3, hg4, hg5, hg6, hg7, hg8, hg9, hlo⟩
 ·
  refine og_astoreN (L' := #[.val (.ref a1), .val (.int aa), .val (.int 4), .val (.ref na11), .unset]) X11 hx rfl rfl (hb hby d7_4) rfl ?_
  refine og_iloadN X11 hx rfl (hb hby d7_5) rfl ?_
  refine og_aloadN X11 hx rfl rfl (hb hby d7_6) rfl ?_
  refine og_virtual (pc' := 10) (cells' := 2) (slots' := 14) (W := 1) X11 hx hZ (rm_len l Z a0 hw na11 nb11 k11 (1 : Int32) _ cs hcs h11 n0 O E_na11 F_value_na11 F_coder_na11 V_nb11 S_CS) hown (ow60 hw) (ow61 hw) (own_nf hZ (ow63 hw)) (ow63 hw) (ow62 hw) (ow21 hw) (ow64 hw) (by decide) (by rw [hml]; rfl) e11 opd_13 [] [(.int 4)] rfl rfl rfl rfl (by decide) (by decide) rfl rfl (by decide) (by decide) E_na11 (hb hby d7_7) rfl (fun v12 T12 h12 L12 X12 e12 z12 => ?_)
  obtain ⟨rfl, Nq12, hq12⟩ := z12; replace e12 := e12.trans hq12; have N := Fr.app N Nq12
  refine og_isub X12 hx (hb hby d7_10) rfl ?_
  show OG p e below _ (T12.setTop (mkF m 11 #[.val (.ref a1), .val (.int aa), .val (.int 4), .val (.ref na11), .unset] [(.int 3)]))
  refine og_istore (L' := #[.val (.ref a1), .val (.int aa), .val (.int 4), .val (.ref na11), .val (.int 3)]) X12 hx rfl (hb hby d7_11) rfl ?_
  refine og_iload X12 hx rfl (hb hby d7_13) rfl ?_
  refine og_if_le (pc1 := 31) (pc2 := 18) X12 hx (hb hby d7_15) (by decide) (by decide) rfl (fun q => absurd q (by decide)) (fun _ => ?_)
  refine og_aloadN X12 hx rfl rfl (hb hby d7_18) rfl ?_
  refine og_bipush (v := 48) X12 hx rfl (hb hby d7_19) rfl ?_
  refine og_virtual (pc' := 24) (cells' := 2) (slots' := 14) (W := 0) X12 hx hZ (rm_sac_0_48 l Z a0 hw a1 bv kb (0 : Int32) (0 : Int32) (0 : Int32) (0 : Int32) cs hcs h11 n0 O E_a1 F_value_a1 F_coder_a1 F_count_a1 V_bv S_CS g_a1 g_bv ne_a1_bv) hown (ow71 hw) (ow72 hw) (own_nf hZ (ow74 hw)) (ow74 hw) (ow73 hw) (ow7 hw) (ow75 hw) (by decide) (by rw [hml]; rfl) e12 opd_22 [(.int 48)] [] rfl rfl rfl rfl (by decide) (by decide) rfl rfl (by decide) (by decide) E_a1 (hb hby d7_21) rfl (fun v13 T13 h13 L13 X13 e13 z13 => ?_)
  obtain ⟨rfl, Nq13, K13, E_a1', F_value_a1', F_coder_a1', F_count_a1', V_bv'⟩ := z13; have N := Fr.app N Nq13
  have E_a1 := E_a1.keep K13; have E_bv := E_bv.keep K13; have E_na11 := E_na11.keep K13; have F_value_na11 := F_value_na11.keep K13 (ninS (Ne.symm ne_a1_na11) (ninS (Ne.symm ne_bv_na11) nin0)); have F_coder_na11 := F_coder_na11.keep K13 (ninS (Ne.symm ne_a1_na11) (ninS (Ne.symm ne_bv_na11) nin0)); have V_nb11 := V_nb11.keep K13 (ninS (Ne.symm ne_a1_nb11) (ninS (Ne.symm ne_bv_nb11) nin0))
  have O := O.keep K13 (allS g_a1 (allS g_bv all0)); have K := K.trans K13 (allS (Or.inl (List.mem_of_getElem? (i := 0) rfl)) (allS (Or.inl (List.mem_of_getElem? (i := 1) rfl)) all0))
  have V_bv := V_bv'
  have E_a1 := E_a1'; have F_value_a1 := F_value_a1'; have F_coder_a1 := F_coder_a1'; have F_count_a1 := F_count_a1'
  refine og_pop X13 hx rfl (hb hby d7_24) rfl ?_
  refine og_iinc (L' := #[.val (.ref a1), .val (.int aa), .val (.int 4), .val (.ref na11), .val (.int 2)]) (w := -1) X13 hx rfl rfl rfl (hb hby d7_25) rfl ?_
  refine og_goto (pc' := 13) X13 hx (hb hby d7_28) (by decide) (by decide) ?_
  refine og_iload X13 hx rfl (hb hby d7_13) rfl ?_
  refine og_if_le (pc1 := 31) (pc2 := 18) X13 hx (hb hby d7_15) (by decide) (by decide) rfl (fun q => absurd q (by decide)) (fun _ => ?_)
  refine og_aloadN X13 hx rfl rfl (hb hby d7_18) rfl ?_
  refine og_bipush (v := 48) X13 hx rfl (hb hby d7_19) rfl ?_
  refine og_virtual (pc' := 24) (cells' := 2) (slots' := 14) (W := 0) X13 hx hZ (rm_sac_1_48 l Z a0 hw a1 bv kb (48 : Int32) (0 : Int32) (0 : Int32) (0 : Int32) cs hcs h13 n0 O E_a1 F_value_a1 F_coder_a1 F_count_a1 V_bv S_CS g_a1 g_bv ne_a1_bv) hown (ow71 hw) (ow72 hw) (own_nf hZ (ow74 hw)) (ow74 hw) (ow73 hw) (ow7 hw) (ow75 hw) (by decide) (by rw [hml]; rfl) e13 opd_22 [(.int 48)] [] rfl rfl rfl rfl (by decide) (by decide) rfl rfl (by decide) (by decide) E_a1 (hb hby d7_21) rfl (fun v14 T14 h14 L14 X14 e14 z14 => ?_)
  obtain ⟨rfl, Nq14, K14, E_a1', F_value_a1', F_coder_a1', F_count_a1', V_bv'⟩ := z14; have N := Fr.app N Nq14
  have E_a1 := E_a1.keep K14; have E_bv := E_bv.keep K14; have E_na11 := E_na11.keep K14; have F_value_na11 := F_value_na11.keep K14 (ninS (Ne.symm ne_a1_na11) (ninS (Ne.symm ne_bv_na11) nin0)); have F_coder_na11 := F_coder_na11.keep K14 (ninS (Ne.symm ne_a1_na11) (ninS (Ne.symm ne_bv_na11) nin0)); have V_nb11 := V_nb11.keep K14 (ninS (Ne.symm ne_a1_nb11) (ninS (Ne.symm ne_bv_nb11) nin0))
  have O := O.keep K14 (allS g_a1 (allS g_bv all0)); have K := K.trans K14 (allS (Or.inl (List.mem_of_getElem? (i := 0) rfl)) (allS (Or.inl (List.mem_of_getElem? (i := 1) rfl)) all0))
  have V_bv := V_bv'
  have E_a1 := E_a1'; have F_value_a1 := F_value_a1'; have F_coder_a1 := F_coder_a1'; have F_count_a1 := F_count_a1'
  refine og_pop X14 hx rfl (hb hby d7_24) rfl ?_
  refine og_iinc (L' := #[.val (.ref a1), .val (.int aa), .val (.int 4), .val (.ref na11), .val (.int 1)]) (w := -1) X14 hx rfl rfl rfl (hb hby d7_25) rfl ?_
  refine og_goto (pc' := 13) X14 hx (hb hby d7_28) (by decide) (by decide) ?_
  refine og_iload X14 hx rfl (hb hby d7_13) rfl ?_
  refine og_if_le (pc1 := 31) (pc2 := 18) X14 hx (hb hby d7_15) (by decide) (by decide) rfl (fun q => absurd q (by decide)) (fun _ => ?_)
  refine og_aloadN X14 hx rfl rfl (hb hby d7_18) rfl ?_
  refine og_bipush (v := 48) X14 hx rfl (hb hby d7_19) rfl ?_
  refine og_virtual (pc' := 24) (cells' := 2) (slots' := 14) (W := 0) X14 hx hZ (rm_sac_2_48 l Z a0 hw a1 bv kb (48 : Int32) (48 : Int32) (0 : Int32) (0 : Int32) cs hcs h14 n0 O E_a1 F_value_a1 F_coder_a1 F_count_a1 V_bv S_CS g_a1 g_bv ne_a1_bv) hown (ow71 hw) (ow72 hw) (own_nf hZ (ow74 hw)) (ow74 hw) (ow73 hw) (ow7 hw) (ow75 hw) (by decide) (by rw [hml]; rfl) e14 opd_22 [(.int 48)] [] rfl rfl rfl rfl (by decide) (by decide) rfl rfl (by decide) (by decide) E_a1 (hb hby d7_21) rfl (fun v15 T15 h15 L15 X15 e15 z15 => ?_)
  obtain ⟨rfl, Nq15, K15, E_a1', F_value_a1', F_coder_a1', F_count_a1', V_bv'⟩ := z15; have N := Fr.app N Nq15
  have E_a1 := E_a1.keep K15; have E_bv := E_bv.keep K15; have E_na11 := E_na11.keep K15; have F_value_na11 := F_value_na11.keep K15 (ninS (Ne.symm ne_a1_na11) (ninS (Ne.symm ne_bv_na11) nin0)); have F_coder_na11 := F_coder_na11.keep K15 (ninS (Ne.symm ne_a1_na11) (ninS (Ne.symm ne_bv_na11) nin0)); have V_nb11 := V_nb11.keep K15 (ninS (Ne.symm ne_a1_nb11) (ninS (Ne.symm ne_bv_nb11) nin0))
  have O := O.keep K15 (allS g_a1 (allS g_bv all0)); have K := K.trans K15 (allS (Or.inl (List.mem_of_getElem? (i := 0) rfl)) (allS (Or.inl (List.mem_of_getElem? (i := 1) rfl)) all0))
  have V_bv := V_bv'
  have E_a1 := E_a1'; have F_value_a1 := F_value_a1'; have F_coder_a1 := F_coder_a1'; have F_count_a1 := F_count_a1'
  refine og_pop X15 hx rfl (hb hby d7_24) rfl ?_
  refine og_iinc (L' := #[.val (.ref a1), .val (.int aa), .val (.int 4), .val (.ref na11), .val (.int 0)]) (w := -1) X15 hx rfl rfl rfl (hb hby d7_25) rfl ?_
  refine og_goto (pc' := 13) X15 hx (hb hby d7_28) (by decide) (by decide) ?_
  refine og_iload X15 hx rfl (hb hby d7_13) rfl ?_
  refine og_if_le (pc1 := 31) (pc2 := 18) X15 hx (hb hby d7_15) (by decide) (by decide) rfl (fun _ => ?_) (fun q => absurd q (by decide))
  refine og_aloadN X15 hx rfl rfl (hb hby d7_31) rfl ?_
  refine og_aloadN X15 hx rfl rfl (hb hby d7_32) rfl ?_
  refine og_virtual (pc' := 36) (cells' := 2) (slots' := 14) (W := 0) X15 hx hZ (rm_sasN l Z a0 hw a1 na11 bv nb11 kb k11 (4 : Int32) (3 : Int32) (1 : Int32) (4 : Int32) [(.int g0)] [(.int 48), (.int 48), (.int 48), (.int 0)] [(.int g0)] [(.int 48), (.int 48), (.int 48), (.int g0)] (by decide) (by decide) (by decide) (by decide) rfl (Nat.le_of_ble_eq_true rfl) rfl rfl (by decide) cs hcs h15 n0 O E_a1 F_value_a1 F_coder_a1 F_count_a1 E_bv V_bv E_na11 F_value_na11 F_coder_na11 V_nb11 S_CS g_a1 g_bv ne_a1_bv (Ne.symm ne_bv_na11) (Ne.symm ne_bv_nb11) (Ne.symm ne_a1_na11) (Ne.symm ne_a1_nb11)) hown (ow97 hw) (ow98 hw) (own_nf hZ (ow100 hw)) (ow100 hw) (ow99 hw) (ow7 hw) (ow101 hw) (by decide) (by rw [hml]; rfl) e15 opd_23 [(.ref na11)] [] rfl rfl rfl rfl (by decide) (by decide) rfl rfl (by decide) (by decide) E_a1 (hb hby d7_33) rfl (fun v16 T16 h16 L16 X16 e16 z16 => ?_)
  obtain ⟨rfl, Nq16, K16, E_a1', F_value_a1', F_coder_a1', F_count_a1', V_bv'⟩ := z16; have N := Fr.app N Nq16
  have E_a1 := E_a1.keep K16; have E_bv := E_bv.keep K16; have E_na11 := E_na11.keep K16; have F_value_na11 := F_value_na11.keep K16 (ninS (Ne.symm ne_a1_na11) (ninS (Ne.symm ne_bv_na11) nin0)); have F_coder_na11 := F_coder_na11.keep K16 (ninS (Ne.symm ne_a1_na11) (ninS (Ne.symm ne_bv_na11) nin0)); have V_nb11 := V_nb11.keep K16 (ninS (Ne.symm ne_a1_nb11) (ninS (Ne.symm ne_bv_nb11) nin0))
  have O := O.keep K16 (allS g_a1 (allS g_bv all0)); have K := K.trans K16 (allS (Or.inl (List.mem_of_getElem? (i := 0) rfl)) (allS (Or.inl (List.mem_of_getElem? (i := 1) rfl)) all0))
  have V_bv := V_bv'
  have E_a1 := E_a1'; have F_value_a1 := F_value_a1'; have F_coder_a1 := F_coder_a1'; have F_count_a1 := F_count_a1'
  refine og_pop X16 hx rfl (hb hby d7_36) rfl ?_
  refine og_retV X16 hx hlk hret (hb hby d7_37) (by decide) (by decide) ?_
  rw [e16]; exact ⟨_, _, _, _, _, rfl, N, K, E_a1, F_value_a1, F_coder_a1, F_count_a1, V_bv, E_bv, Or.inl (⟨rfl, rfl, g0, rfl, hg0, hhi⟩)⟩
 ·
  refine og_astoreN (L' := #[.val (.ref a1), .val (.int aa), .val (.int 4), .val (.ref na11), .unset]) X11 hx rfl rfl (hb hby d7_4) rfl ?_
  refine og_iloadN X11 hx rfl (hb hby d7_5) rfl ?_
  refine og_aloadN X11 hx rfl rfl (hb hby d7_6) rfl ?_
  refine og_virtual (pc' := 10) (cells' := 2) (slots' := 14) (W := 1) X11 hx hZ (rm_len l Z a0 hw na11 nb11 k11 (2 : Int32) _ cs hcs h11 n0 O E_na11 F_value_na11 F_coder_na11 V_nb11 S_CS) hown (ow60 hw) (ow61 hw) (own_nf hZ (ow63 hw)) (ow63 hw) (ow62 hw) (ow21 hw) (ow64 hw) (by decide) (by rw [hml]; rfl) e11 opd_13 [] [(.int 4)] rfl rfl rfl rfl (by decide) (by decide) rfl rfl (by decide) (by decide) E_na11 (hb hby d7_7) rfl (fun v17 T17 h17 L17 X17 e17 z17 => ?_)
  obtain ⟨rfl, Nq17, hq17⟩ := z17; replace e17 := e17.trans hq17; have N := Fr.app N Nq17
  refine og_isub X17 hx (hb hby d7_10) rfl ?_
  show OG p e below _ (T17.setTop (mkF m 11 #[.val (.ref a1), .val (.int aa), .val (.int 4), .val (.ref na11), .unset] [(.int 2)]))
  refine og_istore (L' := #[.val (.ref a1), .val (.int aa), .val (.int 4), .val (.ref na11), .val (.int 2)]) X17 hx rfl (hb hby d7_11) rfl ?_
  refine og_iload X17 hx rfl (hb hby d7_13) rfl ?_
  refine og_if_le (pc1 := 31) (pc2 := 18) X17 hx (hb hby d7_15) (by decide) (by decide) rfl (fun q => absurd q (by decide)) (fun _ => ?_)
  refine og_aloadN X17 hx rfl rfl (hb hby d7_18) rfl ?_
  refine og_bipush (v := 48) X17 hx rfl (hb hby d7_19) rfl ?_
  refine og_virtual (pc' := 24) (cells' := 2) (slots' := 14) (W := 0) X17 hx hZ (rm_sac_0_48 l Z a0 hw a1 bv kb (0 : Int32) (0 : Int32) (0 : Int32) (0 : Int32) cs hcs h11 n0 O E_a1 F_value_a1 F_coder_a1 F_count_a1 V_bv S_CS g_a1 g_bv ne_a1_bv) hown (ow71 hw) (ow72 hw) (own_nf hZ (ow74 hw)) (ow74 hw) (ow73 hw) (ow7 hw) (ow75 hw) (by decide) (by rw [hml]; rfl) e17 opd_22 [(.int 48)] [] rfl rfl rfl rfl (by decide) (by decide) rfl rfl (by decide) (by decide) E_a1 (hb hby d7_21) rfl (fun v18 T18 h18 L18 X18 e18 z18 => ?_)
  obtain ⟨rfl, Nq18, K18, E_a1', F_value_a1', F_coder_a1', F_count_a1', V_bv'⟩ := z18; have N := Fr.app N Nq18
  have E_a1 := E_a1.keep K18; have E_bv := E_bv.keep K18; have E_na11 := E_na11.keep K18; have F_value_na11 := F_value_na11.keep K18 (ninS (Ne.symm ne_a1_na11) (ninS (Ne.symm ne_bv_na11) nin0)); have F_coder_na11 := F_coder_na11.keep K18 (ninS (Ne.symm ne_a1_na11) (ninS (Ne.symm ne_bv_na11) nin0)); have V_nb11 := V_nb11.keep K18 (ninS (Ne.symm ne_a1_nb11) (ninS (Ne.symm ne_bv_nb11) nin0))
  have O := O.keep K18 (allS g_a1 (allS g_bv all0)); have K := K.trans K18 (allS (Or.inl (List.mem_of_getElem? (i := 0) rfl)) (allS (Or.inl (List.mem_of_getElem? (i := 1) rfl)) all0))
  have V_bv := V_bv'
  have E_a1 := E_a1'; have F_value_a1 := F_value_a1'; have F_coder_a1 := F_coder_a1'; have F_count_a1 := F_count_a1'
  refine og_pop X18 hx rfl (hb hby d7_24) rfl ?_
  refine og_iinc (L' := #[.val (.ref a1), .val (.int aa), .val (.int 4), .val (.ref na11), .val (.int 1)]) (w := -1) X18 hx rfl rfl rfl (hb hby d7_25) rfl ?_
  refine og_goto (pc' := 13) X18 hx (hb hby d7_28) (by decide) (by decide) ?_
  refine og_iload X18 hx rfl (hb hby d7_13) rfl ?_
  refine og_if_le (pc1 := 31) (pc2 := 18) X18 hx (hb hby d7_15) (by decide) (by decide) rfl (fun q => absurd q (by decide)) (fun _ => ?_)
  refine og_aloadN X18 hx rfl rfl (hb hby d7_18) rfl ?_
  refine og_bipush (v := 48) X18 hx rfl (hb hby d7_19) rfl ?_
  refine og_virtual (pc' := 24) (cells' := 2) (slots' := 14) (W := 0) X18 hx hZ (rm_sac_1_48 l Z a0 hw a1 bv kb (48 : Int32) (0 : Int32) (0 : Int32) (0 : Int32) cs hcs h18 n0 O E_a1 F_value_a1 F_coder_a1 F_count_a1 V_bv S_CS g_a1 g_bv ne_a1_bv) hown (ow71 hw) (ow72 hw) (own_nf hZ (ow74 hw)) (ow74 hw) (ow73 hw) (ow7 hw) (ow75 hw) (by decide) (by rw [hml]; rfl) e18 opd_22 [(.int 48)] [] rfl rfl rfl rfl (by decide) (by decide) rfl rfl (by decide) (by decide) E_a1 (hb hby d7_21) rfl (fun v19 T19 h19 L19 X19 e19 z19 => ?_)
  obtain ⟨rfl, Nq19, K19, E_a1', F_value_a1', F_coder_a1', F_count_a1', V_bv'⟩ := z19; have N := Fr.app N Nq19
  have E_a1 := E_a1.keep K19; have E_bv := E_bv.keep K19; have E_na11 := E_na11.keep K19; have F_value_na11 := F_value_na11.keep K19 (ninS (Ne.symm ne_a1_na11) (ninS (Ne.symm ne_bv_na11) nin0)); have F_coder_na11 := F_coder_na11.keep K19 (ninS (Ne.symm ne_a1_na11) (ninS (Ne.symm ne_bv_na11) nin0)); have V_nb11 := V_nb11.keep K19 (ninS (Ne.symm ne_a1_nb11) (ninS (Ne.symm ne_bv_nb11) nin0))
  have O := O.keep K19 (allS g_a1 (allS g_bv all0)); have K := K.trans K19 (allS (Or.inl (List.mem_of_getElem? (i := 0) rfl)) (allS (Or.inl (List.mem_of_getElem? (i := 1) rfl)) all0))
  have V_bv := V_bv'
  have E_a1 := E_a1'; have F_value_a1 := F_value_a1'; have F_coder_a1 := F_coder_a1'; have F_count_a1 := F_count_a1'
  refine og_pop X19 hx rfl (hb hby d7_24) rfl ?_
  refine og_iinc (L' := #[.val (.ref a1), .val (.int aa), .val (.int 4), .val (.ref na11), .val (.int 0)]) (w := -1) X19 hx rfl rfl rfl (hb hby d7_25) rfl ?_
  refine og_goto (pc' := 13) X19 hx (hb hby d7_28) (by decide) (by decide) ?_
  refine og_iload X19 hx rfl (hb hby d7_13) rfl ?_
  refine og_if_le (pc1 := 31) (pc2 := 18) X19 hx (hb hby d7_15) (by decide) (by decide) rfl (fun _ => ?_) (fun q => absurd q (by decide))
  refine og_aloadN X19 hx rfl rfl (hb hby d7_31) rfl ?_
  refine og_aloadN X19 hx rfl rfl (hb hby d7_32) rfl ?_
  refine og_virtual (pc' := 36) (cells' := 2) (slots' := 14) (W := 0) X19 hx hZ (rm_sasN l Z a0 hw a1 na11 bv nb11 kb k11 (4 : Int32) (2 : Int32) (2 : Int32) (4 : Int32) [(.int g1), (.int g0)] [(.int 48), (.int 48), (.int 0), (.int 0)] [(.int g1), (.int g0)] [(.int 48), (.int 48), (.int g1), (.int g0)] (by decide) (by decide) (by decide) (by decide) rfl (Nat.le_of_ble_eq_true rfl) rfl rfl (by decide) cs hcs h19 n0 O E_a1 F_value_a1 F_coder_a1 F_count_a1 E_bv V_bv E_na11 F_value_na11 F_coder_na11 V_nb11 S_CS g_a1 g_bv ne_a1_bv (Ne.symm ne_bv_na11) (Ne.symm ne_bv_nb11) (Ne.symm ne_a1_na11) (Ne.symm ne_a1_nb11)) hown (ow97 hw) (ow98 hw) (own_nf hZ (ow100 hw)) (ow100 hw) (ow99 hw) (ow7 hw) (ow101 hw) (by decide) (by rw [hml]; rfl) e19 opd_23 [(.ref na11)] [] rfl rfl rfl rfl (by decide) (by decide) rfl rfl (by decide) (by decide) E_a1 (hb hby d7_33) rfl (fun v20 T20 h20 L20 X20 e20 z20 => ?_)
  obtain ⟨rfl, Nq20, K20, E_a1', F_value_a1', F_coder_a1', F_count_a1', V_bv'⟩ := z20; have N := Fr.app N Nq20
  have E_a1 := E_a1.keep K20; have E_bv := E_bv.keep K20; have E_na11 := E_na11.keep K20; have F_value_na11 := F_value_na11.keep K20 (ninS (Ne.symm ne_a1_na11) (ninS (Ne.symm ne_bv_na11) nin0)); have F_coder_na11 := F_coder_na11.keep K20 (ninS (Ne.symm ne_a1_na11) (ninS (Ne.symm ne_bv_na11) nin0)); have V_nb11 := V_nb11.keep K20 (ninS (Ne.symm ne_a1_nb11) (ninS (Ne.symm ne_bv_nb11) nin0))
  have O := O.keep K20 (allS g_a1 (allS g_bv all0)); have K := K.trans K20 (allS (Or.inl (List.mem_of_getElem? (i := 0) rfl)) (allS (Or.inl (List.mem_of_getElem? (i := 1) rfl)) all0))
  have V_bv := V_bv'
  have E_a1 := E_a1'; have F_value_a1 := F_value_a1'; have F_coder_a1 := F_coder_a1'; have F_count_a1 := F_count_a1'
  refine og_pop X20 hx rfl (hb hby d7_36) rfl ?_
  refine og_retV X20 hx hlk hret (hb hby d7_37) (by decide) (by decide) ?_
  rw [e20]; exact ⟨_, _, _, _, _, rfl, N, K, E_a1, F_value_a1, F_coder_a1, F_count_a1, V_bv, E_bv, Or.inr (Or.inl (⟨rfl, rfl, g0, g1, rfl, hg0, hg1, hlo, hhi⟩))⟩
 ·
  refine og_astoreN (L' := #[.val (.ref a1), .val (.int aa), .val (.int 4), .val (.ref na11), .unset]) X11 hx rfl rfl (hb hby d7_4) rfl ?_
  refine og_iloadN X11 hx rfl (hb hby d7_5) rfl ?_
  refine og_aloadN X11 hx rfl rfl (hb hby d7_6) rfl ?_
  refine og_virtual (pc' := 10) (cells' := 2) (slots' := 14) (W := 1) X11 hx hZ (rm_len l Z a0 hw na11 nb11 k11 (3 : Int32) _ cs hcs h11 n0 O E_na11 F_value_na11 F_coder_na11 V_nb11 S_CS) hown (ow60 hw) (ow61 hw) (own_nf hZ (ow63 hw)) (ow63 hw) (ow62 hw) (ow21 hw) (ow64 hw) (by decide) (by rw [hml]; rfl) e11 opd_13 [] [(.int 4)] rfl rfl rfl rfl (by decide) (by decide) rfl rfl (by decide) (by decide) E_na11 (hb hby d7_7) rfl (fun v21 T21 h21 L21 X21 e21 z21 => ?_)
  obtain ⟨rfl, Nq21, hq21⟩ := z21; replace e21 := e21.trans hq21; have N := Fr.app N Nq21
  refine og_isub X21 hx (hb hby d7_10) rfl ?_
  show OG p e below _ (T21.setTop (mkF m 11 #[.val (.ref a1), .val (.int aa), .val (.int 4), .val (.ref na11), .unset] [(.int 1)]))
  refine og_istore (L' := #[.val (.ref a1), .val (.int aa), .val (.int 4), .val (.ref na11), .val (.int 1)]) X21 hx rfl (hb hby d7_11) rfl ?_
  refine og_iload X21 hx rfl (hb hby d7_13) rfl ?_
  refine og_if_le (pc1 := 31) (pc2 := 18) X21 hx (hb hby d7_15) (by decide) (by decide) rfl (fun q => absurd q (by decide)) (fun _ => ?_)
  refine og_aloadN X21 hx rfl rfl (hb hby d7_18) rfl ?_
  refine og_bipush (v := 48) X21 hx rfl (hb hby d7_19) rfl ?_
  refine og_virtual (pc' := 24) (cells' := 2) (slots' := 14) (W := 0) X21 hx hZ (rm_sac_0_48 l Z a0 hw a1 bv kb (0 : Int32) (0 : Int32) (0 : Int32) (0 : Int32) cs hcs h11 n0 O E_a1 F_value_a1 F_coder_a1 F_count_a1 V_bv S_CS g_a1 g_bv ne_a1_bv) hown (ow71 hw) (ow72 hw) (own_nf hZ (ow74 hw)) (ow74 hw) (ow73 hw) (ow7 hw) (ow75 hw) (by decide) (by rw [hml]; rfl) e21 opd_22 [(.int 48)] [] rfl rfl rfl rfl (by decide) (by decide) rfl rfl (by decide) (by decide) E_a1 (hb hby d7_21) rfl (fun v22 T22 h22 L22 X22 e22 z22 => ?_)
  obtain ⟨rfl, Nq22, K22, E_a1', F_value_a1', F_coder_a1', F_count_a1', V_bv'⟩ := z22; have N := Fr.app N Nq22
  have E_a1 := E_a1.keep K22; have E_bv := E_bv.keep K22; have E_na11 := E_na11.keep K22; have F_value_na11 := F_value_na11.keep K22 (ninS (Ne.symm ne_a1_na11) (ninS (Ne.symm ne_bv_na11) nin0)); have F_coder_na11 := F_coder_na11.keep K22 (ninS (Ne.symm ne_a1_na11) (ninS (Ne.symm ne_bv_na11) nin0)); have V_nb11 := V_nb11.keep K22 (ninS (Ne.symm ne_a1_nb11) (ninS (Ne.symm ne_bv_nb11) nin0))
  have O := O.keep K22 (allS g_a1 (allS g_bv all0)); have K := K.trans K22 (allS (Or.inl (List.mem_of_getElem? (i := 0) rfl)) (allS (Or.inl (List.mem_of_getElem? (i := 1) rfl)) all0))
  have V_bv := V_bv'
  have E_a1 := E_a1'; have F_value_a1 := F_value_a1'; have F_coder_a1 := F_coder_a1'; have F_count_a1 := F_count_a1'
  refine og_pop X22 hx rfl (hb hby d7_24) rfl ?_
  refine og_iinc (L' := #[.val (.ref a1), .val (.int aa), .val (.int 4), .val (.ref na11), .val (.int 0)]) (w := -1) X22 hx rfl rfl rfl (hb hby d7_25) rfl ?_
  refine og_goto (pc' := 13) X22 hx (hb hby d7_28) (by decide) (by decide) ?_
  refine og_iload X22 hx rfl (hb hby d7_13) rfl ?_
  refine og_if_le (pc1 := 31) (pc2 := 18) X22 hx (hb hby d7_15) (by decide) (by decide) rfl (fun _ => ?_) (fun q => absurd q (by decide))
  refine og_aloadN X22 hx rfl rfl (hb hby d7_31) rfl ?_
  refine og_aloadN X22 hx rfl rfl (hb hby d7_32) rfl ?_
  refine og_virtual (pc' := 36) (cells' := 2) (slots' := 14) (W := 0) X22 hx hZ (rm_sasN l Z a0 hw a1 na11 bv nb11 kb k11 (4 : Int32) (1 : Int32) (3 : Int32) (4 : Int32) [(.int g2), (.int g1), (.int g0)] [(.int 48), (.int 0), (.int 0), (.int 0)] [(.int g2), (.int g1), (.int g0)] [(.int 48), (.int g2), (.int g1), (.int g0)] (by decide) (by decide) (by decide) (by decide) rfl (Nat.le_of_ble_eq_true rfl) rfl rfl (by decide) cs hcs h22 n0 O E_a1 F_value_a1 F_coder_a1 F_count_a1 E_bv V_bv E_na11 F_value_na11 F_coder_na11 V_nb11 S_CS g_a1 g_bv ne_a1_bv (Ne.symm ne_bv_na11) (Ne.symm ne_bv_nb11) (Ne.symm ne_a1_na11) (Ne.symm ne_a1_nb11)) hown (ow97 hw) (ow98 hw) (own_nf hZ (ow100 hw)) (ow100 hw) (ow99 hw) (ow7 hw) (ow101 hw) (by decide) (by rw [hml]; rfl) e22 opd_23 [(.ref na11)] [] rfl rfl rfl rfl (by decide) (by decide) rfl rfl (by decide) (by decide) E_a1 (hb hby d7_33) rfl (fun v23 T23 h23 L23 X23 e23 z23 => ?_)
  obtain ⟨rfl, Nq23, K23, E_a1', F_value_a1', F_coder_a1', F_count_a1', V_bv'⟩ := z23; have N := Fr.app N Nq23
  have E_a1 := E_a1.keep K23; have E_bv := E_bv.keep K23; have E_na11 := E_na11.keep K23; have F_value_na11 := F_value_na11.keep K23 (ninS (Ne.symm ne_a1_na11) (ninS (Ne.symm ne_bv_na11) nin0)); have F_coder_na11 := F_coder_na11.keep K23 (ninS (Ne.symm ne_a1_na11) (ninS (Ne.symm ne_bv_na11) nin0)); have V_nb11 := V_nb11.keep K23 (ninS (Ne.symm ne_a1_nb11) (ninS (Ne.symm ne_bv_nb11) nin0))
  have O := O.keep K23 (allS g_a1 (allS g_bv all0)); have K := K.trans K23 (allS (Or.inl (List.mem_of_getElem? (i := 0) rfl)) (allS (Or.inl (List.mem_of_getElem? (i := 1) rfl)) all0))
  have V_bv := V_bv'
  have E_a1 := E_a1'; have F_value_a1 := F_value_a1'; have F_coder_a1 := F_coder_a1'; have F_count_a1 := F_count_a1'
  refine og_pop X23 hx rfl (hb hby d7_36) rfl ?_
  refine og_retV X23 hx hlk hret (hb hby d7_37) (by decide) (by decide) ?_
  rw [e23]; exact ⟨_, _, _, _, _, rfl, N, K, E_a1, F_value_a1, F_coder_a1, F_count_a1, V_bv, E_bv, Or.inr (Or.inr (Or.inl (⟨rfl, rfl, g0, g1, g2, rfl, hg0, hg1, hg2, hlo, hhi⟩)))⟩
 ·
  refine og_astoreN (L' := #[.val (.ref a1), .val (.int aa), .val (.int 4), .val (.ref na11), .unset]) X11 hx rfl rfl (hb hby d7_4) rfl ?_
  refine og_iloadN X11 hx rfl (hb hby d7_5) rfl ?_
  refine og_aloadN X11 hx rfl rfl (hb hby d7_6) rfl ?_
  refine og_virtual (pc' := 10) (cells' := 2) (slots' := 14) (W := 1) X11 hx hZ (rm_len l Z a0 hw na11 nb11 k11 (4 : Int32) _ cs hcs h11 n0 O E_na11 F_value_na11 F_coder_na11 V_nb11 S_CS) hown (ow60 hw) (ow61 hw) (own_nf hZ (ow63 hw)) (ow63 hw) (ow62 hw) (ow21 hw) (ow64 hw) (by decide) (by rw [hml]; rfl) e11 opd_13 [] [(.int 4)] rfl rfl rfl rfl (by decide) (by decide) rfl rfl (by decide) (by decide) E_na11 (hb hby d7_7) rfl (fun v24 T24 h24 L24 X24 e24 z24 => ?_)
  obtain ⟨rfl, Nq24, hq24⟩ := z24; replace e24 := e24.trans hq24; have N := Fr.app N Nq24
  refine og_isub X24 hx (hb hby d7_10) rfl ?_
  show OG p e below _ (T24.setTop (mkF m 11 #[.val (.ref a1), .val (.int aa), .val (.int 4), .val (.ref na11), .unset] [(.int 0)]))
  refine og_istore (L' := #[.val (.ref a1), .val (.int aa), .val (.int 4), .val (.ref na11), .val (.int 0)]) X24 hx rfl (hb hby d7_11) rfl ?_
  refine og_iload X24 hx rfl (hb hby d7_13) rfl ?_
  refine og_if_le (pc1 := 31) (pc2 := 18) X24 hx (hb hby d7_15) (by decide) (by decide) rfl (fun _ => ?_) (fun q => absurd q (by decide))
  refine og_aloadN X24 hx rfl rfl (hb hby d7_31) rfl ?_
  refine og_aloadN X24 hx rfl rfl (hb hby d7_32) rfl ?_
  refine og_virtual (pc' := 36) (cells' := 2) (slots' := 14) (W := 0) X24 hx hZ (rm_sasN l Z a0 hw a1 na11 bv nb11 kb k11 (4 : Int32) (0 : Int32) (4 : Int32) (4 : Int32) [(.int g3), (.int g2), (.int g1), (.int g0)] [(.int 0), (.int 0), (.int 0), (.int 0)] [(.int g3), (.int g2), (.int g1), (.int g0)] [(.int g3), (.int g2), (.int g1), (.int g0)] (by decide) (by decide) (by decide) (by decide) rfl (Nat.le_of_ble_eq_true rfl) rfl rfl (by decide) cs hcs h11 n0 O E_a1 F_value_a1 F_coder_a1 F_count_a1 E_bv V_bv E_na11 F_value_na11 F_coder_na11 V_nb11 S_CS g_a1 g_bv ne_a1_bv (Ne.symm ne_bv_na11) (Ne.symm ne_bv_nb11) (Ne.symm ne_a1_na11) (Ne.symm ne_a1_nb11)) hown (ow97 hw) (ow98 hw) (own_nf hZ (ow100 hw)) (ow100 hw) (ow99 hw) (ow7 hw) (ow101 hw) (by decide) (by rw [hml]; rfl) e24 opd_23 [(.ref na11)] [] rfl rfl rfl rfl (by decide) (by decide) rfl rfl (by decide) (by decide) E_a1 (hb hby d7_33) rfl (fun v25 T25 h25 L25 X25 e25 z25 => ?_)
  obtain ⟨rfl, Nq25, K25, E_a1', F_value_a1', F_coder_a1', F_count_a1', V_bv'⟩ := z25; have N := Fr.app N Nq25
  have E_a1 := E_a1.keep K25; have E_bv := E_bv.keep K25; have E_na11 := E_na11.keep K25; have F_value_na11 := F_value_na11.keep K25 (ninS (Ne.symm ne_a1_na11) (ninS (Ne.symm ne_bv_na11) nin0)); have F_coder_na11 := F_coder_na11.keep K25 (ninS (Ne.symm ne_a1_na11) (ninS (Ne.symm ne_bv_na11) nin0)); have V_nb11 := V_nb11.keep K25 (ninS (Ne.symm ne_a1_nb11) (ninS (Ne.symm ne_bv_nb11) nin0))
  have O := O.keep K25 (allS g_a1 (allS g_bv all0)); have K := K.trans K25 (allS (Or.inl (List.mem_of_getElem? (i := 0) rfl)) (allS (Or.inl (List.mem_of_getElem? (i := 1) rfl)) all0))
  have V_bv := V_bv'
  have E_a1 := E_a1'; have F_value_a1 := F_value_a1'; have F_coder_a1 := F_coder_a1'; have F_count_a1 := F_count_a1'
  refine og_pop X25 hx rfl (hb hby d7_36) rfl ?_
  refine og_retV X25 hx hlk hret (hb hby d7_37) (by decide) (by decide) ?_
  rw [e25]; exact ⟨_, _, _, _, _, rfl, N, K, E_a1, F_value_a1, F_coder_a1, F_count_a1, V_bv, E_bv, Or.inr (Or.inr (Or.inr (Or.inl (⟨rfl, rfl, g0, g1, g2, g3, rfl, hg0, hg1, hg2, hg3, hlo, hhi⟩))))⟩
 ·
  refine og_astoreN (L' := #[.val (.ref a1), .val (.int aa), .val (.int 4), .val (.ref na11), .unset]) X11 hx rfl rfl (hb hby d7_4) rfl ?_
  refine og_iloadN X11 hx rfl (hb hby d7_5) rfl ?_
  refine og_aloadN X11 hx rfl rfl (hb hby d7_6) rfl ?_
  refine og_virtual (pc' := 10) (cells' := 2) (slots' := 14) (W := 1) X11 hx hZ (rm_len l Z a0 hw na11 nb11 k11 (5 : Int32) _ cs hcs h11 n0 O E_na11 F_value_na11 F_coder_na11 V_nb11 S_CS) hown (ow60 hw) (ow61 hw) (own_nf hZ (ow63 hw)) (ow63 hw) (ow62 hw) (ow21 hw) (ow64 hw) (by decide) (by rw [hml]; rfl) e11 opd_13 [] [(.int 4)] rfl rfl rfl rfl (by decide) (by decide) rfl rfl (by decide) (by decide) E_na11 (hb hby d7_7) rfl (fun v26 T26 h26 L26 X26 e26 z26 => ?_)
  obtain ⟨rfl, Nq26, hq26⟩ := z26; replace e26 := e26.trans hq26; have N := Fr.app N Nq26
  refine og_isub X26 hx (hb hby d7_10) rfl ?_
  show OG p e below _ (T26.setTop (mkF m 11 #[.val (.ref a1), .val (.int aa), .val (.int 4), .val (.ref na11), .unset] [(.int (-1))]))
  refine og_istore (L' := #[.val (.ref a1), .val (.int aa), .val (.int 4), .val (.ref na11), .val (.int (-1))]) X26 hx rfl (hb hby d7_11) rfl ?_
  refine og_iload X26 hx rfl (hb hby d7_13) rfl ?_
  refine og_if_le (pc1 := 31) (pc2 := 18) X26 hx (hb hby d7_15) (by decide) (by decide) rfl (fun _ => ?_) (fun q => absurd q (by decide))
  refine og_aloadN X26 hx rfl rfl (hb hby d7_31) rfl ?_
  refine og_aloadN X26 hx rfl rfl (hb hby d7_32) rfl ?_
  refine og_virtual (pc' := 36) (cells' := 3) (slots' := 25) (W := 0) X26 hx hZ (rm_sasG l Z a0 hw a1 na11 bv nb11 kb k11 (5 : Int32) (0 : Int32) (5 : Int32) (10 : Int32) [(.int g4), (.int g3), (.int g2), (.int g1), (.int g0)] [(.int 0), (.int 0), (.int 0), (.int 0), (.int 0), (.int 0), (.int 0), (.int 0), (.int 0), (.int 0)] [(.int g4), (.int g3), (.int g2), (.int g1), (.int g0)] [(.int g4), (.int g3), (.int g2), (.int g1), (.int g0), (.int 0), (.int 0), (.int 0), (.int 0), (.int 0)] (by decide) (by decide) (by decide) (by decide) rfl (Nat.le_of_ble_eq_true rfl) rfl rfl (0 : Int32) (0 : Int32) (0 : Int32) (0 : Int32) 6 rfl (Or.inl (⟨rfl, rfl, rfl⟩)) cs hcs h11 n0 O E_a1 F_value_a1 F_coder_a1 F_count_a1 E_bv V_bv E_na11 F_value_na11 F_coder_na11 V_nb11 S_CS g_a1 g_bv ne_a1_bv (Ne.symm ne_bv_na11) (Ne.symm ne_bv_nb11) (Ne.symm ne_a1_na11) (Ne.symm ne_a1_nb11)) hown (ow97 hw) (ow98 hw) (own_nf hZ (ow100 hw)) (ow100 hw) (ow99 hw) (ow7 hw) (ow101 hw) (by decide) (by rw [hml]; rfl) e26 opd_23 [(.ref na11)] [] rfl rfl rfl rfl (by decide) (by decide) rfl rfl (by decide) (by decide) E_a1 (hb hby d7_33) rfl (fun v27 T27 h27 L27 X27 e27 z27 => ?_)
  obtain ⟨nb27, k27, rfl, Nq27, K27, sb27, E_a1', F_value_a1', F_coder_a1', F_count_a1', V_nb27, E_nb27⟩ := z27; have N := Fr.app N Nq27
  have s_nb27 : h11.size ≤ nb27 := sb27; have g_nb27 : n0 ≤ nb27 := Nat.le_trans (own_n0 O) s_nb27; have sz_nb27 : h0.size ≤ nb27 := Nat.le_trans K.1 s_nb27; have ne_a1_nb27 : a1 ≠ nb27 := Nat.ne_of_lt (Nat.lt_of_lt_of_le E_a1.lt s_nb27); have ne_bv_nb27 : bv ≠ nb27 := Nat.ne_of_lt (Nat.lt_of_lt_of_le E_bv.lt s_nb27); have ne_dO_nb27 : dO ≠ nb27 := O.ne V_dO.lt g_nb27
  have ne_dT_nb27 : dT ≠ nb27 := O.ne V_dT.lt g_nb27; have ne_na11_nb27 : na11 ≠ nb27 := Nat.ne_of_lt (Nat.lt_of_lt_of_le E_na11.lt s_nb27); have ne_nb11_nb27 : nb11 ≠ nb27 := Nat.ne_of_lt (Nat.lt_of_lt_of_le V_nb11.lt s_nb27)
  have E_a1 := E_a1.keep K27; have E_bv := E_bv.keep K27; have E_na11 := E_na11.keep K27; have F_value_na11 := F_value_na11.keep K27 (ninS (Ne.symm ne_a1_na11) (ninS (Ne.symm ne_bv_na11) nin0)); have F_coder_na11 := F_coder_na11.keep K27 (ninS (Ne.symm ne_a1_na11) (ninS (Ne.symm ne_bv_na11) nin0)); have V_nb11 := V_nb11.keep K27 (ninS (Ne.symm ne_a1_nb11) (ninS (Ne.symm ne_bv_nb11) nin0))
  have O := O.keep K27 (allS g_a1 (allS g_bv all0)); have K := K.trans K27 (allS (Or.inl (List.mem_of_getElem? (i := 0) rfl)) (allS (Or.inl (List.mem_of_getElem? (i := 1) rfl)) all0))
  have E_a1 := E_a1'; have F_value_a1 := F_value_a1'; have F_coder_a1 := F_coder_a1'; have F_count_a1 := F_count_a1'
  refine og_pop X27 hx rfl (hb hby d7_36) rfl ?_
  refine og_retV X27 hx hlk hret (hb hby d7_37) (by decide) (by decide) ?_
  rw [e27]; exact ⟨_, _, _, _, _, rfl, N, K, E_a1, F_value_a1, F_coder_a1, F_count_a1, V_nb27, E_nb27, Or.inr (Or.inr (Or.inr (Or.inr (Or.inl (⟨rfl, rfl, g0, g1, g2, g3, g4, rfl, hg0, hg1, hg2, hg3, hg4, hlo, hhi⟩)))))⟩
 ·
  refine og_astoreN (L' := #[.val (.ref a1), .val (.int aa), .val (.int 4), .val (.ref na11), .unset]) X11 hx rfl rfl (hb hby d7_4) rfl ?_
  refine og_iloadN X11 hx rfl (hb hby d7_5) rfl ?_
  refine og_aloadN X11 hx rfl rfl (hb hby d7_6) rfl ?_
  refine og_virtual (pc' := 10) (cells' := 2) (slots' := 14) (W := 1) X11 hx hZ (rm_len l Z a0 hw na11 nb11 k11 (6 : Int32) _ cs hcs h11 n0 O E_na11 F_value_na11 F_coder_na11 V_nb11 S_CS) hown (ow60 hw) (ow61 hw) (own_nf hZ (ow63 hw)) (ow63 hw) (ow62 hw) (ow21 hw) (ow64 hw) (by decide) (by rw [hml]; rfl) e11 opd_13 [] [(.int 4)] rfl rfl rfl rfl (by decide) (by decide) rfl rfl (by decide) (by decide) E_na11 (hb hby d7_7) rfl (fun v28 T28 h28 L28 X28 e28 z28 => ?_)
  obtain ⟨rfl, Nq28, hq28⟩ := z28; replace e28 := e28.trans hq28; have N := Fr.app N Nq28
  refine og_isub X28 hx (hb hby d7_10) rfl ?_
  show OG p e below _ (T28.setTop (mkF m 11 #[.val (.ref a1), .val (.int aa), .val (.int 4), .val (.ref na11), .unset] [(.int (-2))]))
  refine og_istore (L' := #[.val (.ref a1), .val (.int aa), .val (.int 4), .val (.ref na11), .val (.int (-2))]) X28 hx rfl (hb hby d7_11) rfl ?_
  refine og_iload X28 hx rfl (hb hby d7_13) rfl ?_
  refine og_if_le (pc1 := 31) (pc2 := 18) X28 hx (hb hby d7_15) (by decide) (by decide) rfl (fun _ => ?_) (fun q => absurd q (by decide))
  refine og_aloadN X28 hx rfl rfl (hb hby d7_31) rfl ?_
  refine og_aloadN X28 hx rfl rfl (hb hby d7_32) rfl ?_
  refine og_virtual (pc' := 36) (cells' := 3) (slots' := 25) (W := 0) X28 hx hZ (rm_sasG l Z a0 hw a1 na11 bv nb11 kb k11 (6 : Int32) (0 : Int32) (6 : Int32) (10 : Int32) [(.int g5), (.int g4), (.int g3), (.int g2), (.int g1), (.int g0)] [(.int 0), (.int 0), (.int 0), (.int 0), (.int 0), (.int 0), (.int 0), (.int 0), (.int 0), (.int 0)] [(.int g5), (.int g4), (.int g3), (.int g2), (.int g1), (.int g0)] [(.int g5), (.int g4), (.int g3), (.int g2), (.int g1), (.int g0), (.int 0), (.int 0), (.int 0), (.int 0)] (by decide) (by decide) (by decide) (by decide) rfl (Nat.le_of_ble_eq_true rfl) rfl rfl (0 : Int32) (0 : Int32) (0 : Int32) (0 : Int32) 6 rfl (Or.inr (Or.inl (⟨rfl, rfl, rfl⟩))) cs hcs h11 n0 O E_a1 F_value_a1 F_coder_a1 F_count_a1 E_bv V_bv E_na11 F_value_na11 F_coder_na11 V_nb11 S_CS g_a1 g_bv ne_a1_bv (Ne.symm ne_bv_na11) (Ne.symm ne_bv_nb11) (Ne.symm ne_a1_na11) (Ne.symm ne_a1_nb11)) hown (ow97 hw) (ow98 hw) (own_nf hZ (ow100 hw)) (ow100 hw) (ow99 hw) (ow7 hw) (ow101 hw) (by decide) (by rw [hml]; rfl) e28 opd_23 [(.ref na11)] [] rfl rfl rfl rfl (by decide) (by decide) rfl rfl (by decide) (by decide) E_a1 (hb hby d7_33) rfl (fun v29 T29 h29 L29 X29 e29 z29 => ?_)
  obtain ⟨nb29, k29, rfl, Nq29, K29, sb29, E_a1', F_value_a1', F_coder_a1', F_count_a1', V_nb29, E_nb29⟩ := z29; have N := Fr.app N Nq29
  have s_nb29 : h11.size ≤ nb29 := sb29; have g_nb29 : n0 ≤ nb29 := Nat.le_trans (own_n0 O) s_nb29; have sz_nb29 : h0.size ≤ nb29 := Nat.le_trans K.1 s_nb29; have ne_a1_nb29 : a1 ≠ nb29 := Nat.ne_of_lt (Nat.lt_of_lt_of_le E_a1.lt s_nb29); have ne_bv_nb29 : bv ≠ nb29 := Nat.ne_of_lt (Nat.lt_of_lt_of_le E_bv.lt s_nb29); have ne_dO_nb29 : dO ≠ nb29 := O.ne V_dO.lt g_nb29
  have ne_dT_nb29 : dT ≠ nb29 := O.ne V_dT.lt g_nb29; have ne_na11_nb29 : na11 ≠ nb29 := Nat.ne_of_lt (Nat.lt_of_lt_of_le E_na11.lt s_nb29); have ne_nb11_nb29 : nb11 ≠ nb29 := Nat.ne_of_lt (Nat.lt_of_lt_of_le V_nb11.lt s_nb29)
  have E_a1 := E_a1.keep K29; have E_bv := E_bv.keep K29; have E_na11 := E_na11.keep K29; have F_value_na11 := F_value_na11.keep K29 (ninS (Ne.symm ne_a1_na11) (ninS (Ne.symm ne_bv_na11) nin0)); have F_coder_na11 := F_coder_na11.keep K29 (ninS (Ne.symm ne_a1_na11) (ninS (Ne.symm ne_bv_na11) nin0)); have V_nb11 := V_nb11.keep K29 (ninS (Ne.symm ne_a1_nb11) (ninS (Ne.symm ne_bv_nb11) nin0))
  have O := O.keep K29 (allS g_a1 (allS g_bv all0)); have K := K.trans K29 (allS (Or.inl (List.mem_of_getElem? (i := 0) rfl)) (allS (Or.inl (List.mem_of_getElem? (i := 1) rfl)) all0))
  have E_a1 := E_a1'; have F_value_a1 := F_value_a1'; have F_coder_a1 := F_coder_a1'; have F_count_a1 := F_count_a1'
  refine og_pop X29 hx rfl (hb hby d7_36) rfl ?_
  refine og_retV X29 hx hlk hret (hb hby d7_37) (by decide) (by decide) ?_
  rw [e29]; exact ⟨_, _, _, _, _, rfl, N, K, E_a1, F_value_a1, F_coder_a1, F_count_a1, V_nb29, E_nb29, Or.inr (Or.inr (Or.inr (Or.inr (Or.inr (Or.inl (⟨rfl, rfl, g0, g1, g2, g3, g4, g5, rfl, hg0, hg1, hg2, hg3, hg4, hg5, hlo, hhi⟩))))))⟩
 ·
  refine og_astoreN (L' := #[.val (.ref a1), .val (.int aa), .val (.int 4), .val (.ref na11), .unset]) X11 hx rfl rfl (hb hby d7_4) rfl ?_
  refine og_iloadN X11 hx rfl (hb hby d7_5) rfl ?_
  refine og_aloadN X11 hx rfl rfl (hb hby d7_6) rfl ?_
  refine og_virtual (pc' := 10) (cells' := 2) (slots' := 14) (W := 1) X11 hx hZ (rm_len l Z a0 hw na11 nb11 k11 (7 : Int32) _ cs hcs h11 n0 O E_na11 F_value_na11 F_coder_na11 V_nb11 S_CS) hown (ow60 hw) (ow61 hw) (own_nf hZ (ow63 hw)) (ow63 hw) (ow62 hw) (ow21 hw) (ow64 hw) (by decide) (by rw [hml]; rfl) e11 opd_13 [] [(.int 4)] rfl rfl rfl rfl (by decide) (by decide) rfl rfl (by decide) (by decide) E_na11 (hb hby d7_7) rfl (fun v30 T30 h30 L30 X30 e30 z30 => ?_)
  obtain ⟨rfl, Nq30, hq30⟩ := z30; replace e30 := e30.trans hq30; have N := Fr.app N Nq30
  refine og_isub X30 hx (hb hby d7_10) rfl ?_
  show OG p e below _ (T30.setTop (mkF m 11 #[.val (.ref a1), .val (.int aa), .val (.int 4), .val (.ref na11), .unset] [(.int (-3))]))
  refine og_istore (L' := #[.val (.ref a1), .val (.int aa), .val (.int 4), .val (.ref na11), .val (.int (-3))]) X30 hx rfl (hb hby d7_11) rfl ?_
  refine og_iload X30 hx rfl (hb hby d7_13) rfl ?_
  refine og_if_le (pc1 := 31) (pc2 := 18) X30 hx (hb hby d7_15) (by decide) (by decide) rfl (fun _ => ?_) (fun q => absurd q (by decide))
  refine og_aloadN X30 hx rfl rfl (hb hby d7_31) rfl ?_
  refine og_aloadN X30 hx rfl rfl (hb hby d7_32) rfl ?_
  refine og_virtual (pc' := 36) (cells' := 3) (slots' := 25) (W := 0) X30 hx hZ (rm_sasG l Z a0 hw a1 na11 bv nb11 kb k11 (7 : Int32) (0 : Int32) (7 : Int32) (10 : Int32) [(.int g6), (.int g5), (.int g4), (.int g3), (.int g2), (.int g1), (.int g0)] [(.int 0), (.int 0), (.int 0), (.int 0), (.int 0), (.int 0), (.int 0), (.int 0), (.int 0), (.int 0)] [(.int g6), (.int g5), (.int g4), (.int g3), (.int g2), (.int g1), (.int g0)] [(.int g6), (.int g5), (.int g4), (.int g3), (.int g2), (.int g1), (.int g0), (.int 0), (.int 0), (.int 0)] (by decide) (by decide) (by decide) (by decide) rfl (Nat.le_of_ble_eq_true rfl) rfl rfl (0 : Int32) (0 : Int32) (0 : Int32) (0 : Int32) 6 rfl (Or.inr (Or.inr (Or.inl (⟨rfl, rfl, rfl⟩)))) cs hcs h11 n0 O E_a1 F_value_a1 F_coder_a1 F_count_a1 E_bv V_bv E_na11 F_value_na11 F_coder_na11 V_nb11 S_CS g_a1 g_bv ne_a1_bv (Ne.symm ne_bv_na11) (Ne.symm ne_bv_nb11) (Ne.symm ne_a1_na11) (Ne.symm ne_a1_nb11)) hown (ow97 hw) (ow98 hw) (own_nf hZ (ow100 hw)) (ow100 hw) (ow99 hw) (ow7 hw) (ow101 hw) (by decide) (by rw [hml]; rfl) e30 opd_23 [(.ref na11)] [] rfl rfl rfl rfl (by decide) (by decide) rfl rfl (by decide) (by decide) E_a1 (hb hby d7_33) rfl (fun v31 T31 h31 L31 X31 e31 z31 => ?_)
  obtain ⟨nb31, k31, rfl, Nq31, K31, sb31, E_a1', F_value_a1', F_coder_a1', F_count_a1', V_nb31, E_nb31⟩ := z31; have N := Fr.app N Nq31
  have s_nb31 : h11.size ≤ nb31 := sb31; have g_nb31 : n0 ≤ nb31 := Nat.le_trans (own_n0 O) s_nb31; have sz_nb31 : h0.size ≤ nb31 := Nat.le_trans K.1 s_nb31; have ne_a1_nb31 : a1 ≠ nb31 := Nat.ne_of_lt (Nat.lt_of_lt_of_le E_a1.lt s_nb31); have ne_bv_nb31 : bv ≠ nb31 := Nat.ne_of_lt (Nat.lt_of_lt_of_le E_bv.lt s_nb31); have ne_dO_nb31 : dO ≠ nb31 := O.ne V_dO.lt g_nb31
  have ne_dT_nb31 : dT ≠ nb31 := O.ne V_dT.lt g_nb31; have ne_na11_nb31 : na11 ≠ nb31 := Nat.ne_of_lt (Nat.lt_of_lt_of_le E_na11.lt s_nb31); have ne_nb11_nb31 : nb11 ≠ nb31 := Nat.ne_of_lt (Nat.lt_of_lt_of_le V_nb11.lt s_nb31)
  have E_a1 := E_a1.keep K31; have E_bv := E_bv.keep K31; have E_na11 := E_na11.keep K31; have F_value_na11 := F_value_na11.keep K31 (ninS (Ne.symm ne_a1_na11) (ninS (Ne.symm ne_bv_na11) nin0)); have F_coder_na11 := F_coder_na11.keep K31 (ninS (Ne.symm ne_a1_na11) (ninS (Ne.symm ne_bv_na11) nin0)); have V_nb11 := V_nb11.keep K31 (ninS (Ne.symm ne_a1_nb11) (ninS (Ne.symm ne_bv_nb11) nin0))
  have O := O.keep K31 (allS g_a1 (allS g_bv all0)); have K := K.trans K31 (allS (Or.inl (List.mem_of_getElem? (i := 0) rfl)) (allS (Or.inl (List.mem_of_getElem? (i := 1) rfl)) all0))
  have E_a1 := E_a1'; have F_value_a1 := F_value_a1'; have F_coder_a1 := F_coder_a1'; have F_count_a1 := F_count_a1'
  refine og_pop X31 hx rfl (hb hby d7_36) rfl ?_
  refine og_retV X31 hx hlk hret (hb hby d7_37) (by decide) (by decide) ?_
  rw [e31]; exact ⟨_, _, _, _, _, rfl, N, K, E_a1, F_value_a1, F_coder_a1, F_count_a1, V_nb31, E_nb31, Or.inr (Or.inr (Or.inr (Or.inr (Or.inr (Or.inr (Or.inl (⟨rfl, rfl, g0, g1, g2, g3, g4, g5, g6, rfl, hg0, hg1, hg2, hg3, hg4, hg5, hg6, hlo, hhi⟩)))))))⟩
 ·
  refine og_astoreN (L' := #[.val (.ref a1), .val (.int aa), .val (.int 4), .val (.ref na11), .unset]) X11 hx rfl rfl (hb hby d7_4) rfl ?_
  refine og_iloadN X11 hx rfl (hb hby d7_5) rfl ?_
  refine og_aloadN X11 hx rfl rfl (hb hby d7_6) rfl ?_
  refine og_virtual (pc' := 10) (cells' := 2) (slots' := 14) (W := 1) X11 hx hZ (rm_len l Z a0 hw na11 nb11 k11 (8 : Int32) _ cs hcs h11 n0 O E_na11 F_value_na11 F_coder_na11 V_nb11 S_CS) hown (ow60 hw) (ow61 hw) (own_nf hZ (ow63 hw)) (ow63 hw) (ow62 hw) (ow21 hw) (ow64 hw) (by decide) (by rw [hml]; rfl) e11 opd_13 [] [(.int 4)] rfl rfl rfl rfl (by decide) (by decide) rfl rfl (by decide) (by decide) E_na11 (hb hby d7_7) rfl (fun v32 T32 h32 L32 X32 e32 z32 => ?_)
  obtain ⟨rfl, Nq32, hq32⟩ := z32; replace e32 := e32.trans hq32; have N := Fr.app N Nq32
  refine og_isub X32 hx (hb hby d7_10) rfl ?_
  show OG p e below _ (T32.setTop (mkF m 11 #[.val (.ref a1), .val (.int aa), .val (.int 4), .val (.ref na11), .unset] [(.int (-4))]))
  refine og_istore (L' := #[.val (.ref a1), .val (.int aa), .val (.int 4), .val (.ref na11), .val (.int (-4))]) X32 hx rfl (hb hby d7_11) rfl ?_
  refine og_iload X32 hx rfl (hb hby d7_13) rfl ?_
  refine og_if_le (pc1 := 31) (pc2 := 18) X32 hx (hb hby d7_15) (by decide) (by decide) rfl (fun _ => ?_) (fun q => absurd q (by decide))
  refine og_aloadN X32 hx rfl rfl (hb hby d7_31) rfl ?_
  refine og_aloadN X32 hx rfl rfl (hb hby d7_32) rfl ?_
  refine og_virtual (pc' := 36) (cells' := 3) (slots' := 25) (W := 0) X32 hx hZ (rm_sasG l Z a0 hw a1 na11 bv nb11 kb k11 (8 : Int32) (0 : Int32) (8 : Int32) (10 : Int32) [(.int g7), (.int g6), (.int g5), (.int g4), (.int g3), (.int g2), (.int g1), (.int g0)] [(.int 0), (.int 0), (.int 0), (.int 0), (.int 0), (.int 0), (.int 0), (.int 0), (.int 0), (.int 0)] [(.int g7), (.int g6), (.int g5), (.int g4), (.int g3), (.int g2), (.int g1), (.int g0)] [(.int g7), (.int g6), (.int g5), (.int g4), (.int g3), (.int g2), (.int g1), (.int g0), (.int 0), (.int 0)] (by decide) (by decide) (by decide) (by decide) rfl (Nat.le_of_ble_eq_true rfl) rfl rfl (0 : Int32) (0 : Int32) (0 : Int32) (0 : Int32) 6 rfl (Or.inr (Or.inr (Or.inr (Or.inl (⟨rfl, rfl, rfl⟩))))) cs hcs h11 n0 O E_a1 F_value_a1 F_coder_a1 F_count_a1 E_bv V_bv E_na11 F_value_na11 F_coder_na11 V_nb11 S_CS g_a1 g_bv ne_a1_bv (Ne.symm ne_bv_na11) (Ne.symm ne_bv_nb11) (Ne.symm ne_a1_na11) (Ne.symm ne_a1_nb11)) hown (ow97 hw) (ow98 hw) (own_nf hZ (ow100 hw)) (ow100 hw) (ow99 hw) (ow7 hw) (ow101 hw) (by decide) (by rw [hml]; rfl) e32 opd_23 [(.ref na11)] [] rfl rfl rfl rfl (by decide) (by decide) rfl rfl (by decide) (by decide) E_a1 (hb hby d7_33) rfl (fun v33 T33 h33 L33 X33 e33 z33 => ?_)
  obtain ⟨nb33, k33, rfl, Nq33, K33, sb33, E_a1', F_value_a1', F_coder_a1', F_count_a1', V_nb33, E_nb33⟩ := z33; have N := Fr.app N Nq33
  have s_nb33 : h11.size ≤ nb33 := sb33; have g_nb33 : n0 ≤ nb33 := Nat.le_trans (own_n0 O) s_nb33; have sz_nb33 : h0.size ≤ nb33 := Nat.le_trans K.1 s_nb33; have ne_a1_nb33 : a1 ≠ nb33 := Nat.ne_of_lt (Nat.lt_of_lt_of_le E_a1.lt s_nb33); have ne_bv_nb33 : bv ≠ nb33 := Nat.ne_of_lt (Nat.lt_of_lt_of_le E_bv.lt s_nb33); have ne_dO_nb33 : dO ≠ nb33 := O.ne V_dO.lt g_nb33
  have ne_dT_nb33 : dT ≠ nb33 := O.ne V_dT.lt g_nb33; have ne_na11_nb33 : na11 ≠ nb33 := Nat.ne_of_lt (Nat.lt_of_lt_of_le E_na11.lt s_nb33); have ne_nb11_nb33 : nb11 ≠ nb33 := Nat.ne_of_lt (Nat.lt_of_lt_of_le V_nb11.lt s_nb33)
  have E_a1 := E_a1.keep K33; have E_bv := E_bv.keep K33; have E_na11 := E_na11.keep K33; have F_value_na11 := F_value_na11.keep K33 (ninS (Ne.symm ne_a1_na11) (ninS (Ne.symm ne_bv_na11) nin0)); have F_coder_na11 := F_coder_na11.keep K33 (ninS (Ne.symm ne_a1_na11) (ninS (Ne.symm ne_bv_na11) nin0)); have V_nb11 := V_nb11.keep K33 (ninS (Ne.symm ne_a1_nb11) (ninS (Ne.symm ne_bv_nb11) nin0))
  have O := O.keep K33 (allS g_a1 (allS g_bv all0)); have K := K.trans K33 (allS (Or.inl (List.mem_of_getElem? (i := 0) rfl)) (allS (Or.inl (List.mem_of_getElem? (i := 1) rfl)) all0))
  have E_a1 := E_a1'; have F_value_a1 := F_value_a1'; have F_coder_a1 := F_coder_a1'; have F_count_a1 := F_count_a1'
  refine og_pop X33 hx rfl (hb hby d7_36) rfl ?_
  refine og_retV X33 hx hlk hret (hb hby d7_37) (by decide) (by decide) ?_
  rw [e33]; exact ⟨_, _, _, _, _, rfl, N, K, E_a1, F_value_a1, F_coder_a1, F_count_a1, V_nb33, E_nb33, Or.inr (Or.inr (Or.inr (Or.inr (Or.inr (Or.inr (Or.inr (Or.inl (⟨rfl, rfl, g0, g1, g2, g3, g4, g5, g6, g7, rfl, hg0, hg1, hg2, hg3, hg4, hg5, hg6, hg7, hlo, hhi⟩))))))))⟩
 ·
  refine og_astoreN (L' := #[.val (.ref a1), .val (.int aa), .val (.int 4), .val (.ref na11), .unset]) X11 hx rfl rfl (hb hby d7_4) rfl ?_
  refine og_iloadN X11 hx rfl (hb hby d7_5) rfl ?_
  refine og_aloadN X11 hx rfl rfl (hb hby d7_6) rfl ?_
  refine og_virtual (pc' := 10) (cells' := 2) (slots' := 14) (W := 1) X11 hx hZ (rm_len l Z a0 hw na11 nb11 k11 (9 : Int32) _ cs hcs h11 n0 O E_na11 F_value_na11 F_coder_na11 V_nb11 S_CS) hown (ow60 hw) (ow61 hw) (own_nf hZ (ow63 hw)) (ow63 hw) (ow62 hw) (ow21 hw) (ow64 hw) (by decide) (by rw [hml]; rfl) e11 opd_13 [] [(.int 4)] rfl rfl rfl rfl (by decide) (by decide) rfl rfl (by decide) (by decide) E_na11 (hb hby d7_7) rfl (fun v34 T34 h34 L34 X34 e34 z34 => ?_)
  obtain ⟨rfl, Nq34, hq34⟩ := z34; replace e34 := e34.trans hq34; have N := Fr.app N Nq34
  refine og_isub X34 hx (hb hby d7_10) rfl ?_
  show OG p e below _ (T34.setTop (mkF m 11 #[.val (.ref a1), .val (.int aa), .val (.int 4), .val (.ref na11), .unset] [(.int (-5))]))
  refine og_istore (L' := #[.val (.ref a1), .val (.int aa), .val (.int 4), .val (.ref na11), .val (.int (-5))]) X34 hx rfl (hb hby d7_11) rfl ?_
  refine og_iload X34 hx rfl (hb hby d7_13) rfl ?_
  refine og_if_le (pc1 := 31) (pc2 := 18) X34 hx (hb hby d7_15) (by decide) (by decide) rfl (fun _ => ?_) (fun q => absurd q (by decide))
  refine og_aloadN X34 hx rfl rfl (hb hby d7_31) rfl ?_
  refine og_aloadN X34 hx rfl rfl (hb hby d7_32) rfl ?_
  refine og_virtual (pc' := 36) (cells' := 3) (slots' := 25) (W := 0) X34 hx hZ (rm_sasG l Z a0 hw a1 na11 bv nb11 kb k11 (9 : Int32) (0 : Int32) (9 : Int32) (10 : Int32) [(.int g8), (.int g7), (.int g6), (.int g5), (.int g4), (.int g3), (.int g2), (.int g1), (.int g0)] [(.int 0), (.int 0), (.int 0), (.int 0), (.int 0), (.int 0), (.int 0), (.int 0), (.int 0), (.int 0)] [(.int g8), (.int g7), (.int g6), (.int g5), (.int g4), (.int g3), (.int g2), (.int g1), (.int g0)] [(.int g8), (.int g7), (.int g6), (.int g5), (.int g4), (.int g3), (.int g2), (.int g1), (.int g0), (.int 0)] (by decide) (by decide) (by decide) (by decide) rfl (Nat.le_of_ble_eq_true rfl) rfl rfl (0 : Int32) (0 : Int32) (0 : Int32) (0 : Int32) 6 rfl (Or.inr (Or.inr (Or.inr (Or.inr (Or.inl (⟨rfl, rfl, rfl⟩)))))) cs hcs h11 n0 O E_a1 F_value_a1 F_coder_a1 F_count_a1 E_bv V_bv E_na11 F_value_na11 F_coder_na11 V_nb11 S_CS g_a1 g_bv ne_a1_bv (Ne.symm ne_bv_na11) (Ne.symm ne_bv_nb11) (Ne.symm ne_a1_na11) (Ne.symm ne_a1_nb11)) hown (ow97 hw) (ow98 hw) (own_nf hZ (ow100 hw)) (ow100 hw) (ow99 hw) (ow7 hw) (ow101 hw) (by decide) (by rw [hml]; rfl) e34 opd_23 [(.ref na11)] [] rfl rfl rfl rfl (by decide) (by decide) rfl rfl (by decide) (by decide) E_a1 (hb hby d7_33) rfl (fun v35 T35 h35 L35 X35 e35 z35 => ?_)
  obtain ⟨nb35, k35, rfl, Nq35, K35, sb35, E_a1', F_value_a1', F_coder_a1', F_count_a1', V_nb35, E_nb35⟩ := z35; have N := Fr.app N Nq35
  have s_nb35 : h11.size ≤ nb35 := sb35; have g_nb35 : n0 ≤ nb35 := Nat.le_trans (own_n0 O) s_nb35; have sz_nb35 : h0.size ≤ nb35 := Nat.le_trans K.1 s_nb35; have ne_a1_nb35 : a1 ≠ nb35 := Nat.ne_of_lt (Nat.lt_of_lt_of_le E_a1.lt s_nb35); have ne_bv_nb35 : bv ≠ nb35 := Nat.ne_of_lt (Nat.lt_of_lt_of_le E_bv.lt s_nb35); have ne_dO_nb35 : dO ≠ nb35 := O.ne V_dO.lt g_nb35
  have ne_dT_nb35 : dT ≠ nb35 := O.ne V_dT.lt g_nb35; have ne_na11_nb35 : na11 ≠ nb35 := Nat.ne_of_lt (Nat.lt_of_lt_of_le E_na11.lt s_nb35); have ne_nb11_nb35 : nb11 ≠ nb35 := Nat.ne_of_lt (Nat.lt_of_lt_of_le V_nb11.lt s_nb35)
  have E_a1 := E_a1.keep K35; have E_bv := E_bv.keep K35; have E_na11 := E_na11.keep K35; have F_value_na11 := F_value_na11.keep K35 (ninS (Ne.symm ne_a1_na11) (ninS (Ne.symm ne_bv_na11) nin0)); have F_coder_na11 := F_coder_na11.keep K35 (ninS (Ne.symm ne_a1_na11) (ninS (Ne.symm ne_bv_na11) nin0)); have V_nb11 := V_nb11.keep K35 (ninS (Ne.symm ne_a1_nb11) (ninS (Ne.symm ne_bv_nb11) nin0))
  have O := O.keep K35 (allS g_a1 (allS g_bv all0)); have K := K.trans K35 (allS (Or.inl (List.mem_of_getElem? (i := 0) rfl)) (allS (Or.inl (List.mem_of_getElem? (i := 1) rfl)) all0))
  have E_a1 := E_a1'; have F_value_a1 := F_value_a1'; have F_coder_a1 := F_coder_a1'; have F_count_a1 := F_count_a1'
  refine og_pop X35 hx rfl (hb hby d7_36) rfl ?_
  refine og_retV X35 hx hlk hret (hb hby d7_37) (by decide) (by decide) ?_
  rw [e35]; exact ⟨_, _, _, _, _, rfl, N, K, E_a1, F_value_a1, F_coder_a1, F_count_a1, V_nb35, E_nb35, Or.inr (Or.inr (Or.inr (Or.inr (Or.inr (Or.inr (Or.inr (Or.inr (Or.inl (⟨rfl, rfl, g0, g1, g2, g3, g4, g5, g6, g7, g8, rfl, hg0, hg1, hg2, hg3, hg4, hg5, hg6, hg7, hg8, hlo, hhi⟩)))))))))⟩
 ·
  refine og_astoreN (L' := #[.val (.ref a1), .val (.int aa), .val (.int 4), .val (.ref na11), .unset]) X11 hx rfl rfl (hb hby d7_4) rfl ?_
  refine og_iloadN X11 hx rfl (hb hby d7_5) rfl ?_
  refine og_aloadN X11 hx rfl rfl (hb hby d7_6) rfl ?_
  refine og_virtual (pc' := 10) (cells' := 2) (slots' := 14) (W := 1) X11 hx hZ (rm_len l Z a0 hw na11 nb11 k11 (10 : Int32) _ cs hcs h11 n0 O E_na11 F_value_na11 F_coder_na11 V_nb11 S_CS) hown (ow60 hw) (ow61 hw) (own_nf hZ (ow63 hw)) (ow63 hw) (ow62 hw) (ow21 hw) (ow64 hw) (by decide) (by rw [hml]; rfl) e11 opd_13 [] [(.int 4)] rfl rfl rfl rfl (by decide) (by decide) rfl rfl (by decide) (by decide) E_na11 (hb hby d7_7) rfl (fun v36 T36 h36 L36 X36 e36 z36 => ?_)
  obtain ⟨rfl, Nq36, hq36⟩ := z36; replace e36 := e36.trans hq36; have N := Fr.app N Nq36
  refine og_isub X36 hx (hb hby d7_10) rfl ?_
  show OG p e below _ (T36.setTop (mkF m 11 #[.val (.ref a1), .val (.int aa), .val (.int 4), .val (.ref na11), .unset] [(.int (-6))]))
  refine og_istore (L' := #[.val (.ref a1), .val (.int aa), .val (.int 4), .val (.ref na11), .val (.int (-6))]) X36 hx rfl (hb hby d7_11) rfl ?_
  refine og_iload X36 hx rfl (hb hby d7_13) rfl ?_
  refine og_if_le (pc1 := 31) (pc2 := 18) X36 hx (hb hby d7_15) (by decide) (by decide) rfl (fun _ => ?_) (fun q => absurd q (by decide))
  refine og_aloadN X36 hx rfl rfl (hb hby d7_31) rfl ?_
  refine og_aloadN X36 hx rfl rfl (hb hby d7_32) rfl ?_
  refine og_virtual (pc' := 36) (cells' := 3) (slots' := 25) (W := 0) X36 hx hZ (rm_sasG l Z a0 hw a1 na11 bv nb11 kb k11 (10 : Int32) (0 : Int32) (10 : Int32) (10 : Int32) [(.int g9), (.int g8), (.int g7), (.int g6), (.int g5), (.int g4), (.int g3), (.int g2), (.int g1), (.int g0)] [(.int 0), (.int 0), (.int 0), (.int 0), (.int 0), (.int 0), (.int 0), (.int 0), (.int 0), (.int 0)] [(.int g9), (.int g8), (.int g7), (.int g6), (.int g5), (.int g4), (.int g3), (.int g2), (.int g1), (.int g0)] [(.int g9), (.int g8), (.int g7), (.int g6), (.int g5), (.int g4), (.int g3), (.int g2), (.int g1), (.int g0)] (by decide) (by decide) (by decide) (by decide) rfl (Nat.le_of_ble_eq_true rfl) rfl rfl (0 : Int32) (0 : Int32) (0 : Int32) (0 : Int32) 6 rfl (Or.inr (Or.inr (Or.inr (Or.inr (Or.inr (Or.inl (⟨rfl, rfl, rfl⟩))))))) cs hcs h11 n0 O E_a1 F_value_a1 F_coder_a1 F_count_a1 E_bv V_bv E_na11 F_value_na11 F_coder_na11 V_nb11 S_CS g_a1 g_bv ne_a1_bv (Ne.symm ne_bv_na11) (Ne.symm ne_bv_nb11) (Ne.symm ne_a1_na11) (Ne.symm ne_a1_nb11)) hown (ow97 hw) (ow98 hw) (own_nf hZ (ow100 hw)) (ow100 hw) (ow99 hw) (ow7 hw) (ow101 hw) (by decide) (by rw [hml]; rfl) e36 opd_23 [(.ref na11)] [] rfl rfl rfl rfl (by decide) (by decide) rfl rfl (by decide) (by decide) E_a1 (hb hby d7_33) rfl (fun v37 T37 h37 L37 X37 e37 z37 => ?_)
  obtain ⟨nb37, k37, rfl, Nq37, K37, sb37, E_a1', F_value_a1', F_coder_a1', F_count_a1', V_nb37, E_nb37⟩ := z37; have N := Fr.app N Nq37
  have s_nb37 : h11.size ≤ nb37 := sb37; have g_nb37 : n0 ≤ nb37 := Nat.le_trans (own_n0 O) s_nb37; have sz_nb37 : h0.size ≤ nb37 := Nat.le_trans K.1 s_nb37; have ne_a1_nb37 : a1 ≠ nb37 := Nat.ne_of_lt (Nat.lt_of_lt_of_le E_a1.lt s_nb37); have ne_bv_nb37 : bv ≠ nb37 := Nat.ne_of_lt (Nat.lt_of_lt_of_le E_bv.lt s_nb37); have ne_dO_nb37 : dO ≠ nb37 := O.ne V_dO.lt g_nb37
  have ne_dT_nb37 : dT ≠ nb37 := O.ne V_dT.lt g_nb37; have ne_na11_nb37 : na11 ≠ nb37 := Nat.ne_of_lt (Nat.lt_of_lt_of_le E_na11.lt s_nb37); have ne_nb11_nb37 : nb11 ≠ nb37 := Nat.ne_of_lt (Nat.lt_of_lt_of_le V_nb11.lt s_nb37)
  have E_a1 := E_a1.keep K37; have E_bv := E_bv.keep K37; have E_na11 := E_na11.keep K37; have F_value_na11 := F_value_na11.keep K37 (ninS (Ne.symm ne_a1_na11) (ninS (Ne.symm ne_bv_na11) nin0)); have F_coder_na11 := F_coder_na11.keep K37 (ninS (Ne.symm ne_a1_na11) (ninS (Ne.symm ne_bv_na11) nin0)); have V_nb11 := V_nb11.keep K37 (ninS (Ne.symm ne_a1_nb11) (ninS (Ne.symm ne_bv_nb11) nin0))
  have O := O.keep K37 (allS g_a1 (allS g_bv all0)); have K := K.trans K37 (allS (Or.inl (List.mem_of_getElem? (i := 0) rfl)) (allS (Or.inl (List.mem_of_getElem? (i := 1) rfl)) all0))
  have E_a1 := E_a1'; have F_value_a1 := F_value_a1'; have F_coder_a1 := F_coder_a1'; have F_count_a1 := F_count_a1'
  refine og_pop X37 hx rfl (hb hby d7_36) rfl ?_
  refine og_retV X37 hx hlk hret (hb hby d7_37) (by decide) (by decide) ?_
  rw [e37]; exact ⟨_, _, _, _, _, rfl, N, K, E_a1, F_value_a1, F_coder_a1, F_count_a1, V_nb37, E_nb37, Or.inr (Or.inr (Or.inr (Or.inr (Or.inr (Or.inr (Or.inr (Or.inr (Or.inr (⟨rfl, rfl, g0, g1, g2, g3, g4, g5, g6, g7, g8, g9, rfl, hg0, hg1, hg2, hg3, hg4, hg5, hg6, hg7, hg8, hg9, hlo⟩)))))))))⟩
theorem rm_ay0 (l : Launch) (Z : State) (a0 : Array Value) (hw : HW a0 Z) (a1 bv : Addr) (kb : ClassId) (yy : Int32) (hy : ¬ yy < 0) (h0a : 0 ≤ yy.toInt) (dO dT : Addr) (kdO kdT : ClassId) (ldO ldT : List Value) (hO : own_tab ldO fun r => 48 + r % 10) (hT : own_tab ldT fun r => 48 + r / 10) (cs : Int32) (hcs : ¬ cs = 0) (h0 : Heap) (n0 : Nat) (O : Old Z n0 h0) (E_a1 : Exa Z h0 a1 "java/lang/StringBuilder") (F_value_a1 : Fld Z h0 a1 "java/lang/AbstractStringBuilder" "value" "[B" (.ref bv)) (F_coder_a1 : Fld Z h0 a1 "java/lang/AbstractStringBuilder" "coder" "B" (.int 0)) (F_count_a1 : Fld Z h0 a1 "java/lang/AbstractStringBuilder" "count" "I" (.int 0)) (E_bv : Exa Z h0 bv "[B") (V_bv : Arv Z h0 bv kb .byte (4 : Int32) [(.int 0), (.int 0), (.int 0), (.int 0)] (.int 0)) (S_dO : Sta Z Z.heap "java/lang/Integer" "DigitOnes" "[B" (.ref dO)) (V_dO : Arv Z Z.heap dO kdO .byte (100 : Int32) ldO (.int 0)) (S_dT : Sta Z Z.heap "java/lang/Integer" "DigitTens" "[B" (.ref dT)) (V_dT : Arv Z Z.heap dT kdT .byte (100 : Int32) ldT (.int 0)) (S_CS : Sta Z Z.heap "java/lang/String" "COMPACT_STRINGS" "Z" (.int cs)) (g_a1 : n0 ≤ a1) (g_bv : n0 ≤ bv) (ne_a1_bv : a1 ≠ bv) :
  Con l Z (⟨"com/example/neith/neith/io/DateTimeText", "appendYear", "(Ljava/lang/StringBuilder;I)V"⟩ : MethodName) prog_2_method_10_code 2 none ({ frames := 7, cells := 3, slots := 25, locals := 105 } : Room) #[(.ref a1), (.int yy)] h0 (fun v h L => ∃ b k cn zz vs, v = none ∧ Fr n0 L ∧ Keep h0 h [a1, bv] ∧ Exa Z h a1 "java/lang/StringBuilder" ∧ Fld Z h a1 "java/lang/AbstractStringBuilder" "value" "[B" (.ref b) ∧ Fld Z h a1 "java/lang/AbstractStringBuilder" "coder" "B" (.int 0) ∧ Fld Z h a1 "java/lang/AbstractStringBuilder" "count" "I" (.int cn) ∧ Arv Z h b k .byte zz vs (.int 0) ∧ Exa Z h b "[B" ∧ own_W0 yy.toInt cn zz vs) := by
 refine own_startC opn_5 ?_
 intro p e s m below meth c T0 X0 hx hby hml hZ hown hnm hret hlk e0
 have N := Fr.nil n0; have K := Keep.refl h0 [a1, bv]
 refine OG.cast (oef5 m a1 yy) ?_
 refine og_iloadN X0 hx rfl (hb hby d5_0) rfl ?_
 refine og_if_ge (pc1 := 11) (pc2 := 4) X0 hx (hb hby d5_1) (by decide) (by decide) rfl (fun _ => ?_) (fun q => absurd q hy)
 refine og_aloadN X0 hx rfl rfl (hb hby d5_11) rfl ?_
 refine og_iloadN X0 hx rfl (hb hby d5_12) rfl ?_
 refine og_static (pc' := 16) (cells' := 0) (slots' := 0) (W := 1) X0 hx hZ (rm_abs0 l Z a0 hw yy hy h0 n0 O) hown (ow30 hw) (ow31 hw) (ow32 hw) (ow33 hw) (by decide) (by rw [hml]; rfl) e0 opd_1 [(.int yy)] [(.ref a1)] rfl rfl rfl rfl (by decide) (by decide) rfl rfl (by decide) (by decide) (hb hby d5_13) rfl (fun v11 T11 h11 L11 X11 e11 z11 => ?_)
 obtain ⟨rfl, Nq11, hq11⟩ := z11; replace e11 := e11.trans hq11; have N := Fr.app N Nq11
 refine og_iconst (v := 4) X11 hx rfl (hb hby d5_16) rfl ?_
 refine og_static (pc' := 20) (cells' := 3) (slots' := 25) (W := 0) X11 hx hZ (rm_an0 l Z a0 hw a1 bv kb yy h0a dO dT kdO kdT ldO ldT hO hT cs hcs h0 n0 O E_a1 F_value_a1 F_coder_a1 F_count_a1 E_bv V_bv S_dO V_dO S_dT V_dT S_CS g_a1 g_bv ne_a1_bv) hown (ow34 hw) (ow35 hw) (ow3 hw) (ow36 hw) (by decide) (by rw [hml]; rfl) e11 opd_24 [(.ref a1), (.int yy), (.int 4)] [] rfl rfl rfl rfl (by decide) (by decide) rfl rfl (by decide) (by decide) (hb hby d5_17) rfl (fun v12 T12 h12 L12 X12 e12 z12 => ?_)
 obtain ⟨nb12, k12, cn, zz, vs, rfl, Nq12, K12, E_a1', F_value_a1', F_coder_a1', F_count_a1', V_nb12, E_nb12, hW⟩ := z12; have N := Fr.app N Nq12
 have E_a1 := E_a1.keep K12; have E_bv := E_bv.keep K12; have O := O.keep K12 (allS g_a1 (allS g_bv all0)); have K := K.trans K12 (allS (Or.inl (List.mem_of_getElem? (i := 0) rfl)) (allS (Or.inl (List.mem_of_getElem? (i := 1) rfl)) all0))
 have E_a1 := E_a1'; have F_value_a1 := F_value_a1'; have F_coder_a1 := F_coder_a1'; have F_count_a1 := F_count_a1'
 refine og_retV X12 hx hlk hret (hb hby d5_20) (by decide) (by decide) ?_
 rw [e12]; exact ⟨_, _, _, _, _, rfl, N, K, E_a1, F_value_a1, F_coder_a1, F_count_a1, V_nb12, E_nb12, hW⟩
theorem rm_yr0 (l : Launch) (Z : State) (a0 : Array Value) (hw : HW a0 Z) (yy : Int32) (hy : ¬ yy < 0) (h0a : 0 ≤ yy.toInt) (dO dT : Addr) (kdO kdT : ClassId) (ldO ldT : List Value) (hO : own_tab ldO fun r => 48 + r % 10) (hT : own_tab ldT fun r => 48 + r / 10) (cs : Int32) (hcs : ¬ cs = 0) (h0 : Heap) (n0 : Nat) (O : Old Z n0 h0) (S_dO : Sta Z Z.heap "java/lang/Integer" "DigitOnes" "[B" (.ref dO)) (V_dO : Arv Z Z.heap dO kdO .byte (100 : Int32) ldO (.int 0)) (S_dT : Sta Z Z.heap "java/lang/Integer" "DigitTens" "[B" (.ref dT)) (V_dT : Arv Z Z.heap dT kdT .byte (100 : Int32) ldT (.int 0)) (S_CS : Sta Z Z.heap "java/lang/String" "COMPACT_STRINGS" "Z" (.int cs)) :
  Con l Z (⟨"com/example/neith/neith/io/DateTimeText", "year", "(I)Ljava/lang/String;"⟩ : MethodName) prog_2_method_3_code 2 (some (.object "java/lang/String")) ({ frames := 8, cells := 7, slots := 48, locals := 118 } : Room) #[(.int yy)] h0 (fun v h L => ∃ a b k cn zz vs, v = some (.ref a) ∧ Fr n0 L ∧ Keep h0 h [] ∧ h0.size ≤ a ∧ h0.size ≤ b ∧ Exa Z h a "java/lang/String" ∧ Fld Z h a "java/lang/String" "value" "[B" (.ref b) ∧ Fld Z h a "java/lang/String" "coder" "B" (.int 0) ∧ Arv Z h b k .byte cn (vs.take cn.toNatClampNeg) (.int 0) ∧ own_W0 yy.toInt cn zz vs) := by
 refine own_startC opn_1 ?_
 intro p e s m below meth c T0 X0 hx hby hml hZ hown hnm hret hlk e0
 have N := Fr.nil n0; have K := Keep.refl h0 []
 refine OG.cast (oef18 m yy) ?_
 refine og_new (pc' := 3) (cells' := 1) (slots' := 4) X0 hx hZ hown (ow5 hw) (ow6 hw) (ow7 hw) e0 (hb hby d1_0) rfl rfl rfl (by decide) (by decide) (fun T11 h11 nb11 X11 e11 E11 q11 E_nb11 D11 B11 => ?_)
 have s_nb11 : h0.size ≤ nb11 := Nat.le_of_eq q11.symm; have g_nb11 : n0 ≤ nb11 := Nat.le_trans (own_n0 O) s_nb11; have sz_nb11 : h0.size ≤ nb11 := Nat.le_trans K.1 s_nb11; have ne_dO_nb11 : dO ≠ nb11 := O.ne V_dO.lt g_nb11; have ne_dT_nb11 : dT ≠ nb11 := O.ne V_dT.lt g_nb11
 have O := O.ext E11; have K := K.ext E11
 have F_value_nb11 : Fld Z h11 nb11 "java/lang/AbstractStringBuilder" "value" "[B" .null := D11 (Or.inl (ow24 hw)) (ty := (.array .byte)) (by decide)
 have F_coder_nb11 : Fld Z h11 nb11 "java/lang/AbstractStringBuilder" "coder" "B" (.int 0) := D11 (Or.inl (ow26 hw)) (ty := .byte) (by decide)
 have F_count_nb11 : Fld Z h11 nb11 "java/lang/AbstractStringBuilder" "count" "I" (.int 0) := D11 (Or.inl (ow82 hw)) (ty := .int) (by decide)
 refine og_dup X11 hx rfl (hb hby d1_3) rfl ?_
 refine og_iconst (v := 4) X11 hx rfl (hb hby d1_4) rfl ?_
 refine og_special (pc' := 8) (cells' := 2) (slots' := 8) (W := 1) X11 hx hZ (rm_sbi l Z a0 hw nb11 cs hcs h11 n0 O E_nb11 F_value_nb11 F_coder_nb11 F_count_nb11 S_CS g_nb11) rfl hown (ow8 hw) (ow9 hw) (ow7 hw) (ow10 hw) (by decide) (by rw [hml]; rfl) e11 opd_4 [(.int 4)] [(.ref nb11)] rfl rfl rfl rfl (by decide) (by decide) rfl rfl (by decide) (by decide) (hb hby d1_5) rfl (fun v12 T12 h12 L12 X12 e12 z12 => ?_)
 obtain ⟨nb12, k12, rfl, Nq12, K12, sb12, E_nb11', F_value_nb11', F_coder_nb11', F_count_nb11', V_nb12, E_nb12⟩ := z12; have N := Fr.app N Nq12
 have s_nb12 : h11.size ≤ nb12 := sb12; have g_nb12 : n0 ≤ nb12 := Nat.le_trans (own_n0 O) s_nb12; have sz_nb12 : h0.size ≤ nb12 := Nat.le_trans K.1 s_nb12; have ne_dO_nb12 : dO ≠ nb12 := O.ne V_dO.lt g_nb12; have ne_dT_nb12 : dT ≠ nb12 := O.ne V_dT.lt g_nb12; have ne_nb11_nb12 : nb11 ≠ nb12 := Nat.ne_of_lt (Nat.lt_of_lt_of_le E_nb11.lt s_nb12)
 have E_nb11 := E_nb11.keep K12; have O := O.keep K12 (allS g_nb11 all0); have K := K.trans K12 (allS (Or.inr sz_nb11) all0)
 have E_nb11 := E_nb11'; have F_value_nb11 := F_value_nb11'; have F_coder_nb11 := F_coder_nb11'; have F_count_nb11 := F_count_nb11'
 refine og_astoreN (L' := #[.val (.int yy), .val (.ref nb11)]) X12 hx rfl rfl (hb hby d1_8) rfl ?_
 refine og_aloadN X12 hx rfl rfl (hb hby d1_9) rfl ?_
 refine og_iloadN X12 hx rfl (hb hby d1_10) rfl ?_
 refine og_static (pc' := 14) (cells' := 5) (slots' := 33) (W := 0) X12 hx hZ (rm_ay0 l Z a0 hw nb11 nb12 k12 yy hy h0a dO dT kdO kdT ldO ldT hO hT cs hcs h12 n0 O E_nb11 F_value_nb11 F_coder_nb11 F_count_nb11 E_nb12 V_nb12 S_dO V_dO S_dT V_dT S_CS g_nb11 g_nb12 ne_nb11_nb12) hown (ow27 hw) (ow28 hw) (ow3 hw) (ow29 hw) (by decide) (by rw [hml]; rfl) e12 opd_25 [(.ref nb11), (.int yy)] [] rfl rfl rfl rfl (by decide) (by decide) rfl rfl (by decide) (by decide) (hb hby d1_11) rfl (fun v13 T13 h13 L13 X13 e13 z13 => ?_)
 obtain ⟨nb13, k13, cn, zz, vs, rfl, Nq13, K13, E_nb11', F_value_nb11', F_coder_nb11', F_count_nb11', V_nb13, E_nb13, hW⟩ := z13; have N := Fr.app N Nq13
 have E_nb11 := E_nb11.keep K13; have E_nb12 := E_nb12.keep K13; have O := O.keep K13 (allS g_nb11 (allS g_nb12 all0)); have K := K.trans K13 (allS (Or.inr sz_nb11) (allS (Or.inr sz_nb12) all0))
 have E_nb11 := E_nb11'; have F_value_nb11 := F_value_nb11'; have F_coder_nb11 := F_coder_nb11'; have F_count_nb11 := F_count_nb11'
 refine og_aloadN X13 hx rfl rfl (hb hby d1_14) rfl ?_
 refine og_virtual (pc' := 18) (cells' := 7) (slots' := 48) (W := 0) X13 hx hZ (rm_tos l Z a0 hw nb11 nb13 k13 zz cn vs (own_Wc0 hW) cs hcs h13 n0 O E_nb11 F_value_nb11 F_coder_nb11 F_count_nb11 E_nb13 V_nb13 S_CS) hown (ow127 hw) (ow128 hw) (own_nf hZ (ow130 hw)) (ow130 hw) (ow129 hw) (ow7 hw) (ow131 hw) (by decide) (by rw [hml]; rfl) e13 opd_26 [] [] rfl rfl rfl rfl (by decide) (by decide) rfl rfl (by decide) (by decide) E_nb11 (hb hby d1_15) rfl (fun v14 T14 h14 L14 X14 e14 z14 => ?_)
 obtain ⟨na14, nb14, k14, rfl, Nq14, K14, sa14, sb14, E_na14, F_value_na14, F_coder_na14, V_nb14⟩ := z14; have N := Fr.app N Nq14
 have s_na14 : h13.size ≤ na14 := sa14; have g_na14 : n0 ≤ na14 := Nat.le_trans (own_n0 O) s_na14; have sz_na14 : h0.size ≤ na14 := Nat.le_trans K.1 s_na14; have ne_dO_na14 : dO ≠ na14 := O.ne V_dO.lt g_na14; have ne_dT_na14 : dT ≠ na14 := O.ne V_dT.lt g_na14; have ne_nb11_na14 : nb11 ≠ na14 := Nat.ne_of_lt (Nat.lt_of_lt_of_le E_nb11.lt s_na14)
 have ne_nb12_na14 : nb12 ≠ na14 := Nat.ne_of_lt (Nat.lt_of_lt_of_le E_nb12.lt s_na14); have ne_nb13_na14 : nb13 ≠ na14 := Nat.ne_of_lt (Nat.lt_of_lt_of_le V_nb13.lt s_na14)
 have s_nb14 : h13.size ≤ nb14 := sb14; have g_nb14 : n0 ≤ nb14 := Nat.le_trans (own_n0 O) s_nb14; have sz_nb14 : h0.size ≤ nb14 := Nat.le_trans K.1 s_nb14; have ne_dO_nb14 : dO ≠ nb14 := O.ne V_dO.lt g_nb14; have ne_dT_nb14 : dT ≠ nb14 := O.ne V_dT.lt g_nb14; have ne_nb11_nb14 : nb11 ≠ nb14 := Nat.ne_of_lt (Nat.lt_of_lt_of_le E_nb11.lt s_nb14)
 have ne_nb12_nb14 : nb12 ≠ nb14 := Nat.ne_of_lt (Nat.lt_of_lt_of_le E_nb12.lt s_nb14); have ne_nb13_nb14 : nb13 ≠ nb14 := Nat.ne_of_lt (Nat.lt_of_lt_of_le V_nb13.lt s_nb14)
 have E_nb11 := E_nb11.keep K14; have E_nb12 := E_nb12.keep K14; have F_value_nb11 := F_value_nb11.keep K14 nin0; have F_coder_nb11 := F_coder_nb11.keep K14 nin0; have F_count_nb11 := F_count_nb11.keep K14 nin0; have V_nb13 := V_nb13.keep K14 nin0
 have E_nb13 := E_nb13.keep K14; have O := O.keep K14 all0; have K := K.trans K14 all0
 refine og_retR X14 hx hlk hret rfl rfl rfl (hb hby d1_18) (by decide) (by decide) ?_
 rw [e14]; exact ⟨_, _, _, _, _, _, rfl, N, K, sz_na14, sz_nb14, E_na14, F_value_na14, F_coder_na14, V_nb14, hW⟩
theorem rm_an1 (l : Launch) (Z : State) (a0 : Array Value) (hw : HW a0 Z) (a1 bv : Addr) (kb : ClassId) (aa : Int32) (h0a : 0 ≤ aa.toInt) (dO dT : Addr) (kdO kdT : ClassId) (ldO ldT : List Value) (hO : own_tab ldO fun r => 48 + r % 10) (hT : own_tab ldT fun r => 48 + r / 10) (cs : Int32) (hcs : ¬ cs = 0) (h0 : Heap) (n0 : Nat) (O : Old Z n0 h0) (E_a1 : Exa Z h0 a1 "java/lang/StringBuilder") (F_value_a1 : Fld Z h0 a1 "java/lang/AbstractStringBuilder" "value" "[B" (.ref bv)) (F_coder_a1 : Fld Z h0 a1 "java/lang/AbstractStringBuilder" "coder" "B" (.int 0)) (F_count_a1 : Fld Z h0 a1 "java/lang/AbstractStringBuilder" "count" "I" (.int 1)) (E_bv : Exa Z h0 bv "[B") (V_bv : Arv Z h0 bv kb .byte (4 : Int32) [(.int 45), (.int 0), (.int 0), (.int 0)] (.int 0)) (S_dO : Sta Z Z.heap "java/lang/Integer" "DigitOnes" "[B" (.ref dO)) (V_dO : Arv Z Z.heap dO kdO .byte (100 : Int32) ldO (.int 0)) (S_dT : Sta Z Z.heap "java/lang/Integer" "DigitTens" "[B" (.ref dT)) (V_dT : Arv Z Z.heap dT kdT .byte (100 : Int32) ldT (.int 0)) (S_CS : Sta Z Z.heap "java/lang/String" "COMPACT_STRINGS" "Z" (.int cs)) (g_a1 : n0 ≤ a1) (g_bv : n0 ≤ bv) (ne_a1_bv : a1 ≠ bv) :
  Con l Z (⟨"com/example/neith/neith/io/DateTimeText", "appendNumber", "(Ljava/lang/StringBuilder;II)V"⟩ : MethodName) prog_2_method_14_code 5 none ({ frames := 6, cells := 3, slots := 25, locals := 89 } : Room) #[(.ref a1), (.int aa), (.int 4)] h0 (fun v h L => ∃ b k cn zz vs, v = none ∧ Fr n0 L ∧ Keep h0 h [a1, bv] ∧ Exa Z h a1 "java/lang/StringBuilder" ∧ Fld Z h a1 "java/lang/AbstractStringBuilder" "value" "[B" (.ref b) ∧ Fld Z h a1 "java/lang/AbstractStringBuilder" "coder" "B" (.int 0) ∧ Fld Z h a1 "java/lang/AbstractStringBuilder" "count" "I" (.int cn) ∧ Arv Z h b k .byte zz vs (.int 0) ∧ Exa Z h b "[B" ∧ own_W1 aa.toInt cn zz vs) := by
 refine own_startC opn_7 ?_
 intro p e s m below meth c T0 X0 hx hby hml hZ hown hnm hret hlk e0
 have N := Fr.nil n0; have K := Keep.refl h0 [a1, bv]
 refine OG.cast (oef16 m a1 aa (4 : Int32)) ?_
 refine og_iloadN X0 hx rfl (hb hby d7_0) rfl ?_
 refine og_static (pc' := 4) (cells' := 2) (slots' := 14) (W := 0) X0 hx hZ (rm_ts l Z a0 hw aa h0a dO dT kdO kdT ldO ldT hO hT cs hcs h0 n0 O S_dO V_dO S_dT V_dT S_CS) hown (ow37 hw) (ow38 hw) (ow39 hw) (ow40 hw) (by decide) (by rw [hml]; rfl) e0 opd_21 [(.int aa)] [] rfl rfl rfl rfl (by decide) (by decide) rfl rfl (by decide) (by decide) (hb hby d7_1) rfl (fun v11 T11 h11 L11 X11 e11 z11 => ?_)
 obtain ⟨na11, nb11, k11, kk, gl, rfl, Nq11, K11, sa11, sb11, E_na11, F_value_na11, F_coder_na11, V_nb11, hds⟩ := z11; have N := Fr.app N Nq11
 have s_na11 : h0.size ≤ na11 := sa11; have g_na11 : n0 ≤ na11 := Nat.le_trans (own_n0 O) s_na11; have sz_na11 : h0.size ≤ na11 := Nat.le_trans K.1 s_na11; have ne_a1_na11 : a1 ≠ na11 := Nat.ne_of_lt (Nat.lt_of_lt_of_le E_a1.lt s_na11); have ne_bv_na11 : bv ≠ na11 := Nat.ne_of_lt (Nat.lt_of_lt_of_le E_bv.lt s_na11); have ne_dO_na11 : dO ≠ na11 := O.ne V_dO.lt g_na11
 have ne_dT_na11 : dT ≠ na11 := O.ne V_dT.lt g_na11
 have s_nb11 : h0.size ≤ nb11 := sb11; have g_nb11 : n0 ≤ nb11 := Nat.le_trans (own_n0 O) s_nb11; have sz_nb11 : h0.size ≤ nb11 := Nat.le_trans K.1 s_nb11; have ne_a1_nb11 : a1 ≠ nb11 := Nat.ne_of_lt (Nat.lt_of_lt_of_le E_a1.lt s_nb11); have ne_bv_nb11 : bv ≠ nb11 := Nat.ne_of_lt (Nat.lt_of_lt_of_le E_bv.lt s_nb11); have ne_dO_nb11 : dO ≠ nb11 := O.ne V_dO.lt g_nb11
 have ne_dT_nb11 : dT ≠ nb11 := O.ne V_dT.lt g_nb11
 have E_a1 := E_a1.keep K11; have F_value_a1 := F_value_a1.keep K11 nin0; have F_coder_a1 := F_coder_a1.keep K11 nin0; have F_count_a1 := F_count_a1.keep K11 nin0; have E_bv := E_bv.keep K11; have V_bv := V_bv.keep K11 nin0
 have O := O.keep K11 all0; have K := K.trans K11 all0
 have ne_na11_nb11 : na11 ≠ nb11 := fun q => own_strarr E_na11 V_nb11 (ow50 hw) q
 rcases hds with ⟨rfl, g0, rfl, hg0, hhi⟩ | ⟨rfl, g0, g1, rfl, hg0, hg1, hlo, hhi⟩ | ⟨rfl, g0, g1, g2, rfl, hg0, hg1, hg2, hlo, hhi⟩ | ⟨rfl, g0, g1, g2, g3, rfl, hg0, hg1, hg2, hg3, hlo, hhi⟩ | ⟨rfl, g0, g1, g2, g3, g4, rfl, hg0, hg1, hg2, hg3, hg4, hlo, hhi⟩ | ⟨rfl, g0, g1, g2, g3, g4, g5, rfl, hg0, hg1, hg2, hg3, hg4, hg5, hlo, hhi⟩ | ⟨rfl, g0, g1, g2, g3, g4, g5, g6, rfl, hg0, hg1, hg2, hg3, hg4, hg5, hg6, hlo, hhi⟩ | ⟨rfl, g0, g1, g2, g3, g4, g5, g6, g7, rfl, hg0, hg1, hg2, hg3, hg4, hg5, hg6, hg7, hlo, hhi⟩ | ⟨rfl, g0, g1, g2, g3, g4, g5, g6, g7, g8, rfl, hg0, hg1, hg2, hg3, hg4, hg5, hg6, hg7, hg8, hlo, hhi⟩ | ⟨rfl, g0, g1, g2, g3, g4, g5, g6, g7, g8, g9, rfl, hg0, hg1, hg2, hg3, hg4, hg5, hg6, hg7, hg8, hg9, hlo⟩
 ·
  refine og_astoreN (L' := #[.val (.ref a1), .val (.int aa), .val (.int 4), .val (.ref na11), .unset]) X11 hx rfl rfl (hb hby d7_4) rfl ?_
  refine og_iloadN X11 hx rfl (hb hby d7_5) rfl ?_
  refine og_aloadN X11 hx rfl rfl (hb hby d7_6) rfl ?_
  refine og_virtual (pc' := 10) (cells' := 2) (slots' := 14) (W := 1) X11 hx hZ (rm_len l Z a0 hw na11 nb11 k11 (1 : Int32) _ cs hcs h11 n0 O E_na11 F_value_na11 F_coder_na11 V_nb11 S_CS) hown (ow60 hw) (ow61 hw) (own_nf hZ (ow63 hw)) (ow63 hw) (ow62 hw) (ow21 hw) (ow64 hw) (by decide) (by rw [hml]; rfl) e11 opd_13 [] [(.int 4)] rfl rfl rfl rfl (by decide) (by decide) rfl rfl (by decide) (by decide) E_na11 (hb hby d7_7) rfl (fun v12 T12 h12 L12 X12 e12 z12 => ?_)
  obtain ⟨rfl, Nq12, hq12⟩ := z12; replace e12 := e12.trans hq12; have N := Fr.app N Nq12
  refine og_isub X12 hx (hb hby d7_10) rfl ?_
  show OG p e below _ (T12.setTop (mkF m 11 #[.val (.ref a1), .val (.int aa), .val (.int 4), .val (.ref na11), .unset] [(.int 3)]))
  refine og_istore (L' := #[.val (.ref a1), .val (.int aa), .val (.int 4), .val (.ref na11), .val (.int 3)]) X12 hx rfl (hb hby d7_11) rfl ?_
  refine og_iload X12 hx rfl (hb hby d7_13) rfl ?_
  refine og_if_le (pc1 := 31) (pc2 := 18) X12 hx (hb hby d7_15) (by decide) (by decide) rfl (fun q => absurd q (by decide)) (fun _ => ?_)
  refine og_aloadN X12 hx rfl rfl (hb hby d7_18) rfl ?_
  refine og_bipush (v := 48) X12 hx rfl (hb hby d7_19) rfl ?_
  refine og_virtual (pc' := 24) (cells' := 2) (slots' := 14) (W := 0) X12 hx hZ (rm_sac_1_48 l Z a0 hw a1 bv kb (45 : Int32) (0 : Int32) (0 : Int32) (0 : Int32) cs hcs h11 n0 O E_a1 F_value_a1 F_coder_a1 F_count_a1 V_bv S_CS g_a1 g_bv ne_a1_bv) hown (ow71 hw) (ow72 hw) (own_nf hZ (ow74 hw)) (ow74 hw) (ow73 hw) (ow7 hw) (ow75 hw) (by decide) (by rw [hml]; rfl) e12 opd_22 [(.int 48)] [] rfl rfl rfl rfl (by decide) (by decide) rfl rfl (by decide) (by decide) E_a1 (hb hby d7_21) rfl (fun v13 T13 h13 L13 X13 e13 z13 => ?_)
  obtain ⟨rfl, Nq13, K13, E_a1', F_value_a1', F_coder_a1', F_count_a1', V_bv'⟩ := z13; have N := Fr.app N Nq13
  have E_a1 := E_a1.keep K13; have E_bv := E_bv.keep K13; have E_na11 := E_na11.keep K13; have F_value_na11 := F_value_na11.keep K13 (ninS (Ne.symm ne_a1_na11) (ninS (Ne.symm ne_bv_na11) nin0)); have F_coder_na11 := F_coder_na11.keep K13 (ninS (Ne.symm ne_a1_na11) (ninS (Ne.symm ne_bv_na11) nin0)); have V_nb11 := V_nb11.keep K13 (ninS (Ne.symm ne_a1_nb11) (ninS (Ne.symm ne_bv_nb11) nin0))
  have O := O.keep K13 (allS g_a1 (allS g_bv all0)); have K := K.trans K13 (allS (Or.inl (List.mem_of_getElem? (i := 0) rfl)) (allS (Or.inl (List.mem_of_getElem? (i := 1) rfl)) all0))
  have V_bv := V_bv'
  have E_a1 := E_a1'; have F_value_a1 := F_value_a1'; have F_coder_a1 := F_coder_a1'; have F_count_a1 := F_count_a1'
  refine og_pop X13 hx rfl (hb hby d7_24) rfl ?_
  refine og_iinc (L' := #[.val (.ref a1), .val (.int aa), .val (.int 4), .val (.ref na11), .val (.int 2)]) (w := -1) X13 hx rfl rfl rfl (hb hby d7_25) rfl ?_
  refine og_goto (pc' := 13) X13 hx (hb hby d7_28) (by decide) (by decide) ?_
  refine og_iload X13 hx rfl (hb hby d7_13) rfl ?_
  refine og_if_le (pc1 := 31) (pc2 := 18) X13 hx (hb hby d7_15) (by decide) (by decide) rfl (fun q => absurd q (by decide)) (fun _ => ?_)
  refine og_aloadN X13 hx rfl rfl (hb hby d7_18) rfl ?_
  refine og_bipush (v := 48) X13 hx rfl (hb hby d7_19) rfl ?_
  refine og_virtual (pc' := 24) (cells' := 2) (slots' := 14) (W := 0) X13 hx hZ (rm_sac_2_48 l Z a0 hw a1 bv kb (45 : Int32) (48 : Int32) (0 : Int32) (0 : Int32) cs hcs h13 n0 O E_a1 F_value_a1 F_coder_a1 F_count_a1 V_bv S_CS g_a1 g_bv ne_a1_bv) hown (ow71 hw) (ow72 hw) (own_nf hZ (ow74 hw)) (ow74 hw) (ow73 hw) (ow7 hw) (ow75 hw) (by decide) (by rw [hml]; rfl) e13 opd_22 [(.int 48)] [] rfl rfl rfl rfl (by decide) (by decide) rfl rfl (by decide) (by decide) E_a1 (hb hby d7_21) rfl (fun v14 T14 h14 L14 X14 e14 z14 => ?_)
  obtain ⟨rfl, Nq14, K14, E_a1', F_value_a1', F_coder_a1', F_count_a1', V_bv'⟩ := z14; have N := Fr.app N Nq14
  have E_a1 := E_a1.keep K14; have E_bv := E_bv.keep K14; have E_na11 := E_na11.keep K14; have F_value_na11 := F_value_na11.keep K14 (ninS (Ne.symm ne_a1_na11) (ninS (Ne.symm ne_bv_na11) nin0)); have F_coder_na11 := F_coder_na11.keep K14 (ninS (Ne.symm ne_a1_na11) (ninS (Ne.symm ne_bv_na11) nin0)); have V_nb11 := V_nb11.keep K14 (ninS (Ne.symm ne_a1_nb11) (ninS (Ne.symm ne_bv_nb11) nin0))
  have O := O.keep K14 (allS g_a1 (allS g_bv all0)); have K := K.trans K14 (allS (Or.inl (List.mem_of_getElem? (i := 0) rfl)) (allS (Or.inl (List.mem_of_getElem? (i := 1) rfl)) all0))
  have V_bv := V_bv'
  have E_a1 := E_a1'; have F_value_a1 := F_value_a1'; have F_coder_a1 := F_coder_a1'; have F_count_a1 := F_count_a1'
  refine og_pop X14 hx rfl (hb hby d7_24) rfl ?_
  refine og_iinc (L' := #[.val (.ref a1), .val (.int aa), .val (.int 4), .val (.ref na11), .val (.int 1)]) (w := -1) X14 hx rfl rfl rfl (hb hby d7_25) rfl ?_
  refine og_goto (pc' := 13) X14 hx (hb hby d7_28) (by decide) (by decide) ?_
  refine og_iload X14 hx rfl (hb hby d7_13) rfl ?_
  refine og_if_le (pc1 := 31) (pc2 := 18) X14 hx (hb hby d7_15) (by decide) (by decide) rfl (fun q => absurd q (by decide)) (fun _ => ?_)
  refine og_aloadN X14 hx rfl rfl (hb hby d7_18) rfl ?_
  refine og_bipush (v := 48) X14 hx rfl (hb hby d7_19) rfl ?_
  refine og_virtual (pc' := 24) (cells' := 2) (slots' := 14) (W := 0) X14 hx hZ (rm_sac_3_48 l Z a0 hw a1 bv kb (45 : Int32) (48 : Int32) (48 : Int32) (0 : Int32) cs hcs h14 n0 O E_a1 F_value_a1 F_coder_a1 F_count_a1 V_bv S_CS g_a1 g_bv ne_a1_bv) hown (ow71 hw) (ow72 hw) (own_nf hZ (ow74 hw)) (ow74 hw) (ow73 hw) (ow7 hw) (ow75 hw) (by decide) (by rw [hml]; rfl) e14 opd_22 [(.int 48)] [] rfl rfl rfl rfl (by decide) (by decide) rfl rfl (by decide) (by decide) E_a1 (hb hby d7_21) rfl (fun v15 T15 h15 L15 X15 e15 z15 => ?_)
  obtain ⟨rfl, Nq15, K15, E_a1', F_value_a1', F_coder_a1', F_count_a1', V_bv'⟩ := z15; have N := Fr.app N Nq15
  have E_a1 := E_a1.keep K15; have E_bv := E_bv.keep K15; have E_na11 := E_na11.keep K15; have F_value_na11 := F_value_na11.keep K15 (ninS (Ne.symm ne_a1_na11) (ninS (Ne.symm ne_bv_na11) nin0)); have F_coder_na11 := F_coder_na11.keep K15 (ninS (Ne.symm ne_a1_na11) (ninS (Ne.symm ne_bv_na11) nin0)); have V_nb11 := V_nb11.keep K15 (ninS (Ne.symm ne_a1_nb11) (ninS (Ne.symm ne_bv_nb11) nin0))
  have O := O.keep K15 (allS g_a1 (allS g_bv all0)); have K := K.trans K15 (allS (Or.inl (List.mem_of_getElem? (i := 0) rfl)) (allS (Or.inl (List.mem_of_getElem? (i := 1) rfl)) all0))
  have V_bv := V_bv'
  have E_a1 := E_a1'; have F_value_a1 := F_value_a1'; have F_coder_a1 := F_coder_a1'; have F_count_a1 := F_count_a1'
  refine og_pop X15 hx rfl (hb hby d7_24) rfl ?_
  refine og_iinc (L' := #[.val (.ref a1), .val (.int aa), .val (.int 4), .val (.ref na11), .val (.int 0)]) (w := -1) X15 hx rfl rfl rfl (hb hby d7_25) rfl ?_
  refine og_goto (pc' := 13) X15 hx (hb hby d7_28) (by decide) (by decide) ?_
  refine og_iload X15 hx rfl (hb hby d7_13) rfl ?_
  refine og_if_le (pc1 := 31) (pc2 := 18) X15 hx (hb hby d7_15) (by decide) (by decide) rfl (fun _ => ?_) (fun q => absurd q (by decide))
  refine og_aloadN X15 hx rfl rfl (hb hby d7_31) rfl ?_
  refine og_aloadN X15 hx rfl rfl (hb hby d7_32) rfl ?_
  refine og_virtual (pc' := 36) (cells' := 3) (slots' := 25) (W := 0) X15 hx hZ (rm_sasG l Z a0 hw a1 na11 bv nb11 kb k11 (5 : Int32) (4 : Int32) (1 : Int32) (10 : Int32) [(.int g0)] [(.int 45), (.int 48), (.int 48), (.int 48), (.int 0), (.int 0), (.int 0), (.int 0), (.int 0), (.int 0)] [(.int g0)] [(.int 45), (.int 48), (.int 48), (.int 48), (.int g0), (.int 0), (.int 0), (.int 0), (.int 0), (.int 0)] (by decide) (by decide) (by decide) (by decide) rfl (Nat.le_of_ble_eq_true rfl) rfl rfl (45 : Int32) (48 : Int32) (48 : Int32) (48 : Int32) 6 rfl (Or.inl (⟨rfl, rfl, rfl⟩)) cs hcs h15 n0 O E_a1 F_value_a1 F_coder_a1 F_count_a1 E_bv V_bv E_na11 F_value_na11 F_coder_na11 V_nb11 S_CS g_a1 g_bv ne_a1_bv (Ne.symm ne_bv_na11) (Ne.symm ne_bv_nb11) (Ne.symm ne_a1_na11) (Ne.symm ne_a1_nb11)) hown (ow97 hw) (ow98 hw) (own_nf hZ (ow100 hw)) (ow100 hw) (ow99 hw) (ow7 hw) (ow101 hw) (by decide) (by rw [hml]; rfl) e15 opd_23 [(.ref na11)] [] rfl rfl rfl rfl (by decide) (by decide) rfl rfl (by decide) (by decide) E_a1 (hb hby d7_33) rfl (fun v16 T16 h16 L16 X16 e16 z16 => ?_)
  obtain ⟨nb16, k16, rfl, Nq16, K16, sb16, E_a1', F_value_a1', F_coder_a1', F_count_a1', V_nb16, E_nb16⟩ := z16; have N := Fr.app N Nq16
  have s_nb16 : h15.size ≤ nb16 := sb16; have g_nb16 : n0 ≤ nb16 := Nat.le_trans (own_n0 O) s_nb16; have sz_nb16 : h0.size ≤ nb16 := Nat.le_trans K.1 s_nb16; have ne_a1_nb16 : a1 ≠ nb16 := Nat.ne_of_lt (Nat.lt_of_lt_of_le E_a1.lt s_nb16); have ne_bv_nb16 : bv ≠ nb16 := Nat.ne_of_lt (Nat.lt_of_lt_of_le E_bv.lt s_nb16); have ne_dO_nb16 : dO ≠ nb16 := O.ne V_dO.lt g_nb16
  have ne_dT_nb16 : dT ≠ nb16 := O.ne V_dT.lt g_nb16; have ne_na11_nb16 : na11 ≠ nb16 := Nat.ne_of_lt (Nat.lt_of_lt_of_le E_na11.lt s_nb16); have ne_nb11_nb16 : nb11 ≠ nb16 := Nat.ne_of_lt (Nat.lt_of_lt_of_le V_nb11.lt s_nb16)
  have E_a1 := E_a1.keep K16; have E_bv := E_bv.keep K16; have E_na11 := E_na11.keep K16; have F_value_na11 := F_value_na11.keep K16 (ninS (Ne.symm ne_a1_na11) (ninS (Ne.symm ne_bv_na11) nin0)); have F_coder_na11 := F_coder_na11.keep K16 (ninS (Ne.symm ne_a1_na11) (ninS (Ne.symm ne_bv_na11) nin0)); have V_nb11 := V_nb11.keep K16 (ninS (Ne.symm ne_a1_nb11) (ninS (Ne.symm ne_bv_nb11) nin0))
  have O := O.keep K16 (allS g_a1 (allS g_bv all0)); have K := K.trans K16 (allS (Or.inl (List.mem_of_getElem? (i := 0) rfl)) (allS (Or.inl (List.mem_of_getElem? (i := 1) rfl)) all0))
  have E_a1 := E_a1'; have F_value_a1 := F_value_a1'; have F_coder_a1 := F_coder_a1'; have F_count_a1 := F_count_a1'
  refine og_pop X16 hx rfl (hb hby d7_36) rfl ?_
  refine og_retV X16 hx hlk hret (hb hby d7_37) (by decide) (by decide) ?_
  rw [e16]; exact ⟨_, _, _, _, _, rfl, N, K, E_a1, F_value_a1, F_coder_a1, F_count_a1, V_nb16, E_nb16, Or.inl (⟨rfl, rfl, g0, rfl, hg0, hhi⟩)⟩
 ·
  refine og_astoreN (L' := #[.val (.ref a1), .val (.int aa), .val (.int 4), .val (.ref na11), .unset]) X11 hx rfl rfl (hb hby d7_4) rfl ?_
  refine og_iloadN X11 hx rfl (hb hby d7_5) rfl ?_
  refine og_aloadN X11 hx rfl rfl (hb hby d7_6) rfl ?_
  refine og_virtual (pc' := 10) (cells' := 2) (slots' := 14) (W := 1) X11 hx hZ (rm_len l Z a0 hw na11 nb11 k11 (2 : Int32) _ cs hcs h11 n0 O E_na11 F_value_na11 F_coder_na11 V_nb11 S_CS) hown (ow60 hw) (ow61 hw) (own_nf hZ (ow63 hw)) (ow63 hw) (ow62 hw) (ow21 hw) (ow64 hw) (by decide) (by rw [hml]; rfl) e11 opd_13 [] [(.int 4)] rfl rfl rfl rfl (by decide) (by decide) rfl rfl (by decide) (by decide) E_na11 (hb hby d7_7) rfl (fun v17 T17 h17 L17 X17 e17 z17 => ?_)
  obtain ⟨rfl, Nq17, hq17⟩ := z17; replace e17 := e17.trans hq17; have N := Fr.app N Nq17
  refine og_isub X17 hx (hb hby d7_10) rfl ?_
  show OG p e below _ (T17.setTop (mkF m 11 #[.val (.ref a1), .val (.int aa), .val (.int 4), .val (.ref na11), .unset] [(.int 2)]))
  refine og_istore (L' := #[.val (.ref a1), .val (.int aa), .val (.int 4), .val (.ref na11), .val (.int 2)]) X17 hx rfl (hb hby d7_11) rfl ?_
  refine og_iload X17 hx rfl (hb hby d7_13) rfl ?_
  refine og_if_le (pc1 := 31) (pc2 := 18) X17 hx (hb hby d7_15) (by decide) (by decide) rfl (fun q => absurd q (by decide)) (fun _ => ?_)
  refine og_aloadN X17 hx rfl rfl (hb hby d7_18) rfl ?_
  refine og_bipush (v := 48) X17 hx rfl (hb hby d7_19) rfl ?_
  refine og_virtual (pc' := 24) (cells' := 2) (slots' := 14) (W := 0) X17 hx hZ (rm_sac_1_48 l Z a0 hw a1 bv kb (45 : Int32) (0 : Int32) (0 : Int32) (0 : Int32) cs hcs h11 n0 O E_a1 F_value_a1 F_coder_a1 F_count_a1 V_bv S_CS g_a1 g_bv ne_a1_bv) hown (ow71 hw) (ow72 hw) (own_nf hZ (ow74 hw)) (ow74 hw) (ow73 hw) (ow7 hw) (ow75 hw) (by decide) (by rw [hml]; rfl) e17 opd_22 [(.int 48)] [] rfl rfl rfl rfl (by decide) (by decide) rfl rfl (by decide) (by decide) E_a1 (hb hby d7_21) rfl (fun v18 T18 h18 L18 X18 e18 z18 => ?_)
  obtain ⟨rfl, Nq18, K18, E_a1', F_value_a1', F_coder_a1', F_count_a1', V_bv'⟩ := z18; have N := Fr.app N Nq18
  have E_a1 := E_a1.keep K18; have E_bv := E_bv.keep K18; have E_na11 := E_na11.keep K18; have F_value_na11 := F_value_na11.keep K18 (ninS (Ne.symm ne_a1_na11) (ninS (Ne.symm ne_bv_na11) nin0)); have F_coder_na11 := F_coder_na11.keep K18 (ninS (Ne.symm ne_a1_na11) (ninS (Ne.symm ne_bv_na11) nin0)); have V_nb11 := V_nb11.keep K18 (ninS (Ne.symm ne_a1_nb11) (ninS (Ne.symm ne_bv_nb11) nin0))
  have O := O.keep K18 (allS g_a1 (allS g_bv all0)); have K := K.trans K18 (allS (Or.inl (List.mem_of_getElem? (i := 0) rfl)) (allS (Or.inl (List.mem_of_getElem? (i := 1) rfl)) all0))
  have V_bv := V_bv'
  have E_a1 := E_a1'; have F_value_a1 := F_value_a1'; have F_coder_a1 := F_coder_a1'; have F_count_a1 := F_count_a1'
  refine og_pop X18 hx rfl (hb hby d7_24) rfl ?_
  refine og_iinc (L' := #[.val (.ref a1), .val (.int aa), .val (.int 4), .val (.ref na11), .val (.int 1)]) (w := -1) X18 hx rfl rfl rfl (hb hby d7_25) rfl ?_
  refine og_goto (pc' := 13) X18 hx (hb hby d7_28) (by decide) (by decide) ?_
  refine og_iload X18 hx rfl (hb hby d7_13) rfl ?_
  refine og_if_le (pc1 := 31) (pc2 := 18) X18 hx (hb hby d7_15) (by decide) (by decide) rfl (fun q => absurd q (by decide)) (fun _ => ?_)
  refine og_aloadN X18 hx rfl rfl (hb hby d7_18) rfl ?_
  refine og_bipush (v := 48) X18 hx rfl (hb hby d7_19) rfl ?_
  refine og_virtual (pc' := 24) (cells' := 2) (slots' := 14) (W := 0) X18 hx hZ (rm_sac_2_48 l Z a0 hw a1 bv kb (45 : Int32) (48 : Int32) (0 : Int32) (0 : Int32) cs hcs h18 n0 O E_a1 F_value_a1 F_coder_a1 F_count_a1 V_bv S_CS g_a1 g_bv ne_a1_bv) hown (ow71 hw) (ow72 hw) (own_nf hZ (ow74 hw)) (ow74 hw) (ow73 hw) (ow7 hw) (ow75 hw) (by decide) (by rw [hml]; rfl) e18 opd_22 [(.int 48)] [] rfl rfl rfl rfl (by decide) (by decide) rfl rfl (by decide) (by decide) E_a1 (hb hby d7_21) rfl (fun v19 T19 h19 L19 X19 e19 z19 => ?_)
  obtain ⟨rfl, Nq19, K19, E_a1', F_value_a1', F_coder_a1', F_count_a1', V_bv'⟩ := z19; have N := Fr.app N Nq19
  have E_a1 := E_a1.keep K19; have E_bv := E_bv.keep K19; have E_na11 := E_na11.keep K19; have F_value_na11 := F_value_na11.keep K19 (ninS (Ne.symm ne_a1_na11) (ninS (Ne.symm ne_bv_na11) nin0)); have F_coder_na11 := F_coder_na11.keep K19 (ninS (Ne.symm ne_a1_na11) (ninS (Ne.symm ne_bv_na11) nin0)); have V_nb11 := V_nb11.keep K19 (ninS (Ne.symm ne_a1_nb11) (ninS (Ne.symm ne_bv_nb11) nin0))
  have O := O.keep K19 (allS g_a1 (allS g_bv all0)); have K := K.trans K19 (allS (Or.inl (List.mem_of_getElem? (i := 0) rfl)) (allS (Or.inl (List.mem_of_getElem? (i := 1) rfl)) all0))
  have V_bv := V_bv'
  have E_a1 := E_a1'; have F_value_a1 := F_value_a1'; have F_coder_a1 := F_coder_a1'; have F_count_a1 := F_count_a1'
  refine og_pop X19 hx rfl (hb hby d7_24) rfl ?_
  refine og_iinc (L' := #[.val (.ref a1), .val (.int aa), .val (.int 4), .val (.ref na11), .val (.int 0)]) (w := -1) X19 hx rfl rfl rfl (hb hby d7_25) rfl ?_
  refine og_goto (pc' := 13) X19 hx (hb hby d7_28) (by decide) (by decide) ?_
  refine og_iload X19 hx rfl (hb hby d7_13) rfl ?_
  refine og_if_le (pc1 := 31) (pc2 := 18) X19 hx (hb hby d7_15) (by decide) (by decide) rfl (fun _ => ?_) (fun q => absurd q (by decide))
  refine og_aloadN X19 hx rfl rfl (hb hby d7_31) rfl ?_
  refine og_aloadN X19 hx rfl rfl (hb hby d7_32) rfl ?_
  refine og_virtual (pc' := 36) (cells' := 3) (slots' := 25) (W := 0) X19 hx hZ (rm_sasG l Z a0 hw a1 na11 bv nb11 kb k11 (5 : Int32) (3 : Int32) (2 : Int32) (10 : Int32) [(.int g1), (.int g0)] [(.int 45), (.int 48), (.int 48), (.int 0), (.int 0), (.int 0), (.int 0), (.int 0), (.int 0), (.int 0)] [(.int g1), (.int g0)] [(.int 45), (.int 48), (.int 48), (.int g1), (.int g0), (.int 0), (.int 0), (.int 0), (.int 0), (.int 0)] (by decide) (by decide) (by decide) (by decide) rfl (Nat.le_of_ble_eq_true rfl) rfl rfl (45 : Int32) (48 : Int32) (48 : Int32) (0 : Int32) 6 rfl (Or.inl (⟨rfl, rfl, rfl⟩)) cs hcs h19 n0 O E_a1 F_value_a1 F_coder_a1 F_count_a1 E_bv V_bv E_na11 F_value_na11 F_coder_na11 V_nb11 S_CS g_a1 g_bv ne_a1_bv (Ne.symm ne_bv_na11) (Ne.symm ne_bv_nb11) (Ne.symm ne_a1_na11) (Ne.symm ne_a1_nb11)) hown (ow97 hw) (ow98 hw) (own_nf hZ (ow100 hw)) (ow100 hw) (ow99 hw) (ow7 hw) (ow101 hw) (by decide) (by rw [hml]; rfl) e19 opd_23 [(.ref na11)] [] rfl rfl rfl rfl (by decide) (by decide) rfl rfl (by decide) (by decide) E_a1 (hb hby d7_33) rfl (fun v20 T20 h20 L20 X20 e20 z20 => ?_)
  obtain ⟨nb20, k20, rfl, Nq20, K20, sb20, E_a1', F_value_a1', F_coder_a1', F_count_a1', V_nb20, E_nb20⟩ := z20; have N := Fr.app N Nq20
  have s_nb20 : h19.size ≤ nb20 := sb20; have g_nb20 : n0 ≤ nb20 := Nat.le_trans (own_n0 O) s_nb20; have sz_nb20 : h0.size ≤ nb20 := Nat.le_trans K.1 s_nb20; have ne_a1_nb20 : a1 ≠ nb20 := Nat.ne_of_lt (Nat.lt_of_lt_of_le E_a1.lt s_nb20); have ne_bv_nb20 : bv ≠ nb20 := Nat.ne_of_lt (Nat.lt_of_lt_of_le E_bv.lt s_nb20); have ne_dO_nb20 : dO ≠ nb20 := O.ne V_dO.lt g_nb20
  have ne_dT_nb20 : dT ≠ nb20 := O.ne V_dT.lt g_nb20; have ne_na11_nb20 : na11 ≠ nb20 := Nat.ne_of_lt (Nat.lt_of_lt_of_le E_na11.lt s_nb20); have ne_nb11_nb20 : nb11 ≠ nb20 := Nat.ne_of_lt (Nat.lt_of_lt_of_le V_nb11.lt s_nb20)
  have E_a1 := E_a1.keep K20; have E_bv := E_bv.keep K20; have E_na11 := E_na11.keep K20; have F_value_na11 := F_value_na11.keep K20 (ninS (Ne.symm ne_a1_na11) (ninS (Ne.symm ne_bv_na11) nin0)); have F_coder_na11 := F_coder_na11.keep K20 (ninS (Ne.symm ne_a1_na11) (ninS (Ne.symm ne_bv_na11) nin0)); have V_nb11 := V_nb11.keep K20 (ninS (Ne.symm ne_a1_nb11) (ninS (Ne.symm ne_bv_nb11) nin0))
  have O := O.keep K20 (allS g_a1 (allS g_bv all0)); have K := K.trans K20 (allS (Or.inl (List.mem_of_getElem? (i := 0) rfl)) (allS (Or.inl (List.mem_of_getElem? (i := 1) rfl)) all0))
  have E_a1 := E_a1'; have F_value_a1 := F_value_a1'; have F_coder_a1 := F_coder_a1'; have F_count_a1 := F_count_a1'
  refine og_pop X20 hx rfl (hb hby d7_36) rfl ?_
  refine og_retV X20 hx hlk hret (hb hby d7_37) (by decide) (by decide) ?_
  rw [e20]; exact ⟨_, _, _, _, _, rfl, N, K, E_a1, F_value_a1, F_coder_a1, F_count_a1, V_nb20, E_nb20, Or.inr (Or.inl (⟨rfl, rfl, g0, g1, rfl, hg0, hg1, hlo, hhi⟩))⟩
 ·
  refine og_astoreN (L' := #[.val (.ref a1), .val (.int aa), .val (.int 4), .val (.ref na11), .unset]) X11 hx rfl rfl (hb hby d7_4) rfl ?_
  refine og_iloadN X11 hx rfl (hb hby d7_5) rfl ?_
  refine og_aloadN X11 hx rfl rfl (hb hby d7_6) rfl ?_
  refine og_virtual (pc' := 10) (cells' := 2) (slots' := 14) (W := 1) X11 hx hZ (rm_len l Z a0 hw na11 nb11 k11 (3 : Int32) _ cs hcs h11 n0 O E_na11 F_value_na11 F_coder_na11 V_nb11 S_CS) hown (ow60 hw) (ow61 hw) (own_nf hZ (ow63 hw)) (ow63 hw) (ow62 hw) (ow21 hw) (ow64 hw) (by decide) (by rw [hml]; rfl) e11 opd_13 [] [(.int 4)] rfl rfl rfl rfl (by decide) (by decide) rfl rfl (by decide) (by decide) E_na11 (hb hby d7_7) rfl (fun v21 T21 h21 L21 X21 e21 z21 => ?_)
  obtain ⟨rfl, Nq21, hq21⟩ := z21; replace e21 := e21.trans hq21; have N := Fr.app N Nq21
  refine og_isub X21 hx (hb hby d7_10) rfl ?_
  show OG p e below _ (T21.setTop (mkF m 11 #[.val (.ref a1), .val (.int aa), .val (.int 4), .val (.ref na11), .unset] [(.int 1)]))
  refine og_istore (L' := #[.val (.ref a1), .val (.int aa), .val (.int 4), .val (.ref na11), .val (.int 1)]) X21 hx rfl (hb hby d7_11) rfl ?_
  refine og_iload X21 hx rfl (hb hby d7_13) rfl ?_
  refine og_if_le (pc1 := 31) (pc2 := 18) X21 hx (hb hby d7_15) (by decide) (by decide) rfl (fun q => absurd q (by decide)) (fun _ => ?_)
  refine og_aloadN X21 hx rfl rfl (hb hby d7_18) rfl ?_
  refine og_bipush (v := 48) X21 hx rfl (hb hby d7_19) rfl ?_
  refine og_virtual (pc' := 24) (cells' := 2) (slots' := 14) (W := 0) X21 hx hZ (rm_sac_1_48 l Z a0 hw a1 bv kb (45 : Int32) (0 : Int32) (0 : Int32) (0 : Int32) cs hcs h11 n0 O E_a1 F_value_a1 F_coder_a1 F_count_a1 V_bv S_CS g_a1 g_bv ne_a1_bv) hown (ow71 hw) (ow72 hw) (own_nf hZ (ow74 hw)) (ow74 hw) (ow73 hw) (ow7 hw) (ow75 hw) (by decide) (by rw [hml]; rfl) e21 opd_22 [(.int 48)] [] rfl rfl rfl rfl (by decide) (by decide) rfl rfl (by decide) (by decide) E_a1 (hb hby d7_21) rfl (fun v22 T22 h22 L22 X22 e22 z22 => ?_)
  obtain ⟨rfl, Nq22, K22, E_a1', F_value_a1', F_coder_a1', F_count_a1', V_bv'⟩ := z22; have N := Fr.app N Nq22
  have E_a1 := E_a1.keep K22; have E_bv := E_bv.keep K22; have E_na11 := E_na11.keep K22; have F_value_na11 := F_value_na11.keep K22 (ninS (Ne.symm ne_a1_na11) (ninS (Ne.symm ne_bv_na11) nin0)); have F_coder_na11 := F_coder_na11.keep K22 (ninS (Ne.symm ne_a1_na11) (ninS (Ne.symm ne_bv_na11) nin0)); have V_nb11 := V_nb11.keep K22 (ninS (Ne.symm ne_a1_nb11) (ninS (Ne.symm ne_bv_nb11) nin0))
  have O := O.keep K22 (allS g_a1 (allS g_bv all0)); have K := K.trans K22 (allS (Or.inl (List.mem_of_getElem? (i := 0) rfl)) (allS (Or.inl (List.mem_of_getElem? (i := 1) rfl)) all0))
  have V_bv := V_bv'
  have E_a1 := E_a1'; have F_value_a1 := F_value_a1'; have F_coder_a1 := F_coder_a1'; have F_count_a1 := F_count_a1'
  refine og_pop X22 hx rfl (hb hby d7_24) rfl ?_
  refine og_iinc (L' := #[.val (.ref a1), .val (.int aa), .val (.int 4), .val (.ref na11), .val (.int 0)]) (w := -1) X22 hx rfl rfl rfl (hb hby d7_25) rfl ?_
  refine og_goto (pc' := 13) X22 hx (hb hby d7_28) (by decide) (by decide) ?_
  refine og_iload X22 hx rfl (hb hby d7_13) rfl ?_
  refine og_if_le (pc1 := 31) (pc2 := 18) X22 hx (hb hby d7_15) (by decide) (by decide) rfl (fun _ => ?_) (fun q => absurd q (by decide))
  refine og_aloadN X22 hx rfl rfl (hb hby d7_31) rfl ?_
  refine og_aloadN X22 hx rfl rfl (hb hby d7_32) rfl ?_
  refine og_virtual (pc' := 36) (cells' := 3) (slots' := 25) (W := 0) X22 hx hZ (rm_sasG l Z a0 hw a1 na11 bv nb11 kb k11 (5 : Int32) (2 : Int32) (3 : Int32) (10 : Int32) [(.int g2), (.int g1), (.int g0)] [(.int 45), (.int 48), (.int 0), (.int 0), (.int 0), (.int 0), (.int 0), (.int 0), (.int 0), (.int 0)] [(.int g2), (.int g1), (.int g0)] [(.int 45), (.int 48), (.int g2), (.int g1), (.int g0), (.int 0), (.int 0), (.int 0), (.int 0), (.int 0)] (by decide) (by decide) (by decide) (by decide) rfl (Nat.le_of_ble_eq_true rfl) rfl rfl (45 : Int32) (48 : Int32) (0 : Int32) (0 : Int32) 6 rfl (Or.inl (⟨rfl, rfl, rfl⟩)) cs hcs h22 n0 O E_a1 F_value_a1 F_coder_a1 F_count_a1 E_bv V_bv E_na11 F_value_na11 F_coder_na11 V_nb11 S_CS g_a1 g_bv ne_a1_bv (Ne.symm ne_bv_na11) (Ne.symm ne_bv_nb11) (Ne.symm ne_a1_na11) (Ne.symm ne_a1_nb11)) hown (ow97 hw) (ow98 hw) (own_nf hZ (ow100 hw)) (ow100 hw) (ow99 hw) (ow7 hw) (ow101 hw) (by decide) (by rw [hml]; rfl) e22 opd_23 [(.ref na11)] [] rfl rfl rfl rfl (by decide) (by decide) rfl rfl (by decide) (by decide) E_a1 (hb hby d7_33) rfl (fun v23 T23 h23 L23 X23 e23 z23 => ?_)
  obtain ⟨nb23, k23, rfl, Nq23, K23, sb23, E_a1', F_value_a1', F_coder_a1', F_count_a1', V_nb23, E_nb23⟩ := z23; have N := Fr.app N Nq23
  have s_nb23 : h22.size ≤ nb23 := sb23; have g_nb23 : n0 ≤ nb23 := Nat.le_trans (own_n0 O) s_nb23; have sz_nb23 : h0.size ≤ nb23 := Nat.le_trans K.1 s_nb23; have ne_a1_nb23 : a1 ≠ nb23 := Nat.ne_of_lt (Nat.lt_of_lt_of_le E_a1.lt s_nb23); have ne_bv_nb23 : bv ≠ nb23 := Nat.ne_of_lt (Nat.lt_of_lt_of_le E_bv.lt s_nb23); have ne_dO_nb23 : dO ≠ nb23 := O.ne V_dO.lt g_nb23
  have ne_dT_nb23 : dT ≠ nb23 := O.ne V_dT.lt g_nb23; have ne_na11_nb23 : na11 ≠ nb23 := Nat.ne_of_lt (Nat.lt_of_lt_of_le E_na11.lt s_nb23); have ne_nb11_nb23 : nb11 ≠ nb23 := Nat.ne_of_lt (Nat.lt_of_lt_of_le V_nb11.lt s_nb23)
  have E_a1 := E_a1.keep K23; have E_bv := E_bv.keep K23; have E_na11 := E_na11.keep K23; have F_value_na11 := F_value_na11.keep K23 (ninS (Ne.symm ne_a1_na11) (ninS (Ne.symm ne_bv_na11) nin0)); have F_coder_na11 := F_coder_na11.keep K23 (ninS (Ne.symm ne_a1_na11) (ninS (Ne.symm ne_bv_na11) nin0)); have V_nb11 := V_nb11.keep K23 (ninS (Ne.symm ne_a1_nb11) (ninS (Ne.symm ne_bv_nb11) nin0))
  have O := O.keep K23 (allS g_a1 (allS g_bv all0)); have K := K.trans K23 (allS (Or.inl (List.mem_of_getElem? (i := 0) rfl)) (allS (Or.inl (List.mem_of_getElem? (i := 1) rfl)) all0))
  have E_a1 := E_a1'; have F_value_a1 := F_value_a1'; have F_coder_a1 := F_coder_a1'; have F_count_a1 := F_count_a1'
  refine og_pop X23 hx rfl (hb hby d7_36) rfl ?_
  refine og_retV X23 hx hlk hret (hb hby d7_37) (by decide) (by decide) ?_
  rw [e23]; exact ⟨_, _, _, _, _, rfl, N, K, E_a1, F_value_a1, F_coder_a1, F_count_a1, V_nb23, E_nb23, Or.inr (Or.inr (Or.inl (⟨rfl, rfl, g0, g1, g2, rfl, hg0, hg1, hg2, hlo, hhi⟩)))⟩
 ·
  refine og_astoreN (L' := #[.val (.ref a1), .val (.int aa), .val (.int 4), .val (.ref na11), .unset]) X11 hx rfl rfl (hb hby d7_4) rfl ?_
  refine og_iloadN X11 hx rfl (hb hby d7_5) rfl ?_
  refine og_aloadN X11 hx rfl rfl (hb hby d7_6) rfl ?_
  refine og_virtual (pc' := 10) (cells' := 2) (slots' := 14) (W := 1) X11 hx hZ (rm_len l Z a0 hw na11 nb11 k11 (4 : Int32) _ cs hcs h11 n0 O E_na11 F_value_na11 F_coder_na11 V_nb11 S_CS) hown (ow60 hw) (ow61 hw) (own_nf hZ (ow63 hw)) (ow63 hw) (ow62 hw) (ow21 hw) (ow64 hw) (by decide) (by rw [hml]; rfl) e11 opd_13 [] [(.int 4)] rfl rfl rfl rfl (by decide) (by decide) rfl rfl (by decide) (by decide) E_na11 (hb hby d7_7) rfl (fun v24 T24 h24 L24 X24 e24 z24 => ?_)
  obtain ⟨rfl, Nq24, hq24⟩ := z24; replace e24 := e24.trans hq24; have N := Fr.app N Nq24
  refine og_isub X24 hx (hb hby d7_10) rfl ?_
  show OG p e below _ (T24.setTop (mkF m 11 #[.val (.ref a1), .val (.int aa), .val (.int 4), .val (.ref na11), .unset] [(.int 0)]))
  refine og_istore (L' := #[.val (.ref a1), .val (.int aa), .val (.int 4), .val (.ref na11), .val (.int 0)]) X24 hx rfl (hb hby d7_11) rfl ?_
  refine og_iload X24 hx rfl (hb hby d7_13) rfl ?_
  refine og_if_le (pc1 := 31) (pc2 := 18) X24 hx (hb hby d7_15) (by decide) (by decide) rfl (fun _ => ?_) (fun q => absurd q (by decide))
  refine og_aloadN X24 hx rfl rfl (hb hby d7_31) rfl ?_
  refine og_aloadN X24 hx rfl rfl (hb hby d7_32) rfl ?_
  refine og_virtual (pc' := 36) (cells' := 3) (slots' := 25) (W := 0) X24 hx hZ (rm_sasG l Z a0 hw a1 na11 bv nb11 kb k11 (5 : Int32) (1 : Int32) (4 : Int32) (10 : Int32) [(.int g3), (.int g2), (.int g1), (.int g0)] [(.int 45), (.int 0), (.int 0), (.int 0), (.int 0), (.int 0), (.int 0), (.int 0), (.int 0), (.int 0)] [(.int g3), (.int g2), (.int g1), (.int g0)] [(.int 45), (.int g3), (.int g2), (.int g1), (.int g0), (.int 0), (.int 0), (.int 0), (.int 0), (.int 0)] (by decide) (by decide) (by decide) (by decide) rfl (Nat.le_of_ble_eq_true rfl) rfl rfl (45 : Int32) (0 : Int32) (0 : Int32) (0 : Int32) 6 rfl (Or.inl (⟨rfl, rfl, rfl⟩)) cs hcs h11 n0 O E_a1 F_value_a1 F_coder_a1 F_count_a1 E_bv V_bv E_na11 F_value_na11 F_coder_na11 V_nb11 S_CS g_a1 g_bv ne_a1_bv (Ne.symm ne_bv_na11) (Ne.symm ne_bv_nb11) (Ne.symm ne_a1_na11) (Ne.symm ne_a1_nb11)) hown (ow97 hw) (ow98 hw) (own_nf hZ (ow100 hw)) (ow100 hw) (ow99 hw) (ow7 hw) (ow101 hw) (by decide) (by rw [hml]; rfl) e24 opd_23 [(.ref na11)] [] rfl rfl rfl rfl (by decide) (by decide) rfl rfl (by decide) (by decide) E_a1 (hb hby d7_33) rfl (fun v25 T25 h25 L25 X25 e25 z25 => ?_)
  obtain ⟨nb25, k25, rfl, Nq25, K25, sb25, E_a1', F_value_a1', F_coder_a1', F_count_a1', V_nb25, E_nb25⟩ := z25; have N := Fr.app N Nq25
  have s_nb25 : h11.size ≤ nb25 := sb25; have g_nb25 : n0 ≤ nb25 := Nat.le_trans (own_n0 O) s_nb25; have sz_nb25 : h0.size ≤ nb25 := Nat.le_trans K.1 s_nb25; have ne_a1_nb25 : a1 ≠ nb25 := Nat.ne_of_lt (Nat.lt_of_lt_of_le E_a1.lt s_nb25); have ne_bv_nb25 : bv ≠ nb25 := Nat.ne_of_lt (Nat.lt_of_lt_of_le E_bv.lt s_nb25); have ne_dO_nb25 : dO ≠ nb25 := O.ne V_dO.lt g_nb25
  have ne_dT_nb25 : dT ≠ nb25 := O.ne V_dT.lt g_nb25; have ne_na11_nb25 : na11 ≠ nb25 := Nat.ne_of_lt (Nat.lt_of_lt_of_le E_na11.lt s_nb25); have ne_nb11_nb25 : nb11 ≠ nb25 := Nat.ne_of_lt (Nat.lt_of_lt_of_le V_nb11.lt s_nb25)
  have E_a1 := E_a1.keep K25; have E_bv := E_bv.keep K25; have E_na11 := E_na11.keep K25; have F_value_na11 := F_value_na11.keep K25 (ninS (Ne.symm ne_a1_na11) (ninS (Ne.symm ne_bv_na11) nin0)); have F_coder_na11 := F_coder_na11.keep K25 (ninS (Ne.symm ne_a1_na11) (ninS (Ne.symm ne_bv_na11) nin0)); have V_nb11 := V_nb11.keep K25 (ninS (Ne.symm ne_a1_nb11) (ninS (Ne.symm ne_bv_nb11) nin0))
  have O := O.keep K25 (allS g_a1 (allS g_bv all0)); have K := K.trans K25 (allS (Or.inl (List.mem_of_getElem? (i := 0) rfl)) (allS (Or.inl (List.mem_of_getElem? (i := 1) rfl)) all0))
  have E_a1 := E_a1'; have F_value_a1 := F_value_a1'; have F_coder_a1 := F_coder_a1'; have F_count_a1 := F_count_a1'
  refine og_pop X25 hx rfl (hb hby d7_36) rfl ?_
  refine og_retV X25 hx hlk hret (hb hby d7_37) (by decide) (by decide) ?_
  rw [e25]; exact ⟨_, _, _, _, _, rfl, N, K, E_a1, F_value_a1, F_coder_a1, F_count_a1, V_nb25, E_nb25, Or.inr (Or.inr (Or.inr (Or.inl (⟨rfl, rfl, g0, g1, g2, g3, rfl, hg0, hg1, hg2, hg3, hlo, hhi⟩))))⟩
 ·
  refine og_astoreN (L' := #[.val (.ref a1), .val (.int aa), .val (.int 4), .val (.ref na11), .unset]) X11 hx rfl rfl (hb hby d7_4) rfl ?_
  refine og_iloadN X11 hx rfl (hb hby d7_5) rfl ?_
  refine og_aloadN X11 hx rfl rfl (hb hby d7_6) rfl ?_
  refine og_virtual (pc' := 10) (cells' := 2) (slots' := 14) (W := 1) X11 hx hZ (rm_len l Z a0 hw na11 nb11 k11 (5 : Int32) _ cs hcs h11 n0 O E_na11 F_value_na11 F_coder_na11 V_nb11 S_CS) hown (ow60 hw) (ow61 hw) (own_nf hZ (ow63 hw)) (ow63 hw) (ow62 hw) (ow21 hw) (ow64 hw) (by decide) (by rw [hml]; rfl) e11 opd_13 [] [(.int 4)] rfl rfl rfl rfl (by decide) (by decide) rfl rfl (by decide) (by decide) E_na11 (hb hby d7_7) rfl (fun v26 T26 h26 L26 X26 e26 z26 => ?_)
  obtain ⟨rfl, Nq26, hq26⟩ := z26; replace e26 := e26.trans hq26; have N := Fr.app N Nq26
  refine og_isub X26 hx (hb hby d7_10) rfl ?_
  show OG p e below _ (T26.setTop (mkF m 11 #[.val (.ref a1), .val (.int aa), .val (.int 4), .val (.ref na11), .unset] [(.int (-1))]))
  refine og_istore (L' := #[.val (.ref a1), .val (.int aa), .val (.int 4), .val (.ref na11), .val (.int (-1))]) X26 hx rfl (hb hby d7_11) rfl ?_
  refine og_iload X26 hx rfl (hb hby d7_13) rfl ?_
  refine og_if_le (pc1 := 31) (pc2 := 18) X26 hx (hb hby d7_15) (by decide) (by decide) rfl (fun _ => ?_) (fun q => absurd q (by decide))
  refine og_aloadN X26 hx rfl rfl (hb hby d7_31) rfl ?_
  refine og_aloadN X26 hx rfl rfl (hb hby d7_32) rfl ?_
  refine og_virtual (pc' := 36) (cells' := 3) (slots' := 25) (W := 0) X26 hx hZ (rm_sasG l Z a0 hw a1 na11 bv nb11 kb k11 (6 : Int32) (1 : Int32) (5 : Int32) (10 : Int32) [(.int g4), (.int g3), (.int g2), (.int g1), (.int g0)] [(.int 45), (.int 0), (.int 0), (.int 0), (.int 0), (.int 0), (.int 0), (.int 0), (.int 0), (.int 0)] [(.int g4), (.int g3), (.int g2), (.int g1), (.int g0)] [(.int 45), (.int g4), (.int g3), (.int g2), (.int g1), (.int g0), (.int 0), (.int 0), (.int 0), (.int 0)] (by decide) (by decide) (by decide) (by decide) rfl (Nat.le_of_ble_eq_true rfl) rfl rfl (45 : Int32) (0 : Int32) (0 : Int32) (0 : Int32) 6 rfl (Or.inr (Or.inl (⟨rfl, rfl, rfl⟩))) cs hcs h11 n0 O E_a1 F_value_a1 F_coder_a1 F_count_a1 E_bv V_bv E_na11 F_value_na11 F_coder_na11 V_nb11 S_CS g_a1 g_bv ne_a1_bv (Ne.symm ne_bv_na11) (Ne.symm ne_bv_nb11) (Ne.symm ne_a1_na11) (Ne.symm ne_a1_nb11)) hown (ow97 hw) (ow98 hw) (own_nf hZ (ow100 hw)) (ow100 hw) (ow99 hw) (ow7 hw) (ow101 hw) (by decide) (by rw [hml]; rfl) e26 opd_23 [(.ref na11)] [] rfl rfl rfl rfl (by decide) (by decide) rfl rfl (by decide) (by decide) E_a1 (hb hby d7_33) rfl (fun v27 T27 h27 L27 X27 e27 z27 => ?_)
  obtain ⟨nb27, k27, rfl, Nq27, K27, sb27, E_a1', F_value_a1', F_coder_a1', F_count_a1', V_nb27, E_nb27⟩ := z27; have N := Fr.app N Nq27
  have s_nb27 : h11.size ≤ nb27 := sb27; have g_nb27 : n0 ≤ nb27 := Nat.le_trans (own_n0 O) s_nb27; have sz_nb27 : h0.size ≤ nb27 := Nat.le_trans K.1 s_nb27; have ne_a1_nb27 : a1 ≠ nb27 := Nat.ne_of_lt (Nat.lt_of_lt_of_le E_a1.lt s_nb27); have ne_bv_nb27 : bv ≠ nb27 := Nat.ne_of_lt (Nat.lt_of_lt_of_le E_bv.lt s_nb27); have ne_dO_nb27 : dO ≠ nb27 := O.ne V_dO.lt g_nb27
  have ne_dT_nb27 : dT ≠ nb27 := O.ne V_dT.lt g_nb27; have ne_na11_nb27 : na11 ≠ nb27 := Nat.ne_of_lt (Nat.lt_of_lt_of_le E_na11.lt s_nb27); have ne_nb11_nb27 : nb11 ≠ nb27 := Nat.ne_of_lt (Nat.lt_of_lt_of_le V_nb11.lt s_nb27)
  have E_a1 := E_a1.keep K27; have E_bv := E_bv.keep K27; have E_na11 := E_na11.keep K27; have F_value_na11 := F_value_na11.keep K27 (ninS (Ne.symm ne_a1_na11) (ninS (Ne.symm ne_bv_na11) nin0)); have F_coder_na11 := F_coder_na11.keep K27 (ninS (Ne.symm ne_a1_na11) (ninS (Ne.symm ne_bv_na11) nin0)); have V_nb11 := V_nb11.keep K27 (ninS (Ne.symm ne_a1_nb11) (ninS (Ne.symm ne_bv_nb11) nin0))
  have O := O.keep K27 (allS g_a1 (allS g_bv all0)); have K := K.trans K27 (allS (Or.inl (List.mem_of_getElem? (i := 0) rfl)) (allS (Or.inl (List.mem_of_getElem? (i := 1) rfl)) all0))
  have E_a1 := E_a1'; have F_value_a1 := F_value_a1'; have F_coder_a1 := F_coder_a1'; have F_count_a1 := F_count_a1'
  refine og_pop X27 hx rfl (hb hby d7_36) rfl ?_
  refine og_retV X27 hx hlk hret (hb hby d7_37) (by decide) (by decide) ?_
  rw [e27]; exact ⟨_, _, _, _, _, rfl, N, K, E_a1, F_value_a1, F_coder_a1, F_count_a1, V_nb27, E_nb27, Or.inr (Or.inr (Or.inr (Or.inr (Or.inl (⟨rfl, rfl, g0, g1, g2, g3, g4, rfl, hg0, hg1, hg2, hg3, hg4, hlo, hhi⟩)))))⟩
 ·
  refine og_astoreN (L' := #[.val (.ref a1), .val (.int aa), .val (.int 4), .val (.ref na11), .unset]) X11 hx rfl rfl (hb hby d7_4) rfl ?_
  refine og_iloadN X11 hx rfl (hb hby d7_5) rfl ?_
  refine og_aloadN X11 hx rfl rfl (hb hby d7_6) rfl ?_
  refine og_virtual (pc' := 10) (cells' := 2) (slots' := 14) (W := 1) X11 hx hZ (rm_len l Z a0 hw na11 nb11 k11 (6 : Int32) _ cs hcs h11 n0 O E_na11 F_value_na11 F_coder_na11 V_nb11 S_CS) hown (ow60 hw) (ow61 hw) (own_nf hZ (ow63 hw)) (ow63 hw) (ow62 hw) (ow21 hw) (ow64 hw) (by decide) (by rw [hml]; rfl) e11 opd_13 [] [(.int 4)] rfl rfl rfl rfl (by decide) (by decide) rfl rfl (by decide) (by decide) E_na11 (hb hby d7_7) rfl (fun v28 T28 h28 L28 X28 e28 z28 => ?_)
  obtain ⟨rfl, Nq28, hq28⟩ := z28; replace e28 := e28.trans hq28; have N := Fr.app N Nq28
  refine og_isub X28 hx (hb hby d7_10) rfl ?_
  show OG p e below _ (T28.setTop (mkF m 11 #[.val (.ref a1), .val (.int aa), .val (.int 4), .val (.ref na11), .unset] [(.int (-2))]))
  refine og_istore (L' := #[.val (.ref a1), .val (.int aa), .val (.int 4), .val (.ref na11), .val (.int (-2))]) X28 hx rfl (hb hby d7_11) rfl ?_
  refine og_iload X28 hx rfl (hb hby d7_13) rfl ?_
  refine og_if_le (pc1 := 31) (pc2 := 18) X28 hx (hb hby d7_15) (by decide) (by decide) rfl (fun _ => ?_) (fun q => absurd q (by decide))
  refine og_aloadN X28 hx rfl rfl (hb hby d7_31) rfl ?_
  refine og_aloadN X28 hx rfl rfl (hb hby d7_32) rfl ?_
  refine og_virtual (pc' := 36) (cells' := 3) (slots' := 25) (W := 0) X28 hx hZ (rm_sasG l Z a0 hw a1 na11 bv nb11 kb k11 (7 : Int32) (1 : Int32) (6 : Int32) (10 : Int32) [(.int g5), (.int g4), (.int g3), (.int g2), (.int g1), (.int g0)] [(.int 45), (.int 0), (.int 0), (.int 0), (.int 0), (.int 0), (.int 0), (.int 0), (.int 0), (.int 0)] [(.int g5), (.int g4), (.int g3), (.int g2), (.int g1), (.int g0)] [(.int 45), (.int g5), (.int g4), (.int g3), (.int g2), (.int g1), (.int g0), (.int 0), (.int 0), (.int 0)] (by decide) (by decide) (by decide) (by decide) rfl (Nat.le_of_ble_eq_true rfl) rfl rfl (45 : Int32) (0 : Int32) (0 : Int32) (0 : Int32) 6 rfl (Or.inr (Or.inr (Or.inl (⟨rfl, rfl, rfl⟩)))) cs hcs h11 n0 O E_a1 F_value_a1 F_coder_a1 F_count_a1 E_bv V_bv E_na11 F_value_na11 F_coder_na11 V_nb11 S_CS g_a1 g_bv ne_a1_bv (Ne.symm ne_bv_na11) (Ne.symm ne_bv_nb11) (Ne.symm ne_a1_na11) (Ne.symm ne_a1_nb11)) hown (ow97 hw) (ow98 hw) (own_nf hZ (ow100 hw)) (ow100 hw) (ow99 hw) (ow7 hw) (ow101 hw) (by decide) (by rw [hml]; rfl) e28 opd_23 [(.ref na11)] [] rfl rfl rfl rfl (by decide) (by decide) rfl rfl (by decide) (by decide) E_a1 (hb hby d7_33) rfl (fun v29 T29 h29 L29 X29 e29 z29 => ?_)
  obtain ⟨nb29, k29, rfl, Nq29, K29, sb29, E_a1', F_value_a1', F_coder_a1', F_count_a1', V_nb29, E_nb29⟩ := z29; have N := Fr.app N Nq29
  have s_nb29 : h11.size ≤ nb29 := sb29; have g_nb29 : n0 ≤ nb29 := Nat.le_trans (own_n0 O) s_nb29; have sz_nb29 : h0.size ≤ nb29 := Nat.le_trans K.1 s_nb29; have ne_a1_nb29 : a1 ≠ nb29 := Nat.ne_of_lt (Nat.lt_of_lt_of_le E_a1.lt s_nb29); have ne_bv_nb29 : bv ≠ nb29 := Nat.ne_of_lt (Nat.lt_of_lt_of_le E_bv.lt s_nb29); have ne_dO_nb29 : dO ≠ nb29 := O.ne V_dO.lt g_nb29
  have ne_dT_nb29 : dT ≠ nb29 := O.ne V_dT.lt g_nb29; have ne_na11_nb29 : na11 ≠ nb29 := Nat.ne_of_lt (Nat.lt_of_lt_of_le E_na11.lt s_nb29); have ne_nb11_nb29 : nb11 ≠ nb29 := Nat.ne_of_lt (Nat.lt_of_lt_of_le V_nb11.lt s_nb29)
  have E_a1 := E_a1.keep K29; have E_bv := E_bv.keep K29; have E_na11 := E_na11.keep K29; have F_value_na11 := F_value_na11.keep K29 (ninS (Ne.symm ne_a1_na11) (ninS (Ne.symm ne_bv_na11) nin0)); have F_coder_na11 := F_coder_na11.keep K29 (ninS (Ne.symm ne_a1_na11) (ninS (Ne.symm ne_bv_na11) nin0)); have V_nb11 := V_nb11.keep K29 (ninS (Ne.symm ne_a1_nb11) (ninS (Ne.symm ne_bv_nb11) nin0))
  have O := O.keep K29 (allS g_a1 (allS g_bv all0)); have K := K.trans K29 (allS (Or.inl (List.mem_of_getElem? (i := 0) rfl)) (allS (Or.inl (List.mem_of_getElem? (i := 1) rfl)) all0))
  have E_a1 := E_a1'; have F_value_a1 := F_value_a1'; have F_coder_a1 := F_coder_a1'; have F_count_a1 := F_count_a1'
  refine og_pop X29 hx rfl (hb hby d7_36) rfl ?_
  refine og_retV X29 hx hlk hret (hb hby d7_37) (by decide) (by decide) ?_
  rw [e29]; exact ⟨_, _, _, _, _, rfl, N, K, E_a1, F_value_a1, F_coder_a1, F_count_a1, V_nb29, E_nb29, Or.inr (Or.inr (Or.inr (Or.inr (Or.inr (Or.inl (⟨rfl, rfl, g0, g1, g2, g3, g4, g5, rfl, hg0, hg1, hg2, hg3, hg4, hg5, hlo, hhi⟩))))))⟩
 ·
  refine og_astoreN (L' := #[.val (.ref a1), .val (.int aa), .val (.int 4), .val (.ref na11), .unset]) X11 hx rfl rfl (hb hby d7_4) rfl ?_
  refine og_iloadN X11 hx rfl (hb hby d7_5) rfl ?_
  refine og_aloadN X11 hx rfl rfl (hb hby d7_6) rfl ?_
  refine og_virtual (pc' := 10) (cells' := 2) (slots' := 14) (W := 1) X11 hx hZ (rm_len l Z a0 hw na11 nb11 k11 (7 : Int32) _ cs hcs h11 n0 O E_na11 F_value_na11 F_coder_na11 V_nb11 S_CS) hown (ow60 hw) (ow61 hw) (own_nf hZ (ow63 hw)) (ow63 hw) (ow62 hw) (ow21 hw) (ow64 hw) (by decide) (by rw [hml]; rfl) e11 opd_13 [] [(.int 4)] rfl rfl rfl rfl (by decide) (by decide) rfl rfl (by decide) (by decide) E_na11 (hb hby d7_7) rfl (fun v30 T30 h30 L30 X30 e30 z30 => ?_)
  obtain ⟨rfl, Nq30, hq30⟩ := z30; replace e30 := e30.trans hq30; have N := Fr.app N Nq30
  refine og_isub X30 hx (hb hby d7_10) rfl ?_
  show OG p e below _ (T30.setTop (mkF m 11 #[.val (.ref a1), .val (.int aa), .val (.int 4), .val (.ref na11), .unset] [(.int (-3))]))
  refine og_istore (L' := #[.val (.ref a1), .val (.int aa), .val (.int 4), .val (.ref na11), .val (.int (-3))]) X30 hx rfl (hb hby d7_11) rfl ?_
  refine og_iload X30 hx rfl (hb hby d7_13) rfl ?_
  refine og_if_le (pc1 := 31) (pc2 := 18) X30 hx (hb hby d7_15) (by decide) (by decide) rfl (fun _ => ?_) (fun q => absurd q (by decide))
  refine og_aloadN X30 hx rfl rfl (hb hby d7_31) rfl ?_
  refine og_aloadN X30 hx rfl rfl (hb hby d7_32) rfl ?_
  refine og_virtual (pc' := 36) (cells' := 3) (slots' := 25) (W := 0) X30 hx hZ (rm_sasG l Z a0 hw a1 na11 bv nb11 kb k11 (8 : Int32) (1 : Int32) (7 : Int32) (10 : Int32) [(.int g6), (.int g5), (.int g4), (.int g3), (.int g2), (.int g1), (.int g0)] [(.int 45), (.int 0), (.int 0), (.int 0), (.int 0), (.int 0), (.int 0), (.int 0), (.int 0), (.int 0)] [(.int g6), (.int g5), (.int g4), (.int g3), (.int g2), (.int g1), (.int g0)] [(.int 45), (.int g6), (.int g5), (.int g4), (.int g3), (.int g2), (.int g1), (.int g0), (.int 0), (.int 0)] (by decide) (by decide) (by decide) (by decide) rfl (Nat.le_of_ble_eq_true rfl) rfl rfl (45 : Int32) (0 : Int32) (0 : Int32) (0 : Int32) 6 rfl (Or.inr (Or.inr (Or.inr (Or.inl (⟨rfl, rfl, rfl⟩))))) cs hcs h11 n0 O E_a1 F_value_a1 F_coder_a1 F_count_a1 E_bv V_bv E_na11 F_value_na11 F_coder_na11 V_nb11 S_CS g_a1 g_bv ne_a1_bv (Ne.symm ne_bv_na11) (Ne.symm ne_bv_nb11) (Ne.symm ne_a1_na11) (Ne.symm ne_a1_nb11)) hown (ow97 hw) (ow98 hw) (own_nf hZ (ow100 hw)) (ow100 hw) (ow99 hw) (ow7 hw) (ow101 hw) (by decide) (by rw [hml]; rfl) e30 opd_23 [(.ref na11)] [] rfl rfl rfl rfl (by decide) (by decide) rfl rfl (by decide) (by decide) E_a1 (hb hby d7_33) rfl (fun v31 T31 h31 L31 X31 e31 z31 => ?_)
  obtain ⟨nb31, k31, rfl, Nq31, K31, sb31, E_a1', F_value_a1', F_coder_a1', F_count_a1', V_nb31, E_nb31⟩ := z31; have N := Fr.app N Nq31
  have s_nb31 : h11.size ≤ nb31 := sb31; have g_nb31 : n0 ≤ nb31 := Nat.le_trans (own_n0 O) s_nb31; have sz_nb31 : h0.size ≤ nb31 := Nat.le_trans K.1 s_nb31; have ne_a1_nb31 : a1 ≠ nb31 := Nat.ne_of_lt (Nat.lt_of_lt_of_le E_a1.lt s_nb31); have ne_bv_nb31 : bv ≠ nb31 := Nat.ne_of_lt (Nat.lt_of_lt_of_le E_bv.lt s_nb31); have ne_dO_nb31 : dO ≠ nb31 := O.ne V_dO.lt g_nb31
  have ne_dT_nb31 : dT ≠ nb31 := O.ne V_dT.lt g_nb31; have ne_na11_nb31 : na11 ≠ nb31 := Nat.ne_of_lt (Nat.lt_of_lt_of_le E_na11.lt s_nb31); have ne_nb11_nb31 : nb11 ≠ nb31 := Nat.ne_of_lt (Nat.lt_of_lt_of_le V_nb11.lt s_nb31)
  have E_a1 := E_a1.keep K31; have E_bv := E_bv.keep K31; have E_na11 := E_na11.keep K31; have F_value_na11 := F_value_na11.keep K31 (ninS (Ne.symm ne_a1_na11) (ninS (Ne.symm ne_bv_na11) nin0)); have F_coder_na11 := F_coder_na11.keep K31 (ninS (Ne.symm ne_a1_na11) (ninS (Ne.symm ne_bv_na11) nin0)); have V_nb11 := V_nb11.keep K31 (ninS (Ne.symm ne_a1_nb11) (ninS (Ne.symm ne_bv_nb11) nin0))
  have O := O.keep K31 (allS g_a1 (allS g_bv all0)); have K := K.trans K31 (allS (Or.inl (List.mem_of_getElem? (i := 0) rfl)) (allS (Or.inl (List.mem_of_getElem? (i := 1) rfl)) all0))
  have E_a1 := E_a1'; have F_value_a1 := F_value_a1'; have F_coder_a1 := F_coder_a1'; have F_count_a1 := F_count_a1'
  refine og_pop X31 hx rfl (hb hby d7_36) rfl ?_
  refine og_retV X31 hx hlk hret (hb hby d7_37) (by decide) (by decide) ?_
  rw [e31]; exact ⟨_, _, _, _, _, rfl, N, K, E_a1, F_value_a1, F_coder_a1, F_count_a1, V_nb31, E_nb31, Or.inr (Or.inr (Or.inr (Or.inr (Or.inr (Or.inr (Or.inl (⟨rfl, rfl, g0, g1, g2, g3, g4, g5, g6, rfl, hg0, hg1, hg2, hg3, hg4, hg5, hg6, hlo, hhi⟩)))))))⟩
 ·
  refine og_astoreN (L' := #[.val (.ref a1), .val (.int aa), .val (.int 4), .val (.ref na11), .unset]) X11 hx rfl rfl (hb hby d7_4) rfl ?_
  refine og_iloadN X11 hx rfl (hb hby d7_5) rfl ?_
  refine og_aloadN X11 hx rfl rfl (hb hby d7_6) rfl ?_
  refine og_virtual (pc' := 10) (cells' := 2) (slots' := 14) (W := 1) X11 hx hZ (rm_len l Z a0 hw na11 nb11 k11 (8 : Int32) _ cs hcs h11 n0 O E_na11 F_value_na11 F_coder_na11 V_nb11 S_CS) hown (ow60 hw) (ow61 hw) (own_nf hZ (ow63 hw)) (ow63 hw) (ow62 hw) (ow21 hw) (ow64 hw) (by decide) (by rw [hml]; rfl) e11 opd_13 [] [(.int 4)] rfl rfl rfl rfl (by decide) (by decide) rfl rfl (by decide) (by decide) E_na11 (hb hby d7_7) rfl (fun v32 T32 h32 L32 X32 e32 z32 => ?_)
  obtain ⟨rfl, Nq32, hq32⟩ := z32; replace e32 := e32.trans hq32; have N := Fr.app N Nq32
  refine og_isub X32 hx (hb hby d7_10) rfl ?_
  show OG p e below _ (T32.setTop (mkF m 11 #[.val (.ref a1), .val (.int aa), .val (.int 4), .val (.ref na11), .unset] [(.int (-4))]))
  refine og_istore (L' := #[.val (.ref a1), .val (.int aa), .val (.int 4), .val (.ref na11), .val (.int (-4))]) X32 hx rfl (hb hby d7_11) rfl ?_
  refine og_iload X32 hx rfl (hb hby d7_13) rfl ?_
  refine og_if_le (pc1 := 31) (pc2 := 18) X32 hx (hb hby d7_15) (by decide) (by decide) rfl (fun _ => ?_) (fun q => absurd q (by decide))
  refine og_aloadN X32 hx rfl rfl (hb hby d7_31) rfl ?_
  refine og_aloadN X32 hx rfl rfl (hb hby d7_32) rfl ?_
  refine og_virtual (pc' := 36) (cells' := 3) (slots' := 25) (W := 0) X32 hx hZ (rm_sasG l Z a0 hw a1 na11 bv nb11 kb k11 (9 : Int32) (1 : Int32) (8 : Int32) (10 : Int32) [(.int g7), (.int g6), (.int g5), (.int g4), (.int g3), (.int g2), (.int g1), (.int g0)] [(.int 45), (.int 0), (.int 0), (.int 0), (.int 0), (.int 0), (.int 0), (.int 0), (.int 0), (.int 0)] [(.int g7), (.int g6), (.int g5), (.int g4), (.int g3), (.int g2), (.int g1), (.int g0)] [(.int 45), (.int g7), (.int g6), (.int g5), (.int g4), (.int g3), (.int g2), (.int g1), (.int g0), (.int 0)] (by decide) (by decide) (by decide) (by decide) rfl (Nat.le_of_ble_eq_true rfl) rfl rfl (45 : Int32) (0 : Int32) (0 : Int32) (0 : Int32) 6 rfl (Or.inr (Or.inr (Or.inr (Or.inr (Or.inl (⟨rfl, rfl, rfl⟩)))))) cs hcs h11 n0 O E_a1 F_value_a1 F_coder_a1 F_count_a1 E_bv V_bv E_na11 F_value_na11 F_coder_na11 V_nb11 S_CS g_a1 g_bv ne_a1_bv (Ne.symm ne_bv_na11) (Ne.symm ne_bv_nb11) (Ne.symm ne_a1_na11) (Ne.symm ne_a1_nb11)) hown (ow97 hw) (ow98 hw) (own_nf hZ (ow100 hw)) (ow100 hw) (ow99 hw) (ow7 hw) (ow101 hw) (by decide) (by rw [hml]; rfl) e32 opd_23 [(.ref na11)] [] rfl rfl rfl rfl (by decide) (by decide) rfl rfl (by decide) (by decide) E_a1 (hb hby d7_33) rfl (fun v33 T33 h33 L33 X33 e33 z33 => ?_)
  obtain ⟨nb33, k33, rfl, Nq33, K33, sb33, E_a1', F_value_a1', F_coder_a1', F_count_a1', V_nb33, E_nb33⟩ := z33; have N := Fr.app N Nq33
  have s_nb33 : h11.size ≤ nb33 := sb33; have g_nb33 : n0 ≤ nb33 := Nat.le_trans (own_n0 O) s_nb33; have sz_nb33 : h0.size ≤ nb33 := Nat.le_trans K.1 s_nb33; have ne_a1_nb33 : a1 ≠ nb33 := Nat.ne_of_lt (Nat.lt_of_lt_of_le E_a1.lt s_nb33); have ne_bv_nb33 : bv ≠ nb33 := Nat.ne_of_lt (Nat.lt_of_lt_of_le E_bv.lt s_nb33); have ne_dO_nb33 : dO ≠ nb33 := O.ne V_dO.lt g_nb33
  have ne_dT_nb33 : dT ≠ nb33 := O.ne V_dT.lt g_nb33; have ne_na11_nb33 : na11 ≠ nb33 := Nat.ne_of_lt (Nat.lt_of_lt_of_le E_na11.lt s_nb33); have ne_nb11_nb33 : nb11 ≠ nb33 := Nat.ne_of_lt (Nat.lt_of_lt_of_le V_nb11.lt s_nb33)
  have E_a1 := E_a1.keep K33; have E_bv := E_bv.keep K33; have E_na11 := E_na11.keep K33; have F_value_na11 := F_value_na11.keep K33 (ninS (Ne.symm ne_a1_na11) (ninS (Ne.symm ne_bv_na11) nin0)); have F_coder_na11 := F_coder_na11.keep K33 (ninS (Ne.symm ne_a1_na11) (ninS (Ne.symm ne_bv_na11) nin0)); have V_nb11 := V_nb11.keep K33 (ninS (Ne.symm ne_a1_nb11) (ninS (Ne.symm ne_bv_nb11) nin0))
  have O := O.keep K33 (allS g_a1 (allS g_bv all0)); have K := K.trans K33 (allS (Or.inl (List.mem_of_getElem? (i := 0) rfl)) (allS (Or.inl (List.mem_of_getElem? (i := 1) rfl)) all0))
  have E_a1 := E_a1'; have F_value_a1 := F_value_a1'; have F_coder_a1 := F_coder_a1'; have F_count_a1 := F_count_a1'
  refine og_pop X33 hx rfl (hb hby d7_36) rfl ?_
  refine og_retV X33 hx hlk hret (hb hby d7_37) (by decide) (by decide) ?_
  rw [e33]; exact ⟨_, _, _, _, _, rfl, N, K, E_a1, F_value_a1, F_coder_a1, F_count_a1, V_nb33, E_nb33, Or.inr (Or.inr (Or.inr (Or.inr (Or.inr (Or.inr (Or.inr (Or.inl (⟨rfl, rfl, g0, g1, g2, g3, g4, g5, g6, g7, rfl, hg0, hg1, hg2, hg3, hg4, hg5, hg6, hg7, hlo, hhi⟩))))))))⟩
 ·
  refine og_astoreN (L' := #[.val (.ref a1), .val (.int aa), .val (.int 4), .val (.ref na11), .unset]) X11 hx rfl rfl (hb hby d7_4) rfl ?_
  refine og_iloadN X11 hx rfl (hb hby d7_5) rfl ?_
  refine og_aloadN X11 hx rfl rfl (hb hby d7_6) rfl ?_
  refine og_virtual (pc' := 10) (cells' := 2) (slots' := 14) (W := 1) X11 hx hZ (rm_len l Z a0 hw na11 nb11 k11 (9 : Int32) _ cs hcs h11 n0 O E_na11 F_value_na11 F_coder_na11 V_nb11 S_CS) hown (ow60 hw) (ow61 hw) (own_nf hZ (ow63 hw)) (ow63 hw) (ow62 hw) (ow21 hw) (ow64 hw) (by decide) (by rw [hml]; rfl) e11 opd_13 [] [(.int 4)] rfl rfl rfl rfl (by decide) (by decide) rfl rfl (by decide) (by decide) E_na11 (hb hby d7_7) rfl (fun v34 T34 h34 L34 X34 e34 z34 => ?_)
  obtain ⟨rfl, Nq34, hq34⟩ := z34; replace e34 := e34.trans hq34; have N := Fr.app N Nq34
  refine og_isub X34 hx (hb hby d7_10) rfl ?_
  show OG p e below _ (T34.setTop (mkF m 11 #[.val (.ref a1), .val (.int aa), .val (.int 4), .val (.ref na11), .unset] [(.int (-5))]))
  refine og_istore (L' := #[.val (.ref a1), .val (.int aa), .val (.int 4), .val (.ref na11), .val (.int (-5))]) X34 hx rfl (hb hby d7_11) rfl ?_
  refine og_iload X34 hx rfl (hb hby d7_13) rfl ?_
  refine og_if_le (pc1 := 31) (pc2 := 18) X34 hx (hb hby d7_15) (by decide) (by decide) rfl (fun _ => ?_) (fun q => absurd q (by decide))
  refine og_aloadN X34 hx rfl rfl (hb hby d7_31) rfl ?_
  refine og_aloadN X34 hx rfl rfl (hb hby d7_32) rfl ?_
  refine og_virtual (pc' := 36) (cells' := 3) (slots' := 25) (W := 0) X34 hx hZ (rm_sasG l Z a0 hw a1 na11 bv nb11 kb k11 (10 : Int32) (1 : Int32) (9 : Int32) (10 : Int32) [(.int g8), (.int g7), (.int g6), (.int g5), (.int g4), (.int g3), (.int g2), (.int g1), (.int g0)] [(.int 45), (.int 0), (.int 0), (.int 0), (.int 0), (.int 0), (.int 0), (.int 0), (.int 0), (.int 0)] [(.int g8), (.int g7), (.int g6), (.int g5), (.int g4), (.int g3), (.int g2), (.int g1), (.int g0)] [(.int 45), (.int g8), (.int g7), (.int g6), (.int g5), (.int g4), (.int g3), (.int g2), (.int g1), (.int g0)] (by decide) (by decide) (by decide) (by decide) rfl (Nat.le_of_ble_eq_true rfl) rfl rfl (45 : Int32) (0 : Int32) (0 : Int32) (0 : Int32) 6 rfl (Or.inr (Or.inr (Or.inr (Or.inr (Or.inr (Or.inl (⟨rfl, rfl, rfl⟩))))))) cs hcs h11 n0 O E_a1 F_value_a1 F_coder_a1 F_count_a1 E_bv V_bv E_na11 F_value_na11 F_coder_na11 V_nb11 S_CS g_a1 g_bv ne_a1_bv (Ne.symm ne_bv_na11) (Ne.symm ne_bv_nb11) (Ne.symm ne_a1_na11) (Ne.symm ne_a1_nb11)) hown (ow97 hw) (ow98 hw) (own_nf hZ (ow100 hw)) (ow100 hw) (ow99 hw) (ow7 hw) (ow101 hw) (by decide) (by rw [hml]; rfl) e34 opd_23 [(.ref na11)] [] rfl rfl rfl rfl (by decide) (by decide) rfl rfl (by decide) (by decide) E_a1 (hb hby d7_33) rfl (fun v35 T35 h35 L35 X35 e35 z35 => ?_)
  obtain ⟨nb35, k35, rfl, Nq35, K35, sb35, E_a1', F_value_a1', F_coder_a1', F_count_a1', V_nb35, E_nb35⟩ := z35; have N := Fr.app N Nq35
  have s_nb35 : h11.size ≤ nb35 := sb35; have g_nb35 : n0 ≤ nb35 := Nat.le_trans (own_n0 O) s_nb35; have sz_nb35 : h0.size ≤ nb35 := Nat.le_trans K.1 s_nb35; have ne_a1_nb35 : a1 ≠ nb35 := Nat.ne_of_lt (Nat.lt_of_lt_of_le E_a1.lt s_nb35); have ne_bv_nb35 : bv ≠ nb35 := Nat.ne_of_lt (Nat.lt_of_lt_of_le E_bv.lt s_nb35); have ne_dO_nb35 : dO ≠ nb35 := O.ne V_dO.lt g_nb35
  have ne_dT_nb35 : dT ≠ nb35 := O.ne V_dT.lt g_nb35; have ne_na11_nb35 : na11 ≠ nb35 := Nat.ne_of_lt (Nat.lt_of_lt_of_le E_na11.lt s_nb35); have ne_nb11_nb35 : nb11 ≠ nb35 := Nat.ne_of_lt (Nat.lt_of_lt_of_le V_nb11.lt s_nb35)
  have E_a1 := E_a1.keep K35; have E_bv := E_bv.keep K35; have E_na11 := E_na11.keep K35; have F_value_na11 := F_value_na11.keep K35 (ninS (Ne.symm ne_a1_na11) (ninS (Ne.symm ne_bv_na11) nin0)); have F_coder_na11 := F_coder_na11.keep K35 (ninS (Ne.symm ne_a1_na11) (ninS (Ne.symm ne_bv_na11) nin0)); have V_nb11 := V_nb11.keep K35 (ninS (Ne.symm ne_a1_nb11) (ninS (Ne.symm ne_bv_nb11) nin0))
  have O := O.keep K35 (allS g_a1 (allS g_bv all0)); have K := K.trans K35 (allS (Or.inl (List.mem_of_getElem? (i := 0) rfl)) (allS (Or.inl (List.mem_of_getElem? (i := 1) rfl)) all0))
  have E_a1 := E_a1'; have F_value_a1 := F_value_a1'; have F_coder_a1 := F_coder_a1'; have F_count_a1 := F_count_a1'
  refine og_pop X35 hx rfl (hb hby d7_36) rfl ?_
  refine og_retV X35 hx hlk hret (hb hby d7_37) (by decide) (by decide) ?_
  rw [e35]; exact ⟨_, _, _, _, _, rfl, N, K, E_a1, F_value_a1, F_coder_a1, F_count_a1, V_nb35, E_nb35, Or.inr (Or.inr (Or.inr (Or.inr (Or.inr (Or.inr (Or.inr (Or.inr (Or.inl (⟨rfl, rfl, g0, g1, g2, g3, g4, g5, g6, g7, g8, rfl, hg0, hg1, hg2, hg3, hg4, hg5, hg6, hg7, hg8, hlo, hhi⟩)))))))))⟩
 ·
  refine og_astoreN (L' := #[.val (.ref a1), .val (.int aa), .val (.int 4), .val (.ref na11), .unset]) X11 hx rfl rfl (hb hby d7_4) rfl ?_
  refine og_iloadN X11 hx rfl (hb hby d7_5) rfl ?_
  refine og_aloadN X11 hx rfl rfl (hb hby d7_6) rfl ?_
  refine og_virtual (pc' := 10) (cells' := 2) (slots' := 14) (W := 1) X11 hx hZ (rm_len l Z a0 hw na11 nb11 k11 (10 : Int32) _ cs hcs h11 n0 O E_na11 F_value_na11 F_coder_na11 V_nb11 S_CS) hown (ow60 hw) (ow61 hw) (own_nf hZ (ow63 hw)) (ow63 hw) (ow62 hw) (ow21 hw) (ow64 hw) (by decide) (by rw [hml]; rfl) e11 opd_13 [] [(.int 4)] rfl rfl rfl rfl (by decide) (by decide) rfl rfl (by decide) (by decide) E_na11 (hb hby d7_7) rfl (fun v36 T36 h36 L36 X36 e36 z36 => ?_)
  obtain ⟨rfl, Nq36, hq36⟩ := z36; replace e36 := e36.trans hq36; have N := Fr.app N Nq36
  refine og_isub X36 hx (hb hby d7_10) rfl ?_
  show OG p e below _ (T36.setTop (mkF m 11 #[.val (.ref a1), .val (.int aa), .val (.int 4), .val (.ref na11), .unset] [(.int (-6))]))
  refine og_istore (L' := #[.val (.ref a1), .val (.int aa), .val (.int 4), .val (.ref na11), .val (.int (-6))]) X36 hx rfl (hb hby d7_11) rfl ?_
  refine og_iload X36 hx rfl (hb hby d7_13) rfl ?_
  refine og_if_le (pc1 := 31) (pc2 := 18) X36 hx (hb hby d7_15) (by decide) (by decide) rfl (fun _ => ?_) (fun q => absurd q (by decide))
  refine og_aloadN X36 hx rfl rfl (hb hby d7_31) rfl ?_
  refine og_aloadN X36 hx rfl rfl (hb hby d7_32) rfl ?_
  refine og_virtual (pc' := 36) (cells' := 3) (slots' := 25) (W := 0) X36 hx hZ (rm_sasG l Z a0 hw a1 na11 bv nb11 kb k11 (11 : Int32) (1 : Int32) (10 : Int32) (11 : Int32) [(.int g9), (.int g8), (.int g7), (.int g6), (.int g5), (.int g4), (.int g3), (.int g2), (.int g1), (.int g0)] [(.int 45), (.int 0), (.int 0), (.int 0), (.int 0), (.int 0), (.int 0), (.int 0), (.int 0), (.int 0), (.int 0)] [(.int g9), (.int g8), (.int g7), (.int g6), (.int g5), (.int g4), (.int g3), (.int g2), (.int g1), (.int g0)] [(.int 45), (.int g9), (.int g8), (.int g7), (.int g6), (.int g5), (.int g4), (.int g3), (.int g2), (.int g1), (.int g0)] (by decide) (by decide) (by decide) (by decide) rfl (Nat.le_of_ble_eq_true rfl) rfl rfl (45 : Int32) (0 : Int32) (0 : Int32) (0 : Int32) 7 rfl (Or.inr (Or.inr (Or.inr (Or.inr (Or.inr (Or.inr (⟨rfl, rfl, rfl⟩))))))) cs hcs h11 n0 O E_a1 F_value_a1 F_coder_a1 F_count_a1 E_bv V_bv E_na11 F_value_na11 F_coder_na11 V_nb11 S_CS g_a1 g_bv ne_a1_bv (Ne.symm ne_bv_na11) (Ne.symm ne_bv_nb11) (Ne.symm ne_a1_na11) (Ne.symm ne_a1_nb11)) hown (ow97 hw) (ow98 hw) (own_nf hZ (ow100 hw)) (ow100 hw) (ow99 hw) (ow7 hw) (ow101 hw) (by decide) (by rw [hml]; rfl) e36 opd_23 [(.ref na11)] [] rfl rfl rfl rfl (by decide) (by decide) rfl rfl (by decide) (by decide) E_a1 (hb hby d7_33) rfl (fun v37 T37 h37 L37 X37 e37 z37 => ?_)
  obtain ⟨nb37, k37, rfl, Nq37, K37, sb37, E_a1', F_value_a1', F_coder_a1', F_count_a1', V_nb37, E_nb37⟩ := z37; have N := Fr.app N Nq37
  have s_nb37 : h11.size ≤ nb37 := sb37; have g_nb37 : n0 ≤ nb37 := Nat.le_trans (own_n0 O) s_nb37; have sz_nb37 : h0.size ≤ nb37 := Nat.le_trans K.1 s_nb37; have ne_a1_nb37 : a1 ≠ nb37 := Nat.ne_of_lt (Nat.lt_of_lt_of_le E_a1.lt s_nb37); have ne_bv_nb37 : bv ≠ nb37 := Nat.ne_of_lt (Nat.lt_of_lt_of_le E_bv.lt s_nb37); have ne_dO_nb37 : dO ≠ nb37 := O.ne V_dO.lt g_nb37
  have ne_dT_nb37 : dT ≠ nb37 := O.ne V_dT.lt g_nb37; have ne_na11_nb37 : na11 ≠ nb37 := Nat.ne_of_lt (Nat.lt_of_lt_of_le E_na11.lt s_nb37); have ne_nb11_nb37 : nb11 ≠ nb37 := Nat.ne_of_lt (Nat.lt_of_lt_of_le V_nb11.lt s_nb37)
  have E_a1 := E_a1.keep K37; have E_bv := E_bv.keep K37; have E_na11 := E_na11.keep K37; have F_value_na11 := F_value_na11.keep K37 (ninS (Ne.symm ne_a1_na11) (ninS (Ne.symm ne_bv_na11) nin0)); have F_coder_na11 := F_coder_na11.keep K37 (ninS (Ne.symm ne_a1_na11) (ninS (Ne.symm ne_bv_na11) nin0)); have V_nb11 := V_nb11.keep K37 (ninS (Ne.symm ne_a1_nb11) (ninS (Ne.symm ne_bv_nb11) nin0))
  have O := O.keep K37 (allS g_a1 (allS g_bv all0)); have K := K.trans K37 (allS (Or.inl (List.mem_of_getElem? (i := 0) rfl)) (allS (Or.inl (List.mem_of_getElem? (i := 1) rfl)) all0))
  have E_a1 := E_a1'; have F_value_a1 := F_value_a1'; have F_coder_a1 := F_coder_a1'; have F_count_a1 := F_count_a1'
  refine og_pop X37 hx rfl (hb hby d7_36) rfl ?_
  refine og_retV X37 hx hlk hret (hb hby d7_37) (by decide) (by decide) ?_
  rw [e37]; exact ⟨_, _, _, _, _, rfl, N, K, E_a1, F_value_a1, F_coder_a1, F_count_a1, V_nb37, E_nb37, Or.inr (Or.inr (Or.inr (Or.inr (Or.inr (Or.inr (Or.inr (Or.inr (Or.inr (⟨rfl, rfl, g0, g1, g2, g3, g4, g5, g6, g7, g8, g9, rfl, hg0, hg1, hg2, hg3, hg4, hg5, hg6, hg7, hg8, hg9, hlo⟩)))))))))⟩
theorem rm_ay1 (l : Launch) (Z : State) (a0 : Array Value) (hw : HW a0 Z) (a1 bv : Addr) (kb : ClassId) (yy : Int32) (hy : yy < 0) (h0a : 0 ≤ (-yy).toInt) (dO dT : Addr) (kdO kdT : ClassId) (ldO ldT : List Value) (hO : own_tab ldO fun r => 48 + r % 10) (hT : own_tab ldT fun r => 48 + r / 10) (cs : Int32) (hcs : ¬ cs = 0) (h0 : Heap) (n0 : Nat) (O : Old Z n0 h0) (E_a1 : Exa Z h0 a1 "java/lang/StringBuilder") (F_value_a1 : Fld Z h0 a1 "java/lang/AbstractStringBuilder" "value" "[B" (.ref bv)) (F_coder_a1 : Fld Z h0 a1 "java/lang/AbstractStringBuilder" "coder" "B" (.int 0)) (F_count_a1 : Fld Z h0 a1 "java/lang/AbstractStringBuilder" "count" "I" (.int 0)) (E_bv : Exa Z h0 bv "[B") (V_bv : Arv Z h0 bv kb .byte (4 : Int32) [(.int 0), (.int 0), (.int 0), (.int 0)] (.int 0)) (S_dO : Sta Z Z.heap "java/lang/Integer" "DigitOnes" "[B" (.ref dO)) (V_dO : Arv Z Z.heap dO kdO .byte (100 : Int32) ldO (.int 0)) (S_dT : Sta Z Z.heap "java/lang/Integer" "DigitTens" "[B" (.ref dT)) (V_dT : Arv Z Z.heap dT kdT .byte (100 : Int32) ldT (.int 0)) (S_CS : Sta Z Z.heap "java/lang/String" "COMPACT_STRINGS" "Z" (.int cs)) (g_a1 : n0 ≤ a1) (g_bv : n0 ≤ bv) (ne_a1_bv : a1 ≠ bv) :
  Con l Z (⟨"com/example/neith/neith/io/DateTimeText", "appendYear", "(Ljava/lang/StringBuilder;I)V"⟩ : MethodName) prog_2_method_10_code 2 none ({ frames := 7, cells := 3, slots := 25, locals := 105 } : Room) #[(.ref a1), (.int yy)] h0 (fun v h L => ∃ b k cn zz vs, v = none ∧ Fr n0 L ∧ Keep h0 h [a1, bv] ∧ Exa Z h a1 "java/lang/StringBuilder" ∧ Fld Z h a1 "java/lang/AbstractStringBuilder" "value" "[B" (.ref b) ∧ Fld Z h a1 "java/lang/AbstractStringBuilder" "coder" "B" (.int 0) ∧ Fld Z h a1 "java/lang/AbstractStringBuilder" "count" "I" (.int cn) ∧ Arv Z h b k .byte zz vs (.int 0) ∧ Exa Z h b "[B" ∧ own_W1 (-yy).toInt cn zz vs) := by
 refine own_startC opn_5 ?_
 intro p e s m below meth c T0 X0 hx hby hml hZ hown hnm hret hlk e0
 have N := Fr.nil n0; have K := Keep.refl h0 [a1, bv]
 refine OG.cast (oef5 m a1 yy) ?_
 refine og_iloadN X0 hx rfl (hb hby d5_0) rfl ?_
 refine og_if_ge (pc1 := 11) (pc2 := 4) X0 hx (hb hby d5_1) (by decide) (by decide) rfl (fun q => absurd hy q) (fun _ => ?_)
 refine og_aloadN X0 hx rfl rfl (hb hby d5_4) rfl ?_
 refine og_bipush (v := 45) X0 hx rfl (hb hby d5_5) rfl ?_
 refine og_virtual (pc' := 10) (cells' := 0) (slots' := 0) (W := 0) X0 hx hZ (rm_sac_0_45 l Z a0 hw a1 bv kb (0 : Int32) (0 : Int32) (0 : Int32) (0 : Int32) cs hcs h0 n0 O E_a1 F_value_a1 F_coder_a1 F_count_a1 V_bv S_CS g_a1 g_bv ne_a1_bv) hown (ow71 hw) (ow72 hw) (own_nf hZ (ow74 hw)) (ow74 hw) (ow73 hw) (ow7 hw) (ow75 hw) (by decide) (by rw [hml]; rfl) e0 opd_22 [(.int 45)] [] rfl rfl rfl rfl (by decide) (by decide) rfl rfl (by decide) (by decide) E_a1 (hb hby d5_7) rfl (fun v11 T11 h11 L11 X11 e11 z11 => ?_)
 obtain ⟨rfl, Nq11, K11, E_a1', F_value_a1', F_coder_a1', F_count_a1', V_bv'⟩ := z11; have N := Fr.app N Nq11
 have E_a1 := E_a1.keep K11; have E_bv := E_bv.keep K11; have O := O.keep K11 (allS g_a1 (allS g_bv all0)); have K := K.trans K11 (allS (Or.inl (List.mem_of_getElem? (i := 0) rfl)) (allS (Or.inl (List.mem_of_getElem? (i := 1) rfl)) all0))
 have V_bv := V_bv'
 have E_a1 := E_a1'; have F_value_a1 := F_value_a1'; have F_coder_a1 := F_coder_a1'; have F_count_a1 := F_count_a1'
 refine og_pop X11 hx rfl (hb hby d5_10) rfl ?_
 refine og_aloadN X11 hx rfl rfl (hb hby d5_11) rfl ?_
 refine og_iloadN X11 hx rfl (hb hby d5_12) rfl ?_
 refine og_static (pc' := 16) (cells' := 0) (slots' := 0) (W := 1) X11 hx hZ (rm_abs1 l Z a0 hw yy hy h11 n0 O) hown (ow30 hw) (ow31 hw) (ow32 hw) (ow33 hw) (by decide) (by rw [hml]; rfl) e11 opd_1 [(.int yy)] [(.ref a1)] rfl rfl rfl rfl (by decide) (by decide) rfl rfl (by decide) (by decide) (hb hby d5_13) rfl (fun v12 T12 h12 L12 X12 e12 z12 => ?_)
 obtain ⟨rfl, Nq12, hq12⟩ := z12; replace e12 := e12.trans hq12; have N := Fr.app N Nq12
 refine og_iconst (v := 4) X12 hx rfl (hb hby d5_16) rfl ?_
 refine og_static (pc' := 20) (cells' := 3) (slots' := 25) (W := 0) X12 hx hZ (rm_an1 l Z a0 hw a1 bv kb (-yy) h0a dO dT kdO kdT ldO ldT hO hT cs hcs h11 n0 O E_a1 F_value_a1 F_coder_a1 F_count_a1 E_bv V_bv S_dO V_dO S_dT V_dT S_CS g_a1 g_bv ne_a1_bv) hown (ow34 hw) (ow35 hw) (ow3 hw) (ow36 hw) (by decide) (by rw [hml]; rfl) e12 opd_24 [(.ref a1), (.int (-yy)), (.int 4)] [] rfl rfl rfl rfl (by decide) (by decide) rfl rfl (by decide) (by decide) (hb hby d5_17) rfl (fun v13 T13 h13 L13 X13 e13 z13 => ?_)
 obtain ⟨nb13, k13, cn, zz, vs, rfl, Nq13, K13, E_a1', F_value_a1', F_coder_a1', F_count_a1', V_nb13, E_nb13, hW⟩ := z13; have N := Fr.app N Nq13
 have E_a1 := E_a1.keep K13; have E_bv := E_bv.keep K13; have O := O.keep K13 (allS g_a1 (allS g_bv all0)); have K := K.trans K13 (allS (Or.inl (List.mem_of_getElem? (i := 0) rfl)) (allS (Or.inl (List.mem_of_getElem? (i := 1) rfl)) all0))
 have E_a1 := E_a1'; have F_value_a1 := F_value_a1'; have F_coder_a1 := F_coder_a1'; have F_count_a1 := F_count_a1'
 refine og_retV X13 hx hlk hret (hb hby d5_20) (by decide) (by decide) ?_
 rw [e13]; exact ⟨_, _, _, _, _, rfl, N, K, E_a1, F_value_a1, F_coder_a1, F_count_a1, V_nb13, E_nb13, hW⟩
theorem rm_yr1 (l : Launch) (Z : State) (a0 : Array Value) (hw : HW a0 Z) (yy : Int32) (hy : yy < 0) (h0a : 0 ≤ (-yy).toInt) (dO dT : Addr) (kdO kdT : ClassId) (ldO ldT : List Value) (hO : own_tab ldO fun r => 48 + r % 10) (hT : own_tab ldT fun r => 48 + r / 10) (cs : Int32) (hcs : ¬ cs = 0) (h0 : Heap) (n0 : Nat) (O : Old Z n0 h0) (S_dO : Sta Z Z.heap "java/lang/Integer" "DigitOnes" "[B" (.ref dO)) (V_dO : Arv Z Z.heap dO kdO .byte (100 : Int32) ldO (.int 0)) (S_dT : Sta Z Z.heap "java/lang/Integer" "DigitTens" "[B" (.ref dT)) (V_dT : Arv Z Z.heap dT kdT .byte (100 : Int32) ldT (.int 0)) (S_CS : Sta Z Z.heap "java/lang/String" "COMPACT_STRINGS" "Z" (.int cs)) :
  Con l Z (⟨"com/example/neith/neith/io/DateTimeText", "year", "(I)Ljava/lang/String;"⟩ : MethodName) prog_2_method_3_code 2 (some (.object "java/lang/String")) ({ frames := 8, cells := 7, slots := 48, locals := 118 } : Room) #[(.int yy)] h0 (fun v h L => ∃ a b k cn zz vs, v = some (.ref a) ∧ Fr n0 L ∧ Keep h0 h [] ∧ h0.size ≤ a ∧ h0.size ≤ b ∧ Exa Z h a "java/lang/String" ∧ Fld Z h a "java/lang/String" "value" "[B" (.ref b) ∧ Fld Z h a "java/lang/String" "coder" "B" (.int 0) ∧ Arv Z h b k .byte cn (vs.take cn.toNatClampNeg) (.int 0) ∧ own_W1 (-yy).toInt cn zz vs) := by
 refine own_startC opn_1 ?_
 intro p e s m below meth c T0 X0 hx hby hml hZ hown hnm hret hlk e0
 have N := Fr.nil n0; have K := Keep.refl h0 []
 refine OG.cast (oef18 m yy) ?_
 refine og_new (pc' := 3) (cells' := 1) (slots' := 4) X0 hx hZ hown (ow5 hw) (ow6 hw) (ow7 hw) e0 (hb hby d1_0) rfl rfl rfl (by decide) (by decide) (fun T11 h11 nb11 X11 e11 E11 q11 E_nb11 D11 B11 => ?_)
 have s_nb11 : h0.size ≤ nb11 := Nat.le_of_eq q11.symm; have g_nb11 : n0 ≤ nb11 := Nat.le_trans (own_n0 O) s_nb11; have sz_nb11 : h0.size ≤ nb11 := Nat.le_trans K.1 s_nb11; have ne_dO_nb11 : dO ≠ nb11 := O.ne V_dO.lt g_nb11; have ne_dT_nb11 : dT ≠ nb11 := O.ne V_dT.lt g_nb11
 have O := O.ext E11; have K := K.ext E11
 have F_value_nb11 : Fld Z h11 nb11 "java/lang/AbstractStringBuilder" "value" "[B" .null := D11 (Or.inl (ow24 hw)) (ty := (.array .byte)) (by decide)
 have F_coder_nb11 : Fld Z h11 nb11 "java/lang/AbstractStringBuilder" "coder" "B" (.int 0) := D11 (Or.inl (ow26 hw)) (ty := .byte) (by decide)
 have F_count_nb11 : Fld Z h11 nb11 "java/lang/AbstractStringBuilder" "count" "I" (.int 0) := D11 (Or.inl (ow82 hw)) (ty := .int) (by decide)
 refine og_dup X11 hx rfl (hb hby d1_3) rfl ?_
 refine og_iconst (v := 4) X11 hx rfl (hb hby d1_4) rfl ?_
 refine og_special (pc' := 8) (cells' := 2) (slots' := 8) (W := 1) X11 hx hZ (rm_sbi l Z a0 hw nb11 cs hcs h11 n0 O E_nb11 F_value_nb11 F_coder_nb11 F_count_nb11 S_CS g_nb11) rfl hown (ow8 hw) (ow9 hw) (ow7 hw) (ow10 hw) (by decide) (by rw [hml]; rfl) e11 opd_4 [(.int 4)] [(.ref nb11)] rfl rfl rfl rfl (by decide) (by decide) rfl rfl (by decide) (by decide) (hb hby d1_5) rfl (fun v12 T12 h12 L12 X12 e12 z12 => ?_)
 obtain ⟨nb12, k12, rfl, Nq12, K12, sb12, E_nb11', F_value_nb11', F_coder_nb11', F_count_nb11', V_nb12, E_nb12⟩ := z12; have N := Fr.app N Nq12
 have s_nb12 : h11.size ≤ nb12 := sb12; have g_nb12 : n0 ≤ nb12 := Nat.le_trans (own_n0 O) s_nb12; have sz_nb12 : h0.size ≤ nb12 := Nat.le_trans K.1 s_nb12; have ne_dO_nb12 : dO ≠ nb12 := O.ne V_dO.lt g_nb12; have ne_dT_nb12 : dT ≠ nb12 := O.ne V_dT.lt g_nb12; have ne_nb11_nb12 : nb11 ≠ nb12 := Nat.ne_of_lt (Nat.lt_of_lt_of_le E_nb11.lt s_nb12)
 have E_nb11 := E_nb11.keep K12; have O := O.keep K12 (allS g_nb11 all0); have K := K.trans K12 (allS (Or.inr sz_nb11) all0)
 have E_nb11 := E_nb11'; have F_value_nb11 := F_value_nb11'; have F_coder_nb11 := F_coder_nb11'; have F_count_nb11 := F_count_nb11'
 refine og_astoreN (L' := #[.val (.int yy), .val (.ref nb11)]) X12 hx rfl rfl (hb hby d1_8) rfl ?_
 refine og_aloadN X12 hx rfl rfl (hb hby d1_9) rfl ?_
 refine og_iloadN X12 hx rfl (hb hby d1_10) rfl ?_
 refine og_static (pc' := 14) (cells' := 5) (slots' := 33) (W := 0) X12 hx hZ (rm_ay1 l Z a0 hw nb11 nb12 k12 yy hy h0a dO dT kdO kdT ldO ldT hO hT cs hcs h12 n0 O E_nb11 F_value_nb11 F_coder_nb11 F_count_nb11 E_nb12 V_nb12 S_dO V_dO S_dT V_dT S_CS g_nb11 g_nb12 ne_nb11_nb12) hown (ow27 hw) (ow28 hw) (ow3 hw) (ow29 hw) (by decide) (by rw [hml]; rfl) e12 opd_25 [(.ref nb11), (.int yy)] [] rfl rfl rfl rfl (by decide) (by decide) rfl rfl (by decide) (by decide) (hb hby d1_11) rfl (fun v13 T13 h13 L13 X13 e13 z13 => ?_)
 obtain ⟨nb13, k13, cn, zz, vs, rfl, Nq13, K13, E_nb11', F_value_nb11', F_coder_nb11', F_count_nb11', V_nb13, E_nb13, hW⟩ := z13; have N := Fr.app N Nq13
 have E_nb11 := E_nb11.keep K13; have E_nb12 := E_nb12.keep K13; have O := O.keep K13 (allS g_nb11 (allS g_nb12 all0)); have K := K.trans K13 (allS (Or.inr sz_nb11) (allS (Or.inr sz_nb12) all0))
 have E_nb11 := E_nb11'; have F_value_nb11 := F_value_nb11'; have F_coder_nb11 := F_coder_nb11'; have F_count_nb11 := F_count_nb11'
 refine og_aloadN X13 hx rfl rfl (hb hby d1_14) rfl ?_
 refine og_virtual (pc' := 18) (cells' := 7) (slots' := 48) (W := 0) X13 hx hZ (rm_tos l Z a0 hw nb11 nb13 k13 zz cn vs (own_Wc1 hW) cs hcs h13 n0 O E_nb11 F_value_nb11 F_coder_nb11 F_count_nb11 E_nb13 V_nb13 S_CS) hown (ow127 hw) (ow128 hw) (own_nf hZ (ow130 hw)) (ow130 hw) (ow129 hw) (ow7 hw) (ow131 hw) (by decide) (by rw [hml]; rfl) e13 opd_26 [] [] rfl rfl rfl rfl (by decide) (by decide) rfl rfl (by decide) (by decide) E_nb11 (hb hby d1_15) rfl (fun v14 T14 h14 L14 X14 e14 z14 => ?_)
 obtain ⟨na14, nb14, k14, rfl, Nq14, K14, sa14, sb14, E_na14, F_value_na14, F_coder_na14, V_nb14⟩ := z14; have N := Fr.app N Nq14
 have s_na14 : h13.size ≤ na14 := sa14; have g_na14 : n0 ≤ na14 := Nat.le_trans (own_n0 O) s_na14; have sz_na14 : h0.size ≤ na14 := Nat.le_trans K.1 s_na14; have ne_dO_na14 : dO ≠ na14 := O.ne V_dO.lt g_na14; have ne_dT_na14 : dT ≠ na14 := O.ne V_dT.lt g_na14; have ne_nb11_na14 : nb11 ≠ na14 := Nat.ne_of_lt (Nat.lt_of_lt_of_le E_nb11.lt s_na14)
 have ne_nb12_na14 : nb12 ≠ na14 := Nat.ne_of_lt (Nat.lt_of_lt_of_le E_nb12.lt s_na14); have ne_nb13_na14 : nb13 ≠ na14 := Nat.ne_of_lt (Nat.lt_of_lt_of_le V_nb13.lt s_na14)
 have s_nb14 : h13.size ≤ nb14 := sb14; have g_nb14 : n0 ≤ nb14 := Nat.le_trans (own_n0 O) s_nb14; have sz_nb14 : h0.size ≤ nb14 := Nat.le_trans K.1 s_nb14; have ne_dO_nb14 : dO ≠ nb14 := O.ne V_dO.lt g_nb14; have ne_dT_nb14 : dT ≠ nb14 := O.ne V_dT.lt g_nb14; have ne_nb11_nb14 : nb11 ≠ nb14 := Nat.ne_of_lt (Nat.lt_of_lt_of_le E_nb11.lt s_nb14)
 have ne_nb12_nb14 : nb12 ≠ nb14 := Nat.ne_of_lt (Nat.lt_of_lt_of_le E_nb12.lt s_nb14); have ne_nb13_nb14 : nb13 ≠ nb14 := Nat.ne_of_lt (Nat.lt_of_lt_of_le V_nb13.lt s_nb14)
 have E_nb11 := E_nb11.keep K14; have E_nb12 := E_nb12.keep K14; have F_value_nb11 := F_value_nb11.keep K14 nin0; have F_coder_nb11 := F_coder_nb11.keep K14 nin0; have F_count_nb11 := F_count_nb11.keep K14 nin0; have V_nb13 := V_nb13.keep K14 nin0
 have E_nb13 := E_nb13.keep K14; have O := O.keep K14 all0; have K := K.trans K14 all0
 refine og_retR X14 hx hlk hret rfl rfl rfl (hb hby d1_18) (by decide) (by decide) ?_
 rw [e14]; exact ⟨_, _, _, _, _, _, rfl, N, K, sz_na14, sz_nb14, E_na14, F_value_na14, F_coder_na14, V_nb14, hW⟩
theorem rm_pc (l : Launch) (Z : State) (a0 : Array Value) (hw : HW a0 Z) (nn ii : Int32) (hi : ¬ ii < 0 ∧ ii < nn) (fm : Value) (hfm : fm.isRef = true) (h0 : Heap) (n0 : Nat) (O : Old Z n0 h0) :
  Con l Z (⟨"jdk/internal/util/Preconditions", "checkIndex", "(IILjava/util/function/BiFunction;)I"⟩ : MethodName) jdk_41_method_11_code 3 (some .int) ({ frames := 0, cells := 0, slots := 0, locals := 0 } : Room) #[(.int ii), (.int nn), fm] h0 (fun v h L => v = some (.int ii) ∧ Fr n0 L ∧ h = h0) := by
 refine own_startC opn_36 ?_
 intro p e s m below meth c T0 X0 hx hby hml hZ hown hnm hret hlk e0
 have N := Fr.nil n0; have K := Keep.refl h0 []
 refine OG.cast (oef19 m ii nn fm hfm) ?_
 refine og_iloadN X0 hx rfl (hb hby d36_0) rfl ?_
 refine og_if_lt (pc1 := 9) (pc2 := 4) X0 hx (hb hby d36_1) (by decide) (by decide) rfl (fun q => absurd q hi.1) (fun _ => ?_)
 refine og_iloadN X0 hx rfl (hb hby d36_4) rfl ?_
 refine og_iloadN X0 hx rfl (hb hby d36_5) rfl ?_
 refine og_icmp_lt (pc1 := 16) (pc2 := 9) X0 hx (hb hby d36_6) (by decide) (by decide) rfl (fun _ => ?_) (fun q => absurd hi.2 q)
 refine og_iloadN X0 hx rfl (hb hby d36_16) rfl ?_
 refine og_retI X0 hx hlk hret (hb hby d36_17) (by decide) (by decide) ?_
 rw [e0]; exact ⟨rfl, N, rfl⟩
theorem rm_ci (l : Launch) (Z : State) (a0 : Array Value) (hw : HW a0 Z) (nn ii : Int32) (hi : ¬ ii < 0 ∧ ii < nn) (fm : Value) (hfm : fm.isRef = true) (h0 : Heap) (n0 : Nat) (O : Old Z n0 h0) (S_FM : Sta Z Z.heap "jdk/internal/util/Preconditions" "SIOOBE_FORMATTER" "Ljava/util/function/BiFunction;" fm) :
  Con l Z (⟨"java/lang/String", "checkIndex", "(II)V"⟩ : MethodName) jdk_42_method_155_code 2 none ({ frames := 1, cells := 0, slots := 0, locals := 14 } : Room) #[(.int ii), (.int nn)] h0 (fun v h L => v = none ∧ Fr n0 L ∧ h = h0) := by
 refine own_startC opn_35 ?_
 intro p e s m below meth c T0 X0 hx hby hml hZ hown hnm hret hlk e0
 have N := Fr.nil n0; have K := Keep.refl h0 []
 refine OG.cast (oef7 m ii nn) ?_
 refine og_iloadN X0 hx rfl (hb hby d35_0) rfl ?_
 refine og_iloadN X0 hx rfl (hb hby d35_1) rfl ?_
 refine og_getstatic X0 hx hZ (host := "") hown (Or.inl (ow187 hw)) Via.refl e0 (S_FM.ext O.2) (hb hby d35_2) rfl (fun T11 X11 e11 => ?_)
 refine og_static (pc' := 8) (cells' := 0) (slots' := 0) (W := 0) X11 hx hZ (rm_pc l Z a0 hw nn ii hi fm hfm h0 n0 O) hown (ow189 hw) (ow190 hw) (ow188 hw) (ow191 hw) (by decide) (by rw [hml]; rfl) e11 opd_27 [(.int ii), (.int nn), fm] [] rfl rfl rfl rfl (by decide) (by decide) rfl rfl (by decide) (by decide) (hb hby d35_5) rfl (fun v12 T12 h12 L12 X12 e12 z12 => ?_)
 obtain ⟨rfl, Nq12, hq12⟩ := z12; replace e12 := e12.trans hq12; have N := Fr.app N Nq12
 refine og_pop X12 hx rfl (hb hby d35_8) rfl ?_
 refine og_retV X12 hx hlk hret (hb hby d35_9) (by decide) (by decide) ?_
 rw [e12]; exact ⟨rfl, N, rfl⟩
theorem rm_lc (l : Launch) (Z : State) (a0 : Array Value) (hw : HW a0 Z) (ba : Addr) (kb : ClassId) (nn ii : Int32) (hi : ¬ ii < 0 ∧ ii < nn) (vs : List Value) (cc : Int32) (hv : vs.getD ii.toNatClampNeg (.int 0) = .int cc.toInt8.toInt32) (hcc : 0 ≤ cc.toInt ∧ cc.toInt ≤ 255) (fm : Value) (hfm : fm.isRef = true) (h0 : Heap) (n0 : Nat) (O : Old Z n0 h0) (V_ba : Arv Z h0 ba kb .byte nn vs (.int 0)) (S_FM : Sta Z Z.heap "jdk/internal/util/Preconditions" "SIOOBE_FORMATTER" "Ljava/util/function/BiFunction;" fm) :
  Con l Z (⟨"java/lang/StringLatin1", "charAt", "([BI)C"⟩ : MethodName) jdk_43_method_2_code 2 (some .char) ({ frames := 2, cells := 0, slots := 0, locals := 27 } : Room) #[(.ref ba), (.int ii)] h0 (fun v h L => v = some (.int cc) ∧ Fr n0 L ∧ h = h0) := by
 refine own_startC opn_34 ?_
 intro p e s m below meth c T0 X0 hx hby hml hZ hown hnm hret hlk e0
 have N := Fr.nil n0; have K := Keep.refl h0 []
 refine OG.cast (oef5 m ba ii) ?_
 refine og_iloadN X0 hx rfl (hb hby d34_0) rfl ?_
 refine og_aloadN X0 hx rfl rfl (hb hby d34_1) rfl ?_
 refine og_arraylength X0 hx hZ e0 V_ba (hb hby d34_2) rfl ?_
 refine og_static (pc' := 6) (cells' := 0) (slots' := 0) (W := 0) X0 hx hZ (rm_ci l Z a0 hw nn ii hi fm hfm h0 n0 O S_FM) hown (ow184 hw) (ow185 hw) (ow21 hw) (ow186 hw) (by decide) (by rw [hml]; rfl) e0 opd_16 [(.int ii), (.int nn)] [] rfl rfl rfl rfl (by decide) (by decide) rfl rfl (by decide) (by decide) (hb hby d34_3) rfl (fun v11 T11 h11 L11 X11 e11 z11 => ?_)
 obtain ⟨rfl, Nq11, hq11⟩ := z11; replace e11 := e11.trans hq11; have N := Fr.app N Nq11
 refine og_aloadN X11 hx rfl rfl (hb hby d34_6) rfl ?_
 refine og_iloadN X11 hx rfl (hb hby d34_7) rfl ?_
 refine og_baload (v := (.int cc.toInt8.toInt32)) X11 hx hZ e11 V_ba hi hv (hb hby d34_8) rfl ?_
 refine og_sipush (v := 255) X11 hx rfl (hb hby d34_9) rfl ?_
 refine og_iand X11 hx (hb hby d34_12) rfl ?_
 refine og_i2c X11 hx (hb hby d34_13) rfl ?_
 refine og_retN X11 hx hlk hret (by simp) (hb hby d34_14) (by decide) (by decide) ?_
 rw [e11, own_ch hcc]; exact ⟨rfl, N, rfl⟩
theorem rm_il (l : Launch) (Z : State) (a0 : Array Value) (hw : HW a0 Z) (a1 : Addr) (cs : Int32) (hcs : ¬ cs = 0) (h0 : Heap) (n0 : Nat) (O : Old Z n0 h0) (F_coder_a1 : Fld Z h0 a1 "java/lang/String" "coder" "B" (.int 0)) (S_CS : Sta Z Z.heap "java/lang/String" "COMPACT_STRINGS" "Z" (.int cs)) :
  Con l Z (⟨"java/lang/String", "isLatin1", "()Z"⟩ : MethodName) jdk_42_method_154_code 1 (some .boolean) ({ frames := 0, cells := 0, slots := 0, locals := 0 } : Room) #[(.ref a1)] h0 (fun v h L => v = some (.int 1) ∧ Fr n0 L ∧ h = h0) := by
 refine own_startC opn_33 ?_
 intro p e s m below meth c T0 X0 hx hby hml hZ hown hnm hret hlk e0
 have N := Fr.nil n0; have K := Keep.refl h0 []
 refine OG.cast (oef0 m a1) ?_
 refine og_getstatic X0 hx hZ (host := "") hown (Or.inl (ow70 hw)) Via.refl e0 (S_CS.ext O.2) (hb hby d33_0) rfl (fun T11 X11 e11 => ?_)
 refine og_if_eq (pc1 := 17) (pc2 := 6) X11 hx (hb hby d33_3) (by decide) (by decide) rfl (fun q => absurd q hcs) (fun _ => ?_)
 refine og_aloadN X11 hx rfl rfl (hb hby d33_6) rfl ?_
 refine og_getfield X11 hx hZ (host := "") hown (Or.inl (ow58 hw)) Via.refl e11 F_coder_a1 (hb hby d33_7) rfl (fun T12 X12 e12 => ?_)
 refine og_if_ne (pc1 := 17) (pc2 := 13) X12 hx (hb hby d33_10) (by decide) (by decide) rfl (fun q => absurd q (by decide)) (fun _ => ?_)
 refine og_iconst (v := 1) X12 hx rfl (hb hby d33_13) rfl ?_
 refine og_goto (pc' := 18) X12 hx (hb hby d33_14) (by decide) (by decide) ?_
 refine og_retN X12 hx hlk hret (by simp) (hb hby d33_18) (by decide) (by decide) ?_
 rw [e12]; exact ⟨rfl, N, rfl⟩
theorem rm_ch (l : Launch) (Z : State) (a0 : Array Value) (hw : HW a0 Z) (a1 ba : Addr) (kb : ClassId) (nn ii : Int32) (hi : ¬ ii < 0 ∧ ii < nn) (vs : List Value) (cc : Int32) (hv : vs.getD ii.toNatClampNeg (.int 0) = .int cc.toInt8.toInt32) (hcc : 0 ≤ cc.toInt ∧ cc.toInt ≤ 255) (cs : Int32) (hcs : ¬ cs = 0) (fm : Value) (hfm : fm.isRef = true) (h0 : Heap) (n0 : Nat) (O : Old Z n0 h0) (E_a1 : Exa Z h0 a1 "java/lang/String") (F_value_a1 : Fld Z h0 a1 "java/lang/String" "value" "[B" (.ref ba)) (F_coder_a1 : Fld Z h0 a1 "java/lang/String" "coder" "B" (.int 0)) (V_ba : Arv Z h0 ba kb .byte nn vs (.int 0)) (S_CS : Sta Z Z.heap "java/lang/String" "COMPACT_STRINGS" "Z" (.int cs)) (S_FM : Sta Z Z.heap "jdk/internal/util/Preconditions" "SIOOBE_FORMATTER" "Ljava/util/function/BiFunction;" fm) :
  Con l Z (⟨"java/lang/String", "charAt", "(I)C"⟩ : MethodName) jdk_42_method_56_code 2 (some .char) ({ frames := 3, cells := 0, slots := 0, locals := 40 } : Room) #[(.ref a1), (.int ii)] h0 (fun v h L => v = some (.int cc) ∧ Fr n0 L ∧ h = h0) := by
 refine own_startC opn_32 ?_
 intro p e s m below meth c T0 X0 hx hby hml hZ hown hnm hret hlk e0
 have N := Fr.nil n0; have K := Keep.refl h0 []
 refine OG.cast (oef5 m a1 ii) ?_
 refine og_aloadN X0 hx rfl rfl (hb hby d32_0) rfl ?_
 refine og_virtual (pc' := 4) (cells' := 0) (slots' := 0) (W := 0) X0 hx hZ (rm_il l Z a0 hw a1 cs hcs h0 n0 O F_coder_a1 S_CS) hown (ow176 hw) (ow177 hw) (own_nf hZ (ow179 hw)) (ow179 hw) (ow178 hw) (ow21 hw) (ow180 hw) (by decide) (by rw [hml]; rfl) e0 opd_8 [] [] rfl rfl rfl rfl (by decide) (by decide) rfl rfl (by decide) (by decide) E_a1 (hb hby d32_1) rfl (fun v11 T11 h11 L11 X11 e11 z11 => ?_)
 obtain ⟨rfl, Nq11, hq11⟩ := z11; replace e11 := e11.trans hq11; have N := Fr.app N Nq11
 refine og_if_eq (pc1 := 16) (pc2 := 7) X11 hx (hb hby d32_4) (by decide) (by decide) rfl (fun q => absurd q (by decide)) (fun _ => ?_)
 refine og_aloadN X11 hx rfl rfl (hb hby d32_7) rfl ?_
 refine og_getfield X11 hx hZ (host := "") hown (Or.inl (ow56 hw)) Via.refl e11 F_value_a1 (hb hby d32_8) rfl (fun T12 X12 e12 => ?_)
 refine og_iloadN X12 hx rfl (hb hby d32_11) rfl ?_
 refine og_static (pc' := 15) (cells' := 0) (slots' := 0) (W := 0) X12 hx hZ (rm_lc l Z a0 hw ba kb nn ii hi vs cc hv hcc fm hfm h0 n0 O V_ba S_FM) hown (ow181 hw) (ow182 hw) (ow95 hw) (ow183 hw) (by decide) (by rw [hml]; rfl) e12 opd_28 [(.ref ba), (.int ii)] [] rfl rfl rfl rfl (by decide) (by decide) rfl rfl (by decide) (by decide) (hb hby d32_12) rfl (fun v13 T13 h13 L13 X13 e13 z13 => ?_)
 obtain ⟨rfl, Nq13, hq13⟩ := z13; replace e13 := e13.trans hq13; have N := Fr.app N Nq13
 refine og_retN X13 hx hlk hret (by simp) (hb hby d32_15) (by decide) (by decide) ?_
 rw [e13, own_nc hcc]; exact ⟨rfl, N, rfl⟩
theorem rm_dig (l : Launch) (Z : State) (a0 : Array Value) (hw : HW a0 Z) (a1 ba : Addr) (kb : ClassId) (ln dd aa kk pw : Int32) (vs : List Value) (hpw : ¬ pw = 0) (hD : own_D vs aa ln dd kk pw) (cs : Int32) (hcs : ¬ cs = 0) (fm : Value) (hfm : fm.isRef = true) (h0 : Heap) (n0 : Nat) (O : Old Z n0 h0) (E_a1 : Exa Z h0 a1 "java/lang/String") (F_value_a1 : Fld Z h0 a1 "java/lang/String" "value" "[B" (.ref ba)) (F_coder_a1 : Fld Z h0 a1 "java/lang/String" "coder" "B" (.int 0)) (V_ba : Arv Z h0 ba kb .byte ln vs (.int 0)) (S_CS : Sta Z Z.heap "java/lang/String" "COMPACT_STRINGS" "Z" (.int cs)) (S_FM : Sta Z Z.heap "jdk/internal/util/Preconditions" "SIOOBE_FORMATTER" "Ljava/util/function/BiFunction;" fm) :
  Con l Z (⟨"com/example/neith/neith/io/DateTimeTextYearPinLaw", "digitAt", "(Ljava/lang/String;IIIII)Z"⟩ : MethodName) method_3_code 7 (some .boolean) ({ frames := 4, cells := 0, slots := 0, locals := 53 } : Room) #[(.ref a1), (.int ln), (.int dd), (.int aa), (.int kk), (.int pw)] h0 (fun v h L => v = some (.int 1) ∧ Fr n0 L ∧ h = h0) := by
 refine own_startC opn_31 ?_
 intro p e s m below meth c T0 X0 hx hby hml hZ hown hnm hret hlk e0
 have N := Fr.nil n0; have K := Keep.refl h0 []
 refine OG.cast (oef20 m a1 ln dd aa kk pw) ?_
 refine og_iload X0 hx rfl (hb hby d31_0) rfl ?_
 refine og_iloadN X0 hx rfl (hb hby d31_2) rfl ?_
 refine og_icmp_lt (pc1 := 8) (pc2 := 6) X0 hx (hb hby d31_3) (by decide) (by decide) rfl (fun hc3 => ?_) (fun hc3 => ?_)
 ·
  obtain ⟨g, hi, hv, hcc, hge⟩ := hD hc3
  refine og_aloadN X0 hx rfl rfl (hb hby d31_8) rfl ?_
  refine og_iloadN X0 hx rfl (hb hby d31_9) rfl ?_
  refine og_iconst (v := 1) X0 hx rfl (hb hby d31_10) rfl ?_
  refine og_isub X0 hx (hb hby d31_11) rfl ?_
  refine og_iload X0 hx rfl (hb hby d31_12) rfl ?_
  refine og_isub X0 hx (hb hby d31_14) rfl ?_
  refine og_virtual (pc' := 18) (cells' := 0) (slots' := 0) (W := 0) X0 hx hZ (rm_ch l Z a0 hw a1 ba kb ln ((ln - (1 : Int32)) - kk) hi _ g hv hcc cs hcs fm hfm h0 n0 O E_a1 F_value_a1 F_coder_a1 V_ba S_CS S_FM) hown (ow171 hw) (ow172 hw) (own_nf hZ (ow174 hw)) (ow174 hw) (ow173 hw) (ow21 hw) (ow175 hw) (by decide) (by rw [hml]; rfl) e0 opd_29 [(.int ((ln - (1 : Int32)) - kk))] [] rfl rfl rfl rfl (by decide) (by decide) rfl rfl (by decide) (by decide) E_a1 (hb hby d31_15) rfl (fun v11 T11 h11 L11 X11 e11 z11 => ?_)
  obtain ⟨rfl, Nq11, hq11⟩ := z11; replace e11 := e11.trans hq11; have N := Fr.app N Nq11
  refine og_istore (L' := #[.val (.ref a1), .val (.int ln), .val (.int dd), .val (.int aa), .val (.int kk), .val (.int pw), .val (.int g)]) X11 hx rfl (hb hby d31_18) rfl ?_
  refine og_iload X11 hx rfl (hb hby d31_20) rfl ?_
  refine og_bipush (v := 48) X11 hx rfl (hb hby d31_22) rfl ?_
  refine og_iloadN X11 hx rfl (hb hby d31_24) rfl ?_
  refine og_iload X11 hx rfl (hb hby d31_25) rfl ?_
  refine og_idiv (pc' := 28) X11 hx hpw (hb hby d31_27) rfl ?_
  refine og_bipush (v := 10) X11 hx rfl (hb hby d31_28) rfl ?_
  refine og_irem (pc' := 31) X11 hx (by decide) (hb hby d31_30) rfl ?_
  refine og_iadd X11 hx (hb hby d31_31) rfl ?_
  refine og_i2c X11 hx (hb hby d31_32) rfl ?_
  refine og_icmp_ne (pc1 := 40) (pc2 := 36) X11 hx (hb hby d31_33) (by decide) (by decide) rfl (fun q => absurd hge q) (fun _ => ?_)
  refine og_iconst (v := 1) X11 hx rfl (hb hby d31_36) rfl ?_
  refine og_goto (pc' := 41) X11 hx (hb hby d31_37) (by decide) (by decide) ?_
  refine og_retN X11 hx hlk hret (by simp) (hb hby d31_41) (by decide) (by decide) ?_
  rw [e11]; exact ⟨rfl, N, rfl⟩
 ·
  refine og_iconst (v := 1) X0 hx rfl (hb hby d31_6) rfl ?_
  refine og_retN X0 hx hlk hret (by simp) (hb hby d31_7) (by decide) (by decide) ?_
  rw [e0]; exact ⟨rfl, N, rfl⟩
theorem rm0 (l : Launch) (Z : State) (a0 : Array Value) (hw : HW a0 Z) (ws : List Jvm.Cond) (p1 p2 : Int32) (dO dT : Addr) (kdO kdT : ClassId) (ldO ldT : List Value) (hO : own_tab ldO fun r => 48 + r % 10) (hT : own_tab ldT fun r => 48 + r / 10) (cs : Int32) (hcs : ¬ cs = 0) (fm : Value) (hfm : fm.isRef = true) (h0 : Heap) (n0 : Nat) (O : Old Z n0 h0) (S_dO : Sta Z Z.heap "java/lang/Integer" "DigitOnes" "[B" (.ref dO)) (V_dO : Arv Z Z.heap dO kdO .byte (100 : Int32) ldO (.int 0)) (S_dT : Sta Z Z.heap "java/lang/Integer" "DigitTens" "[B" (.ref dT)) (V_dT : Arv Z Z.heap dT kdT .byte (100 : Int32) ldT (.int 0)) (S_CS : Sta Z Z.heap "java/lang/String" "COMPACT_STRINGS" "Z" (.int cs)) (S_FM : Sta Z Z.heap "jdk/internal/util/Preconditions" "SIOOBE_FORMATTER" "Ljava/util/function/BiFunction;" fm) :
  MetFree l x (head1 (Jvm.Cond.code x code maxLocals ret :: ws) room_1) (fun a U => a = #[(.int p1), (.int p2)] ∧ Z.Warmed39 U.vm ∧ U.heap = h0) (fun _ _ _ _ _ => True) (fun _ U o U' => ∃ v L, o = .returned v ∧ (fun v h L => v = some (.int 1) ∧ Fr n0 L) v U'.heap L ∧ FrameEnd U o U' L 24 192) := by
 refine own_start (Q := fun v h L => v = some (.int 1) ∧ Fr n0 L) opn_0 ?_
 intro p e s m below meth c T0 X0 hx hby hml hZ hown hnm hret hlk e0
 have N := Fr.nil n0; have K := Keep.refl h0 []
 refine OG.cast (oef21 m p1 p2) ?_
 refine og_iloadN X0 hx rfl (hb hby at_0) rfl ?_
 refine og_iloadN X0 hx rfl (hb hby at_1) rfl ?_
 refine og_bipush (v := 31) X0 hx rfl (hb hby at_2) rfl ?_
 refine og_iand X0 hx (hb hby at_4) rfl ?_
 refine og_ishr X0 hx (hb hby at_5) rfl ?_
 refine og_istoreN (L' := #[.val (.int p1), .val (.int p2), .val (.int (p1 >>> ((p2 &&& (31 : Int32)) &&& 31))), .unset, .unset, .unset, .unset, .unset]) X0 hx rfl (hb hby at_6) rfl ?_
 obtain ⟨yy, h_yy⟩ : ∃ z, z = (p1 >>> ((p2 &&& (31 : Int32)) &&& 31)) := ⟨_, rfl⟩
 rw [← h_yy]
 refine og_iloadN X0 hx rfl (hb hby at_7) rfl ?_
 refine og_ldc X0 hx hZ hown (ow0 hw) (hb hby at_8) rfl ?_
 refine og_icmp_ne (pc1 := 15) (pc2 := 13) X0 hx (hb hby at_10) (by decide) (by decide) rfl (fun hc10 => ?_) (fun hc10 => ?_)
 ·
  have J138 : ∀ (T11 : State) (l11 : List Loc) (X11 : Stand p l e room_1 s m #[(.int p1), (.int p2)] below meth c T11 l11 0 0) (e11 : T11.heap = h0) (N : Fr n0 l11) (sg aa dd ln : Int32) (hR : own_R yy aa sg dd ln), OG p e below (OFin s (fun v h L => v = some (.int 1) ∧ Fr n0 L) 24 192) (T11.setTop (mkF m 138 #[.val (.int p1), .val (.int p2), .val (.int yy), .val (.int sg), .val (.int aa), .val (.int dd), .val (.int ln), .unset] [])) := by
   intro T11 l11 X11 e11 N sg aa dd ln hR
   have J144 : ∀ (T12 : State) (h12 : Heap) (l12 : List Loc)  (X12 : Stand p l e room_1 s m #[(.int p1), (.int p2)] below meth c T12 l12 7 48) (e12 : T12.heap = h12) (N : Fr n0 l12) (O : Old Z n0 h12) (K : Keep h0 h12 []) (aS bS : Addr) (kS : ClassId) (vS : List Value) (hm : sg ≠ 0 → vS.getD 0 (.int 0) = .int 45) (hz : 0 < ln) (hD : ∀ q ∈ own_pows, own_D vS aa ln dd q.1 q.2) (E_aS : Exa Z h12 aS "java/lang/String") (F_value_aS : Fld Z h12 aS "java/lang/String" "value" "[B" (.ref bS)) (F_coder_aS : Fld Z h12 aS "java/lang/String" "coder" "B" (.int 0)) (V_bS : Arv Z h12 bS kS .byte ln vS (.int 0)), OG p e below (OFin s (fun v h L => v = some (.int 1) ∧ Fr n0 L) 24 192) (T12.setTop (mkF m 144 #[.val (.int p1), .val (.int p2), .val (.int yy), .val (.int sg), .val (.int aa), .val (.int dd), .val (.int ln), .val (.ref aS)] [])) := by
    intro T12 h12 l12  X12 e12 N O K aS bS kS vS hm hz hD E_aS F_value_aS F_coder_aS V_bS
    refine og_aload X12 hx rfl rfl (hb hby at_144) rfl ?_
    refine og_ifnull (pc1 := 159) (pc2 := 149) X12 hx rfl (hb hby at_146) (by decide) (by decide) rfl (fun q => absurd q nofun) (fun _ => ?_)
    refine og_aload X12 hx rfl rfl (hb hby at_149) rfl ?_
    refine og_virtual (pc' := 154) (cells' := 7) (slots' := 48) (W := 0) X12 hx hZ (rm_len l Z a0 hw aS bS kS ln _ cs hcs h12 n0 O E_aS F_value_aS F_coder_aS V_bS S_CS) hown (ow166 hw) (ow61 hw) (own_nf hZ (ow63 hw)) (ow63 hw) (ow62 hw) (ow21 hw) (ow64 hw) (by decide) (by rw [hml]; rfl) e12 opd_13 [] [] rfl rfl rfl rfl (by decide) (by decide) rfl rfl (by decide) (by decide) E_aS (hb hby at_151) rfl (fun v13 T13 h13 L13 X13 e13 z13 => ?_)
    obtain ⟨rfl, Nq13, hq13⟩ := z13; replace e13 := e13.trans hq13; have N := Fr.app N Nq13
    refine og_iload X13 hx rfl (hb hby at_154) rfl ?_
    refine og_icmp_eq (pc1 := 161) (pc2 := 159) X13 hx (hb hby at_156) (by decide) (by decide) rfl (fun _ => ?_) (fun q => absurd rfl q)
    have J178 : ∀ (T14 : State) (l14 : List Loc) (X14 : Stand p l e room_1 s m #[(.int p1), (.int p2)] below meth c T14 l14 7 48) (e14 : T14.heap = h12) (N : Fr n0 l14) (_ : True), OG p e below (OFin s (fun v h L => v = some (.int 1) ∧ Fr n0 L) 24 192) (T14.setTop (mkF m 178 #[.val (.int p1), .val (.int p2), .val (.int yy), .val (.int sg), .val (.int aa), .val (.int dd), .val (.int ln), .val (.ref aS)] [])) := by
     intro T14 l14 X14 e14 N _
     refine og_aload X14 hx rfl rfl (hb hby at_178) rfl ?_
     refine og_iload X14 hx rfl (hb hby at_180) rfl ?_
     refine og_iload X14 hx rfl (hb hby at_182) rfl ?_
     refine og_iload X14 hx rfl (hb hby at_184) rfl ?_
     refine og_iconst (v := 0) X14 hx rfl (hb hby at_186) rfl ?_
     refine og_iconst (v := 1) X14 hx rfl (hb hby at_187) rfl ?_
     refine og_static (pc' := 191) (cells' := 7) (slots' := 48) (W := 0) X14 hx hZ (rm_dig l Z a0 hw aS bS kS ln dd aa (0 : Int32) (1 : Int32) vS (by decide) (hD ((0 : Int32), (1 : Int32)) (List.mem_of_getElem? (i := 0) rfl)) cs hcs fm hfm h12 n0 O E_aS F_value_aS F_coder_aS V_bS S_CS S_FM) hown (ow167 hw) (ow168 hw) (ow169 hw) (ow170 hw) (by decide) (by rw [hml]; rfl) e14 opd_30 [(.ref aS), (.int ln), (.int dd), (.int aa), (.int 0), (.int 1)] [] rfl rfl rfl rfl (by decide) (by decide) rfl rfl (by decide) (by decide) (hb hby at_188) rfl (fun v15 T15 h15 L15 X15 e15 z15 => ?_)
     obtain ⟨rfl, Nq15, hq15⟩ := z15; replace e15 := e15.trans hq15; have N := Fr.app N Nq15
     refine og_if_eq (pc1 := 357) (pc2 := 194) X15 hx (hb hby at_191) (by decide) (by decide) rfl (fun q => absurd q (by decide)) (fun _ => ?_)
     refine og_aload X15 hx rfl rfl (hb hby at_194) rfl ?_
     refine og_iload X15 hx rfl (hb hby at_196) rfl ?_
     refine og_iload X15 hx rfl (hb hby at_198) rfl ?_
     refine og_iload X15 hx rfl (hb hby at_200) rfl ?_
     refine og_iconst (v := 1) X15 hx rfl (hb hby at_202) rfl ?_
     refine og_bipush (v := 10) X15 hx rfl (hb hby at_203) rfl ?_
     refine og_static (pc' := 208) (cells' := 7) (slots' := 48) (W := 0) X15 hx hZ (rm_dig l Z a0 hw aS bS kS ln dd aa (1 : Int32) (10 : Int32) vS (by decide) (hD ((1 : Int32), (10 : Int32)) (List.mem_of_getElem? (i := 1) rfl)) cs hcs fm hfm h12 n0 O E_aS F_value_aS F_coder_aS V_bS S_CS S_FM) hown (ow167 hw) (ow168 hw) (ow169 hw) (ow170 hw) (by decide) (by rw [hml]; rfl) e15 opd_30 [(.ref aS), (.int ln), (.int dd), (.int aa), (.int 1), (.int 10)] [] rfl rfl rfl rfl (by decide) (by decide) rfl rfl (by decide) (by decide) (hb hby at_205) rfl (fun v16 T16 h16 L16 X16 e16 z16 => ?_)
     obtain ⟨rfl, Nq16, hq16⟩ := z16; replace e16 := e16.trans hq16; have N := Fr.app N Nq16
     refine og_if_eq (pc1 := 357) (pc2 := 211) X16 hx (hb hby at_208) (by decide) (by decide) rfl (fun q => absurd q (by decide)) (fun _ => ?_)
     refine og_aload X16 hx rfl rfl (hb hby at_211) rfl ?_
     refine og_iload X16 hx rfl (hb hby at_213) rfl ?_
     refine og_iload X16 hx rfl (hb hby at_215) rfl ?_
     refine og_iload X16 hx rfl (hb hby at_217) rfl ?_
     refine og_iconst (v := 2) X16 hx rfl (hb hby at_219) rfl ?_
     refine og_bipush (v := 100) X16 hx rfl (hb hby at_220) rfl ?_
     refine og_static (pc' := 225) (cells' := 7) (slots' := 48) (W := 0) X16 hx hZ (rm_dig l Z a0 hw aS bS kS ln dd aa (2 : Int32) (100 : Int32) vS (by decide) (hD ((2 : Int32), (100 : Int32)) (List.mem_of_getElem? (i := 2) rfl)) cs hcs fm hfm h12 n0 O E_aS F_value_aS F_coder_aS V_bS S_CS S_FM) hown (ow167 hw) (ow168 hw) (ow169 hw) (ow170 hw) (by decide) (by rw [hml]; rfl) e16 opd_30 [(.ref aS), (.int ln), (.int dd), (.int aa), (.int 2), (.int 100)] [] rfl rfl rfl rfl (by decide) (by decide) rfl rfl (by decide) (by decide) (hb hby at_222) rfl (fun v17 T17 h17 L17 X17 e17 z17 => ?_)
     obtain ⟨rfl, Nq17, hq17⟩ := z17; replace e17 := e17.trans hq17; have N := Fr.app N Nq17
     refine og_if_eq (pc1 := 357) (pc2 := 228) X17 hx (hb hby at_225) (by decide) (by decide) rfl (fun q => absurd q (by decide)) (fun _ => ?_)
     refine og_aload X17 hx rfl rfl (hb hby at_228) rfl ?_
     refine og_iload X17 hx rfl (hb hby at_230) rfl ?_
     refine og_iload X17 hx rfl (hb hby at_232) rfl ?_
     refine og_iload X17 hx rfl (hb hby at_234) rfl ?_
     refine og_iconst (v := 3) X17 hx rfl (hb hby at_236) rfl ?_
     refine og_sipush (v := 1000) X17 hx rfl (hb hby at_237) rfl ?_
     refine og_static (pc' := 243) (cells' := 7) (slots' := 48) (W := 0) X17 hx hZ (rm_dig l Z a0 hw aS bS kS ln dd aa (3 : Int32) (1000 : Int32) vS (by decide) (hD ((3 : Int32), (1000 : Int32)) (List.mem_of_getElem? (i := 3) rfl)) cs hcs fm hfm h12 n0 O E_aS F_value_aS F_coder_aS V_bS S_CS S_FM) hown (ow167 hw) (ow168 hw) (ow169 hw) (ow170 hw) (by decide) (by rw [hml]; rfl) e17 opd_30 [(.ref aS), (.int ln), (.int dd), (.int aa), (.int 3), (.int 1000)] [] rfl rfl rfl rfl (by decide) (by decide) rfl rfl (by decide) (by decide) (hb hby at_240) rfl (fun v18 T18 h18 L18 X18 e18 z18 => ?_)
     obtain ⟨rfl, Nq18, hq18⟩ := z18; replace e18 := e18.trans hq18; have N := Fr.app N Nq18
     refine og_if_eq (pc1 := 357) (pc2 := 246) X18 hx (hb hby at_243) (by decide) (by decide) rfl (fun q => absurd q (by decide)) (fun _ => ?_)
     refine og_aload X18 hx rfl rfl (hb hby at_246) rfl ?_
     refine og_iload X18 hx rfl (hb hby at_248) rfl ?_
     refine og_iload X18 hx rfl (hb hby at_250) rfl ?_
     refine og_iload X18 hx rfl (hb hby at_252) rfl ?_
     refine og_iconst (v := 4) X18 hx rfl (hb hby at_254) rfl ?_
     refine og_sipush (v := 10000) X18 hx rfl (hb hby at_255) rfl ?_
     refine og_static (pc' := 261) (cells' := 7) (slots' := 48) (W := 0) X18 hx hZ (rm_dig l Z a0 hw aS bS kS ln dd aa (4 : Int32) (10000 : Int32) vS (by decide) (hD ((4 : Int32), (10000 : Int32)) (List.mem_of_getElem? (i := 4) rfl)) cs hcs fm hfm h12 n0 O E_aS F_value_aS F_coder_aS V_bS S_CS S_FM) hown (ow167 hw) (ow168 hw) (ow169 hw) (ow170 hw) (by decide) (by rw [hml]; rfl) e18 opd_30 [(.ref aS), (.int ln), (.int dd), (.int aa), (.int 4), (.int 10000)] [] rfl rfl rfl rfl (by decide) (by decide) rfl rfl (by decide) (by decide) (hb hby at_258) rfl (fun v19 T19 h19 L19 X19 e19 z19 => ?_)
     obtain ⟨rfl, Nq19, hq19⟩ := z19; replace e19 := e19.trans hq19; have N := Fr.app N Nq19
     refine og_if_eq (pc1 := 357) (pc2 := 264) X19 hx (hb hby at_261) (by decide) (by decide) rfl (fun q => absurd q (by decide)) (fun _ => ?_)
     refine og_aload X19 hx rfl rfl (hb hby at_264) rfl ?_
     refine og_iload X19 hx rfl (hb hby at_266) rfl ?_
     refine og_iload X19 hx rfl (hb hby at_268) rfl ?_
     refine og_iload X19 hx rfl (hb hby at_270) rfl ?_
     refine og_iconst (v := 5) X19 hx rfl (hb hby at_272) rfl ?_
     refine og_ldc X19 hx hZ hown (ow192 hw) (hb hby at_273) rfl ?_
     refine og_static (pc' := 278) (cells' := 7) (slots' := 48) (W := 0) X19 hx hZ (rm_dig l Z a0 hw aS bS kS ln dd aa (5 : Int32) (100000 : Int32) vS (by decide) (hD ((5 : Int32), (100000 : Int32)) (List.mem_of_getElem? (i := 5) rfl)) cs hcs fm hfm h12 n0 O E_aS F_value_aS F_coder_aS V_bS S_CS S_FM) hown (ow167 hw) (ow168 hw) (ow169 hw) (ow170 hw) (by decide) (by rw [hml]; rfl) e19 opd_30 [(.ref aS), (.int ln), (.int dd), (.int aa), (.int 5), (.int 100000)] [] rfl rfl rfl rfl (by decide) (by decide) rfl rfl (by decide) (by decide) (hb hby at_275) rfl (fun v20 T20 h20 L20 X20 e20 z20 => ?_)
     obtain ⟨rfl, Nq20, hq20⟩ := z20; replace e20 := e20.trans hq20; have N := Fr.app N Nq20
     refine og_if_eq (pc1 := 357) (pc2 := 281) X20 hx (hb hby at_278) (by decide) (by decide) rfl (fun q => absurd q (by decide)) (fun _ => ?_)
     refine og_aload X20 hx rfl rfl (hb hby at_281) rfl ?_
     refine og_iload X20 hx rfl (hb hby at_283) rfl ?_
     refine og_iload X20 hx rfl (hb hby at_285) rfl ?_
     refine og_iload X20 hx rfl (hb hby at_287) rfl ?_
     refine og_bipush (v := 6) X20 hx rfl (hb hby at_289) rfl ?_
     refine og_ldc X20 hx hZ hown (ow193 hw) (hb hby at_291) rfl ?_
     refine og_static (pc' := 296) (cells' := 7) (slots' := 48) (W := 0) X20 hx hZ (rm_dig l Z a0 hw aS bS kS ln dd aa (6 : Int32) (1000000 : Int32) vS (by decide) (hD ((6 : Int32), (1000000 : Int32)) (List.mem_of_getElem? (i := 6) rfl)) cs hcs fm hfm h12 n0 O E_aS F_value_aS F_coder_aS V_bS S_CS S_FM) hown (ow167 hw) (ow168 hw) (ow169 hw) (ow170 hw) (by decide) (by rw [hml]; rfl) e20 opd_30 [(.ref aS), (.int ln), (.int dd), (.int aa), (.int 6), (.int 1000000)] [] rfl rfl rfl rfl (by decide) (by decide) rfl rfl (by decide) (by decide) (hb hby at_293) rfl (fun v21 T21 h21 L21 X21 e21 z21 => ?_)
     obtain ⟨rfl, Nq21, hq21⟩ := z21; replace e21 := e21.trans hq21; have N := Fr.app N Nq21
     refine og_if_eq (pc1 := 357) (pc2 := 299) X21 hx (hb hby at_296) (by decide) (by decide) rfl (fun q => absurd q (by decide)) (fun _ => ?_)
     refine og_aload X21 hx rfl rfl (hb hby at_299) rfl ?_
     refine og_iload X21 hx rfl (hb hby at_301) rfl ?_
     refine og_iload X21 hx rfl (hb hby at_303) rfl ?_
     refine og_iload X21 hx rfl (hb hby at_305) rfl ?_
     refine og_bipush (v := 7) X21 hx rfl (hb hby at_307) rfl ?_
     refine og_ldc X21 hx hZ hown (ow194 hw) (hb hby at_309) rfl ?_
     refine og_static (pc' := 314) (cells' := 7) (slots' := 48) (W := 0) X21 hx hZ (rm_dig l Z a0 hw aS bS kS ln dd aa (7 : Int32) (10000000 : Int32) vS (by decide) (hD ((7 : Int32), (10000000 : Int32)) (List.mem_of_getElem? (i := 7) rfl)) cs hcs fm hfm h12 n0 O E_aS F_value_aS F_coder_aS V_bS S_CS S_FM) hown (ow167 hw) (ow168 hw) (ow169 hw) (ow170 hw) (by decide) (by rw [hml]; rfl) e21 opd_30 [(.ref aS), (.int ln), (.int dd), (.int aa), (.int 7), (.int 10000000)] [] rfl rfl rfl rfl (by decide) (by decide) rfl rfl (by decide) (by decide) (hb hby at_311) rfl (fun v22 T22 h22 L22 X22 e22 z22 => ?_)
     obtain ⟨rfl, Nq22, hq22⟩ := z22; replace e22 := e22.trans hq22; have N := Fr.app N Nq22
     refine og_if_eq (pc1 := 357) (pc2 := 317) X22 hx (hb hby at_314) (by decide) (by decide) rfl (fun q => absurd q (by decide)) (fun _ => ?_)
     refine og_aload X22 hx rfl rfl (hb hby at_317) rfl ?_
     refine og_iload X22 hx rfl (hb hby at_319) rfl ?_
     refine og_iload X22 hx rfl (hb hby at_321) rfl ?_
     refine og_iload X22 hx rfl (hb hby at_323) rfl ?_
     refine og_bipush (v := 8) X22 hx rfl (hb hby at_325) rfl ?_
     refine og_ldc X22 hx hZ hown (ow195 hw) (hb hby at_327) rfl ?_
     refine og_static (pc' := 332) (cells' := 7) (slots' := 48) (W := 0) X22 hx hZ (rm_dig l Z a0 hw aS bS kS ln dd aa (8 : Int32) (100000000 : Int32) vS (by decide) (hD ((8 : Int32), (100000000 : Int32)) (List.mem_of_getElem? (i := 8) rfl)) cs hcs fm hfm h12 n0 O E_aS F_value_aS F_coder_aS V_bS S_CS S_FM) hown (ow167 hw) (ow168 hw) (ow169 hw) (ow170 hw) (by decide) (by rw [hml]; rfl) e22 opd_30 [(.ref aS), (.int ln), (.int dd), (.int aa), (.int 8), (.int 100000000)] [] rfl rfl rfl rfl (by decide) (by decide) rfl rfl (by decide) (by decide) (hb hby at_329) rfl (fun v23 T23 h23 L23 X23 e23 z23 => ?_)
     obtain ⟨rfl, Nq23, hq23⟩ := z23; replace e23 := e23.trans hq23; have N := Fr.app N Nq23
     refine og_if_eq (pc1 := 357) (pc2 := 335) X23 hx (hb hby at_332) (by decide) (by decide) rfl (fun q => absurd q (by decide)) (fun _ => ?_)
     refine og_aload X23 hx rfl rfl (hb hby at_335) rfl ?_
     refine og_iload X23 hx rfl (hb hby at_337) rfl ?_
     refine og_iload X23 hx rfl (hb hby at_339) rfl ?_
     refine og_iload X23 hx rfl (hb hby at_341) rfl ?_
     refine og_bipush (v := 9) X23 hx rfl (hb hby at_343) rfl ?_
     refine og_ldc X23 hx hZ hown (ow196 hw) (hb hby at_345) rfl ?_
     refine og_static (pc' := 350) (cells' := 7) (slots' := 48) (W := 0) X23 hx hZ (rm_dig l Z a0 hw aS bS kS ln dd aa (9 : Int32) (1000000000 : Int32) vS (by decide) (hD ((9 : Int32), (1000000000 : Int32)) (List.mem_of_getElem? (i := 9) rfl)) cs hcs fm hfm h12 n0 O E_aS F_value_aS F_coder_aS V_bS S_CS S_FM) hown (ow167 hw) (ow168 hw) (ow169 hw) (ow170 hw) (by decide) (by rw [hml]; rfl) e23 opd_30 [(.ref aS), (.int ln), (.int dd), (.int aa), (.int 9), (.int 1000000000)] [] rfl rfl rfl rfl (by decide) (by decide) rfl rfl (by decide) (by decide) (hb hby at_347) rfl (fun v24 T24 h24 L24 X24 e24 z24 => ?_)
     obtain ⟨rfl, Nq24, hq24⟩ := z24; replace e24 := e24.trans hq24; have N := Fr.app N Nq24
     refine og_if_eq (pc1 := 357) (pc2 := 353) X24 hx (hb hby at_350) (by decide) (by decide) rfl (fun q => absurd q (by decide)) (fun _ => ?_)
     refine og_iconst (v := 1) X24 hx rfl (hb hby at_353) rfl ?_
     refine og_goto (pc' := 358) X24 hx (hb hby at_354) (by decide) (by decide) ?_
     refine og_retN X24 hx hlk hret (by simp) (hb hby at_358) (by decide) (by decide) ?_
     exact ⟨rfl, N⟩
    refine og_iloadN X13 hx rfl (hb hby at_161) rfl ?_
    refine og_if_eq (pc1 := 178) (pc2 := 165) X13 hx (hb hby at_162) (by decide) (by decide) rfl (fun hc162 => ?_) (fun hc162 => ?_)
    ·
     exact J178 T13 _ X13 e13 N trivial
    ·
     refine og_aload X13 hx rfl rfl (hb hby at_165) rfl ?_
     refine og_iconst (v := 0) X13 hx rfl (hb hby at_167) rfl ?_
     refine og_virtual (pc' := 171) (cells' := 7) (slots' := 48) (W := 0) X13 hx hZ (rm_ch l Z a0 hw aS bS kS ln (0 : Int32) ⟨by decide, hz⟩ vS (45 : Int32) (hm hc162) (by decide) cs hcs fm hfm h12 n0 O E_aS F_value_aS F_coder_aS V_bS S_CS S_FM) hown (ow171 hw) (ow172 hw) (own_nf hZ (ow174 hw)) (ow174 hw) (ow173 hw) (ow21 hw) (ow175 hw) (by decide) (by rw [hml]; rfl) e13 opd_29 [(.int 0)] [] rfl rfl rfl rfl (by decide) (by decide) rfl rfl (by decide) (by decide) E_aS (hb hby at_168) rfl (fun v25 T25 h25 L25 X25 e25 z25 => ?_)
     obtain ⟨rfl, Nq25, hq25⟩ := z25; replace e25 := e25.trans hq25; have N := Fr.app N Nq25
     refine og_bipush (v := 45) X25 hx rfl (hb hby at_171) rfl ?_
     refine og_icmp_eq (pc1 := 178) (pc2 := 176) X25 hx (hb hby at_173) (by decide) (by decide) rfl (fun _ => ?_) (fun q => absurd q (by decide))
     exact J178 T25 _ X25 e25 N trivial
   have h0R := hR.2.1
   rcases hR.1 with ⟨hsg, haa, hy⟩ | ⟨hsg, haa, hy⟩
   ·
    have h0a : 0 ≤ (yy : Int32).toInt := haa ▸ h0R
    refine og_iloadN X11 hx rfl (hb hby at_138) rfl ?_
    refine og_static (pc' := 142) (cells' := 7) (slots' := 48) (W := 0) X11 hx hZ (rm_yr0 l Z a0 hw yy hy h0a dO dT kdO kdT ldO ldT hO hT cs hcs h0 n0 O S_dO V_dO S_dT V_dT S_CS) hown (ow1 hw) (ow2 hw) (ow3 hw) (ow4 hw) (by decide) (by rw [hml]; rfl) e11 opd_21 [(.int yy)] [] rfl rfl rfl rfl (by decide) (by decide) rfl rfl (by decide) (by decide) (hb hby at_139) rfl (fun v26 T26 h26 L26 X26 e26 z26 => ?_)
    obtain ⟨na26, nb26, k26, cn, zz, vs, rfl, Nq26, K26, sa26, sb26, E_na26, F_value_na26, F_coder_na26, V_nb26, hW⟩ := z26; have N := Fr.app N Nq26
    have s_na26 : h0.size ≤ na26 := sa26; have g_na26 : n0 ≤ na26 := Nat.le_trans (own_n0 O) s_na26; have sz_na26 : h0.size ≤ na26 := Nat.le_trans K.1 s_na26; have ne_dO_na26 : dO ≠ na26 := O.ne V_dO.lt g_na26; have ne_dT_na26 : dT ≠ na26 := O.ne V_dT.lt g_na26
    have s_nb26 : h0.size ≤ nb26 := sb26; have g_nb26 : n0 ≤ nb26 := Nat.le_trans (own_n0 O) s_nb26; have sz_nb26 : h0.size ≤ nb26 := Nat.le_trans K.1 s_nb26; have ne_dO_nb26 : dO ≠ nb26 := O.ne V_dO.lt g_nb26; have ne_dT_nb26 : dT ≠ nb26 := O.ne V_dT.lt g_nb26
    have O := O.keep K26 all0; have K := K.trans K26 all0
    refine og_astore (L' := #[.val (.int p1), .val (.int p2), .val (.int yy), .val (.int sg), .val (.int aa), .val (.int dd), .val (.int ln), .val (.ref na26)]) X26 hx rfl rfl (hb hby at_142) rfl ?_
    obtain ⟨hcl, hm, hz, hD⟩ := own_final0 hR hsg haa hW
    subst hcl
    exact J144 T26 _ _ (own_mono X26 (by decide) (by decide)) e26 N O K na26 nb26 k26 _ hm hz hD E_na26 F_value_na26 F_coder_na26 V_nb26
   ·
    have h0a : 0 ≤ (-yy : Int32).toInt := haa ▸ h0R
    refine og_iloadN X11 hx rfl (hb hby at_138) rfl ?_
    refine og_static (pc' := 142) (cells' := 7) (slots' := 48) (W := 0) X11 hx hZ (rm_yr1 l Z a0 hw yy hy h0a dO dT kdO kdT ldO ldT hO hT cs hcs h0 n0 O S_dO V_dO S_dT V_dT S_CS) hown (ow1 hw) (ow2 hw) (ow3 hw) (ow4 hw) (by decide) (by rw [hml]; rfl) e11 opd_21 [(.int yy)] [] rfl rfl rfl rfl (by decide) (by decide) rfl rfl (by decide) (by decide) (hb hby at_139) rfl (fun v27 T27 h27 L27 X27 e27 z27 => ?_)
    obtain ⟨na27, nb27, k27, cn, zz, vs, rfl, Nq27, K27, sa27, sb27, E_na27, F_value_na27, F_coder_na27, V_nb27, hW⟩ := z27; have N := Fr.app N Nq27
    have s_na27 : h0.size ≤ na27 := sa27; have g_na27 : n0 ≤ na27 := Nat.le_trans (own_n0 O) s_na27; have sz_na27 : h0.size ≤ na27 := Nat.le_trans K.1 s_na27; have ne_dO_na27 : dO ≠ na27 := O.ne V_dO.lt g_na27; have ne_dT_na27 : dT ≠ na27 := O.ne V_dT.lt g_na27
    have s_nb27 : h0.size ≤ nb27 := sb27; have g_nb27 : n0 ≤ nb27 := Nat.le_trans (own_n0 O) s_nb27; have sz_nb27 : h0.size ≤ nb27 := Nat.le_trans K.1 s_nb27; have ne_dO_nb27 : dO ≠ nb27 := O.ne V_dO.lt g_nb27; have ne_dT_nb27 : dT ≠ nb27 := O.ne V_dT.lt g_nb27
    have O := O.keep K27 all0; have K := K.trans K27 all0
    refine og_astore (L' := #[.val (.int p1), .val (.int p2), .val (.int yy), .val (.int sg), .val (.int aa), .val (.int dd), .val (.int ln), .val (.ref na27)]) X27 hx rfl rfl (hb hby at_142) rfl ?_
    obtain ⟨hcl, hm, hz, hD⟩ := own_final1 hR hsg haa hW
    subst hcl
    exact J144 T27 _ _ (own_mono X27 (by decide) (by decide)) e27 N O K na27 nb27 k27 _ hm hz hD E_na27 F_value_na27 F_coder_na27 V_nb27
  refine og_iloadN X0 hx rfl (hb hby at_15) rfl ?_
  refine og_if_ge (pc1 := 23) (pc2 := 19) X0 hx (hb hby at_16) (by decide) (by decide) rfl (fun hc16 => ?_) (fun hc16 => ?_)
  ·
   refine og_iconst (v := 0) X0 hx rfl (hb hby at_23) rfl ?_
   refine og_istoreN (L' := #[.val (.int p1), .val (.int p2), .val (.int yy), .val (.int 0), .unset, .unset, .unset, .unset]) X0 hx rfl (hb hby at_24) rfl ?_
   refine og_iloadN X0 hx rfl (hb hby at_25) rfl ?_
   refine og_if_eq (pc1 := 34) (pc2 := 29) X0 hx (hb hby at_26) (by decide) (by decide) rfl (fun _ => ?_) (fun q => absurd q (by decide))
   refine og_iloadN X0 hx rfl (hb hby at_34) rfl ?_
   refine og_istore (L' := #[.val (.int p1), .val (.int p2), .val (.int yy), .val (.int 0), .val (.int yy), .unset, .unset, .unset]) X0 hx rfl (hb hby at_35) rfl ?_
   refine og_iload X0 hx rfl (hb hby at_37) rfl ?_
   refine og_sipush (v := 10000) X0 hx rfl (hb hby at_39) rfl ?_
   refine og_icmp_ge (pc1 := 51) (pc2 := 45) X0 hx (hb hby at_42) (by decide) (by decide) rfl (fun hc42 => ?_) (fun hc42 => ?_)
   ·
    refine og_iload X0 hx rfl (hb hby at_51) rfl ?_
    refine og_ldc X0 hx hZ hown (ow192 hw) (hb hby at_53) rfl ?_
    refine og_icmp_ge (pc1 := 64) (pc2 := 58) X0 hx (hb hby at_55) (by decide) (by decide) rfl (fun hc55 => ?_) (fun hc55 => ?_)
    ·
     refine og_iload X0 hx rfl (hb hby at_64) rfl ?_
     refine og_ldc X0 hx hZ hown (ow193 hw) (hb hby at_66) rfl ?_
     refine og_icmp_ge (pc1 := 78) (pc2 := 71) X0 hx (hb hby at_68) (by decide) (by decide) rfl (fun hc68 => ?_) (fun hc68 => ?_)
     ·
      refine og_iload X0 hx rfl (hb hby at_78) rfl ?_
      refine og_ldc X0 hx hZ hown (ow194 hw) (hb hby at_80) rfl ?_
      refine og_icmp_ge (pc1 := 92) (pc2 := 85) X0 hx (hb hby at_82) (by decide) (by decide) rfl (fun hc82 => ?_) (fun hc82 => ?_)
      ·
       refine og_iload X0 hx rfl (hb hby at_92) rfl ?_
       refine og_ldc X0 hx hZ hown (ow195 hw) (hb hby at_94) rfl ?_
       refine og_icmp_ge (pc1 := 106) (pc2 := 99) X0 hx (hb hby at_96) (by decide) (by decide) rfl (fun hc96 => ?_) (fun hc96 => ?_)
       ·
        refine og_iload X0 hx rfl (hb hby at_106) rfl ?_
        refine og_ldc X0 hx hZ hown (ow196 hw) (hb hby at_108) rfl ?_
        refine og_icmp_ge (pc1 := 120) (pc2 := 113) X0 hx (hb hby at_110) (by decide) (by decide) rfl (fun hc110 => ?_) (fun hc110 => ?_)
        ·
         refine og_bipush (v := 10) X0 hx rfl (hb hby at_120) rfl ?_
         refine og_istore (L' := #[.val (.int p1), .val (.int p2), .val (.int yy), .val (.int 0), .val (.int yy), .val (.int 10), .unset, .unset]) X0 hx rfl (hb hby at_122) rfl ?_
         refine og_iloadN X0 hx rfl (hb hby at_124) rfl ?_
         refine og_if_eq (pc1 := 132) (pc2 := 128) X0 hx (hb hby at_125) (by decide) (by decide) rfl (fun _ => ?_) (fun q => absurd q (by decide))
         refine og_iconst (v := 0) X0 hx rfl (hb hby at_132) rfl ?_
         refine og_iload X0 hx rfl (hb hby at_133) rfl ?_
         refine og_iadd X0 hx (hb hby at_135) rfl ?_
         show OG p e below _ (T0.setTop (mkF m 136 #[.val (.int p1), .val (.int p2), .val (.int yy), .val (.int 0), .val (.int yy), .val (.int 10), .unset, .unset] [(.int 10)]))
         refine og_istore (L' := #[.val (.int p1), .val (.int p2), .val (.int yy), .val (.int 0), .val (.int yy), .val (.int 10), .val (.int 10), .unset]) X0 hx rfl (hb hby at_136) rfl ?_
         exact J138 T0 _ X0 e0 N (0 : Int32) yy (10 : Int32) (10 : Int32) (own_mk0_10 hc10 hc16 hc42 hc55 hc68 hc82 hc96 hc110)
        ·
         refine og_bipush (v := 9) X0 hx rfl (hb hby at_113) rfl ?_
         refine og_istore (L' := #[.val (.int p1), .val (.int p2), .val (.int yy), .val (.int 0), .val (.int yy), .val (.int 9), .unset, .unset]) X0 hx rfl (hb hby at_115) rfl ?_
         refine og_goto (pc' := 124) X0 hx (hb hby at_117) (by decide) (by decide) ?_
         refine og_iloadN X0 hx rfl (hb hby at_124) rfl ?_
         refine og_if_eq (pc1 := 132) (pc2 := 128) X0 hx (hb hby at_125) (by decide) (by decide) rfl (fun _ => ?_) (fun q => absurd q (by decide))
         refine og_iconst (v := 0) X0 hx rfl (hb hby at_132) rfl ?_
         refine og_iload X0 hx rfl (hb hby at_133) rfl ?_
         refine og_iadd X0 hx (hb hby at_135) rfl ?_
         show OG p e below _ (T0.setTop (mkF m 136 #[.val (.int p1), .val (.int p2), .val (.int yy), .val (.int 0), .val (.int yy), .val (.int 9), .unset, .unset] [(.int 9)]))
         refine og_istore (L' := #[.val (.int p1), .val (.int p2), .val (.int yy), .val (.int 0), .val (.int yy), .val (.int 9), .val (.int 9), .unset]) X0 hx rfl (hb hby at_136) rfl ?_
         exact J138 T0 _ X0 e0 N (0 : Int32) yy (9 : Int32) (9 : Int32) (own_mk0_9 hc10 hc16 hc42 hc55 hc68 hc82 hc96 hc110)
       ·
        refine og_bipush (v := 8) X0 hx rfl (hb hby at_99) rfl ?_
        refine og_istore (L' := #[.val (.int p1), .val (.int p2), .val (.int yy), .val (.int 0), .val (.int yy), .val (.int 8), .unset, .unset]) X0 hx rfl (hb hby at_101) rfl ?_
        refine og_goto (pc' := 124) X0 hx (hb hby at_103) (by decide) (by decide) ?_
        refine og_iloadN X0 hx rfl (hb hby at_124) rfl ?_
        refine og_if_eq (pc1 := 132) (pc2 := 128) X0 hx (hb hby at_125) (by decide) (by decide) rfl (fun _ => ?_) (fun q => absurd q (by decide))
        refine og_iconst (v := 0) X0 hx rfl (hb hby at_132) rfl ?_
        refine og_iload X0 hx rfl (hb hby at_133) rfl ?_
        refine og_iadd X0 hx (hb hby at_135) rfl ?_
        show OG p e below _ (T0.setTop (mkF m 136 #[.val (.int p1), .val (.int p2), .val (.int yy), .val (.int 0), .val (.int yy), .val (.int 8), .unset, .unset] [(.int 8)]))
        refine og_istore (L' := #[.val (.int p1), .val (.int p2), .val (.int yy), .val (.int 0), .val (.int yy), .val (.int 8), .val (.int 8), .unset]) X0 hx rfl (hb hby at_136) rfl ?_
        exact J138 T0 _ X0 e0 N (0 : Int32) yy (8 : Int32) (8 : Int32) (own_mk0_8 hc10 hc16 hc42 hc55 hc68 hc82 hc96)
      ·
       refine og_bipush (v := 7) X0 hx rfl (hb hby at_85) rfl ?_
       refine og_istore (L' := #[.val (.int p1), .val (.int p2), .val (.int yy), .val (.int 0), .val (.int yy), .val (.int 7), .unset, .unset]) X0 hx rfl (hb hby at_87) rfl ?_
       refine og_goto (pc' := 124) X0 hx (hb hby at_89) (by decide) (by decide) ?_
       refine og_iloadN X0 hx rfl (hb hby at_124) rfl ?_
       refine og_if_eq (pc1 := 132) (pc2 := 128) X0 hx (hb hby at_125) (by decide) (by decide) rfl (fun _ => ?_) (fun q => absurd q (by decide))
       refine og_iconst (v := 0) X0 hx rfl (hb hby at_132) rfl ?_
       refine og_iload X0 hx rfl (hb hby at_133) rfl ?_
       refine og_iadd X0 hx (hb hby at_135) rfl ?_
       show OG p e below _ (T0.setTop (mkF m 136 #[.val (.int p1), .val (.int p2), .val (.int yy), .val (.int 0), .val (.int yy), .val (.int 7), .unset, .unset] [(.int 7)]))
       refine og_istore (L' := #[.val (.int p1), .val (.int p2), .val (.int yy), .val (.int 0), .val (.int yy), .val (.int 7), .val (.int 7), .unset]) X0 hx rfl (hb hby at_136) rfl ?_
       exact J138 T0 _ X0 e0 N (0 : Int32) yy (7 : Int32) (7 : Int32) (own_mk0_7 hc10 hc16 hc42 hc55 hc68 hc82)
     ·
      refine og_bipush (v := 6) X0 hx rfl (hb hby at_71) rfl ?_
      refine og_istore (L' := #[.val (.int p1), .val (.int p2), .val (.int yy), .val (.int 0), .val (.int yy), .val (.int 6), .unset, .unset]) X0 hx rfl (hb hby at_73) rfl ?_
      refine og_goto (pc' := 124) X0 hx (hb hby at_75) (by decide) (by decide) ?_
      refine og_iloadN X0 hx rfl (hb hby at_124) rfl ?_
      refine og_if_eq (pc1 := 132) (pc2 := 128) X0 hx (hb hby at_125) (by decide) (by decide) rfl (fun _ => ?_) (fun q => absurd q (by decide))
      refine og_iconst (v := 0) X0 hx rfl (hb hby at_132) rfl ?_
      refine og_iload X0 hx rfl (hb hby at_133) rfl ?_
      refine og_iadd X0 hx (hb hby at_135) rfl ?_
      show OG p e below _ (T0.setTop (mkF m 136 #[.val (.int p1), .val (.int p2), .val (.int yy), .val (.int 0), .val (.int yy), .val (.int 6), .unset, .unset] [(.int 6)]))
      refine og_istore (L' := #[.val (.int p1), .val (.int p2), .val (.int yy), .val (.int 0), .val (.int yy), .val (.int 6), .val (.int 6), .unset]) X0 hx rfl (hb hby at_136) rfl ?_
      exact J138 T0 _ X0 e0 N (0 : Int32) yy (6 : Int32) (6 : Int32) (own_mk0_6 hc10 hc16 hc42 hc55 hc68)
    ·
     refine og_iconst (v := 5) X0 hx rfl (hb hby at_58) rfl ?_
     refine og_istore (L' := #[.val (.int p1), .val (.int p2), .val (.int yy), .val (.int 0), .val (.int yy), .val (.int 5), .unset, .unset]) X0 hx rfl (hb hby at_59) rfl ?_
     refine og_goto (pc' := 124) X0 hx (hb hby at_61) (by decide) (by decide) ?_
     refine og_iloadN X0 hx rfl (hb hby at_124) rfl ?_
     refine og_if_eq (pc1 := 132) (pc2 := 128) X0 hx (hb hby at_125) (by decide) (by decide) rfl (fun _ => ?_) (fun q => absurd q (by decide))
     refine og_iconst (v := 0) X0 hx rfl (hb hby at_132) rfl ?_
     refine og_iload X0 hx rfl (hb hby at_133) rfl ?_
     refine og_iadd X0 hx (hb hby at_135) rfl ?_
     show OG p e below _ (T0.setTop (mkF m 136 #[.val (.int p1), .val (.int p2), .val (.int yy), .val (.int 0), .val (.int yy), .val (.int 5), .unset, .unset] [(.int 5)]))
     refine og_istore (L' := #[.val (.int p1), .val (.int p2), .val (.int yy), .val (.int 0), .val (.int yy), .val (.int 5), .val (.int 5), .unset]) X0 hx rfl (hb hby at_136) rfl ?_
     exact J138 T0 _ X0 e0 N (0 : Int32) yy (5 : Int32) (5 : Int32) (own_mk0_5 hc10 hc16 hc42 hc55)
   ·
    refine og_iconst (v := 4) X0 hx rfl (hb hby at_45) rfl ?_
    refine og_istore (L' := #[.val (.int p1), .val (.int p2), .val (.int yy), .val (.int 0), .val (.int yy), .val (.int 4), .unset, .unset]) X0 hx rfl (hb hby at_46) rfl ?_
    refine og_goto (pc' := 124) X0 hx (hb hby at_48) (by decide) (by decide) ?_
    refine og_iloadN X0 hx rfl (hb hby at_124) rfl ?_
    refine og_if_eq (pc1 := 132) (pc2 := 128) X0 hx (hb hby at_125) (by decide) (by decide) rfl (fun _ => ?_) (fun q => absurd q (by decide))
    refine og_iconst (v := 0) X0 hx rfl (hb hby at_132) rfl ?_
    refine og_iload X0 hx rfl (hb hby at_133) rfl ?_
    refine og_iadd X0 hx (hb hby at_135) rfl ?_
    show OG p e below _ (T0.setTop (mkF m 136 #[.val (.int p1), .val (.int p2), .val (.int yy), .val (.int 0), .val (.int yy), .val (.int 4), .unset, .unset] [(.int 4)]))
    refine og_istore (L' := #[.val (.int p1), .val (.int p2), .val (.int yy), .val (.int 0), .val (.int yy), .val (.int 4), .val (.int 4), .unset]) X0 hx rfl (hb hby at_136) rfl ?_
    exact J138 T0 _ X0 e0 N (0 : Int32) yy (4 : Int32) (4 : Int32) (own_mk0_4 hc10 hc16 hc42)
  ·
   refine og_iconst (v := 1) X0 hx rfl (hb hby at_19) rfl ?_
   refine og_goto (pc' := 24) X0 hx (hb hby at_20) (by decide) (by decide) ?_
   refine og_istoreN (L' := #[.val (.int p1), .val (.int p2), .val (.int yy), .val (.int 1), .unset, .unset, .unset, .unset]) X0 hx rfl (hb hby at_24) rfl ?_
   refine og_iloadN X0 hx rfl (hb hby at_25) rfl ?_
   refine og_if_eq (pc1 := 34) (pc2 := 29) X0 hx (hb hby at_26) (by decide) (by decide) rfl (fun q => absurd q (by decide)) (fun _ => ?_)
   refine og_iloadN X0 hx rfl (hb hby at_29) rfl ?_
   refine og_ineg X0 hx (hb hby at_30) rfl ?_
   refine og_goto (pc' := 35) X0 hx (hb hby at_31) (by decide) (by decide) ?_
   refine og_istore (L' := #[.val (.int p1), .val (.int p2), .val (.int yy), .val (.int 1), .val (.int (-yy)), .unset, .unset, .unset]) X0 hx rfl (hb hby at_35) rfl ?_
   refine og_iload X0 hx rfl (hb hby at_37) rfl ?_
   refine og_sipush (v := 10000) X0 hx rfl (hb hby at_39) rfl ?_
   refine og_icmp_ge (pc1 := 51) (pc2 := 45) X0 hx (hb hby at_42) (by decide) (by decide) rfl (fun hc42 => ?_) (fun hc42 => ?_)
   ·
    refine og_iload X0 hx rfl (hb hby at_51) rfl ?_
    refine og_ldc X0 hx hZ hown (ow192 hw) (hb hby at_53) rfl ?_
    refine og_icmp_ge (pc1 := 64) (pc2 := 58) X0 hx (hb hby at_55) (by decide) (by decide) rfl (fun hc55 => ?_) (fun hc55 => ?_)
    ·
     refine og_iload X0 hx rfl (hb hby at_64) rfl ?_
     refine og_ldc X0 hx hZ hown (ow193 hw) (hb hby at_66) rfl ?_
     refine og_icmp_ge (pc1 := 78) (pc2 := 71) X0 hx (hb hby at_68) (by decide) (by decide) rfl (fun hc68 => ?_) (fun hc68 => ?_)
     ·
      refine og_iload X0 hx rfl (hb hby at_78) rfl ?_
      refine og_ldc X0 hx hZ hown (ow194 hw) (hb hby at_80) rfl ?_
      refine og_icmp_ge (pc1 := 92) (pc2 := 85) X0 hx (hb hby at_82) (by decide) (by decide) rfl (fun hc82 => ?_) (fun hc82 => ?_)
      ·
       refine og_iload X0 hx rfl (hb hby at_92) rfl ?_
       refine og_ldc X0 hx hZ hown (ow195 hw) (hb hby at_94) rfl ?_
       refine og_icmp_ge (pc1 := 106) (pc2 := 99) X0 hx (hb hby at_96) (by decide) (by decide) rfl (fun hc96 => ?_) (fun hc96 => ?_)
       ·
        refine og_iload X0 hx rfl (hb hby at_106) rfl ?_
        refine og_ldc X0 hx hZ hown (ow196 hw) (hb hby at_108) rfl ?_
        refine og_icmp_ge (pc1 := 120) (pc2 := 113) X0 hx (hb hby at_110) (by decide) (by decide) rfl (fun hc110 => ?_) (fun hc110 => ?_)
        ·
         refine og_bipush (v := 10) X0 hx rfl (hb hby at_120) rfl ?_
         refine og_istore (L' := #[.val (.int p1), .val (.int p2), .val (.int yy), .val (.int 1), .val (.int (-yy)), .val (.int 10), .unset, .unset]) X0 hx rfl (hb hby at_122) rfl ?_
         refine og_iloadN X0 hx rfl (hb hby at_124) rfl ?_
         refine og_if_eq (pc1 := 132) (pc2 := 128) X0 hx (hb hby at_125) (by decide) (by decide) rfl (fun q => absurd q (by decide)) (fun _ => ?_)
         refine og_iconst (v := 1) X0 hx rfl (hb hby at_128) rfl ?_
         refine og_goto (pc' := 133) X0 hx (hb hby at_129) (by decide) (by decide) ?_
         refine og_iload X0 hx rfl (hb hby at_133) rfl ?_
         refine og_iadd X0 hx (hb hby at_135) rfl ?_
         show OG p e below _ (T0.setTop (mkF m 136 #[.val (.int p1), .val (.int p2), .val (.int yy), .val (.int 1), .val (.int (-yy)), .val (.int 10), .unset, .unset] [(.int 11)]))
         refine og_istore (L' := #[.val (.int p1), .val (.int p2), .val (.int yy), .val (.int 1), .val (.int (-yy)), .val (.int 10), .val (.int 11), .unset]) X0 hx rfl (hb hby at_136) rfl ?_
         exact J138 T0 _ X0 e0 N (1 : Int32) (-yy) (10 : Int32) (11 : Int32) (own_mk1_10 hc10 hc16 hc42 hc55 hc68 hc82 hc96 hc110)
        ·
         refine og_bipush (v := 9) X0 hx rfl (hb hby at_113) rfl ?_
         refine og_istore (L' := #[.val (.int p1), .val (.int p2), .val (.int yy), .val (.int 1), .val (.int (-yy)), .val (.int 9), .unset, .unset]) X0 hx rfl (hb hby at_115) rfl ?_
         refine og_goto (pc' := 124) X0 hx (hb hby at_117) (by decide) (by decide) ?_
         refine og_iloadN X0 hx rfl (hb hby at_124) rfl ?_
         refine og_if_eq (pc1 := 132) (pc2 := 128) X0 hx (hb hby at_125) (by decide) (by decide) rfl (fun q => absurd q (by decide)) (fun _ => ?_)
         refine og_iconst (v := 1) X0 hx rfl (hb hby at_128) rfl ?_
         refine og_goto (pc' := 133) X0 hx (hb hby at_129) (by decide) (by decide) ?_
         refine og_iload X0 hx rfl (hb hby at_133) rfl ?_
         refine og_iadd X0 hx (hb hby at_135) rfl ?_
         show OG p e below _ (T0.setTop (mkF m 136 #[.val (.int p1), .val (.int p2), .val (.int yy), .val (.int 1), .val (.int (-yy)), .val (.int 9), .unset, .unset] [(.int 10)]))
         refine og_istore (L' := #[.val (.int p1), .val (.int p2), .val (.int yy), .val (.int 1), .val (.int (-yy)), .val (.int 9), .val (.int 10), .unset]) X0 hx rfl (hb hby at_136) rfl ?_
         exact J138 T0 _ X0 e0 N (1 : Int32) (-yy) (9 : Int32) (10 : Int32) (own_mk1_9 hc10 hc16 hc42 hc55 hc68 hc82 hc96 hc110)
       ·
        refine og_bipush (v := 8) X0 hx rfl (hb hby at_99) rfl ?_
        refine og_istore (L' := #[.val (.int p1), .val (.int p2), .val (.int yy), .val (.int 1), .val (.int (-yy)), .val (.int 8), .unset, .unset]) X0 hx rfl (hb hby at_101) rfl ?_
        refine og_goto (pc' := 124) X0 hx (hb hby at_103) (by decide) (by decide) ?_
        refine og_iloadN X0 hx rfl (hb hby at_124) rfl ?_
        refine og_if_eq (pc1 := 132) (pc2 := 128) X0 hx (hb hby at_125) (by decide) (by decide) rfl (fun q => absurd q (by decide)) (fun _ => ?_)
        refine og_iconst (v := 1) X0 hx rfl (hb hby at_128) rfl ?_
        refine og_goto (pc' := 133) X0 hx (hb hby at_129) (by decide) (by decide) ?_
        refine og_iload X0 hx rfl (hb hby at_133) rfl ?_
        refine og_iadd X0 hx (hb hby at_135) rfl ?_
        show OG p e below _ (T0.setTop (mkF m 136 #[.val (.int p1), .val (.int p2), .val (.int yy), .val (.int 1), .val (.int (-yy)), .val (.int 8), .unset, .unset] [(.int 9)]))
        refine og_istore (L' := #[.val (.int p1), .val (.int p2), .val (.int yy), .val (.int 1), .val (.int (-yy)), .val (.int 8), .val (.int 9), .unset]) X0 hx rfl (hb hby at_136) rfl ?_
        exact J138 T0 _ X0 e0 N (1 : Int32) (-yy) (8 : Int32) (9 : Int32) (own_mk1_8 hc10 hc16 hc42 hc55 hc68 hc82 hc96)
      ·
       refine og_bipush (v := 7) X0 hx rfl (hb hby at_85) rfl ?_
       refine og_istore (L' := #[.val (.int p1), .val (.int p2), .val (.int yy), .val (.int 1), .val (.int (-yy)), .val (.int 7), .unset, .unset]) X0 hx rfl (hb hby at_87) rfl ?_
       refine og_goto (pc' := 124) X0 hx (hb hby at_89) (by decide) (by decide) ?_
       refine og_iloadN X0 hx rfl (hb hby at_124) rfl ?_
       refine og_if_eq (pc1 := 132) (pc2 := 128) X0 hx (hb hby at_125) (by decide) (by decide) rfl (fun q => absurd q (by decide)) (fun _ => ?_)
       refine og_iconst (v := 1) X0 hx rfl (hb hby at_128) rfl ?_
       refine og_goto (pc' := 133) X0 hx (hb hby at_129) (by decide) (by decide) ?_
       refine og_iload X0 hx rfl (hb hby at_133) rfl ?_
       refine og_iadd X0 hx (hb hby at_135) rfl ?_
       show OG p e below _ (T0.setTop (mkF m 136 #[.val (.int p1), .val (.int p2), .val (.int yy), .val (.int 1), .val (.int (-yy)), .val (.int 7), .unset, .unset] [(.int 8)]))
       refine og_istore (L' := #[.val (.int p1), .val (.int p2), .val (.int yy), .val (.int 1), .val (.int (-yy)), .val (.int 7), .val (.int 8), .unset]) X0 hx rfl (hb hby at_136) rfl ?_
       exact J138 T0 _ X0 e0 N (1 : Int32) (-yy) (7 : Int32) (8 : Int32) (own_mk1_7 hc10 hc16 hc42 hc55 hc68 hc82)
     ·
      refine og_bipush (v := 6) X0 hx rfl (hb hby at_71) rfl ?_
      refine og_istore (L' := #[.val (.int p1), .val (.int p2), .val (.int yy), .val (.int 1), .val (.int (-yy)), .val (.int 6), .unset, .unset]) X0 hx rfl (hb hby at_73) rfl ?_
      refine og_goto (pc' := 124) X0 hx (hb hby at_75) (by decide) (by decide) ?_
      refine og_iloadN X0 hx rfl (hb hby at_124) rfl ?_
      refine og_if_eq (pc1 := 132) (pc2 := 128) X0 hx (hb hby at_125) (by decide) (by decide) rfl (fun q => absurd q (by decide)) (fun _ => ?_)
      refine og_iconst (v := 1) X0 hx rfl (hb hby at_128) rfl ?_
      refine og_goto (pc' := 133) X0 hx (hb hby at_129) (by decide) (by decide) ?_
      refine og_iload X0 hx rfl (hb hby at_133) rfl ?_
      refine og_iadd X0 hx (hb hby at_135) rfl ?_
      show OG p e below _ (T0.setTop (mkF m 136 #[.val (.int p1), .val (.int p2), .val (.int yy), .val (.int 1), .val (.int (-yy)), .val (.int 6), .unset, .unset] [(.int 7)]))
      refine og_istore (L' := #[.val (.int p1), .val (.int p2), .val (.int yy), .val (.int 1), .val (.int (-yy)), .val (.int 6), .val (.int 7), .unset]) X0 hx rfl (hb hby at_136) rfl ?_
      exact J138 T0 _ X0 e0 N (1 : Int32) (-yy) (6 : Int32) (7 : Int32) (own_mk1_6 hc10 hc16 hc42 hc55 hc68)
    ·
     refine og_iconst (v := 5) X0 hx rfl (hb hby at_58) rfl ?_
     refine og_istore (L' := #[.val (.int p1), .val (.int p2), .val (.int yy), .val (.int 1), .val (.int (-yy)), .val (.int 5), .unset, .unset]) X0 hx rfl (hb hby at_59) rfl ?_
     refine og_goto (pc' := 124) X0 hx (hb hby at_61) (by decide) (by decide) ?_
     refine og_iloadN X0 hx rfl (hb hby at_124) rfl ?_
     refine og_if_eq (pc1 := 132) (pc2 := 128) X0 hx (hb hby at_125) (by decide) (by decide) rfl (fun q => absurd q (by decide)) (fun _ => ?_)
     refine og_iconst (v := 1) X0 hx rfl (hb hby at_128) rfl ?_
     refine og_goto (pc' := 133) X0 hx (hb hby at_129) (by decide) (by decide) ?_
     refine og_iload X0 hx rfl (hb hby at_133) rfl ?_
     refine og_iadd X0 hx (hb hby at_135) rfl ?_
     show OG p e below _ (T0.setTop (mkF m 136 #[.val (.int p1), .val (.int p2), .val (.int yy), .val (.int 1), .val (.int (-yy)), .val (.int 5), .unset, .unset] [(.int 6)]))
     refine og_istore (L' := #[.val (.int p1), .val (.int p2), .val (.int yy), .val (.int 1), .val (.int (-yy)), .val (.int 5), .val (.int 6), .unset]) X0 hx rfl (hb hby at_136) rfl ?_
     exact J138 T0 _ X0 e0 N (1 : Int32) (-yy) (5 : Int32) (6 : Int32) (own_mk1_5 hc10 hc16 hc42 hc55)
   ·
    refine og_iconst (v := 4) X0 hx rfl (hb hby at_45) rfl ?_
    refine og_istore (L' := #[.val (.int p1), .val (.int p2), .val (.int yy), .val (.int 1), .val (.int (-yy)), .val (.int 4), .unset, .unset]) X0 hx rfl (hb hby at_46) rfl ?_
    refine og_goto (pc' := 124) X0 hx (hb hby at_48) (by decide) (by decide) ?_
    refine og_iloadN X0 hx rfl (hb hby at_124) rfl ?_
    refine og_if_eq (pc1 := 132) (pc2 := 128) X0 hx (hb hby at_125) (by decide) (by decide) rfl (fun q => absurd q (by decide)) (fun _ => ?_)
    refine og_iconst (v := 1) X0 hx rfl (hb hby at_128) rfl ?_
    refine og_goto (pc' := 133) X0 hx (hb hby at_129) (by decide) (by decide) ?_
    refine og_iload X0 hx rfl (hb hby at_133) rfl ?_
    refine og_iadd X0 hx (hb hby at_135) rfl ?_
    show OG p e below _ (T0.setTop (mkF m 136 #[.val (.int p1), .val (.int p2), .val (.int yy), .val (.int 1), .val (.int (-yy)), .val (.int 4), .unset, .unset] [(.int 5)]))
    refine og_istore (L' := #[.val (.int p1), .val (.int p2), .val (.int yy), .val (.int 1), .val (.int (-yy)), .val (.int 4), .val (.int 5), .unset]) X0 hx rfl (hb hby at_136) rfl ?_
    exact J138 T0 _ X0 e0 N (1 : Int32) (-yy) (4 : Int32) (5 : Int32) (own_mk1_4 hc10 hc16 hc42)
 ·
  subst hc10
  refine og_iconst (v := 1) X0 hx rfl (hb hby at_13) rfl ?_
  refine og_retN X0 hx hlk hret (by simp) (hb hby at_14) (by decide) (by decide) ?_
  exact ⟨rfl, N⟩
theorem comes_1 {Post : Tables → Env → Array Value → State → Outcome → State → Prop} (hpost : ∀ tb e args s v u, (limb_1_1.after args s (.returned v) u = true ∧ limb_1_2.after args s (.returned v) u = true ∧ True) → FrameEnd s (.returned v) u (Jvm.fieldLocs frame_1_writes args s ++ Jvm.arrayLocs frame_1_arrays args s ++ Jvm.staticLocs frame_1_statics s) 24 192 → Post tb e args s (.returned v) u) :
    ArmFor flags0 classFile x code maxLocals ret World_1 tables_1 room_1 Calls_1 rest_1 Pre_1 Post := by
  intro l hfl _ _ p e ha hc hk s m args below hf hA hF happ hP
  obtain ⟨hcalls, hrest, hpre⟩ := hP
  obtain ⟨-, -, -, hnamed, -, -, -, hat⟩ := (Spec.applies_iff hf).mp happ
  obtain ⟨hg, hn⟩ := and_e (Cond.before_iff.mp (show (Jvm.Cond.and given_1 narrow_1).before args s = true from hpre))
  obtain ⟨g2, g3⟩ := and_e hg
  obtain ⟨g4, g5⟩ := and_e g3
  obtain ⟨w0, w1, rfl⟩ : ∃ w0 w1 : Value, args = #[w0, w1] := by
    have hs : args.size = 2 := by simpa [Cond.value, given_1] using g2
    obtain ⟨L⟩ := args
    match L, hs with
    | [w0, w1], _ => exact ⟨w0, w1, rfl⟩
  have hw := fun d (hd : d ∈ tables_1) => atoms_spec (ws := Jvm.Cond.code x code maxLocals ret :: tables_1) hat d (List.mem_cons_of_mem _ hd)
  have hfit : Fit s := fun {y c} hc i hi => by
    obtain ⟨ha, rfl⟩ := Array.getElem?_eq_some_iff.mp hc
    have q := List.all_eq_true.mp ((Array.all_eq_true_iff_forall_mem.mp hF) _ (Array.getElem_mem ha)) i (List.mem_range.mpr hi)
    simpa [Array.getElem?_eq_getElem hi] using q
  obtain ⟨hsets, hown0⟩ := atoms_of _ (rest_1_c_eq ▸ (show rest_1_c.before _ s = true from hrest))
  obtain ⟨i0, ei0⟩ := is_v g4
  obtain rfl : w0 = (.int i0) := Option.some.inj ei0
  obtain ⟨i1, ei1⟩ := is_v g5
  obtain rfl : w1 = (.int i1) := Option.some.inj ei1
  obtain ⟨cs, ecs⟩ := is_v (Cond.before_iff.mp (hsets _ (List.mem_of_getElem? (i := 1) rfl)))
  have S_CS := Sta.start ecs (Or.inl (hsets _ (List.mem_of_getElem? (i := 0) rfl)))
  have hcs : ¬ cs = 0 := own_ne0 ecs (Cond.before_iff.mp (hsets _ (List.mem_of_getElem? (i := 2) rfl)))
  obtain ⟨fm, efm, hfm⟩ := isR_v (Cond.before_iff.mp (hsets _ (List.mem_of_getElem? (i := 8) rfl)))
  have S_FM := Sta.start efm (Or.inl (hsets _ (List.mem_of_getElem? (i := 7) rfl)))
  obtain ⟨dO, edO⟩ := exa_v (Cond.before_iff.mp (hsets _ (List.mem_of_getElem? (i := 12) rfl)))
  have E_dO := Exa.start edO (Cond.before_iff.mp (hsets _ (List.mem_of_getElem? (i := 12) rfl)))
  have S_dO := Sta.start edO (Or.inl (hsets _ (List.mem_of_getElem? (i := 11) rfl)))
  obtain ⟨kdO, ldO, V_dO, hO⟩ := own_table (t := Jvm.Term.static "java/lang/Integer" "DigitOnes" "[B") (rhs := Jvm.Term.add (Jvm.Term.int 48) (Jvm.Term.rem (Jvm.Term.index (0 : Nat)) (Jvm.Term.int 10))) (f := fun r => 48 + r % 10) hfit (ow22 hw) (fun _ => edO) E_dO (own_eqint (Cond.before_iff.mp (hsets _ (List.mem_of_getElem? (i := 13) rfl)))) (Cond.before_iff.mp (hsets _ (List.mem_of_getElem? (i := 14) rfl))) (fun j hj => own_rhsO (idx_at hj))
  obtain ⟨dT, edT⟩ := exa_v (Cond.before_iff.mp (hsets _ (List.mem_of_getElem? (i := 17) rfl)))
  have E_dT := Exa.start edT (Cond.before_iff.mp (hsets _ (List.mem_of_getElem? (i := 17) rfl)))
  have S_dT := Sta.start edT (Or.inl (hsets _ (List.mem_of_getElem? (i := 16) rfl)))
  obtain ⟨kdT, ldT, V_dT, hT⟩ := own_table (t := Jvm.Term.static "java/lang/Integer" "DigitTens" "[B") (rhs := Jvm.Term.add (Jvm.Term.int 48) (Jvm.Term.div (Jvm.Term.index (0 : Nat)) (Jvm.Term.int 10))) (f := fun r => 48 + r / 10) hfit (ow22 hw) (fun _ => edT) E_dT (own_eqint (Cond.before_iff.mp (hsets _ (List.mem_of_getElem? (i := 18) rfl)))) (Cond.before_iff.mp (hsets _ (List.mem_of_getElem? (i := 19) rfl))) (fun j hj => own_rhsT (idx_at hj))
  obtain ⟨n, o, h1, h2, h3, _, L, rfl, ⟨rfl, N⟩, hq⟩ := rm0 l s _ hw tables_1 i0 i1 dO dT kdO kdT ldO ldT hO hT cs hcs fm hfm s.heap s.heap.size (Old.start s) S_dO V_dO S_dT V_dT S_CS S_FM p e ha hc hk s m _ below hf ((Spec.applies_iff_loose hf).mp happ).1 ⟨rfl, State.Warmed39.refl s, rfl⟩ trivial
  refine ⟨n, _, h1, h2, h3, hpost _ _ _ _ _ _ ⟨Cond.after_iff.mpr rfl, Cond.after_iff.mpr (eq_i res_at (Term.int_eval (1)) rfl), trivial⟩ ⟨hq.1, hq.2.1, (hq.2.2.sift fun y hy => Or.inr (N y hy)).mono (by decide) (by decide)⟩⟩
theorem main_1_1 : Claimed_1_1 := comes_1 fun _ _ _ _ _ _ h hF => ⟨h.1, hF⟩
theorem main_1_2 : Claimed_1_2 := comes_1 fun _ _ _ _ _ _ h hF => ⟨h.2.1, hF⟩
end Jvm.Pilot.@@N@@
namespace Jvm.Pilot.@@N@@
open Jvm Jvm.ClassFile Sem Op Lib Jvm.Free Jvm.Stand Jvm.Pilot.@@N@@.Jvm.D
/-! MADE BY PROGRAM (witnessworld.py) out of the Statement's table words and the real class files: 25 classes; the members and pool entries that the words name. The judged class is class 1, her method 1. -/
namespace start1
open Jvm.ClassFile
def u (s : String) : CpInfo := .utf8 (stringToUtf16 s)
/-- a pool by its gaps: so many unusable entries, then the entry; so many at the end -/
def gap : Nat → List CpInfo → List CpInfo
  | 0, r => r
  | n + 1, r => .unusable :: gap n r
def poolList (es : List (Nat × CpInfo)) (last : Nat) : List CpInfo := es.foldr (fun e r => gap e.1 (e.2 :: r)) (gap last [])
def pool (es : List (Nat × CpInfo)) (last : Nat) : Array CpInfo := ⟨poolList es last⟩
def fileOf (pool : Array CpInfo) (this : Nat) (attrs : Array Attribute := #[]) (ms : Array MethodInfo := #[]) (fl : Nat := 33) (sup : Nat := 0) (ifs : Array Nat := #[]) (fds : Array FieldInfo := #[]) : ClassFile where
  minorVersion := 0
  majorVersion := 65
  constantPool := pool
  accessFlags := fl
  thisClass := this
  superClass := sup
  interfaces := ifs
  fields := fds
  methods := ms
  attributes := attrs
def plain (name : String) (sup : Option ClassId) : Class where
  name := name
  kind := .ordinary
  loader := none
  accessFlags := 33
  super := sup
  interfaces := #[]
  cf := none
  fields := #[]
  methods := #[]
  instanceTypes := #[]
  staticTypes := #[]
  resolved := #[]
  callSites := []
  init := .initialized
  statics := none
  mirror := none

def pool0 : Array CpInfo := pool [(5, u "<init>"), (0, u "()V"), (1, .class_ 10), (1, u "java/lang/Object"), (85, u "clone"), (0, u "()Ljava/lang/Object;")] 26

def k0c0 : Code := { maxStack := 0, maxLocals := 1, code := object_method_1_code, exceptionTable := #[], attributes := #[] }
def k0m0 : Method := { name := "<init>", desc := "()V", sig := { parameters := [], returnType := none }, accessFlags := 1, code := some k0c0 }
def k0m1 : Method := { name := "clone", desc := "()Ljava/lang/Object;", sig := { parameters := [], returnType := some (.object "java/lang/Object") }, accessFlags := 260, code := none }
/-- java/lang/Object -/
def k0 : Class := { plain "java/lang/Object" none with
  accessFlags := 33
  interfaces := #[]
  cf := some (fileOf pool0 8 #[] #[{ accessFlags := 1, nameIndex := 5, descriptorIndex := 6, attributes := #[] }, { accessFlags := 260, nameIndex := 96, descriptorIndex := 97, attributes := #[] }] 33 0 #[] #[])
  fields := #[]
  methods := #[k0m0, k0m1]
  instanceTypes := #[]
  staticTypes := #[]
  resolved := Array.replicate 124 none
  statics := none }

def pool1 : Array CpInfo := pool [(2, .class_ 4), (1, u "java/lang/Object"), (0, u "<init>"), (0, u "()V"), (2, .integer 2147483648), (0, .integer 100000), (0, .integer 1000000), (0, .integer 10000000), (0, .integer 100000000), (0, .integer 1000000000), (0, .methodref 16 17), (0, .class_ 18), (0, .nameAndType 19 20), (0, u "com/example/neith/neith/io/DateTimeText"), (0, u "year"), (0, u "(I)Ljava/lang/String;"), (0, .methodref 22 23), (0, .class_ 24), (0, .nameAndType 25 26), (0, u "java/lang/String"), (0, u "length"), (0, u "()I"), (0, .methodref 22 28), (0, .nameAndType 29 30), (0, u "charAt"), (0, u "(I)C"), (0, .methodref 32 33), (0, .class_ 34), (0, .nameAndType 35 36), (0, u "com/example/neith/neith/io/DateTimeTextYearPinLaw"), (0, u "digitAt"), (0, u "(Ljava/lang/String;IIIII)Z"), (2, u "law"), (0, u "(II)Z")] 3

def k1m0 : Method := { name := "<init>", desc := "()V", sig := { parameters := [], returnType := none }, accessFlags := 2, code := none }
def k1c1 : Code := { maxStack := 6, maxLocals := 8, code := code, exceptionTable := #[], attributes := #[] }
def k1m1 : Method := { name := "law", desc := "(II)Z", sig := { parameters := [.int, .int], returnType := some .boolean }, accessFlags := 9, code := some k1c1 }
def k1c2 : Code := { maxStack := 4, maxLocals := 7, code := method_3_code, exceptionTable := #[], attributes := #[] }
def k1m2 : Method := { name := "digitAt", desc := "(Ljava/lang/String;IIIII)Z", sig := { parameters := [(.object "java/lang/String"), .int, .int, .int, .int, .int], returnType := some .boolean }, accessFlags := 10, code := some k1c2 }
/-- com/example/neith/neith/io/DateTimeTextYearPinLaw -/
def k1 : Class := { plain "com/example/neith/neith/io/DateTimeTextYearPinLaw" (some 0) with
  accessFlags := 49
  interfaces := #[]
  cf := some (fileOf pool1 32 #[] #[{ accessFlags := 2, nameIndex := 5, descriptorIndex := 6, attributes := #[] }, { accessFlags := 9, nameIndex := 39, descriptorIndex := 40, attributes := #[] }, { accessFlags := 10, nameIndex := 35, descriptorIndex := 36, attributes := #[] }] 49 2 #[] #[])
  fields := #[]
  methods := #[k1m0, k1m1, k1m2]
  instanceTypes := #[]
  staticTypes := #[]
  resolved := Array.replicate 44 none
  statics := none }

def pool2 : Array CpInfo := pool [(2, .class_ 4), (1, u "java/lang/Object"), (0, u "<init>"), (0, u "()V"), (0, .class_ 8), (0, u "java/lang/StringBuilder"), (0, .methodref 7 10), (0, .nameAndType 5 11), (0, u "(I)V"), (1, .class_ 15), (1, u "com/example/neith/neith/io/DateTimeText"), (2, .methodref 7 19), (0, .nameAndType 20 21), (0, u "toString"), (0, u "()Ljava/lang/String;"), (0, .methodref 13 23), (0, .nameAndType 24 25), (0, u "appendYear"), (0, u "(Ljava/lang/StringBuilder;I)V"), (46, u "()I"), (13, .methodref 7 87), (0, .nameAndType 88 89), (0, u "append"), (0, u "(C)Ljava/lang/StringBuilder;"), (7, .methodref 13 98), (0, .nameAndType 99 100), (0, u "appendNumber"), (0, u "(Ljava/lang/StringBuilder;II)V"), (3, .methodref 105 106), (0, .class_ 107), (0, .nameAndType 108 109), (0, u "java/lang/Math"), (0, u "abs"), (0, u "(I)I"), (18, .methodref 129 130), (0, .class_ 131), (0, .nameAndType 20 132), (0, u "java/lang/Integer"), (0, u "(I)Ljava/lang/String;"), (0, .methodref 134 135), (0, .class_ 136), (0, .nameAndType 137 72), (0, u "java/lang/String"), (0, u "length"), (0, .methodref 7 139), (0, .nameAndType 88 140), (0, u "(Ljava/lang/String;)Ljava/lang/StringBuilder;"), (0, u "MAX_OFFSET_SECONDS"), (0, u "I"), (1, u "CYCLE_YEARS"), (5, u "year")] 9

def k2m0 : Method := { name := "<init>", desc := "()V", sig := { parameters := [], returnType := none }, accessFlags := 2, code := none }
def k2c1 : Code := { maxStack := 3, maxLocals := 2, code := prog_2_method_3_code, exceptionTable := #[], attributes := #[] }
def k2m1 : Method := { name := "year", desc := "(I)Ljava/lang/String;", sig := { parameters := [.int], returnType := some (.object "java/lang/String") }, accessFlags := 8, code := some k2c1 }
def k2c2 : Code := { maxStack := 3, maxLocals := 2, code := prog_2_method_10_code, exceptionTable := #[], attributes := #[] }
def k2m2 : Method := { name := "appendYear", desc := "(Ljava/lang/StringBuilder;I)V", sig := { parameters := [(.object "java/lang/StringBuilder"), .int], returnType := none }, accessFlags := 10, code := some k2c2 }
def k2c3 : Code := { maxStack := 2, maxLocals := 5, code := prog_2_method_14_code, exceptionTable := #[], attributes := #[] }
def k2m3 : Method := { name := "appendNumber", desc := "(Ljava/lang/StringBuilder;II)V", sig := { parameters := [(.object "java/lang/StringBuilder"), .int, .int], returnType := none }, accessFlags := 10, code := some k2c3 }
/-- com/example/neith/neith/io/DateTimeText -/
def k2 : Class := { plain "com/example/neith/neith/io/DateTimeText" (some 0) with
  accessFlags := 32
  interfaces := #[]
  cf := some (fileOf pool2 13 #[] #[{ accessFlags := 2, nameIndex := 5, descriptorIndex := 6, attributes := #[] }, { accessFlags := 8, nameIndex := 150, descriptorIndex := 132, attributes := #[] }, { accessFlags := 10, nameIndex := 24, descriptorIndex := 25, attributes := #[] }, { accessFlags := 10, nameIndex := 99, descriptorIndex := 100, attributes := #[] }] 32 2 #[] #[{ accessFlags := 26, nameIndex := 141, descriptorIndex := 142, attributes := #[] }, { accessFlags := 26, nameIndex := 144, descriptorIndex := 142, attributes := #[] }])
  fields := #[{ name := "MAX_OFFSET_SECONDS", type := .int, accessFlags := 26, slot := 0, constantValue := 0 }, { name := "CYCLE_YEARS", type := .int, accessFlags := 26, slot := 1, constantValue := 0 }]
  methods := #[k2m0, k2m1, k2m2, k2m3]
  instanceTypes := #[]
  staticTypes := #[.int, .int]
  resolved := Array.replicate 160 none
  statics := none }

def pool3 : Array CpInfo := pool [(1, .class_ 2), (0, u "java/lang/Appendable"), (0, .class_ 4), (0, u "java/lang/Object")] 9

/-- java/lang/Appendable -/
def k3 : Class := { plain "java/lang/Appendable" (some 0) with
  accessFlags := 1537
  interfaces := #[]
  cf := some (fileOf pool3 1 #[] #[] 1537 3 #[] #[])
  fields := #[]
  methods := #[]
  instanceTypes := #[]
  staticTypes := #[]
  resolved := Array.replicate 14 none
  statics := none }

def pool4 : Array CpInfo := pool [(2, .class_ 4), (1, u "java/lang/CharSequence"), (42, .class_ 48), (0, u "java/lang/CharSequence$1CodePointIterator"), (10, .class_ 60), (0, u "java/lang/CharSequence$1CharIterator"), (5, .class_ 67), (0, u "java/lang/Object")] 63

/-- java/lang/CharSequence -/
def k4 : Class := { plain "java/lang/CharSequence" (some 0) with
  accessFlags := 1537
  interfaces := #[]
  cf := some (fileOf pool4 2 #[.nestMembers #[47, 59]] #[] 1537 66 #[] #[])
  fields := #[]
  methods := #[]
  instanceTypes := #[]
  staticTypes := #[]
  resolved := Array.replicate 131 none
  statics := none }

def pool5 : Array CpInfo := pool [(1, .class_ 2), (0, u "java/lang/String"), (0, .methodref 4 5), (0, .class_ 6), (0, .nameAndType 7 8), (0, u "java/lang/Object"), (0, u "<init>"), (0, u "()V"), (1, .class_ 12), (1, u "java/lang/AbstractStringBuilder"), (0, u "EMPTYVALUE"), (0, u "[B"), (0, .fieldref 10 16), (0, .nameAndType 17 14), (0, u "value"), (0, .fieldref 1 19), (0, .nameAndType 20 21), (0, u "COMPACT_STRINGS"), (0, u "Z"), (0, .fieldref 10 23), (0, .nameAndType 24 25), (0, u "coder"), (0, u "B"), (6, .methodref 1 33), (0, .nameAndType 34 35), (0, u "length"), (0, u "()I"), (3, .integer 2147483647), (0, .methodref 1 41), (0, .nameAndType 24 42), (0, u "()B"), (2, u "append"), (0, u "(Ljava/lang/String;)Ljava/lang/AbstractStringBuilder;"), (1, .class_ 49), (0, u "java/lang/CharSequence"), (19, u "(Ljava/lang/String;)V"), (5, u "maybeLatin1"), (3, .fieldref 10 80), (0, .nameAndType 81 82), (0, u "count"), (0, u "I"), (0, .methodref 10 84), (0, .nameAndType 85 86), (0, u "isLatin1"), (0, u "()Z"), (1, .class_ 90), (1, u "java/lang/StringLatin1"), (9, .methodref 10 101), (0, .nameAndType 102 103), (0, u "ensureCapacityInternal"), (0, u "(I)V"), (0, .methodref 10 105), (0, .nameAndType 106 107), (0, u "newCapacity"), (0, u "(I)I"), (0, .methodref 109 110), (0, .class_ 111), (0, .nameAndType 112 113), (0, u "java/util/Arrays"), (0, u "copyOf"), (0, u "([BI)[B"), (0, .methodref 115 116), (0, .class_ 117), (0, .nameAndType 118 119), (0, u "jdk/internal/util/ArraysSupport"), (0, u "newLength"), (0, u "(III)I"), (71, .methodref 88 192), (0, .nameAndType 193 194), (0, u "canEncode"), (0, u "(C)Z"), (13, .methodref 10 209), (0, .nameAndType 210 211), (0, u "putStringAt"), (0, u "(ILjava/lang/String;)V"), (5, u "inflateIfNeededFor"), (2, .nameAndType 221 222), (0, u "getBytes"), (0, u "([BIB)V"), (69, u "(C)Ljava/lang/AbstractStringBuilder;"), (104, .methodref 10 398), (0, .nameAndType 217 69), (0, .methodref 1 220), (3, u "()[B"), (40, .class_ 445), (0, u "java/lang/Appendable"), (106, u "getValue")] 56

def k5m0 : Method := { name := "<init>", desc := "()V", sig := { parameters := [], returnType := none }, accessFlags := 0, code := none }
def k5c1 : Code := { maxStack := 2, maxLocals := 2, code := jdk_68_method_2_code, exceptionTable := #[], attributes := #[] }
def k5m1 : Method := { name := "<init>", desc := "(I)V", sig := { parameters := [.int], returnType := none }, accessFlags := 0, code := some k5c1 }
def k5c2 : Code := { maxStack := 1, maxLocals := 1, code := jdk_68_method_6_code, exceptionTable := #[], attributes := #[] }
def k5m2 : Method := { name := "length", desc := "()I", sig := { parameters := [], returnType := some .int }, accessFlags := 1, code := some k5c2 }
def k5c3 : Code := { maxStack := 4, maxLocals := 3, code := jdk_68_method_9_code, exceptionTable := #[], attributes := #[] }
def k5m3 : Method := { name := "ensureCapacityInternal", desc := "(I)V", sig := { parameters := [.int], returnType := none }, accessFlags := 2, code := some k5c3 }
def k5c4 : Code := { maxStack := 5, maxLocals := 6, code := jdk_68_method_10_code, exceptionTable := #[], attributes := #[] }
def k5m4 : Method := { name := "newCapacity", desc := "(I)I", sig := { parameters := [.int], returnType := some .int }, accessFlags := 2, code := some k5c4 }
def k5c5 : Code := { maxStack := 3, maxLocals := 3, code := jdk_68_method_22_code, exceptionTable := #[], attributes := #[] }
def k5m5 : Method := { name := "append", desc := "(Ljava/lang/String;)Ljava/lang/AbstractStringBuilder;", sig := { parameters := [(.object "java/lang/String")], returnType := some (.object "java/lang/AbstractStringBuilder") }, accessFlags := 1, code := some k5c5 }
def k5c6 : Code := { maxStack := 5, maxLocals := 2, code := jdk_68_method_31_code, exceptionTable := #[], attributes := #[] }
def k5m6 : Method := { name := "append", desc := "(C)Ljava/lang/AbstractStringBuilder;", sig := { parameters := [.char], returnType := some (.object "java/lang/AbstractStringBuilder") }, accessFlags := 1, code := some k5c6 }
def k5c7 : Code := { maxStack := 1, maxLocals := 1, code := jdk_68_method_64_code, exceptionTable := #[], attributes := #[] }
def k5m7 : Method := { name := "getValue", desc := "()[B", sig := { parameters := [], returnType := some (.array .byte) }, accessFlags := 16, code := some k5c7 }
def k5c8 : Code := { maxStack := 1, maxLocals := 1, code := jdk_68_method_68_code, exceptionTable := #[], attributes := #[] }
def k5m8 : Method := { name := "isLatin1", desc := "()Z", sig := { parameters := [], returnType := some .boolean }, accessFlags := 16, code := some k5c8 }
def k5c9 : Code := { maxStack := 2, maxLocals := 2, code := jdk_68_method_71_code, exceptionTable := #[], attributes := #[] }
def k5m9 : Method := { name := "inflateIfNeededFor", desc := "(Ljava/lang/String;)V", sig := { parameters := [(.object "java/lang/String")], returnType := none }, accessFlags := 2, code := some k5c9 }
def k5c10 : Code := { maxStack := 4, maxLocals := 3, code := jdk_68_method_73_code, exceptionTable := #[], attributes := #[] }
def k5m10 : Method := { name := "putStringAt", desc := "(ILjava/lang/String;)V", sig := { parameters := [.int, (.object "java/lang/String")], returnType := none }, accessFlags := 2, code := some k5c10 }
/-- java/lang/AbstractStringBuilder -/
def k5 : Class := { plain "java/lang/AbstractStringBuilder" (some 0) with
  accessFlags := 1056
  interfaces := #[3, 4]
  cf := some (fileOf pool5 10 #[] #[{ accessFlags := 0, nameIndex := 7, descriptorIndex := 8, attributes := #[] }, { accessFlags := 0, nameIndex := 7, descriptorIndex := 103, attributes := #[] }, { accessFlags := 1, nameIndex := 34, descriptorIndex := 35, attributes := #[] }, { accessFlags := 2, nameIndex := 102, descriptorIndex := 103, attributes := #[] }, { accessFlags := 2, nameIndex := 106, descriptorIndex := 107, attributes := #[] }, { accessFlags := 1, nameIndex := 45, descriptorIndex := 46, attributes := #[] }, { accessFlags := 1, nameIndex := 45, descriptorIndex := 292, attributes := #[] }, { accessFlags := 16, nameIndex := 552, descriptorIndex := 403, attributes := #[] }, { accessFlags := 16, nameIndex := 85, descriptorIndex := 86, attributes := #[] }, { accessFlags := 2, nameIndex := 217, descriptorIndex := 69, attributes := #[] }, { accessFlags := 2, nameIndex := 210, descriptorIndex := 211, attributes := #[] }] 1056 4 #[444, 48] #[{ accessFlags := 0, nameIndex := 17, descriptorIndex := 14, attributes := #[] }, { accessFlags := 0, nameIndex := 24, descriptorIndex := 25, attributes := #[] }, { accessFlags := 0, nameIndex := 75, descriptorIndex := 21, attributes := #[] }, { accessFlags := 0, nameIndex := 81, descriptorIndex := 82, attributes := #[] }, { accessFlags := 26, nameIndex := 13, descriptorIndex := 14, attributes := #[] }])
  fields := #[{ name := "value", type := (.array .byte), accessFlags := 0, slot := 0, constantValue := 0 }, { name := "coder", type := .byte, accessFlags := 0, slot := 1, constantValue := 0 }, { name := "maybeLatin1", type := .boolean, accessFlags := 0, slot := 2, constantValue := 0 }, { name := "count", type := .int, accessFlags := 0, slot := 3, constantValue := 0 }, { name := "EMPTYVALUE", type := (.array .byte), accessFlags := 26, slot := 0, constantValue := 0 }]
  methods := #[k5m0, k5m1, k5m2, k5m3, k5m4, k5m5, k5m6, k5m7, k5m8, k5m9, k5m10]
  instanceTypes := #[(.array .byte), .byte, .boolean, .int]
  staticTypes := #[(.array .byte)]
  resolved := Array.replicate 609 none
  statics := none }

def pool6 : Array CpInfo := pool [(1, .class_ 2), (0, u "java/io/Serializable"), (0, .class_ 4), (0, u "java/lang/Object")] 2

/-- java/io/Serializable -/
def k6 : Class := { plain "java/io/Serializable" (some 0) with
  accessFlags := 1537
  interfaces := #[]
  cf := some (fileOf pool6 1 #[] #[] 1537 3 #[] #[])
  fields := #[]
  methods := #[]
  instanceTypes := #[]
  staticTypes := #[]
  resolved := Array.replicate 7 none
  statics := none }

def pool7 : Array CpInfo := pool [(1, .class_ 2), (0, u "java/lang/Comparable"), (0, .class_ 4), (0, u "java/lang/Object")] 7

/-- java/lang/Comparable -/
def k7 : Class := { plain "java/lang/Comparable" (some 0) with
  accessFlags := 1537
  interfaces := #[]
  cf := some (fileOf pool7 1 #[] #[] 1537 3 #[] #[])
  fields := #[]
  methods := #[]
  instanceTypes := #[]
  staticTypes := #[]
  resolved := Array.replicate 12 none
  statics := none }

def pool8 : Array CpInfo := pool [(1, .methodref 2 3), (0, .class_ 4), (0, .nameAndType 5 6), (0, u "java/lang/AbstractStringBuilder"), (0, u "<init>"), (0, u "(I)V"), (11, .class_ 20), (1, u "java/lang/String"), (3, .class_ 26), (1, u "java/lang/StringBuilder"), (0, u "append"), (0, u "(Ljava/lang/String;)Ljava/lang/StringBuilder;"), (0, .methodref 2 30), (0, .nameAndType 27 31), (0, u "(Ljava/lang/String;)Ljava/lang/AbstractStringBuilder;"), (18, .methodref 2 51), (0, .nameAndType 27 52), (0, u "(C)Ljava/lang/AbstractStringBuilder;"), (84, .methodref 18 138), (0, .nameAndType 5 139), (0, u "(Ljava/lang/StringBuilder;)V"), (5, u "()V"), (10, u "()I"), (129, u "(C)Ljava/lang/StringBuilder;"), (56, .methodref 2 344), (0, .nameAndType 345 156), (0, u "length"), (3, .class_ 350), (0, u "java/lang/Appendable"), (0, .class_ 352), (0, u "java/io/Serializable"), (0, .class_ 354), (0, u "java/lang/Comparable"), (0, .class_ 356), (0, u "java/lang/CharSequence"), (0, u "serialVersionUID"), (0, u "J"), (40, u "toString"), (0, u "()Ljava/lang/String;")] 21

def k8m0 : Method := { name := "<init>", desc := "()V", sig := { parameters := [], returnType := none }, accessFlags := 1, code := none }
def k8c1 : Code := { maxStack := 2, maxLocals := 2, code := jdk_67_method_2_code, exceptionTable := #[], attributes := #[] }
def k8m1 : Method := { name := "<init>", desc := "(I)V", sig := { parameters := [.int], returnType := none }, accessFlags := 1, code := some k8c1 }
def k8c2 : Code := { maxStack := 2, maxLocals := 2, code := jdk_67_method_7_code, exceptionTable := #[], attributes := #[] }
def k8m2 : Method := { name := "append", desc := "(Ljava/lang/String;)Ljava/lang/StringBuilder;", sig := { parameters := [(.object "java/lang/String")], returnType := some (.object "java/lang/StringBuilder") }, accessFlags := 1, code := some k8c2 }
def k8c3 : Code := { maxStack := 2, maxLocals := 2, code := jdk_67_method_14_code, exceptionTable := #[], attributes := #[] }
def k8m3 : Method := { name := "append", desc := "(C)Ljava/lang/StringBuilder;", sig := { parameters := [.char], returnType := some (.object "java/lang/StringBuilder") }, accessFlags := 1, code := some k8c3 }
def k8c4 : Code := { maxStack := 3, maxLocals := 1, code := jdk_67_method_42_code, exceptionTable := #[], attributes := #[] }
def k8m4 : Method := { name := "toString", desc := "()Ljava/lang/String;", sig := { parameters := [], returnType := some (.object "java/lang/String") }, accessFlags := 1, code := some k8c4 }
def k8c5 : Code := { maxStack := 1, maxLocals := 1, code := jdk_67_method_93_code, exceptionTable := #[], attributes := #[] }
def k8m5 : Method := { name := "length", desc := "()I", sig := { parameters := [], returnType := some .int }, accessFlags := 4161, code := some k8c5 }
/-- java/lang/StringBuilder -/
def k8 : Class := { plain "java/lang/StringBuilder" (some 5) with
  accessFlags := 49
  interfaces := #[3, 6, 7, 4]
  cf := some (fileOf pool8 24 #[] #[{ accessFlags := 1, nameIndex := 5, descriptorIndex := 145, attributes := #[] }, { accessFlags := 1, nameIndex := 5, descriptorIndex := 6, attributes := #[] }, { accessFlags := 1, nameIndex := 27, descriptorIndex := 28, attributes := #[] }, { accessFlags := 1, nameIndex := 27, descriptorIndex := 286, attributes := #[] }, { accessFlags := 1, nameIndex := 399, descriptorIndex := 400, attributes := #[] }, { accessFlags := 4161, nameIndex := 345, descriptorIndex := 156, attributes := #[] }] 49 2 #[349, 351, 353, 355] #[{ accessFlags := 24, nameIndex := 357, descriptorIndex := 358, attributes := #[] }])
  fields := #[{ name := "serialVersionUID", type := .long, accessFlags := 24, slot := 0, constantValue := 0 }]
  methods := #[k8m0, k8m1, k8m2, k8m3, k8m4, k8m5]
  instanceTypes := #[(.array .byte), .byte, .boolean, .int]
  staticTypes := #[.long]
  resolved := Array.replicate 422 none
  statics := none }

def pool9 : Array CpInfo := pool [(1, .class_ 2), (0, u "java/lang/constant/Constable"), (0, .class_ 4), (0, u "java/lang/Object")] 6

/-- java/lang/constant/Constable -/
def k9 : Class := { plain "java/lang/constant/Constable" (some 0) with
  accessFlags := 1537
  interfaces := #[]
  cf := some (fileOf pool9 1 #[] #[] 1537 3 #[] #[])
  fields := #[]
  methods := #[]
  instanceTypes := #[]
  staticTypes := #[]
  resolved := Array.replicate 11 none
  statics := none }

def pool10 : Array CpInfo := pool [(1, .class_ 2), (0, u "java/lang/constant/ConstantDesc"), (0, .class_ 4), (0, u "java/lang/Object")] 32

/-- java/lang/constant/ConstantDesc -/
def k10 : Class := { plain "java/lang/constant/ConstantDesc" (some 0) with
  accessFlags := 1537
  interfaces := #[]
  cf := some (fileOf pool10 1 #[] #[] 1537 3 #[] #[])
  fields := #[]
  methods := #[]
  instanceTypes := #[]
  staticTypes := #[]
  resolved := Array.replicate 37 none
  statics := none }

def pool11 : Array CpInfo := pool [(1, .methodref 2 3), (0, .class_ 4), (0, .nameAndType 5 6), (0, u "java/lang/Object"), (0, u "<init>"), (0, u "()V"), (2, .fieldref 10 11), (0, .class_ 12), (0, .nameAndType 13 14), (0, u "java/lang/String"), (0, u "value"), (0, u "[B"), (0, .fieldref 10 16), (0, .nameAndType 17 18), (0, u "coder"), (0, u "B"), (2, u "hash"), (0, u "I"), (2, u "hashIsZero"), (0, u "Z"), (11, .fieldref 10 39), (0, .nameAndType 40 26), (0, u "COMPACT_STRINGS"), (13, .methodref 55 56), (0, .class_ 57), (0, .nameAndType 58 59), (0, u "java/util/Arrays"), (0, u "copyOfRange"), (0, u "([BII)[B"), (47, .class_ 109), (1, u "java/lang/StringLatin1"), (32, u "()Z"), (50, .class_ 195), (1, u "java/lang/System"), (15, u "([BB)V"), (0, .methodref 193 213), (0, .nameAndType 214 215), (0, u "arraycopy"), (0, u "(Ljava/lang/Object;ILjava/lang/Object;II)V"), (118, u "()I"), (0, .methodref 10 336), (0, .nameAndType 17 337), (0, u "()B"), (2, u "()[B"), (22, u "([BI)C"), (27, u "(II)V"), (35, u "(I)C"), (61, .methodref 10 490), (0, .nameAndType 5 491), (0, u "(Ljava/lang/AbstractStringBuilder;Ljava/lang/Void;)V"), (0, .methodref 10 493), (0, .nameAndType 494 142), (0, u "isLatin1"), (0, .methodref 107 496), (0, .nameAndType 497 363), (0, u "charAt"), (3, u "checkIndex"), (4, .nameAndType 507 334), (0, u "length"), (24, u "getBytes"), (16, .methodref 550 506), (0, .class_ 551), (0, u "java/lang/AbstractStringBuilder"), (0, .methodref 550 553), (0, .nameAndType 554 340), (0, u "getValue"), (20, .class_ 576), (0, u "java/lang/CharSequence"), (22, u "CASE_INSENSITIVE_ORDER"), (0, u "Ljava/util/Comparator;"), (220, u "([BIB)V"), (225, .methodref 550 493), (5, .fieldref 1054 1055), (0, .class_ 1056), (0, .nameAndType 1057 1058), (0, u "jdk/internal/util/Preconditions"), (0, u "SIOOBE_FORMATTER"), (0, u "Ljava/util/function/BiFunction;"), (0, .methodref 1054 1060), (0, .nameAndType 501 1061), (0, u "(IILjava/util/function/BiFunction;)I"), (39, u "serialPersistentFields"), (0, u "[Ljava/io/ObjectStreamField;"), (0, .class_ 1104), (0, u "java/lang/String$CaseInsensitiveComparator"), (1, .class_ 1107), (0, u "java/io/Serializable"), (0, .class_ 1109), (0, u "java/lang/Comparable"), (0, .class_ 1111), (0, u "java/lang/constant/Constable"), (0, .class_ 1113), (0, u "java/lang/constant/ConstantDesc"), (2, u "serialVersionUID"), (0, u "J"), (3, u "REPL"), (0, u "C"), (2, u "LATIN1"), (1, u "UTF16"), (105, u "(Ljava/lang/StringBuilder;)V")] 217

def k11m0 : Method := { name := "<init>", desc := "()V", sig := { parameters := [], returnType := none }, accessFlags := 1, code := none }
def k11c1 : Code := { maxStack := 3, maxLocals := 2, code := jdk_42_method_53_code, exceptionTable := #[], attributes := #[] }
def k11m1 : Method := { name := "<init>", desc := "(Ljava/lang/StringBuilder;)V", sig := { parameters := [(.object "java/lang/StringBuilder")], returnType := none }, accessFlags := 1, code := some k11c1 }
def k11c2 : Code := { maxStack := 2, maxLocals := 1, code := jdk_42_method_54_code, exceptionTable := #[], attributes := #[] }
def k11m2 : Method := { name := "length", desc := "()I", sig := { parameters := [], returnType := some .int }, accessFlags := 1, code := some k11c2 }
def k11c3 : Code := { maxStack := 2, maxLocals := 2, code := jdk_42_method_56_code, exceptionTable := #[], attributes := #[] }
def k11m3 : Method := { name := "charAt", desc := "(I)C", sig := { parameters := [.int], returnType := some .char }, accessFlags := 1, code := some k11c3 }
def k11c4 : Code := { maxStack := 5, maxLocals := 4, code := jdk_42_method_147_code, exceptionTable := #[], attributes := #[] }
def k11m4 : Method := { name := "getBytes", desc := "([BIB)V", sig := { parameters := [(.array .byte), .int, .byte], returnType := none }, accessFlags := 0, code := some k11c4 }
def k11c5 : Code := { maxStack := 5, maxLocals := 5, code := jdk_42_method_150_code, exceptionTable := #[], attributes := #[] }
def k11m5 : Method := { name := "<init>", desc := "(Ljava/lang/AbstractStringBuilder;Ljava/lang/Void;)V", sig := { parameters := [(.object "java/lang/AbstractStringBuilder"), (.object "java/lang/Void")], returnType := none }, accessFlags := 0, code := some k11c5 }
def k11c6 : Code := { maxStack := 2, maxLocals := 3, code := jdk_42_method_151_code, exceptionTable := #[], attributes := #[] }
def k11m6 : Method := { name := "<init>", desc := "([BB)V", sig := { parameters := [(.array .byte), .byte], returnType := none }, accessFlags := 0, code := some k11c6 }
def k11c7 : Code := { maxStack := 1, maxLocals := 1, code := jdk_42_method_152_code, exceptionTable := #[], attributes := #[] }
def k11m7 : Method := { name := "coder", desc := "()B", sig := { parameters := [], returnType := some .byte }, accessFlags := 0, code := some k11c7 }
def k11c8 : Code := { maxStack := 1, maxLocals := 1, code := jdk_42_method_154_code, exceptionTable := #[], attributes := #[] }
def k11m8 : Method := { name := "isLatin1", desc := "()Z", sig := { parameters := [], returnType := some .boolean }, accessFlags := 0, code := some k11c8 }
def k11c9 : Code := { maxStack := 3, maxLocals := 2, code := jdk_42_method_155_code, exceptionTable := #[], attributes := #[] }
def k11m9 : Method := { name := "checkIndex", desc := "(II)V", sig := { parameters := [.int, .int], returnType := none }, accessFlags := 8, code := some k11c9 }
/-- java/lang/String -/
def k11 : Class := { plain "java/lang/String" (some 0) with
  accessFlags := 49
  interfaces := #[6, 7, 4, 9, 10]
  cf := some (fileOf pool11 10 #[.nestMembers #[1103]] #[{ accessFlags := 1, nameIndex := 5, descriptorIndex := 6, attributes := #[] }, { accessFlags := 1, nameIndex := 5, descriptorIndex := 1233, attributes := #[] }, { accessFlags := 1, nameIndex := 507, descriptorIndex := 334, attributes := #[] }, { accessFlags := 1, nameIndex := 497, descriptorIndex := 427, attributes := #[] }, { accessFlags := 0, nameIndex := 532, descriptorIndex := 821, attributes := #[] }, { accessFlags := 0, nameIndex := 5, descriptorIndex := 491, attributes := #[] }, { accessFlags := 0, nameIndex := 5, descriptorIndex := 211, attributes := #[] }, { accessFlags := 0, nameIndex := 17, descriptorIndex := 337, attributes := #[] }, { accessFlags := 0, nameIndex := 494, descriptorIndex := 142, attributes := #[] }, { accessFlags := 8, nameIndex := 501, descriptorIndex := 391, attributes := #[] }] 49 2 #[1106, 1108, 575, 1110, 1112] #[{ accessFlags := 18, nameIndex := 13, descriptorIndex := 14, attributes := #[] }, { accessFlags := 18, nameIndex := 17, descriptorIndex := 18, attributes := #[] }, { accessFlags := 2, nameIndex := 21, descriptorIndex := 22, attributes := #[] }, { accessFlags := 2, nameIndex := 25, descriptorIndex := 26, attributes := #[] }, { accessFlags := 26, nameIndex := 1116, descriptorIndex := 1117, attributes := #[] }, { accessFlags := 24, nameIndex := 40, descriptorIndex := 26, attributes := #[] }, { accessFlags := 26, nameIndex := 1101, descriptorIndex := 1102, attributes := #[] }, { accessFlags := 26, nameIndex := 1121, descriptorIndex := 1122, attributes := #[] }, { accessFlags := 25, nameIndex := 599, descriptorIndex := 600, attributes := #[] }, { accessFlags := 24, nameIndex := 1125, descriptorIndex := 18, attributes := #[] }, { accessFlags := 24, nameIndex := 1127, descriptorIndex := 18, attributes := #[] }])
  fields := #[{ name := "value", type := (.array .byte), accessFlags := 18, slot := 0, constantValue := 0 }, { name := "coder", type := .byte, accessFlags := 18, slot := 1, constantValue := 0 }, { name := "hash", type := .int, accessFlags := 2, slot := 2, constantValue := 0 }, { name := "hashIsZero", type := .boolean, accessFlags := 2, slot := 3, constantValue := 0 }, { name := "serialVersionUID", type := .long, accessFlags := 26, slot := 0, constantValue := 0 }, { name := "COMPACT_STRINGS", type := .boolean, accessFlags := 24, slot := 1, constantValue := 0 }, { name := "serialPersistentFields", type := (.array (.object "java/io/ObjectStreamField")), accessFlags := 26, slot := 2, constantValue := 0 }, { name := "REPL", type := .char, accessFlags := 26, slot := 3, constantValue := 0 }, { name := "CASE_INSENSITIVE_ORDER", type := (.object "java/util/Comparator"), accessFlags := 25, slot := 4, constantValue := 0 }, { name := "LATIN1", type := .byte, accessFlags := 24, slot := 5, constantValue := 0 }, { name := "UTF16", type := .byte, accessFlags := 24, slot := 6, constantValue := 0 }]
  methods := #[k11m0, k11m1, k11m2, k11m3, k11m4, k11m5, k11m6, k11m7, k11m8, k11m9]
  instanceTypes := #[(.array .byte), .byte, .int, .boolean]
  staticTypes := #[.long, .boolean, (.array (.object "java/io/ObjectStreamField")), .char, (.object "java/util/Comparator"), .byte, .byte]
  resolved := Array.replicate 1451 none
  statics := some 0 }

def pool12 : Array CpInfo := pool [(1, .class_ 2), (0, u "java/lang/Math"), (1, .class_ 6), (1, u "java/lang/Object"), (0, u "<init>"), (0, u "()V"), (89, .class_ 100), (1, u "java/lang/Math$RandomNumberGeneratorHolder"), (23, u "abs"), (34, u "(I)I"), (12, u "negativeZeroFloatBits"), (0, u "J"), (2, u "negativeZeroDoubleBits"), (21, u "max"), (2, u "min"), (43, u "$assertionsDisabled"), (0, u "Z"), (88, u "(II)I"), (2, u "twoToTheDoubleScaleDown"), (0, u "D"), (4, u "twoToTheDoubleScaleUp"), (9, u "E"), (3, u "PI"), (2, u "TAU"), (2, u "DEGREES_TO_RADIANS"), (0, u "RADIANS_TO_DEGREES")] 94

def k12m0 : Method := { name := "<init>", desc := "()V", sig := { parameters := [], returnType := none }, accessFlags := 2, code := none }
def k12c1 : Code := { maxStack := 1, maxLocals := 1, code := jdk_29_method_59_code, exceptionTable := #[], attributes := #[] }
def k12m1 : Method := { name := "abs", desc := "(I)I", sig := { parameters := [.int], returnType := some .int }, accessFlags := 9, code := some k12c1 }
def k12c2 : Code := { maxStack := 2, maxLocals := 2, code := jdk_29_method_65_code, exceptionTable := #[], attributes := #[] }
def k12m2 : Method := { name := "max", desc := "(II)I", sig := { parameters := [.int, .int], returnType := some .int }, accessFlags := 9, code := some k12c2 }
def k12c3 : Code := { maxStack := 2, maxLocals := 2, code := jdk_29_method_69_code, exceptionTable := #[], attributes := #[] }
def k12m3 : Method := { name := "min", desc := "(II)I", sig := { parameters := [.int, .int], returnType := some .int }, accessFlags := 9, code := some k12c3 }
/-- java/lang/Math -/
def k12 : Class := { plain "java/lang/Math" (some 0) with
  accessFlags := 49
  interfaces := #[]
  cf := some (fileOf pool12 1 #[.nestMembers #[98]] #[{ accessFlags := 2, nameIndex := 7, descriptorIndex := 8, attributes := #[] }, { accessFlags := 9, nameIndex := 124, descriptorIndex := 159, attributes := #[] }, { accessFlags := 9, nameIndex := 198, descriptorIndex := 335, attributes := #[] }, { accessFlags := 9, nameIndex := 201, descriptorIndex := 335, attributes := #[] }] 49 4 #[] #[{ accessFlags := 25, nameIndex := 354, descriptorIndex := 339, attributes := #[] }, { accessFlags := 25, nameIndex := 358, descriptorIndex := 339, attributes := #[] }, { accessFlags := 25, nameIndex := 361, descriptorIndex := 339, attributes := #[] }, { accessFlags := 26, nameIndex := 364, descriptorIndex := 339, attributes := #[] }, { accessFlags := 26, nameIndex := 365, descriptorIndex := 339, attributes := #[] }, { accessFlags := 26, nameIndex := 172, descriptorIndex := 173, attributes := #[] }, { accessFlags := 26, nameIndex := 176, descriptorIndex := 173, attributes := #[] }, { accessFlags := 8, nameIndex := 344, descriptorIndex := 339, attributes := #[] }, { accessFlags := 8, nameIndex := 338, descriptorIndex := 339, attributes := #[] }, { accessFlags := 4120, nameIndex := 245, descriptorIndex := 246, attributes := #[] }])
  fields := #[{ name := "E", type := .double, accessFlags := 25, slot := 0, constantValue := 0 }, { name := "PI", type := .double, accessFlags := 25, slot := 1, constantValue := 0 }, { name := "TAU", type := .double, accessFlags := 25, slot := 2, constantValue := 0 }, { name := "DEGREES_TO_RADIANS", type := .double, accessFlags := 26, slot := 3, constantValue := 0 }, { name := "RADIANS_TO_DEGREES", type := .double, accessFlags := 26, slot := 4, constantValue := 0 }, { name := "negativeZeroFloatBits", type := .long, accessFlags := 26, slot := 5, constantValue := 0 }, { name := "negativeZeroDoubleBits", type := .long, accessFlags := 26, slot := 6, constantValue := 0 }, { name := "twoToTheDoubleScaleUp", type := .double, accessFlags := 8, slot := 7, constantValue := 0 }, { name := "twoToTheDoubleScaleDown", type := .double, accessFlags := 8, slot := 8, constantValue := 0 }, { name := "$assertionsDisabled", type := .boolean, accessFlags := 4120, slot := 9, constantValue := 0 }]
  methods := #[k12m0, k12m1, k12m2, k12m3]
  instanceTypes := #[]
  staticTypes := #[.double, .double, .double, .double, .double, .long, .long, .double, .double, .boolean]
  resolved := Array.replicate 460 none
  statics := none }

def pool13 : Array CpInfo := pool [(2, .class_ 4), (1, u "java/lang/Object"), (0, u "<init>"), (0, u "()V"), (1, .class_ 10), (1, u "java/lang/Number"), (2, .class_ 14), (0, u "java/io/Serializable"), (0, u "serialVersionUID"), (0, u "J")] 20

def k13m0 : Method := { name := "<init>", desc := "()V", sig := { parameters := [], returnType := none }, accessFlags := 1, code := none }
/-- java/lang/Number -/
def k13 : Class := { plain "java/lang/Number" (some 0) with
  accessFlags := 1057
  interfaces := #[6]
  cf := some (fileOf pool13 8 #[] #[{ accessFlags := 1, nameIndex := 5, descriptorIndex := 6, attributes := #[] }] 1057 2 #[13] #[{ accessFlags := 26, nameIndex := 15, descriptorIndex := 16, attributes := #[] }])
  fields := #[{ name := "serialVersionUID", type := .long, accessFlags := 26, slot := 0, constantValue := 0 }]
  methods := #[k13m0]
  instanceTypes := #[]
  staticTypes := #[.long]
  resolved := Array.replicate 37 none
  statics := none }

def pool14 : Array CpInfo := pool [(1, .class_ 2), (0, u "java/lang/Integer"), (2, .class_ 6), (0, u "java/lang/String"), (4, u "toString"), (0, u "(I)Ljava/lang/String;"), (0, .fieldref 5 14), (0, .nameAndType 15 16), (0, u "COMPACT_STRINGS"), (0, u "Z"), (2, u "digits"), (0, u "[C"), (33, u "(I)I"), (10, .methodref 5 66), (0, .nameAndType 67 68), (0, u "<init>"), (0, u "([BB)V"), (3, .methodref 1 73), (0, .nameAndType 74 54), (0, u "stringSize"), (0, .methodref 1 76), (0, .nameAndType 77 78), (0, u "getChars"), (0, u "(II[B)I"), (4, .fieldref 1 84), (0, .nameAndType 85 86), (0, u "DigitOnes"), (0, u "[B"), (0, .fieldref 1 88), (0, .nameAndType 89 86), (0, u "DigitTens"), (99, .class_ 190), (0, u "java/lang/Integer$IntegerCache"), (3, u "I"), (8, .class_ 204), (0, u "java/lang/Number"), (2, u "value"), (94, u "TYPE"), (0, u "Ljava/lang/Class;"), (0, .class_ 305), (0, u "java/lang/Comparable"), (0, .class_ 307), (0, u "java/lang/constant/Constable"), (0, .class_ 309), (0, u "java/lang/constant/ConstantDesc"), (0, u "MIN_VALUE"), (1, u "MAX_VALUE"), (3, u "SIZE"), (1, u "BYTES"), (1, u "serialVersionUID"), (0, u "J")] 131

def k14c0 : Code := { maxStack := 4, maxLocals := 3, code := jdk_33_method_10_code, exceptionTable := #[], attributes := #[] }
def k14m0 : Method := { name := "toString", desc := "(I)Ljava/lang/String;", sig := { parameters := [.int], returnType := some (.object "java/lang/String") }, accessFlags := 9, code := some k14c0 }
def k14c1 : Code := { maxStack := 4, maxLocals := 7, code := jdk_33_method_12_code, exceptionTable := #[], attributes := #[] }
def k14m1 : Method := { name := "getChars", desc := "(II[B)I", sig := { parameters := [.int, .int, (.array .byte)], returnType := some .int }, accessFlags := 8, code := some k14c1 }
def k14c2 : Code := { maxStack := 2, maxLocals := 4, code := jdk_33_method_13_code, exceptionTable := #[], attributes := #[] }
def k14m2 : Method := { name := "stringSize", desc := "(I)I", sig := { parameters := [.int], returnType := some .int }, accessFlags := 8, code := some k14c2 }
/-- java/lang/Integer -/
def k14 : Class := { plain "java/lang/Integer" (some 13) with
  accessFlags := 49
  interfaces := #[7, 9, 10]
  cf := some (fileOf pool14 1 #[.nestMembers #[189]] #[{ accessFlags := 9, nameIndex := 11, descriptorIndex := 12, attributes := #[] }, { accessFlags := 8, nameIndex := 77, descriptorIndex := 78, attributes := #[] }, { accessFlags := 8, nameIndex := 74, descriptorIndex := 54, attributes := #[] }] 49 203 #[304, 306, 308] #[{ accessFlags := 25, nameIndex := 310, descriptorIndex := 194, attributes := #[] }, { accessFlags := 25, nameIndex := 312, descriptorIndex := 194, attributes := #[] }, { accessFlags := 25, nameIndex := 302, descriptorIndex := 303, attributes := #[] }, { accessFlags := 24, nameIndex := 19, descriptorIndex := 20, attributes := #[] }, { accessFlags := 24, nameIndex := 89, descriptorIndex := 86, attributes := #[] }, { accessFlags := 24, nameIndex := 85, descriptorIndex := 86, attributes := #[] }, { accessFlags := 18, nameIndex := 207, descriptorIndex := 194, attributes := #[] }, { accessFlags := 25, nameIndex := 316, descriptorIndex := 194, attributes := #[] }, { accessFlags := 25, nameIndex := 318, descriptorIndex := 194, attributes := #[] }, { accessFlags := 26, nameIndex := 320, descriptorIndex := 321, attributes := #[] }])
  fields := #[{ name := "MIN_VALUE", type := .int, accessFlags := 25, slot := 0, constantValue := 0 }, { name := "MAX_VALUE", type := .int, accessFlags := 25, slot := 1, constantValue := 0 }, { name := "TYPE", type := (.object "java/lang/Class"), accessFlags := 25, slot := 2, constantValue := 0 }, { name := "digits", type := (.array .char), accessFlags := 24, slot := 3, constantValue := 0 }, { name := "DigitTens", type := (.array .byte), accessFlags := 24, slot := 4, constantValue := 0 }, { name := "DigitOnes", type := (.array .byte), accessFlags := 24, slot := 5, constantValue := 0 }, { name := "value", type := .int, accessFlags := 18, slot := 0, constantValue := 0 }, { name := "SIZE", type := .int, accessFlags := 25, slot := 6, constantValue := 0 }, { name := "BYTES", type := .int, accessFlags := 25, slot := 7, constantValue := 0 }, { name := "serialVersionUID", type := .long, accessFlags := 26, slot := 8, constantValue := 0 }]
  methods := #[k14m0, k14m1, k14m2]
  instanceTypes := #[.int]
  staticTypes := #[.int, .int, (.object "java/lang/Class"), (.array .char), (.array .byte), (.array .byte), .int, .int, .long]
  resolved := Array.replicate 453 none
  statics := some 1 }

def pool15 : Array CpInfo := pool [(1, .class_ 2), (0, u "java/lang/String"), (1, .class_ 6), (1, u "java/lang/Object"), (0, u "<init>"), (0, u "()V"), (0, .methodref 1 10), (0, .nameAndType 11 12), (0, u "checkIndex"), (0, u "(II)V"), (1, .class_ 16), (1, u "java/lang/StringLatin1"), (36, u "([BI)C"), (36, u "canEncode"), (14, u "(C)Z"), (15, u "$assertionsDisabled"), (0, u "Z"), (98, .class_ 223), (1, u "java/lang/StringLatin1$LinesSpliterator"), (28, u "charAt"), (137, .class_ 391), (0, u "java/lang/StringLatin1$CharsSpliterator")] 3

def k15m0 : Method := { name := "<init>", desc := "()V", sig := { parameters := [], returnType := none }, accessFlags := 0, code := none }
def k15c1 : Code := { maxStack := 2, maxLocals := 2, code := jdk_43_method_2_code, exceptionTable := #[], attributes := #[] }
def k15m1 : Method := { name := "charAt", desc := "([BI)C", sig := { parameters := [(.array .byte), .int], returnType := some .char }, accessFlags := 9, code := some k15c1 }
def k15c2 : Code := { maxStack := 2, maxLocals := 1, code := jdk_43_method_3_code, exceptionTable := #[], attributes := #[] }
def k15m2 : Method := { name := "canEncode", desc := "(C)Z", sig := { parameters := [.char], returnType := some .boolean }, accessFlags := 9, code := some k15c2 }
/-- java/lang/StringLatin1 -/
def k15 : Class := { plain "java/lang/StringLatin1" (some 0) with
  accessFlags := 48
  interfaces := #[]
  cf := some (fileOf pool15 14 #[.nestMembers #[390, 221]] #[{ accessFlags := 0, nameIndex := 7, descriptorIndex := 8, attributes := #[] }, { accessFlags := 9, nameIndex := 252, descriptorIndex := 53, attributes := #[] }, { accessFlags := 9, nameIndex := 90, descriptorIndex := 105, attributes := #[] }] 48 4 #[] #[{ accessFlags := 4120, nameIndex := 121, descriptorIndex := 122, attributes := #[] }])
  fields := #[{ name := "$assertionsDisabled", type := .boolean, accessFlags := 4120, slot := 0, constantValue := 0 }]
  methods := #[k15m0, k15m1, k15m2]
  instanceTypes := #[]
  staticTypes := #[.boolean]
  resolved := Array.replicate 395 none
  statics := none }

def pool16 : Array CpInfo := pool [(2, .class_ 4), (1, u "java/lang/Object"), (0, u "<init>"), (0, u "()V"), (1, .class_ 10), (1, u "java/lang/System"), (0, u "allowSecurityManager"), (0, u "I"), (16, u "cons"), (0, u "Ljava/io/Console;"), (77, .class_ 110), (1, u "java/lang/System$CallersHolder"), (43, u "initialErrStream"), (0, u "Ljava/io/PrintStream;"), (19, u "security"), (0, u "Ljava/lang/SecurityManager;"), (31, .class_ 209), (0, u "java/lang/System$1"), (7, u "props"), (0, u "Ljava/util/Properties;"), (2, u "lineSeparator"), (0, u "Ljava/lang/String;"), (96, .class_ 321), (1, u "java/lang/System$LoggerFinder"), (5, .class_ 328), (0, u "java/lang/System$Logger"), (67, u "err"), (2, u "out"), (91, u "notSupportedJnuEncoding"), (15, u "in"), (17, u "initialIn"), (0, u "Ljava/io/InputStream;"), (35, u "bootLayer"), (0, u "Ljava/lang/ModuleLayer;"), (99, .class_ 664), (0, u "java/lang/System$2"), (9, u "NEVER"), (2, u "MAYBE"), (49, u "arraycopy"), (0, u "(Ljava/lang/Object;ILjava/lang/Object;II)V"), (72, .class_ 802), (0, u "java/lang/System$Logger$Level")] 31

def k16m0 : Method := { name := "<init>", desc := "()V", sig := { parameters := [], returnType := none }, accessFlags := 2, code := none }
def k16m1 : Method := { name := "arraycopy", desc := "(Ljava/lang/Object;ILjava/lang/Object;II)V", sig := { parameters := [(.object "java/lang/Object"), .int, (.object "java/lang/Object"), .int, .int], returnType := none }, accessFlags := 265, code := none }
/-- java/lang/System -/
def k16 : Class := { plain "java/lang/System" (some 0) with
  accessFlags := 49
  interfaces := #[]
  cf := some (fileOf pool16 8 #[.nestMembers #[319, 327, 801, 108, 663, 208]] #[{ accessFlags := 2, nameIndex := 5, descriptorIndex := 6, attributes := #[] }, { accessFlags := 265, nameIndex := 727, descriptorIndex := 728, attributes := #[] }] 49 2 #[] #[{ accessFlags := 25, nameIndex := 507, descriptorIndex := 526, attributes := #[] }, { accessFlags := 25, nameIndex := 399, descriptorIndex := 155, attributes := #[] }, { accessFlags := 25, nameIndex := 396, descriptorIndex := 155, attributes := #[] }, { accessFlags := 10, nameIndex := 525, descriptorIndex := 526, attributes := #[] }, { accessFlags := 26, nameIndex := 674, descriptorIndex := 12, attributes := #[] }, { accessFlags := 26, nameIndex := 677, descriptorIndex := 12, attributes := #[] }, { accessFlags := 10, nameIndex := 11, descriptorIndex := 12, attributes := #[] }, { accessFlags := 74, nameIndex := 175, descriptorIndex := 176, attributes := #[] }, { accessFlags := 10, nameIndex := 491, descriptorIndex := 222, attributes := #[] }, { accessFlags := 74, nameIndex := 29, descriptorIndex := 30, attributes := #[] }, { accessFlags := 74, nameIndex := 154, descriptorIndex := 155, attributes := #[] }, { accessFlags := 10, nameIndex := 217, descriptorIndex := 218, attributes := #[] }, { accessFlags := 10, nameIndex := 221, descriptorIndex := 222, attributes := #[] }, { accessFlags := 8, nameIndex := 562, descriptorIndex := 563, attributes := #[] }])
  fields := #[{ name := "in", type := (.object "java/io/InputStream"), accessFlags := 25, slot := 0, constantValue := 0 }, { name := "out", type := (.object "java/io/PrintStream"), accessFlags := 25, slot := 1, constantValue := 0 }, { name := "err", type := (.object "java/io/PrintStream"), accessFlags := 25, slot := 2, constantValue := 0 }, { name := "initialIn", type := (.object "java/io/InputStream"), accessFlags := 10, slot := 3, constantValue := 0 }, { name := "NEVER", type := .int, accessFlags := 26, slot := 4, constantValue := 0 }, { name := "MAYBE", type := .int, accessFlags := 26, slot := 5, constantValue := 0 }, { name := "allowSecurityManager", type := .int, accessFlags := 10, slot := 6, constantValue := 0 }, { name := "security", type := (.object "java/lang/SecurityManager"), accessFlags := 74, slot := 7, constantValue := 0 }, { name := "notSupportedJnuEncoding", type := (.object "java/lang/String"), accessFlags := 10, slot := 8, constantValue := 0 }, { name := "cons", type := (.object "java/io/Console"), accessFlags := 74, slot := 9, constantValue := 0 }, { name := "initialErrStream", type := (.object "java/io/PrintStream"), accessFlags := 74, slot := 10, constantValue := 0 }, { name := "props", type := (.object "java/util/Properties"), accessFlags := 10, slot := 11, constantValue := 0 }, { name := "lineSeparator", type := (.object "java/lang/String"), accessFlags := 10, slot := 12, constantValue := 0 }, { name := "bootLayer", type := (.object "java/lang/ModuleLayer"), accessFlags := 8, slot := 13, constantValue := 0 }]
  methods := #[k16m0, k16m1]
  instanceTypes := #[]
  staticTypes := #[(.object "java/io/InputStream"), (.object "java/io/PrintStream"), (.object "java/io/PrintStream"), (.object "java/io/InputStream"), .int, .int, .int, (.object "java/lang/SecurityManager"), (.object "java/lang/String"), (.object "java/io/Console"), (.object "java/io/PrintStream"), (.object "java/util/Properties"), (.object "java/lang/String"), (.object "java/lang/ModuleLayer")]
  resolved := Array.replicate 834 none
  statics := none }

def pool17 : Array CpInfo := pool [(2, .class_ 4), (1, u "java/lang/Object"), (0, u "<init>"), (0, u "()V"), (7, .class_ 16), (1, u "java/util/Arrays"), (57, .class_ 76), (1, u "java/util/Arrays$NaturalOrder"), (32, u "()Ljava/lang/Object;"), (3, .class_ 115), (1, u "java/util/Arrays$LegacyMergeSort"), (1, u "Z"), (10, .nameAndType 129 109), (0, u "clone"), (9, u "copyOfRange"), (10, .methodref 151 152), (0, .class_ 153), (0, .nameAndType 154 155), (0, u "java/lang/System"), (0, u "arraycopy"), (0, u "(Ljava/lang/Object;ILjava/lang/Object;II)V"), (146, u "copyOf"), (1, .methodref 305 306), (0, .class_ 307), (0, .nameAndType 308 309), (0, u "java/lang/Math"), (0, u "min"), (0, u "(II)I"), (0, .methodref 311 128), (0, .class_ 312), (0, u "[B"), (26, .methodref 14 340), (0, .nameAndType 341 342), (0, u "copyOfRangeByte"), (0, u "([BII)[B"), (0, .methodref 14 344), (0, .nameAndType 345 346), (0, u "checkLength"), (0, u "(II)V"), (28, .class_ 376), (0, u "java/util/Arrays$ArrayList"), (68, u "$assertionsDisabled"), (269, u "MIN_ARRAY_SORT_GRAN"), (0, u "I"), (2, u "INSERTIONSORT_THRESHOLD"), (149, u "([BI)[B"), (105, .class_ 976), (0, u "java/util/Arrays$ArrayItr")] 52

def k17m0 : Method := { name := "<init>", desc := "()V", sig := { parameters := [], returnType := none }, accessFlags := 2, code := none }
def k17c1 : Code := { maxStack := 6, maxLocals := 3, code := jdk_65_method_121_code, exceptionTable := #[], attributes := #[] }
def k17m1 : Method := { name := "copyOf", desc := "([BI)[B", sig := { parameters := [(.array .byte), .int], returnType := some (.array .byte) }, accessFlags := 9, code := some k17c1 }
def k17c2 : Code := { maxStack := 4, maxLocals := 2, code := jdk_65_method_131_code, exceptionTable := #[], attributes := #[] }
def k17m2 : Method := { name := "checkLength", desc := "(II)V", sig := { parameters := [.int, .int], returnType := none }, accessFlags := 10, code := some k17c2 }
def k17c3 : Code := { maxStack := 3, maxLocals := 3, code := jdk_65_method_132_code, exceptionTable := #[], attributes := #[] }
def k17m3 : Method := { name := "copyOfRange", desc := "([BII)[B", sig := { parameters := [(.array .byte), .int, .int], returnType := some (.array .byte) }, accessFlags := 9, code := some k17c3 }
def k17c4 : Code := { maxStack := 6, maxLocals := 5, code := jdk_65_method_133_code, exceptionTable := #[], attributes := #[] }
def k17m4 : Method := { name := "copyOfRangeByte", desc := "([BII)[B", sig := { parameters := [(.array .byte), .int, .int], returnType := some (.array .byte) }, accessFlags := 10, code := some k17c4 }
/-- java/util/Arrays -/
def k17 : Class := { plain "java/util/Arrays" (some 0) with
  accessFlags := 49
  interfaces := #[]
  cf := some (fileOf pool17 14 #[.nestMembers #[975, 375, 113, 74]] #[{ accessFlags := 2, nameIndex := 5, descriptorIndex := 6, attributes := #[] }, { accessFlags := 9, nameIndex := 302, descriptorIndex := 869, attributes := #[] }, { accessFlags := 10, nameIndex := 345, descriptorIndex := 346, attributes := #[] }, { accessFlags := 9, nameIndex := 139, descriptorIndex := 342, attributes := #[] }, { accessFlags := 10, nameIndex := 341, descriptorIndex := 342, attributes := #[] }] 49 2 #[] #[{ accessFlags := 26, nameIndex := 715, descriptorIndex := 716, attributes := #[] }, { accessFlags := 26, nameIndex := 719, descriptorIndex := 716, attributes := #[] }, { accessFlags := 4120, nameIndex := 445, descriptorIndex := 117, attributes := #[] }])
  fields := #[{ name := "MIN_ARRAY_SORT_GRAN", type := .int, accessFlags := 26, slot := 0, constantValue := 0 }, { name := "INSERTIONSORT_THRESHOLD", type := .int, accessFlags := 26, slot := 1, constantValue := 0 }, { name := "$assertionsDisabled", type := .boolean, accessFlags := 4120, slot := 2, constantValue := 0 }]
  methods := #[k17m0, k17m1, k17m2, k17m3, k17m4]
  instanceTypes := #[]
  staticTypes := #[.int, .int, .boolean]
  resolved := Array.replicate 1029 none
  statics := none }

def pool18 : Array CpInfo := pool [(1, .class_ 2), (0, u "java/lang/Cloneable"), (0, .class_ 4), (0, u "java/lang/Object")] 2

/-- java/lang/Cloneable -/
def k18 : Class := { plain "java/lang/Cloneable" (some 0) with
  accessFlags := 1537
  interfaces := #[]
  cf := some (fileOf pool18 1 #[] #[] 1537 3 #[] #[])
  fields := #[]
  methods := #[]
  instanceTypes := #[]
  staticTypes := #[]
  resolved := Array.replicate 7 none
  statics := none }

def pool19 : Array CpInfo := pool [(2, .class_ 4), (1, u "java/lang/Object"), (0, u "<init>"), (0, u "()V"), (17, .class_ 26), (1, u "jdk/internal/util/Preconditions"), (6, u "checkIndex"), (21, .class_ 56), (0, u "jdk/internal/util/Preconditions$4"), (57, .class_ 115), (0, u "jdk/internal/util/Preconditions$1"), (7, u "SIOOBE_FORMATTER"), (0, u "Ljava/util/function/BiFunction;"), (0, .class_ 126), (0, u "jdk/internal/util/Preconditions$2"), (3, u "AIOOBE_FORMATTER"), (0, .class_ 132), (0, u "jdk/internal/util/Preconditions$3"), (3, u "IOOBE_FORMATTER"), (41, u "(IILjava/util/function/BiFunction;)I")] 15

def k19m0 : Method := { name := "<init>", desc := "()V", sig := { parameters := [], returnType := none }, accessFlags := 1, code := none }
def k19c1 : Code := { maxStack := 3, maxLocals := 3, code := jdk_41_method_11_code, exceptionTable := #[], attributes := #[] }
def k19m1 : Method := { name := "checkIndex", desc := "(IILjava/util/function/BiFunction;)I", sig := { parameters := [.int, .int, (.object "java/util/function/BiFunction")], returnType := some .int }, accessFlags := 9, code := some k19c1 }
/-- jdk/internal/util/Preconditions -/
def k19 : Class := { plain "jdk/internal/util/Preconditions" (some 0) with
  accessFlags := 33
  interfaces := #[]
  cf := some (fileOf pool19 24 #[.nestMembers #[55, 131, 125, 114]] #[{ accessFlags := 1, nameIndex := 5, descriptorIndex := 6, attributes := #[] }, { accessFlags := 9, nameIndex := 33, descriptorIndex := 178, attributes := #[] }] 33 2 #[] #[{ accessFlags := 25, nameIndex := 123, descriptorIndex := 124, attributes := #[] }, { accessFlags := 25, nameIndex := 130, descriptorIndex := 124, attributes := #[] }, { accessFlags := 25, nameIndex := 136, descriptorIndex := 124, attributes := #[] }])
  fields := #[{ name := "SIOOBE_FORMATTER", type := (.object "java/util/function/BiFunction"), accessFlags := 25, slot := 0, constantValue := 0 }, { name := "AIOOBE_FORMATTER", type := (.object "java/util/function/BiFunction"), accessFlags := 25, slot := 1, constantValue := 0 }, { name := "IOOBE_FORMATTER", type := (.object "java/util/function/BiFunction"), accessFlags := 25, slot := 2, constantValue := 0 }]
  methods := #[k19m0, k19m1]
  instanceTypes := #[]
  staticTypes := #[(.object "java/util/function/BiFunction"), (.object "java/util/function/BiFunction"), (.object "java/util/function/BiFunction")]
  resolved := Array.replicate 194 none
  statics := some 2 }

def pool20 : Array CpInfo := pool [(9, u "<init>"), (6, .class_ 18), (1, u "java/lang/Object"), (0, u "()V"), (1, .class_ 23), (1, u "jdk/internal/util/ArraysSupport"), (0, u "LOG2_ARRAY_LONG_INDEX_SCALE"), (0, u "I"), (2, u "U"), (0, u "Ljdk/internal/misc/Unsafe;"), (8, u "BIG_ENDIAN"), (0, u "Z"), (8, u "LOG2_BYTE_BIT_SIZE"), (4, u "LOG2_ARRAY_INT_INDEX_SCALE"), (54, u "JLA"), (0, u "Ljdk/internal/access/JavaLangAccess;"), (11, u "LOG2_ARRAY_BOOLEAN_INDEX_SCALE"), (9, u "LOG2_ARRAY_BYTE_INDEX_SCALE"), (5, u "LOG2_ARRAY_CHAR_INDEX_SCALE"), (5, u "LOG2_ARRAY_SHORT_INDEX_SCALE"), (18, u "LOG2_ARRAY_FLOAT_INDEX_SCALE"), (24, u "LOG2_ARRAY_DOUBLE_INDEX_SCALE"), (6, .methodref 195 196), (0, .class_ 197), (0, .nameAndType 198 199), (0, u "java/lang/Math"), (0, u "max"), (0, u "(II)I"), (0, .integer 2147483639), (76, u "T_BOOLEAN"), (2, u "T_CHAR"), (1, u "T_FLOAT"), (1, u "T_DOUBLE"), (1, u "T_BYTE"), (1, u "T_SHORT"), (1, u "T_INT"), (1, u "T_LONG"), (1, u "SOFT_MAX_ARRAY_LENGTH"), (56, u "newLength"), (0, u "(III)I")] 25

def k20m0 : Method := { name := "<init>", desc := "()V", sig := { parameters := [], returnType := none }, accessFlags := 2, code := none }
def k20c1 : Code := { maxStack := 3, maxLocals := 4, code := jdk_48_method_27_code, exceptionTable := #[], attributes := #[] }
def k20m1 : Method := { name := "newLength", desc := "(III)I", sig := { parameters := [.int, .int, .int], returnType := some .int }, accessFlags := 9, code := some k20c1 }
/-- jdk/internal/util/ArraysSupport -/
def k20 : Class := { plain "jdk/internal/util/ArraysSupport" (some 0) with
  accessFlags := 33
  interfaces := #[]
  cf := some (fileOf pool20 21 #[] #[{ accessFlags := 2, nameIndex := 9, descriptorIndex := 19, attributes := #[] }, { accessFlags := 9, nameIndex := 351, descriptorIndex := 352, attributes := #[] }] 33 16 #[] #[{ accessFlags := 24, nameIndex := 28, descriptorIndex := 29, attributes := #[] }, { accessFlags := 26, nameIndex := 38, descriptorIndex := 39, attributes := #[] }, { accessFlags := 25, nameIndex := 121, descriptorIndex := 25, attributes := #[] }, { accessFlags := 25, nameIndex := 131, descriptorIndex := 25, attributes := #[] }, { accessFlags := 25, nameIndex := 137, descriptorIndex := 25, attributes := #[] }, { accessFlags := 25, nameIndex := 143, descriptorIndex := 25, attributes := #[] }, { accessFlags := 25, nameIndex := 53, descriptorIndex := 25, attributes := #[] }, { accessFlags := 25, nameIndex := 24, descriptorIndex := 25, attributes := #[] }, { accessFlags := 25, nameIndex := 162, descriptorIndex := 25, attributes := #[] }, { accessFlags := 25, nameIndex := 187, descriptorIndex := 25, attributes := #[] }, { accessFlags := 26, nameIndex := 48, descriptorIndex := 25, attributes := #[] }, { accessFlags := 25, nameIndex := 277, descriptorIndex := 25, attributes := #[] }, { accessFlags := 25, nameIndex := 280, descriptorIndex := 25, attributes := #[] }, { accessFlags := 25, nameIndex := 282, descriptorIndex := 25, attributes := #[] }, { accessFlags := 25, nameIndex := 284, descriptorIndex := 25, attributes := #[] }, { accessFlags := 25, nameIndex := 286, descriptorIndex := 25, attributes := #[] }, { accessFlags := 25, nameIndex := 288, descriptorIndex := 25, attributes := #[] }, { accessFlags := 25, nameIndex := 290, descriptorIndex := 25, attributes := #[] }, { accessFlags := 25, nameIndex := 292, descriptorIndex := 25, attributes := #[] }, { accessFlags := 26, nameIndex := 108, descriptorIndex := 109, attributes := #[] }, { accessFlags := 25, nameIndex := 294, descriptorIndex := 25, attributes := #[] }])
  fields := #[{ name := "U", type := (.object "jdk/internal/misc/Unsafe"), accessFlags := 24, slot := 0, constantValue := 0 }, { name := "BIG_ENDIAN", type := .boolean, accessFlags := 26, slot := 1, constantValue := 0 }, { name := "LOG2_ARRAY_BOOLEAN_INDEX_SCALE", type := .int, accessFlags := 25, slot := 2, constantValue := 0 }, { name := "LOG2_ARRAY_BYTE_INDEX_SCALE", type := .int, accessFlags := 25, slot := 3, constantValue := 0 }, { name := "LOG2_ARRAY_CHAR_INDEX_SCALE", type := .int, accessFlags := 25, slot := 4, constantValue := 0 }, { name := "LOG2_ARRAY_SHORT_INDEX_SCALE", type := .int, accessFlags := 25, slot := 5, constantValue := 0 }, { name := "LOG2_ARRAY_INT_INDEX_SCALE", type := .int, accessFlags := 25, slot := 6, constantValue := 0 }, { name := "LOG2_ARRAY_LONG_INDEX_SCALE", type := .int, accessFlags := 25, slot := 7, constantValue := 0 }, { name := "LOG2_ARRAY_FLOAT_INDEX_SCALE", type := .int, accessFlags := 25, slot := 8, constantValue := 0 }, { name := "LOG2_ARRAY_DOUBLE_INDEX_SCALE", type := .int, accessFlags := 25, slot := 9, constantValue := 0 }, { name := "LOG2_BYTE_BIT_SIZE", type := .int, accessFlags := 26, slot := 10, constantValue := 0 }, { name := "T_BOOLEAN", type := .int, accessFlags := 25, slot := 11, constantValue := 0 }, { name := "T_CHAR", type := .int, accessFlags := 25, slot := 12, constantValue := 0 }, { name := "T_FLOAT", type := .int, accessFlags := 25, slot := 13, constantValue := 0 }, { name := "T_DOUBLE", type := .int, accessFlags := 25, slot := 14, constantValue := 0 }, { name := "T_BYTE", type := .int, accessFlags := 25, slot := 15, constantValue := 0 }, { name := "T_SHORT", type := .int, accessFlags := 25, slot := 16, constantValue := 0 }, { name := "T_INT", type := .int, accessFlags := 25, slot := 17, constantValue := 0 }, { name := "T_LONG", type := .int, accessFlags := 25, slot := 18, constantValue := 0 }, { name := "JLA", type := (.object "jdk/internal/access/JavaLangAccess"), accessFlags := 26, slot := 19, constantValue := 0 }, { name := "SOFT_MAX_ARRAY_LENGTH", type := .int, accessFlags := 25, slot := 20, constantValue := 0 }]
  methods := #[k20m0, k20m1]
  instanceTypes := #[]
  staticTypes := #[(.object "jdk/internal/misc/Unsafe"), .boolean, .int, .int, .int, .int, .int, .int, .int, .int, .int, .int, .int, .int, .int, .int, .int, .int, .int, (.object "jdk/internal/access/JavaLangAccess"), .int]
  resolved := Array.replicate 378 none
  statics := none }

/-- the primitive byte -/
def k21 : Class := { plain "byte" none with kind := .primitive 'B', accessFlags := 0x411 }
/-- [B -/
def k22 : Class := { plain "[B" (some 0) with kind := .array 21 .byte, interfaces := #[18, 6], accessFlags := 1041 }

/-- the primitive int -/
def k23 : Class := { plain "int" none with kind := .primitive 'I', accessFlags := 0x411 }
/-- [I -/
def k24 : Class := { plain "[I" (some 0) with kind := .array 23 .int, interfaces := #[18, 6], accessFlags := 1041 }

def heap : Heap := #[{ cls := 11, slots := #[.long 0, .int 1, .null, .int 0, .null, .int 0, .int 0], vm := .statics 11 },
  { cls := 14, slots := #[.int 0, .int 0, .null, .null, .ref 4, .ref 3, .int 0, .int 0, .long 0], vm := .statics 14 },
  { cls := 19, slots := #[.null, .null, .null], vm := .statics 19 },
  { cls := 22, slots := #[.int 48, .int 49, .int 50, .int 51, .int 52, .int 53, .int 54, .int 55, .int 56, .int 57, .int 48, .int 49, .int 50, .int 51, .int 52, .int 53, .int 54, .int 55, .int 56, .int 57, .int 48, .int 49, .int 50, .int 51, .int 52, .int 53, .int 54, .int 55, .int 56, .int 57, .int 48, .int 49, .int 50, .int 51, .int 52, .int 53, .int 54, .int 55, .int 56, .int 57, .int 48, .int 49, .int 50, .int 51, .int 52, .int 53, .int 54, .int 55, .int 56, .int 57, .int 48, .int 49, .int 50, .int 51, .int 52, .int 53, .int 54, .int 55, .int 56, .int 57, .int 48, .int 49, .int 50, .int 51, .int 52, .int 53, .int 54, .int 55, .int 56, .int 57, .int 48, .int 49, .int 50, .int 51, .int 52, .int 53, .int 54, .int 55, .int 56, .int 57, .int 48, .int 49, .int 50, .int 51, .int 52, .int 53, .int 54, .int 55, .int 56, .int 57, .int 48, .int 49, .int 50, .int 51, .int 52, .int 53, .int 54, .int 55, .int 56, .int 57], vm := .none },
  { cls := 22, slots := #[.int 48, .int 48, .int 48, .int 48, .int 48, .int 48, .int 48, .int 48, .int 48, .int 48, .int 49, .int 49, .int 49, .int 49, .int 49, .int 49, .int 49, .int 49, .int 49, .int 49, .int 50, .int 50, .int 50, .int 50, .int 50, .int 50, .int 50, .int 50, .int 50, .int 50, .int 51, .int 51, .int 51, .int 51, .int 51, .int 51, .int 51, .int 51, .int 51, .int 51, .int 52, .int 52, .int 52, .int 52, .int 52, .int 52, .int 52, .int 52, .int 52, .int 52, .int 53, .int 53, .int 53, .int 53, .int 53, .int 53, .int 53, .int 53, .int 53, .int 53, .int 54, .int 54, .int 54, .int 54, .int 54, .int 54, .int 54, .int 54, .int 54, .int 54, .int 55, .int 55, .int 55, .int 55, .int 55, .int 55, .int 55, .int 55, .int 55, .int 55, .int 56, .int 56, .int 56, .int 56, .int 56, .int 56, .int 56, .int 56, .int 56, .int 56, .int 57, .int 57, .int 57, .int 57, .int 57, .int 57, .int 57, .int 57, .int 57, .int 57], vm := .none }]
def classes : Array Class := #[k0, k1, k2, k3, k4, k5, k6, k7, k8, k9, k10, k11, k12, k13, k14, k15, k16, k17, k18, k19, k20, k21, k22, k23, k24]
def interned : List (Array UInt16 × Addr) := []
def slotsUsed : Nat := 219
def theMethod : MethodId := ⟨1, 1⟩
def args0 : Array Value := #[.int 5, .int 5]
def aboutOver (below : List Frame) : State where
  vm := { classes := classes, interned := interned.toArray }
  heap := heap
  slotsUsed := slotsUsed
  threads := #[{ frames := .invoking theMethod args0 :: below }]
def below0 : List Frame := [.native { method := ⟨0, 0⟩, args := #[] }]
def about1 : State := aboutOver below0
def p0 : Program := .bare "" "" ""
def e0 : Env := launch0.env 0 0 0
theorem w_frames : about1.frames = Frame.invoking theMethod args0 :: below0 := rfl
set_option maxRecDepth 65536 in
theorem w_args : argsFit about1.vm theMethod args0 = true := by decide +kernel
set_option maxRecDepth 65536 in
theorem w_heap : heapFits about1 = true := by decide +kernel
set_option maxRecDepth 65536 in
theorem w_runnable : about1.curStatus? = some .runnable := by decide +kernel
set_option maxRecDepth 65536 in
theorem w_alone : about1.alone = true := by decide +kernel
set_option maxRecDepth 65536 in
theorem w_named : about1.methodNamed? x = some theMethod := by decide +kernel
set_option maxRecDepth 65536 in
theorem w_hears : about1.hears theMethod below0 = true := by decide +kernel
set_option maxRecDepth 65536 in
theorem w_ripe : about1.ripe theMethod args0 below0 = true := by decide +kernel
theorem w_running : about1.status = .running := rfl
set_option maxRecDepth 65536 in
theorem w_room : about1.hasRoom e0.platform room_1 = true :=
  launch0.hasRoom_least _ room_1 (by decide +kernel) (by decide +kernel) (by decide +kernel) (by decide +kernel) (by decide +kernel) (by decide +kernel)
theorem allAtoms_all (ts : List Jvm.Cond) (a : Array Jvm.Value) (st : Jvm.State) : (allAtoms ts).before a st = ts.all (fun c => c.before a st) := by
  induction ts with
  | nil => rfl
  | cons c t ih =>
    show (Jvm.Cond.and c (allAtoms t)).before a st = _
    rw [Jvm.Cond.before_and, ih, List.all_cons]
def words1 : List Jvm.Cond := Jvm.Cond.code x code maxLocals ret :: tables_1
/-- a 'code' word, met by the world's own term for the bytes: nothing is compared byte by byte -/
theorem code_word {y : MethodName} {bytes : ByteArray} {mx : Nat} {rt : Option FieldType} {a : Array Value} {s : State} {m : MethodId} {meth : Method} {c : Code} (h1 : s.methodNamed? y = some m) (h2 : s.vm.method? m = some meth) (h3 : meth.code = some c) (h4 : c.code = bytes)
    (h5 : (c.maxLocals == mx && c.exceptionTable.isEmpty && decide (c.maxStack ≤ mostOperands) && decide (meth.sig.returnType = rt) && !meth.locks && decide (parseMethodDescriptor y.desc = some meth.sig)) = true) : (Jvm.Cond.code y bytes mx rt).before a s = true := by
  simp only [Bool.and_eq_true, beq_iff_eq, Bool.not_eq_true', decide_eq_true_eq] at h5
  obtain ⟨⟨⟨⟨⟨g1, g2⟩, g3⟩, g4⟩, g5⟩, g6⟩ := h5
  simp [Cond.before, Cond.holds, Cond.value, h1, h2, h3, h4, g1, g2, g3, g4, g5, g6]
def isCode : Jvm.Cond → Bool
  | .code _ _ _ _ => true
  | _ => false
theorem all_split {L : List Jvm.Cond} {P : Jvm.Cond → Bool} (h1 : L.all (fun c => isCode c || P c) = true) (h2 : ∀ c ∈ L.filter isCode, P c = true) : L.all P = true := by
  refine List.all_eq_true.mpr fun c hc => ?_
  have h := List.all_eq_true.mp h1 c hc
  rcases Bool.eq_false_or_eq_true (isCode c) with hi | hi
  · exact h2 c (List.mem_filter.mpr ⟨hc, hi⟩)
  · simpa [hi] using h
set_option maxRecDepth 65536 in
theorem w_c0 : (Jvm.Cond.code x code maxLocals ret).before args0 about1 = true := code_word (m := ⟨1, 1⟩) (meth := k1m1) (c := k1c1) (by decide +kernel) rfl rfl rfl (by decide +kernel)
set_option maxRecDepth 65536 in
theorem w_c1 : (Jvm.Cond.code ({ cls := "com/example/neith/neith/io/DateTimeText", name := "year", desc := "(I)Ljava/lang/String;" } : Jvm.MethodName) prog_2_method_3_code (2 : Nat) (Option.some (Jvm.ClassFile.FieldType.object "java/lang/String"))).before args0 about1 = true := code_word (m := ⟨2, 1⟩) (meth := k2m1) (c := k2c1) (by decide +kernel) rfl rfl rfl (by decide +kernel)
set_option maxRecDepth 65536 in
theorem w_c2 : (Jvm.Cond.code ({ cls := "java/lang/StringBuilder", name := "<init>", desc := "(I)V" } : Jvm.MethodName) jdk_67_method_2_code (2 : Nat) (Option.none : Option Jvm.ClassFile.FieldType)).before args0 about1 = true := code_word (m := ⟨8, 1⟩) (meth := k8m1) (c := k8c1) (by decide +kernel) rfl rfl rfl (by decide +kernel)
set_option maxRecDepth 65536 in
theorem w_c3 : (Jvm.Cond.code ({ cls := "java/lang/AbstractStringBuilder", name := "<init>", desc := "(I)V" } : Jvm.MethodName) jdk_68_method_2_code (2 : Nat) (Option.none : Option Jvm.ClassFile.FieldType)).before args0 about1 = true := code_word (m := ⟨5, 1⟩) (meth := k5m1) (c := k5c1) (by decide +kernel) rfl rfl rfl (by decide +kernel)
set_option maxRecDepth 65536 in
theorem w_c4 : (Jvm.Cond.code ({ cls := "java/lang/Object", name := "<init>", desc := "()V" } : Jvm.MethodName) object_method_1_code (1 : Nat) (Option.none : Option Jvm.ClassFile.FieldType)).before args0 about1 = true := code_word (m := ⟨0, 0⟩) (meth := k0m0) (c := k0c0) (by decide +kernel) rfl rfl rfl (by decide +kernel)
set_option maxRecDepth 65536 in
theorem w_c5 : (Jvm.Cond.code ({ cls := "com/example/neith/neith/io/DateTimeText", name := "appendYear", desc := "(Ljava/lang/StringBuilder;I)V" } : Jvm.MethodName) prog_2_method_10_code (2 : Nat) (Option.none : Option Jvm.ClassFile.FieldType)).before args0 about1 = true := code_word (m := ⟨2, 2⟩) (meth := k2m2) (c := k2c2) (by decide +kernel) rfl rfl rfl (by decide +kernel)
set_option maxRecDepth 65536 in
theorem w_c6 : (Jvm.Cond.code ({ cls := "java/lang/Math", name := "abs", desc := "(I)I" } : Jvm.MethodName) jdk_29_method_59_code (1 : Nat) (Option.some Jvm.ClassFile.FieldType.int)).before args0 about1 = true := code_word (m := ⟨12, 1⟩) (meth := k12m1) (c := k12c1) (by decide +kernel) rfl rfl rfl (by decide +kernel)
set_option maxRecDepth 65536 in
theorem w_c7 : (Jvm.Cond.code ({ cls := "com/example/neith/neith/io/DateTimeText", name := "appendNumber", desc := "(Ljava/lang/StringBuilder;II)V" } : Jvm.MethodName) prog_2_method_14_code (5 : Nat) (Option.none : Option Jvm.ClassFile.FieldType)).before args0 about1 = true := code_word (m := ⟨2, 3⟩) (meth := k2m3) (c := k2c3) (by decide +kernel) rfl rfl rfl (by decide +kernel)
set_option maxRecDepth 65536 in
theorem w_c8 : (Jvm.Cond.code ({ cls := "java/lang/Integer", name := "toString", desc := "(I)Ljava/lang/String;" } : Jvm.MethodName) jdk_33_method_10_code (3 : Nat) (Option.some (Jvm.ClassFile.FieldType.object "java/lang/String"))).before args0 about1 = true := code_word (m := ⟨14, 0⟩) (meth := k14m0) (c := k14c0) (by decide +kernel) rfl rfl rfl (by decide +kernel)
set_option maxRecDepth 65536 in
theorem w_c9 : (Jvm.Cond.code ({ cls := "java/lang/Integer", name := "stringSize", desc := "(I)I" } : Jvm.MethodName) jdk_33_method_13_code (4 : Nat) (Option.some Jvm.ClassFile.FieldType.int)).before args0 about1 = true := code_word (m := ⟨14, 2⟩) (meth := k14m2) (c := k14c2) (by decide +kernel) rfl rfl rfl (by decide +kernel)
set_option maxRecDepth 65536 in
theorem w_c10 : (Jvm.Cond.code ({ cls := "java/lang/Integer", name := "getChars", desc := "(II[B)I" } : Jvm.MethodName) jdk_33_method_12_code (7 : Nat) (Option.some Jvm.ClassFile.FieldType.int)).before args0 about1 = true := code_word (m := ⟨14, 1⟩) (meth := k14m1) (c := k14c1) (by decide +kernel) rfl rfl rfl (by decide +kernel)
set_option maxRecDepth 65536 in
theorem w_c11 : (Jvm.Cond.code ({ cls := "java/lang/String", name := "<init>", desc := "([BB)V" } : Jvm.MethodName) jdk_42_method_151_code (3 : Nat) (Option.none : Option Jvm.ClassFile.FieldType)).before args0 about1 = true := code_word (m := ⟨11, 6⟩) (meth := k11m6) (c := k11c6) (by decide +kernel) rfl rfl rfl (by decide +kernel)
set_option maxRecDepth 65536 in
theorem w_c12 : (Jvm.Cond.code ({ cls := "java/lang/String", name := "length", desc := "()I" } : Jvm.MethodName) jdk_42_method_54_code (1 : Nat) (Option.some Jvm.ClassFile.FieldType.int)).before args0 about1 = true := code_word (m := ⟨11, 2⟩) (meth := k11m2) (c := k11c2) (by decide +kernel) rfl rfl rfl (by decide +kernel)
set_option maxRecDepth 65536 in
theorem w_c13 : (Jvm.Cond.code ({ cls := "java/lang/String", name := "coder", desc := "()B" } : Jvm.MethodName) jdk_42_method_152_code (1 : Nat) (Option.some Jvm.ClassFile.FieldType.byte)).before args0 about1 = true := code_word (m := ⟨11, 7⟩) (meth := k11m7) (c := k11c7) (by decide +kernel) rfl rfl rfl (by decide +kernel)
set_option maxRecDepth 65536 in
theorem w_c14 : (Jvm.Cond.code ({ cls := "java/lang/StringBuilder", name := "append", desc := "(C)Ljava/lang/StringBuilder;" } : Jvm.MethodName) jdk_67_method_14_code (2 : Nat) (Option.some (Jvm.ClassFile.FieldType.object "java/lang/StringBuilder"))).before args0 about1 = true := code_word (m := ⟨8, 3⟩) (meth := k8m3) (c := k8c3) (by decide +kernel) rfl rfl rfl (by decide +kernel)
set_option maxRecDepth 65536 in
theorem w_c15 : (Jvm.Cond.code ({ cls := "java/lang/AbstractStringBuilder", name := "append", desc := "(C)Ljava/lang/AbstractStringBuilder;" } : Jvm.MethodName) jdk_68_method_31_code (2 : Nat) (Option.some (Jvm.ClassFile.FieldType.object "java/lang/AbstractStringBuilder"))).before args0 about1 = true := code_word (m := ⟨5, 6⟩) (meth := k5m6) (c := k5c6) (by decide +kernel) rfl rfl rfl (by decide +kernel)
set_option maxRecDepth 65536 in
theorem w_c16 : (Jvm.Cond.code ({ cls := "java/lang/AbstractStringBuilder", name := "ensureCapacityInternal", desc := "(I)V" } : Jvm.MethodName) jdk_68_method_9_code (3 : Nat) (Option.none : Option Jvm.ClassFile.FieldType)).before args0 about1 = true := code_word (m := ⟨5, 3⟩) (meth := k5m3) (c := k5c3) (by decide +kernel) rfl rfl rfl (by decide +kernel)
set_option maxRecDepth 65536 in
theorem w_c17 : (Jvm.Cond.code ({ cls := "java/lang/AbstractStringBuilder", name := "isLatin1", desc := "()Z" } : Jvm.MethodName) jdk_68_method_68_code (1 : Nat) (Option.some Jvm.ClassFile.FieldType.boolean)).before args0 about1 = true := code_word (m := ⟨5, 8⟩) (meth := k5m8) (c := k5c8) (by decide +kernel) rfl rfl rfl (by decide +kernel)
set_option maxRecDepth 65536 in
theorem w_c18 : (Jvm.Cond.code ({ cls := "java/lang/StringLatin1", name := "canEncode", desc := "(C)Z" } : Jvm.MethodName) jdk_43_method_3_code (1 : Nat) (Option.some Jvm.ClassFile.FieldType.boolean)).before args0 about1 = true := code_word (m := ⟨15, 2⟩) (meth := k15m2) (c := k15c2) (by decide +kernel) rfl rfl rfl (by decide +kernel)
set_option maxRecDepth 65536 in
theorem w_c19 : (Jvm.Cond.code ({ cls := "java/lang/StringBuilder", name := "append", desc := "(Ljava/lang/String;)Ljava/lang/StringBuilder;" } : Jvm.MethodName) jdk_67_method_7_code (2 : Nat) (Option.some (Jvm.ClassFile.FieldType.object "java/lang/StringBuilder"))).before args0 about1 = true := code_word (m := ⟨8, 2⟩) (meth := k8m2) (c := k8c2) (by decide +kernel) rfl rfl rfl (by decide +kernel)
set_option maxRecDepth 65536 in
theorem w_c20 : (Jvm.Cond.code ({ cls := "java/lang/AbstractStringBuilder", name := "append", desc := "(Ljava/lang/String;)Ljava/lang/AbstractStringBuilder;" } : Jvm.MethodName) jdk_68_method_22_code (3 : Nat) (Option.some (Jvm.ClassFile.FieldType.object "java/lang/AbstractStringBuilder"))).before args0 about1 = true := code_word (m := ⟨5, 5⟩) (meth := k5m5) (c := k5c5) (by decide +kernel) rfl rfl rfl (by decide +kernel)
set_option maxRecDepth 65536 in
theorem w_c21 : (Jvm.Cond.code ({ cls := "java/lang/AbstractStringBuilder", name := "putStringAt", desc := "(ILjava/lang/String;)V" } : Jvm.MethodName) jdk_68_method_73_code (3 : Nat) (Option.none : Option Jvm.ClassFile.FieldType)).before args0 about1 = true := code_word (m := ⟨5, 10⟩) (meth := k5m10) (c := k5c10) (by decide +kernel) rfl rfl rfl (by decide +kernel)
set_option maxRecDepth 65536 in
theorem w_c22 : (Jvm.Cond.code ({ cls := "java/lang/AbstractStringBuilder", name := "inflateIfNeededFor", desc := "(Ljava/lang/String;)V" } : Jvm.MethodName) jdk_68_method_71_code (2 : Nat) (Option.none : Option Jvm.ClassFile.FieldType)).before args0 about1 = true := code_word (m := ⟨5, 9⟩) (meth := k5m9) (c := k5c9) (by decide +kernel) rfl rfl rfl (by decide +kernel)
set_option maxRecDepth 65536 in
theorem w_c23 : (Jvm.Cond.code ({ cls := "java/lang/String", name := "getBytes", desc := "([BIB)V" } : Jvm.MethodName) jdk_42_method_147_code (4 : Nat) (Option.none : Option Jvm.ClassFile.FieldType)).before args0 about1 = true := code_word (m := ⟨11, 4⟩) (meth := k11m4) (c := k11c4) (by decide +kernel) rfl rfl rfl (by decide +kernel)
set_option maxRecDepth 65536 in
theorem w_c24 : (Jvm.Cond.code ({ cls := "java/lang/StringBuilder", name := "toString", desc := "()Ljava/lang/String;" } : Jvm.MethodName) jdk_67_method_42_code (1 : Nat) (Option.some (Jvm.ClassFile.FieldType.object "java/lang/String"))).before args0 about1 = true := code_word (m := ⟨8, 4⟩) (meth := k8m4) (c := k8c4) (by decide +kernel) rfl rfl rfl (by decide +kernel)
set_option maxRecDepth 65536 in
theorem w_c25 : (Jvm.Cond.code ({ cls := "java/lang/String", name := "<init>", desc := "(Ljava/lang/StringBuilder;)V" } : Jvm.MethodName) jdk_42_method_53_code (2 : Nat) (Option.none : Option Jvm.ClassFile.FieldType)).before args0 about1 = true := code_word (m := ⟨11, 1⟩) (meth := k11m1) (c := k11c1) (by decide +kernel) rfl rfl rfl (by decide +kernel)
set_option maxRecDepth 65536 in
theorem w_c26 : (Jvm.Cond.code ({ cls := "java/lang/String", name := "<init>", desc := "(Ljava/lang/AbstractStringBuilder;Ljava/lang/Void;)V" } : Jvm.MethodName) jdk_42_method_150_code (5 : Nat) (Option.none : Option Jvm.ClassFile.FieldType)).before args0 about1 = true := code_word (m := ⟨11, 5⟩) (meth := k11m5) (c := k11c5) (by decide +kernel) rfl rfl rfl (by decide +kernel)
set_option maxRecDepth 65536 in
theorem w_c27 : (Jvm.Cond.code ({ cls := "java/lang/AbstractStringBuilder", name := "getValue", desc := "()[B" } : Jvm.MethodName) jdk_68_method_64_code (1 : Nat) (Option.some (Jvm.ClassFile.FieldType.array Jvm.ClassFile.FieldType.byte))).before args0 about1 = true := code_word (m := ⟨5, 7⟩) (meth := k5m7) (c := k5c7) (by decide +kernel) rfl rfl rfl (by decide +kernel)
set_option maxRecDepth 65536 in
theorem w_c28 : (Jvm.Cond.code ({ cls := "java/lang/StringBuilder", name := "length", desc := "()I" } : Jvm.MethodName) jdk_67_method_93_code (1 : Nat) (Option.some Jvm.ClassFile.FieldType.int)).before args0 about1 = true := code_word (m := ⟨8, 5⟩) (meth := k8m5) (c := k8c5) (by decide +kernel) rfl rfl rfl (by decide +kernel)
set_option maxRecDepth 65536 in
theorem w_c29 : (Jvm.Cond.code ({ cls := "java/lang/AbstractStringBuilder", name := "length", desc := "()I" } : Jvm.MethodName) jdk_68_method_6_code (1 : Nat) (Option.some Jvm.ClassFile.FieldType.int)).before args0 about1 = true := code_word (m := ⟨5, 2⟩) (meth := k5m2) (c := k5c2) (by decide +kernel) rfl rfl rfl (by decide +kernel)
set_option maxRecDepth 65536 in
theorem w_c30 : (Jvm.Cond.code ({ cls := "java/util/Arrays", name := "copyOfRange", desc := "([BII)[B" } : Jvm.MethodName) jdk_65_method_132_code (3 : Nat) (Option.some (Jvm.ClassFile.FieldType.array Jvm.ClassFile.FieldType.byte))).before args0 about1 = true := code_word (m := ⟨17, 3⟩) (meth := k17m3) (c := k17c3) (by decide +kernel) rfl rfl rfl (by decide +kernel)
set_option maxRecDepth 65536 in
theorem w_c31 : (Jvm.Cond.code ({ cls := "com/example/neith/neith/io/DateTimeTextYearPinLaw", name := "digitAt", desc := "(Ljava/lang/String;IIIII)Z" } : Jvm.MethodName) method_3_code (7 : Nat) (Option.some Jvm.ClassFile.FieldType.boolean)).before args0 about1 = true := code_word (m := ⟨1, 2⟩) (meth := k1m2) (c := k1c2) (by decide +kernel) rfl rfl rfl (by decide +kernel)
set_option maxRecDepth 65536 in
theorem w_c32 : (Jvm.Cond.code ({ cls := "java/lang/String", name := "charAt", desc := "(I)C" } : Jvm.MethodName) jdk_42_method_56_code (2 : Nat) (Option.some Jvm.ClassFile.FieldType.char)).before args0 about1 = true := code_word (m := ⟨11, 3⟩) (meth := k11m3) (c := k11c3) (by decide +kernel) rfl rfl rfl (by decide +kernel)
set_option maxRecDepth 65536 in
theorem w_c33 : (Jvm.Cond.code ({ cls := "java/lang/String", name := "isLatin1", desc := "()Z" } : Jvm.MethodName) jdk_42_method_154_code (1 : Nat) (Option.some Jvm.ClassFile.FieldType.boolean)).before args0 about1 = true := code_word (m := ⟨11, 8⟩) (meth := k11m8) (c := k11c8) (by decide +kernel) rfl rfl rfl (by decide +kernel)
set_option maxRecDepth 65536 in
theorem w_c34 : (Jvm.Cond.code ({ cls := "java/lang/StringLatin1", name := "charAt", desc := "([BI)C" } : Jvm.MethodName) jdk_43_method_2_code (2 : Nat) (Option.some Jvm.ClassFile.FieldType.char)).before args0 about1 = true := code_word (m := ⟨15, 1⟩) (meth := k15m1) (c := k15c1) (by decide +kernel) rfl rfl rfl (by decide +kernel)
set_option maxRecDepth 65536 in
theorem w_c35 : (Jvm.Cond.code ({ cls := "java/lang/String", name := "checkIndex", desc := "(II)V" } : Jvm.MethodName) jdk_42_method_155_code (2 : Nat) (Option.none : Option Jvm.ClassFile.FieldType)).before args0 about1 = true := code_word (m := ⟨11, 9⟩) (meth := k11m9) (c := k11c9) (by decide +kernel) rfl rfl rfl (by decide +kernel)
set_option maxRecDepth 65536 in
theorem w_c36 : (Jvm.Cond.code ({ cls := "jdk/internal/util/Preconditions", name := "checkIndex", desc := "(IILjava/util/function/BiFunction;)I" } : Jvm.MethodName) jdk_41_method_11_code (3 : Nat) (Option.some Jvm.ClassFile.FieldType.int)).before args0 about1 = true := code_word (m := ⟨19, 1⟩) (meth := k19m1) (c := k19c1) (by decide +kernel) rfl rfl rfl (by decide +kernel)
set_option maxRecDepth 65536 in
theorem w_c37 : (Jvm.Cond.code ({ cls := "java/lang/AbstractStringBuilder", name := "newCapacity", desc := "(I)I" } : Jvm.MethodName) jdk_68_method_10_code (6 : Nat) (Option.some Jvm.ClassFile.FieldType.int)).before args0 about1 = true := code_word (m := ⟨5, 4⟩) (meth := k5m4) (c := k5c4) (by decide +kernel) rfl rfl rfl (by decide +kernel)
set_option maxRecDepth 65536 in
theorem w_c38 : (Jvm.Cond.code ({ cls := "jdk/internal/util/ArraysSupport", name := "newLength", desc := "(III)I" } : Jvm.MethodName) jdk_48_method_27_code (4 : Nat) (Option.some Jvm.ClassFile.FieldType.int)).before args0 about1 = true := code_word (m := ⟨20, 1⟩) (meth := k20m1) (c := k20c1) (by decide +kernel) rfl rfl rfl (by decide +kernel)
set_option maxRecDepth 65536 in
theorem w_c39 : (Jvm.Cond.code ({ cls := "java/lang/Math", name := "max", desc := "(II)I" } : Jvm.MethodName) jdk_29_method_65_code (2 : Nat) (Option.some Jvm.ClassFile.FieldType.int)).before args0 about1 = true := code_word (m := ⟨12, 2⟩) (meth := k12m2) (c := k12c2) (by decide +kernel) rfl rfl rfl (by decide +kernel)
set_option maxRecDepth 65536 in
theorem w_c40 : (Jvm.Cond.code ({ cls := "java/util/Arrays", name := "copyOf", desc := "([BI)[B" } : Jvm.MethodName) jdk_65_method_121_code (3 : Nat) (Option.some (Jvm.ClassFile.FieldType.array Jvm.ClassFile.FieldType.byte))).before args0 about1 = true := code_word (m := ⟨17, 1⟩) (meth := k17m1) (c := k17c1) (by decide +kernel) rfl rfl rfl (by decide +kernel)
set_option maxRecDepth 65536 in
theorem w_c41 : (Jvm.Cond.code ({ cls := "java/lang/Math", name := "min", desc := "(II)I" } : Jvm.MethodName) jdk_29_method_69_code (2 : Nat) (Option.some Jvm.ClassFile.FieldType.int)).before args0 about1 = true := code_word (m := ⟨12, 3⟩) (meth := k12m3) (c := k12c3) (by decide +kernel) rfl rfl rfl (by decide +kernel)
set_option maxRecDepth 65536 in
theorem w_c42 : (Jvm.Cond.code ({ cls := "java/util/Arrays", name := "copyOfRangeByte", desc := "([BII)[B" } : Jvm.MethodName) jdk_65_method_133_code (5 : Nat) (Option.some (Jvm.ClassFile.FieldType.array Jvm.ClassFile.FieldType.byte))).before args0 about1 = true := code_word (m := ⟨17, 4⟩) (meth := k17m4) (c := k17c4) (by decide +kernel) rfl rfl rfl (by decide +kernel)
set_option maxRecDepth 65536 in
theorem w_c43 : (Jvm.Cond.code ({ cls := "java/util/Arrays", name := "checkLength", desc := "(II)V" } : Jvm.MethodName) jdk_65_method_131_code (2 : Nat) (Option.none : Option Jvm.ClassFile.FieldType)).before args0 about1 = true := code_word (m := ⟨17, 2⟩) (meth := k17m2) (c := k17c2) (by decide +kernel) rfl rfl rfl (by decide +kernel)
def codes1 : List Jvm.Cond := [Jvm.Cond.code x code maxLocals ret, Jvm.Cond.code ({ cls := "com/example/neith/neith/io/DateTimeText", name := "year", desc := "(I)Ljava/lang/String;" } : Jvm.MethodName) prog_2_method_3_code (2 : Nat) (Option.some (Jvm.ClassFile.FieldType.object "java/lang/String")), Jvm.Cond.code ({ cls := "java/lang/StringBuilder", name := "<init>", desc := "(I)V" } : Jvm.MethodName) jdk_67_method_2_code (2 : Nat) (Option.none : Option Jvm.ClassFile.FieldType), Jvm.Cond.code ({ cls := "java/lang/AbstractStringBuilder", name := "<init>", desc := "(I)V" } : Jvm.MethodName) jdk_68_method_2_code (2 : Nat) (Option.none : Option Jvm.ClassFile.FieldType), Jvm.Cond.code ({ cls := "java/lang/Object", name := "<init>", desc := "()V" } : Jvm.MethodName) object_method_1_code (1 : Nat) (Option.none : Option Jvm.ClassFile.FieldType), Jvm.Cond.code ({ cls := "com/example/neith/neith/io/DateTimeText", name := "appendYear", desc := "(Ljava/lang/StringBuilder;I)V" } : Jvm.MethodName) prog_2_method_10_code (2 : Nat) (Option.none : Option Jvm.ClassFile.FieldType), Jvm.Cond.code ({ cls := "java/lang/Math", name := "abs", desc := "(I)I" } : Jvm.MethodName) jdk_29_method_59_code (1 : Nat) (Option.some Jvm.ClassFile.FieldType.int), Jvm.Cond.code ({ cls := "com/example/neith/neith/io/DateTimeText", name := "appendNumber", desc := "(Ljava/lang/StringBuilder;II)V" } : Jvm.MethodName) prog_2_method_14_code (5 : Nat) (Option.none : Option Jvm.ClassFile.FieldType), Jvm.Cond.code ({ cls := "java/lang/Integer", name := "toString", desc := "(I)Ljava/lang/String;" } : Jvm.MethodName) jdk_33_method_10_code (3 : Nat) (Option.some (Jvm.ClassFile.FieldType.object "java/lang/String")), Jvm.Cond.code ({ cls := "java/lang/Integer", name := "stringSize", desc := "(I)I" } : Jvm.MethodName) jdk_33_method_13_code (4 : Nat) (Option.some Jvm.ClassFile.FieldType.int), Jvm.Cond.code ({ cls := "java/lang/Integer", name := "getChars", desc := "(II[B)I" } : Jvm.MethodName) jdk_33_method_12_code (7 : Nat) (Option.some Jvm.ClassFile.FieldType.int), Jvm.Cond.code ({ cls := "java/lang/String", name := "<init>", desc := "([BB)V" } : Jvm.MethodName) jdk_42_method_151_code (3 : Nat) (Option.none : Option Jvm.ClassFile.FieldType), Jvm.Cond.code ({ cls := "java/lang/String", name := "length", desc := "()I" } : Jvm.MethodName) jdk_42_method_54_code (1 : Nat) (Option.some Jvm.ClassFile.FieldType.int), Jvm.Cond.code ({ cls := "java/lang/String", name := "coder", desc := "()B" } : Jvm.MethodName) jdk_42_method_152_code (1 : Nat) (Option.some Jvm.ClassFile.FieldType.byte), Jvm.Cond.code ({ cls := "java/lang/StringBuilder", name := "append", desc := "(C)Ljava/lang/StringBuilder;" } : Jvm.MethodName) jdk_67_method_14_code (2 : Nat) (Option.some (Jvm.ClassFile.FieldType.object "java/lang/StringBuilder")), Jvm.Cond.code ({ cls := "java/lang/AbstractStringBuilder", name := "append", desc := "(C)Ljava/lang/AbstractStringBuilder;" } : Jvm.MethodName) jdk_68_method_31_code (2 : Nat) (Option.some (Jvm.ClassFile.FieldType.object "java/lang/AbstractStringBuilder")), Jvm.Cond.code ({ cls := "java/lang/AbstractStringBuilder", name := "ensureCapacityInternal", desc := "(I)V" } : Jvm.MethodName) jdk_68_method_9_code (3 : Nat) (Option.none : Option Jvm.ClassFile.FieldType), Jvm.Cond.code ({ cls := "java/lang/AbstractStringBuilder", name := "isLatin1", desc := "()Z" } : Jvm.MethodName) jdk_68_method_68_code (1 : Nat) (Option.some Jvm.ClassFile.FieldType.boolean), Jvm.Cond.code ({ cls := "java/lang/StringLatin1", name := "canEncode", desc := "(C)Z" } : Jvm.MethodName) jdk_43_method_3_code (1 : Nat) (Option.some Jvm.ClassFile.FieldType.boolean), Jvm.Cond.code ({ cls := "java/lang/StringBuilder", name := "append", desc := "(Ljava/lang/String;)Ljava/lang/StringBuilder;" } : Jvm.MethodName) jdk_67_method_7_code (2 : Nat) (Option.some (Jvm.ClassFile.FieldType.object "java/lang/StringBuilder")), Jvm.Cond.code ({ cls := "java/lang/AbstractStringBuilder", name := "append", desc := "(Ljava/lang/String;)Ljava/lang/AbstractStringBuilder;" } : Jvm.MethodName) jdk_68_method_22_code (3 : Nat) (Option.some (Jvm.ClassFile.FieldType.object "java/lang/AbstractStringBuilder")), Jvm.Cond.code ({ cls := "java/lang/AbstractStringBuilder", name := "putStringAt", desc := "(ILjava/lang/String;)V" } : Jvm.MethodName) jdk_68_method_73_code (3 : Nat) (Option.none : Option Jvm.ClassFile.FieldType), Jvm.Cond.code ({ cls := "java/lang/AbstractStringBuilder", name := "inflateIfNeededFor", desc := "(Ljava/lang/String;)V" } : Jvm.MethodName) jdk_68_method_71_code (2 : Nat) (Option.none : Option Jvm.ClassFile.FieldType), Jvm.Cond.code ({ cls := "java/lang/String", name := "getBytes", desc := "([BIB)V" } : Jvm.MethodName) jdk_42_method_147_code (4 : Nat) (Option.none : Option Jvm.ClassFile.FieldType), Jvm.Cond.code ({ cls := "java/lang/StringBuilder", name := "toString", desc := "()Ljava/lang/String;" } : Jvm.MethodName) jdk_67_method_42_code (1 : Nat) (Option.some (Jvm.ClassFile.FieldType.object "java/lang/String")), Jvm.Cond.code ({ cls := "java/lang/String", name := "<init>", desc := "(Ljava/lang/StringBuilder;)V" } : Jvm.MethodName) jdk_42_method_53_code (2 : Nat) (Option.none : Option Jvm.ClassFile.FieldType), Jvm.Cond.code ({ cls := "java/lang/String", name := "<init>", desc := "(Ljava/lang/AbstractStringBuilder;Ljava/lang/Void;)V" } : Jvm.MethodName) jdk_42_method_150_code (5 : Nat) (Option.none : Option Jvm.ClassFile.FieldType), Jvm.Cond.code ({ cls := "java/lang/AbstractStringBuilder", name := "getValue", desc := "()[B" } : Jvm.MethodName) jdk_68_method_64_code (1 : Nat) (Option.some (Jvm.ClassFile.FieldType.array Jvm.ClassFile.FieldType.byte)), Jvm.Cond.code ({ cls := "java/lang/StringBuilder", name := "length", desc := "()I" } : Jvm.MethodName) jdk_67_method_93_code (1 : Nat) (Option.some Jvm.ClassFile.FieldType.int), Jvm.Cond.code ({ cls := "java/lang/AbstractStringBuilder", name := "length", desc := "()I" } : Jvm.MethodName) jdk_68_method_6_code (1 : Nat) (Option.some Jvm.ClassFile.FieldType.int), Jvm.Cond.code ({ cls := "java/util/Arrays", name := "copyOfRange", desc := "([BII)[B" } : Jvm.MethodName) jdk_65_method_132_code (3 : Nat) (Option.some (Jvm.ClassFile.FieldType.array Jvm.ClassFile.FieldType.byte)), Jvm.Cond.code ({ cls := "com/example/neith/neith/io/DateTimeTextYearPinLaw", name := "digitAt", desc := "(Ljava/lang/String;IIIII)Z" } : Jvm.MethodName) method_3_code (7 : Nat) (Option.some Jvm.ClassFile.FieldType.boolean), Jvm.Cond.code ({ cls := "java/lang/String", name := "charAt", desc := "(I)C" } : Jvm.MethodName) jdk_42_method_56_code (2 : Nat) (Option.some Jvm.ClassFile.FieldType.char), Jvm.Cond.code ({ cls := "java/lang/String", name := "isLatin1", desc := "()Z" } : Jvm.MethodName) jdk_42_method_154_code (1 : Nat) (Option.some Jvm.ClassFile.FieldType.boolean), Jvm.Cond.code ({ cls := "java/lang/StringLatin1", name := "charAt", desc := "([BI)C" } : Jvm.MethodName) jdk_43_method_2_code (2 : Nat) (Option.some Jvm.ClassFile.FieldType.char), Jvm.Cond.code ({ cls := "java/lang/String", name := "checkIndex", desc := "(II)V" } : Jvm.MethodName) jdk_42_method_155_code (2 : Nat) (Option.none : Option Jvm.ClassFile.FieldType), Jvm.Cond.code ({ cls := "jdk/internal/util/Preconditions", name := "checkIndex", desc := "(IILjava/util/function/BiFunction;)I" } : Jvm.MethodName) jdk_41_method_11_code (3 : Nat) (Option.some Jvm.ClassFile.FieldType.int), Jvm.Cond.code ({ cls := "java/lang/AbstractStringBuilder", name := "newCapacity", desc := "(I)I" } : Jvm.MethodName) jdk_68_method_10_code (6 : Nat) (Option.some Jvm.ClassFile.FieldType.int), Jvm.Cond.code ({ cls := "jdk/internal/util/ArraysSupport", name := "newLength", desc := "(III)I" } : Jvm.MethodName) jdk_48_method_27_code (4 : Nat) (Option.some Jvm.ClassFile.FieldType.int), Jvm.Cond.code ({ cls := "java/lang/Math", name := "max", desc := "(II)I" } : Jvm.MethodName) jdk_29_method_65_code (2 : Nat) (Option.some Jvm.ClassFile.FieldType.int), Jvm.Cond.code ({ cls := "java/util/Arrays", name := "copyOf", desc := "([BI)[B" } : Jvm.MethodName) jdk_65_method_121_code (3 : Nat) (Option.some (Jvm.ClassFile.FieldType.array Jvm.ClassFile.FieldType.byte)), Jvm.Cond.code ({ cls := "java/lang/Math", name := "min", desc := "(II)I" } : Jvm.MethodName) jdk_29_method_69_code (2 : Nat) (Option.some Jvm.ClassFile.FieldType.int), Jvm.Cond.code ({ cls := "java/util/Arrays", name := "copyOfRangeByte", desc := "([BII)[B" } : Jvm.MethodName) jdk_65_method_133_code (5 : Nat) (Option.some (Jvm.ClassFile.FieldType.array Jvm.ClassFile.FieldType.byte)), Jvm.Cond.code ({ cls := "java/util/Arrays", name := "checkLength", desc := "(II)V" } : Jvm.MethodName) jdk_65_method_131_code (2 : Nat) (Option.none : Option Jvm.ClassFile.FieldType)]
set_option maxRecDepth 65536 in
theorem codes_eq : words1.filter isCode = codes1 := rfl
theorem w_codes : ∀ c ∈ words1.filter isCode, c.before args0 about1 = true := by
  rw [codes_eq]
  intro c hc
  simp only [codes1, List.mem_cons, List.not_mem_nil, or_false] at hc
  rcases hc with rfl | rfl | rfl | rfl | rfl | rfl | rfl | rfl | rfl | rfl | rfl | rfl | rfl | rfl | rfl | rfl | rfl | rfl | rfl | rfl | rfl | rfl | rfl | rfl | rfl | rfl | rfl | rfl | rfl | rfl | rfl | rfl | rfl | rfl | rfl | rfl | rfl | rfl | rfl | rfl | rfl | rfl | rfl | rfl
  · exact w_c0
  · exact w_c1
  · exact w_c2
  · exact w_c3
  · exact w_c4
  · exact w_c5
  · exact w_c6
  · exact w_c7
  · exact w_c8
  · exact w_c9
  · exact w_c10
  · exact w_c11
  · exact w_c12
  · exact w_c13
  · exact w_c14
  · exact w_c15
  · exact w_c16
  · exact w_c17
  · exact w_c18
  · exact w_c19
  · exact w_c20
  · exact w_c21
  · exact w_c22
  · exact w_c23
  · exact w_c24
  · exact w_c25
  · exact w_c26
  · exact w_c27
  · exact w_c28
  · exact w_c29
  · exact w_c30
  · exact w_c31
  · exact w_c32
  · exact w_c33
  · exact w_c34
  · exact w_c35
  · exact w_c36
  · exact w_c37
  · exact w_c38
  · exact w_c39
  · exact w_c40
  · exact w_c41
  · exact w_c42
  · exact w_c43
set_option maxRecDepth 65536 in
theorem w_t1 : (words1.take 24).all (fun c => isCode c || c.before args0 about1) = true := by decide +kernel
set_option maxRecDepth 65536 in
theorem w_t2 : ((words1.drop 24).take 24).all (fun c => isCode c || c.before args0 about1) = true := by decide +kernel
set_option maxRecDepth 65536 in
theorem w_t3 : (((words1.drop 24).drop 24).take 24).all (fun c => isCode c || c.before args0 about1) = true := by decide +kernel
set_option maxRecDepth 65536 in
theorem w_t4 : ((((words1.drop 24).drop 24).drop 24).take 24).all (fun c => isCode c || c.before args0 about1) = true := by decide +kernel
set_option maxRecDepth 65536 in
theorem w_t5 : (((((words1.drop 24).drop 24).drop 24).drop 24).take 24).all (fun c => isCode c || c.before args0 about1) = true := by decide +kernel
set_option maxRecDepth 65536 in
theorem w_t6 : ((((((words1.drop 24).drop 24).drop 24).drop 24).drop 24).take 24).all (fun c => isCode c || c.before args0 about1) = true := by decide +kernel
set_option maxRecDepth 65536 in
theorem w_t7 : (((((((words1.drop 24).drop 24).drop 24).drop 24).drop 24).drop 24).take 24).all (fun c => isCode c || c.before args0 about1) = true := by decide +kernel
set_option maxRecDepth 65536 in
theorem w_t8 : ((((((((words1.drop 24).drop 24).drop 24).drop 24).drop 24).drop 24).drop 24).take 24).all (fun c => isCode c || c.before args0 about1) = true := by decide +kernel
set_option maxRecDepth 65536 in
theorem w_t9 : (((((((((words1.drop 24).drop 24).drop 24).drop 24).drop 24).drop 24).drop 24).drop 24).take 24).all (fun c => isCode c || c.before args0 about1) = true := by decide +kernel
set_option maxRecDepth 65536 in
theorem w_t10 : (((((((((words1.drop 24).drop 24).drop 24).drop 24).drop 24).drop 24).drop 24).drop 24).drop 24).all (fun c => isCode c || c.before args0 about1) = true := by decide +kernel
theorem w_tables : (allAtoms (Jvm.Cond.code x code maxLocals ret :: tables_1)).before args0 about1 = true := by
  rw [allAtoms_all]
  show words1.all (fun c => c.before args0 about1) = true
  refine all_split ?_ w_codes
  rw [← List.take_append_drop 24 words1, List.all_append, w_t1, ← List.take_append_drop 24 (words1.drop 24), List.all_append, w_t2, ← List.take_append_drop 24 ((words1.drop 24).drop 24), List.all_append, w_t3, ← List.take_append_drop 24 (((words1.drop 24).drop 24).drop 24), List.all_append, w_t4, ← List.take_append_drop 24 ((((words1.drop 24).drop 24).drop 24).drop 24), List.all_append, w_t5, ← List.take_append_drop 24 (((((words1.drop 24).drop 24).drop 24).drop 24).drop 24), List.all_append, w_t6, ← List.take_append_drop 24 ((((((words1.drop 24).drop 24).drop 24).drop 24).drop 24).drop 24), List.all_append, w_t7, ← List.take_append_drop 24 (((((((words1.drop 24).drop 24).drop 24).drop 24).drop 24).drop 24).drop 24), List.all_append, w_t8, ← List.take_append_drop 24 ((((((((words1.drop 24).drop 24).drop 24).drop 24).drop 24).drop 24).drop 24).drop 24), List.all_append, w_t9, w_t10]
  rfl
set_option maxRecDepth 65536 in
theorem w_rest : rest_1_c.before args0 about1 = true := by decide +kernel
set_option maxRecDepth 65536 in
theorem w_case : (Jvm.Cond.and given_1 narrow_1).before args0 about1 = true := by decide +kernel
theorem w_applies : (headSpec (Jvm.Cond.code x code maxLocals ret :: tables_1) room_1).applies x e0.platform about1 = true :=
  (Spec.applies_iff w_frames).mpr ⟨w_running, w_runnable, w_alone, w_named, w_hears, w_ripe, w_room, w_tables⟩
theorem atStart : AtStart classFile x code maxLocals ret World_1 tables_1 room_1 Calls_1 rest_1 Pre_1 launch0 p0 e0 about1 theMethod args0 below0 :=
  ⟨lists_1, trivial, launch0.admits_env _ _ _, launch0.least_env, fairChoices_fair.cas, fairChoices_fair.clock, w_frames, w_args, w_heap, w_applies, trivial, w_rest, w_case⟩
end start1
theorem witness_1 : WitnessClaimed_1 := ⟨start1.p0, start1.e0, start1.about1, start1.theMethod, start1.args0, start1.below0, start1.atStart⟩
end Jvm.Pilot.@@N@@
