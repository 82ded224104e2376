import JvmDerived
import JvmDerived.Pilot.@@N@@Statement
import JvmDerived.Pilot.@@N@@Code
set_option linter.unusedVariables false
set_option linter.unusedSimpArgs false
namespace Jvm.RoadKit
open Sem ClassFile Op Lib Jvm.Stand Jvm.Free Jvm.LawKit
section New
variable {p : Program} {l : Launch} {e : Env} {R : Room} {s : State} {m : MethodId} {args : Array Value} {below : List Frame} {meth : Method} {c : Code} {T : State} {locs : List Loc} {cells slots : Nat}
theorem retI (X : Stand p l e R s m args below meth c T locs cells slots) (hx : p.tables.exec = Jvm.exec) {pc : Nat} {Ls : Array Slot} {z : Int32} {rest : List Value} (hret : meth.sig.returnType = some .int) (hd : decode c.code pc = .ok (.ireturn, 1)) {fs : List Frame}
    (hl : ∀ (f : JFrame) (acts : List Action), f.method = m → f.locked = none → f.entered = [] → (doReturn e (T.setTop f) acts (some (.int z))).1 = T.setFrames fs) : Steps p.tables e below (T.setTop (mkF m pc Ls (.int z :: rest))) (T.setFrames fs) := by
  have hm' : T.vm.method? m = some meth := X.method'
  have hn : narrow .int (.int z) = .int z := rfl
  show Steps p.tables e below (T.setTop { method := m, pc := pc, locals := Ls, stack := _ :: rest, locked := none }) _
  jvm_step X.here [X.here.top, hx, hd, hm', hret, hn]
  first | (intro acts; rw [hl _ acts rfl rfl rfl]) | rw [hl _ _ rfl rfl rfl]
  exact Steps.refl _
end New
end Jvm.RoadKit
namespace Jvm.Pilot.@@N@@
set_option maxRecDepth 65536
set_option maxHeartbeats 40000000
open Jvm Jvm.ClassFile Sem Op Lib Jvm.Free Jvm.Stand Jvm.LawKit Jvm.RoadKit Bundle Jvm.Pilot.@@N@@.Jvm.D
section OwnKit
variable {p : Program} {l : Launch} {e : Env} {R : Room} {s : State} {m : MethodId} {args : Array Value} {below : List Frame} {meth : Method} {c : Code} {T : State} {locs : List Loc} {cells slots : Nat} {Z : State} {a0 : Array Value} {h : Heap} {P : Outcome → State → Prop} {pc pc' pc1 pc2 : Nat} {L L' : Array Slot} {S : List Value}
/-- the run from U comes to an end that P holds of -/
def OG (p : Program) (e : Env) (below : List Frame) (P : Outcome → State → Prop) (U : State) : Prop := ∃ s₂ o, Steps p.tables e below U s₂ ∧ s₂.status = .running ∧ Ended s₂ below o ∧ P o s₂
theorem OG.of {U U' : State} (k : ∀ t, Steps p.tables e below U' t → Steps p.tables e below U t) (h : OG p e below P U') : OG p e below P U := by
  obtain ⟨t, o, h1, h2⟩ := h; exact ⟨t, o, k t h1, h2⟩
theorem OG.cast {g g' : JFrame} (q : g = g') (k : OG p e below P (T.setTop g')) : OG p e below P (T.setTop g) := q ▸ k
theorem og_iadd (X : Stand p l e R s m args below meth c T locs cells slots) (hx : p.tables.exec = Jvm.exec) {x y : Int32} (hd : decode c.code pc = .ok (.iadd, 1)) (hp : pc + 1 = pc') (k : OG p e below P (T.setTop (mkF m pc' L (.int (x + y) :: S)))) : OG p e below P (T.setTop (mkF m pc L (.int y :: .int x :: S))) := by
  subst hp; exact OG.of (fun t k => XS.iadd X.here hx rfl hd rfl k) k
theorem og_isub (X : Stand p l e R s m args below meth c T locs cells slots) (hx : p.tables.exec = Jvm.exec) {x y : Int32} (hd : decode c.code pc = .ok (.isub, 1)) (hp : pc + 1 = pc') (k : OG p e below P (T.setTop (mkF m pc' L (.int (x - y) :: S)))) : OG p e below P (T.setTop (mkF m pc L (.int y :: .int x :: S))) := by
  subst hp; exact OG.of (fun t k => XS.isub X.here hx rfl hd rfl k) k
theorem og_iand (X : Stand p l e R s m args below meth c T locs cells slots) (hx : p.tables.exec = Jvm.exec) {x y : Int32} (hd : decode c.code pc = .ok (.iand, 1)) (hp : pc + 1 = pc') (k : OG p e below P (T.setTop (mkF m pc' L (.int (x &&& y) :: S)))) : OG p e below P (T.setTop (mkF m pc L (.int y :: .int x :: S))) := by
  subst hp; exact OG.of (fun t k => XS.iand X.here hx rfl hd rfl k) k
theorem og_land (X : Stand p l e R s m args below meth c T locs cells slots) (hx : p.tables.exec = Jvm.exec) {x y : Int64} (hd : decode c.code pc = .ok (.land, 1)) (hp : pc + 1 = pc') (k : OG p e below P (T.setTop (mkF m pc' L (.long (x &&& y) :: S)))) : OG p e below P (T.setTop (mkF m pc L (.long y :: .long x :: S))) := by
  subst hp; exact OG.of (fun t k => XS.land X.here hx rfl hd rfl k) k
theorem og_irem (X : Stand p l e R s m args below meth c T locs cells slots) (hx : p.tables.exec = Jvm.exec) {x y : Int32} (hy : y ≠ 0) (hd : decode c.code pc = .ok (.irem, 1)) (hp : pc + 1 = pc') (k : OG p e below P (T.setTop (mkF m pc' L (.int (x % y) :: S)))) : OG p e below P (T.setTop (mkF m pc L (.int y :: .int x :: S))) := by
  subst hp; exact OG.of (fun t k => iremM X hx rfl hd rfl hy k) k
theorem og_ishr (X : Stand p l e R s m args below meth c T locs cells slots) (hx : p.tables.exec = Jvm.exec) {x y : Int32} (hd : decode c.code pc = .ok (.ishr, 1)) (hp : pc + 1 = pc') (k : OG p e below P (T.setTop (mkF m pc' L (.int (x >>> (y &&& 31)) :: S)))) : OG p e below P (T.setTop (mkF m pc L (.int y :: .int x :: S))) := by
  subst hp; exact OG.of (fun t k => XS.ishr X.here hx rfl hd rfl k) k
theorem og_iushr (X : Stand p l e R s m args below meth c T locs cells slots) (hx : p.tables.exec = Jvm.exec) {x y : Int32} (hd : decode c.code pc = .ok (.iushr, 1)) (hp : pc + 1 = pc') (k : OG p e below P (T.setTop (mkF m pc' L (.int ((x.toUInt32 >>> (y &&& 31).toUInt32).toInt32) :: S)))) : OG p e below P (T.setTop (mkF m pc L (.int y :: .int x :: S))) := by
  subst hp; exact OG.of (fun t k => XS.iushr X.here hx rfl hd rfl k) k
theorem og_lushr (X : Stand p l e R s m args below meth c T locs cells slots) (hx : p.tables.exec = Jvm.exec) {x : Int64} {y : Int32} (hd : decode c.code pc = .ok (.lushr, 1)) (hp : pc + 1 = pc') (k : OG p e below P (T.setTop (mkF m pc' L (.long ((x.toUInt64 >>> (y &&& 0x3f).toInt64.toUInt64).toInt64) :: S)))) : OG p e below P (T.setTop (mkF m pc L (.int y :: .long x :: S))) := by
  subst hp; exact OG.of (fun t k => XS.lushr X.here hx rfl hd rfl k) k
theorem og_l2i (X : Stand p l e R s m args below meth c T locs cells slots) (hx : p.tables.exec = Jvm.exec) {x : Int64} (hd : decode c.code pc = .ok (.l2i, 1)) (hp : pc + 1 = pc') (k : OG p e below P (T.setTop (mkF m pc' L (.int (x.toInt32) :: S)))) : OG p e below P (T.setTop (mkF m pc L (.long x :: S))) := by
  subst hp; exact OG.of (fun t k => XS.l2i X.here hx rfl hd rfl k) k
theorem og_i2b (X : Stand p l e R s m args below meth c T locs cells slots) (hx : p.tables.exec = Jvm.exec) {x : Int32} (hd : decode c.code pc = .ok (.i2b, 1)) (hp : pc + 1 = pc') (k : OG p e below P (T.setTop (mkF m pc' L (.int (x.toInt8.toInt32) :: S)))) : OG p e below P (T.setTop (mkF m pc L (.int x :: S))) := by
  subst hp; exact OG.of (fun t k => XS.i2b X.here hx rfl hd rfl k) k
theorem og_i2c (X : Stand p l e R s m args below meth c T locs cells slots) (hx : p.tables.exec = Jvm.exec) {x : Int32} (hd : decode c.code pc = .ok (.i2c, 1)) (hp : pc + 1 = pc') (k : OG p e below P (T.setTop (mkF m pc' L (.int (x.toUInt32.toUInt16.toUInt32.toInt32) :: S)))) : OG p e below P (T.setTop (mkF m pc L (.int x :: S))) := by
  subst hp; exact OG.of (fun t k => XS.i2c X.here hx rfl hd rfl k) k
theorem og_iconst (X : Stand p l e R s m args below meth c T locs cells slots) (hx : p.tables.exec = Jvm.exec) {i : Int} {v : Int32} (hv : Int32.ofInt i = v) (hd : decode c.code pc = .ok (.iconst i, 1)) (hp : pc + 1 = pc') (k : OG p e below P (T.setTop (mkF m pc' L (.int v :: S)))) : OG p e below P (T.setTop (mkF m pc L S)) := by
  subst hp; exact OG.of (fun t k => XS.iconst X.here hx rfl hd (hv ▸ k)) k
theorem og_bipush (X : Stand p l e R s m args below meth c T locs cells slots) (hx : p.tables.exec = Jvm.exec) {i : Int} {v : Int32} (hv : (Int8.ofInt i).toInt32 = v) (hd : decode c.code pc = .ok (.bipush i, 2)) (hp : pc + 2 = pc') (k : OG p e below P (T.setTop (mkF m pc' L (.int v :: S)))) : OG p e below P (T.setTop (mkF m pc L S)) := by
  subst hp; exact OG.of (fun t k => XS.bipush X.here hx rfl hd (hv ▸ k)) k
theorem og_sipush (X : Stand p l e R s m args below meth c T locs cells slots) (hx : p.tables.exec = Jvm.exec) {i : Int} {v : Int32} (hv : (Int16.ofInt i).toInt32 = v) (hd : decode c.code pc = .ok (.sipush i, 3)) (hp : pc + 3 = pc') (k : OG p e below P (T.setTop (mkF m pc' L (.int v :: S)))) : OG p e below P (T.setTop (mkF m pc L S)) := by
  subst hp; exact OG.of (fun t k => XS.sipush X.here hx rfl hd (hv ▸ k)) k
theorem og_aconst_null (X : Stand p l e R s m args below meth c T locs cells slots) (hx : p.tables.exec = Jvm.exec)  (hd : decode c.code pc = .ok (.aconst_null, 1)) (hp : pc + 1 = pc') (k : OG p e below P (T.setTop (mkF m pc' L (.null :: S)))) : OG p e below P (T.setTop (mkF m pc L S)) := by
  subst hp; exact OG.of (fun t k => XS.aconstNull X.here hx rfl hd k) k
theorem og_iload (X : Stand p l e R s m args below meth c T locs cells slots) (hx : p.tables.exec = Jvm.exec) {j : Nat} {v : Int32} (hl : L[j]? = some (.val (.int v))) (hd : decode c.code pc = .ok (.iload j, 2)) (hp : pc + 2 = pc') (k : OG p e below P (T.setTop (mkF m pc' L (.int v :: S)))) : OG p e below P (T.setTop (mkF m pc L S)) := by
  subst hp; exact OG.of (fun t k => XS.iload X.here hx rfl hd hl k) k
theorem og_iloadN (X : Stand p l e R s m args below meth c T locs cells slots) (hx : p.tables.exec = Jvm.exec) {j : Fin 4} {v : Int32} (hl : L[j.val]? = some (.val (.int v))) (hd : decode c.code pc = .ok (.iload_n j, 1)) (hp : pc + 1 = pc') (k : OG p e below P (T.setTop (mkF m pc' L (.int v :: S)))) : OG p e below P (T.setTop (mkF m pc L S)) := by
  subst hp; exact OG.of (fun t k => XS.iloadN X.here hx rfl hd hl k) k
theorem og_istore (X : Stand p l e R s m args below meth c T locs cells slots) (hx : p.tables.exec = Jvm.exec) {j : Nat} {v : Int32} (hl : storeLocals L j (.int v) = some L') (hd : decode c.code pc = .ok (.istore j, 2)) (hp : pc + 2 = pc') (k : OG p e below P (T.setTop (mkF m pc' L' S))) : OG p e below P (T.setTop (mkF m pc L (.int v :: S))) := by
  subst hp; exact OG.of (fun t k => XS.istore X.here hx rfl hd rfl hl k) k
theorem og_istoreN (X : Stand p l e R s m args below meth c T locs cells slots) (hx : p.tables.exec = Jvm.exec) {j : Fin 4} {v : Int32} (hl : storeLocals L j.val (.int v) = some L') (hd : decode c.code pc = .ok (.istore_n j, 1)) (hp : pc + 1 = pc') (k : OG p e below P (T.setTop (mkF m pc' L' S))) : OG p e below P (T.setTop (mkF m pc L (.int v :: S))) := by
  subst hp; exact OG.of (fun t k => XS.istoreN X.here hx rfl hd rfl hl k) k
theorem og_lloadN (X : Stand p l e R s m args below meth c T locs cells slots) (hx : p.tables.exec = Jvm.exec) {j : Fin 4} {v : Int64} (hl : L[j.val]? = some (.val (.long v))) (hd : decode c.code pc = .ok (.lload_n j, 1)) (hp : pc + 1 = pc') (k : OG p e below P (T.setTop (mkF m pc' L (.long v :: S)))) : OG p e below P (T.setTop (mkF m pc L S)) := by
  subst hp; exact OG.of (fun t k => XS.lloadN X.here hx rfl hd hl k) k
theorem og_aload (X : Stand p l e R s m args below meth c T locs cells slots) (hx : p.tables.exec = Jvm.exec) {j : Nat} {v : Value} (hl : L[j]? = some (.val v)) (hv : v.isRef = true) (hd : decode c.code pc = .ok (.aload j, 2)) (hp : pc + 2 = pc') (k : OG p e below P (T.setTop (mkF m pc' L (v :: S)))) : OG p e below P (T.setTop (mkF m pc L S)) := by
  subst hp; exact OG.of (fun t k => XS.aload X.here hx rfl hd hl hv k) k
theorem og_aloadN (X : Stand p l e R s m args below meth c T locs cells slots) (hx : p.tables.exec = Jvm.exec) {j : Fin 4} {v : Value} (hl : L[j.val]? = some (.val v)) (hv : v.isRef = true) (hd : decode c.code pc = .ok (.aload_n j, 1)) (hp : pc + 1 = pc') (k : OG p e below P (T.setTop (mkF m pc' L (v :: S)))) : OG p e below P (T.setTop (mkF m pc L S)) := by
  subst hp; exact OG.of (fun t k => XS.aloadN X.here hx rfl hd hl hv k) k
theorem og_astore (X : Stand p l e R s m args below meth c T locs cells slots) (hx : p.tables.exec = Jvm.exec) {j : Nat} {v : Value} (hv : v.isRef = true) (hl : storeLocals L j v = some L') (hd : decode c.code pc = .ok (.astore j, 2)) (hp : pc + 2 = pc') (k : OG p e below P (T.setTop (mkF m pc' L' S))) : OG p e below P (T.setTop (mkF m pc L (v :: S))) := by
  subst hp; exact OG.of (fun t k => XS.astore X.here hx rfl hd rfl hv hl k) k
theorem og_astoreN (X : Stand p l e R s m args below meth c T locs cells slots) (hx : p.tables.exec = Jvm.exec) {j : Fin 4} {v : Value} (hv : v.isRef = true) (hl : storeLocals L j.val v = some L') (hd : decode c.code pc = .ok (.astore_n j, 1)) (hp : pc + 1 = pc') (k : OG p e below P (T.setTop (mkF m pc' L' S))) : OG p e below P (T.setTop (mkF m pc L (v :: S))) := by
  subst hp; exact OG.of (fun t k => XS.astoreN X.here hx rfl hd rfl hv hl k) k
theorem og_iinc (X : Stand p l e R s m args below meth c T locs cells slots) (hx : p.tables.exec = Jvm.exec) {j : Nat} {i : Int} {v w : Int32} (h1 : L[j]? = some (.val (.int v))) (hv : Int32.ofInt i = w) (hl : storeLocals L j (.int (v + w)) = some L') (hd : decode c.code pc = .ok (.iinc j i, 3)) (hp : pc + 3 = pc') (k : OG p e below P (T.setTop (mkF m pc' L' S))) : OG p e below P (T.setTop (mkF m pc L S)) := by
  subst hp; exact OG.of (fun t k => XS.iinc X.here hx rfl hd h1 (hv.symm ▸ hl) k) k
theorem og_dup (X : Stand p l e R s m args below meth c T locs cells slots) (hx : p.tables.exec = Jvm.exec) {v : Value} (hv : v.category = 1) (hd : decode c.code pc = .ok (.dup, 1)) (hp : pc + 1 = pc') (k : OG p e below P (T.setTop (mkF m pc' L (v :: v :: S)))) : OG p e below P (T.setTop (mkF m pc L (v :: S))) := by
  subst hp; exact OG.of (fun t k => XS.dup X.here hx rfl hd rfl hv k) k
theorem og_pop (X : Stand p l e R s m args below meth c T locs cells slots) (hx : p.tables.exec = Jvm.exec) {v : Value} (hv : v.category = 1) (hd : decode c.code pc = .ok (.pop, 1)) (hp : pc + 1 = pc') (k : OG p e below P (T.setTop (mkF m pc' L S))) : OG p e below P (T.setTop (mkF m pc L (v :: S))) := by
  subst hp; exact OG.of (fun t k => XS.pop X.here hx rfl hd rfl hv k) k
theorem og_goto (X : Stand p l e R s m args below meth c T locs cells slots) (hx : p.tables.exec = Jvm.exec) {o : Int} (hd : decode c.code pc = .ok (.goto o, 3)) (ho : 0 ≤ (pc : Int) + o) (hp : ((pc : Int) + o).toNat = pc') (k : OG p e below P (T.setTop (mkF m pc' L S))) : OG p e below P (T.setTop (mkF m pc L S)) :=
  OG.of (fun t k => XS.goto X.here hx rfl rfl hd ho hp k) k
theorem og_icmp_lt (X : Stand p l e R s m args below meth c T locs cells slots) (hx : p.tables.exec = Jvm.exec) {x y : Int32} {o : Int} (hd : decode c.code pc = .ok (.if_icmp .lt o, 3)) (ho : 0 ≤ (pc : Int) + o) (hp1 : ((pc : Int) + o).toNat = pc1) (hp2 : pc + 3 = pc2) (k1 : x < y → OG p e below P (T.setTop (mkF m pc1 L S))) (k2 : ¬ x < y → OG p e below P (T.setTop (mkF m pc2 L S))) : OG p e below P (T.setTop (mkF m pc L (.int y :: .int x :: S))) := by
  subst hp2; by_cases q : x < y
  · exact OG.of (fun t k => XS.icmpYes X.here hx rfl rfl hd rfl ((tlt q).1) ho hp1 k) (k1 q)
  · exact OG.of (fun t k => XS.icmpNo X.here hx rfl hd rfl ((flt q).1) k) (k2 q)
theorem og_if_lt (X : Stand p l e R s m args below meth c T locs cells slots) (hx : p.tables.exec = Jvm.exec) {x : Int32} {o : Int} (hd : decode c.code pc = .ok (.ifCond .lt o, 3)) (ho : 0 ≤ (pc : Int) + o) (hp1 : ((pc : Int) + o).toNat = pc1) (hp2 : pc + 3 = pc2) (k1 : x < (0 : Int32) → OG p e below P (T.setTop (mkF m pc1 L S))) (k2 : ¬ x < (0 : Int32) → OG p e below P (T.setTop (mkF m pc2 L S))) : OG p e below P (T.setTop (mkF m pc L (.int x :: S))) := by
  subst hp2; by_cases q : x < (0 : Int32)
  · exact OG.of (fun t k => XS.ifYes X.here hx rfl rfl hd rfl ((if0 _ _).trans (tlt q).1) ho hp1 k) (k1 q)
  · exact OG.of (fun t k => XS.ifNo X.here hx rfl hd rfl ((if0 _ _).trans (flt q).1) k) (k2 q)
theorem og_icmp_ge (X : Stand p l e R s m args below meth c T locs cells slots) (hx : p.tables.exec = Jvm.exec) {x y : Int32} {o : Int} (hd : decode c.code pc = .ok (.if_icmp .ge o, 3)) (ho : 0 ≤ (pc : Int) + o) (hp1 : ((pc : Int) + o).toNat = pc1) (hp2 : pc + 3 = pc2) (k1 : ¬ x < y → OG p e below P (T.setTop (mkF m pc1 L S))) (k2 : x < y → OG p e below P (T.setTop (mkF m pc2 L S))) : OG p e below P (T.setTop (mkF m pc L (.int y :: .int x :: S))) := by
  subst hp2; by_cases q : x < y
  · exact OG.of (fun t k => XS.icmpNo X.here hx rfl hd rfl ((tlt q).2.1) k) (k2 q)
  · exact OG.of (fun t k => XS.icmpYes X.here hx rfl rfl hd rfl ((flt q).2.1) ho hp1 k) (k1 q)
theorem og_icmp_le (X : Stand p l e R s m args below meth c T locs cells slots) (hx : p.tables.exec = Jvm.exec) {x y : Int32} {o : Int} (hd : decode c.code pc = .ok (.if_icmp .le o, 3)) (ho : 0 ≤ (pc : Int) + o) (hp1 : ((pc : Int) + o).toNat = pc1) (hp2 : pc + 3 = pc2) (k1 : ¬ y < x → OG p e below P (T.setTop (mkF m pc1 L S))) (k2 : y < x → OG p e below P (T.setTop (mkF m pc2 L S))) : OG p e below P (T.setTop (mkF m pc L (.int y :: .int x :: S))) := by
  subst hp2; by_cases q : y < x
  · exact OG.of (fun t k => XS.icmpNo X.here hx rfl hd rfl ((tlt q).2.2.2) k) (k2 q)
  · exact OG.of (fun t k => XS.icmpYes X.here hx rfl rfl hd rfl ((flt q).2.2.2) ho hp1 k) (k1 q)
theorem og_icmp_eq (X : Stand p l e R s m args below meth c T locs cells slots) (hx : p.tables.exec = Jvm.exec) {x y : Int32} {o : Int} (hd : decode c.code pc = .ok (.if_icmp .eq o, 3)) (ho : 0 ≤ (pc : Int) + o) (hp1 : ((pc : Int) + o).toNat = pc1) (hp2 : pc + 3 = pc2) (k1 : x = y → OG p e below P (T.setTop (mkF m pc1 L S))) (k2 : ¬ x = y → OG p e below P (T.setTop (mkF m pc2 L S))) : OG p e below P (T.setTop (mkF m pc L (.int y :: .int x :: S))) := by
  subst hp2; by_cases q : x = y
  · exact OG.of (fun t k => XS.icmpYes X.here hx rfl rfl hd rfl ((teq q).1) ho hp1 k) (k1 q)
  · exact OG.of (fun t k => XS.icmpNo X.here hx rfl hd rfl ((feq q).1) k) (k2 q)
theorem og_if_eq (X : Stand p l e R s m args below meth c T locs cells slots) (hx : p.tables.exec = Jvm.exec) {x : Int32} {o : Int} (hd : decode c.code pc = .ok (.ifCond .eq o, 3)) (ho : 0 ≤ (pc : Int) + o) (hp1 : ((pc : Int) + o).toNat = pc1) (hp2 : pc + 3 = pc2) (k1 : x = (0 : Int32) → OG p e below P (T.setTop (mkF m pc1 L S))) (k2 : ¬ x = (0 : Int32) → OG p e below P (T.setTop (mkF m pc2 L S))) : OG p e below P (T.setTop (mkF m pc L (.int x :: S))) := by
  subst hp2; by_cases q : x = (0 : Int32)
  · exact OG.of (fun t k => XS.ifYes X.here hx rfl rfl hd rfl ((if0 _ _).trans (teq q).1) ho hp1 k) (k1 q)
  · exact OG.of (fun t k => XS.ifNo X.here hx rfl hd rfl ((if0 _ _).trans (feq q).1) k) (k2 q)
theorem og_icmp_ne (X : Stand p l e R s m args below meth c T locs cells slots) (hx : p.tables.exec = Jvm.exec) {x y : Int32} {o : Int} (hd : decode c.code pc = .ok (.if_icmp .ne o, 3)) (ho : 0 ≤ (pc : Int) + o) (hp1 : ((pc : Int) + o).toNat = pc1) (hp2 : pc + 3 = pc2) (k1 : ¬ x = y → OG p e below P (T.setTop (mkF m pc1 L S))) (k2 : x = y → OG p e below P (T.setTop (mkF m pc2 L S))) : OG p e below P (T.setTop (mkF m pc L (.int y :: .int x :: S))) := by
  subst hp2; by_cases q : x = y
  · exact OG.of (fun t k => XS.icmpNo X.here hx rfl hd rfl ((teq q).2) k) (k2 q)
  · exact OG.of (fun t k => XS.icmpYes X.here hx rfl rfl hd rfl ((feq q).2) ho hp1 k) (k1 q)
theorem og_if_ne (X : Stand p l e R s m args below meth c T locs cells slots) (hx : p.tables.exec = Jvm.exec) {x : Int32} {o : Int} (hd : decode c.code pc = .ok (.ifCond .ne o, 3)) (ho : 0 ≤ (pc : Int) + o) (hp1 : ((pc : Int) + o).toNat = pc1) (hp2 : pc + 3 = pc2) (k1 : ¬ x = (0 : Int32) → OG p e below P (T.setTop (mkF m pc1 L S))) (k2 : x = (0 : Int32) → OG p e below P (T.setTop (mkF m pc2 L S))) : OG p e below P (T.setTop (mkF m pc L (.int x :: S))) := by
  subst hp2; by_cases q : x = (0 : Int32)
  · exact OG.of (fun t k => XS.ifNo X.here hx rfl hd rfl ((if0 _ _).trans (teq q).2) k) (k2 q)
  · exact OG.of (fun t k => XS.ifYes X.here hx rfl rfl hd rfl ((if0 _ _).trans (feq q).2) ho hp1 k) (k1 q)
theorem og_acmp_ne (X : Stand p l e R s m args below meth c T locs cells slots) (hx : p.tables.exec = Jvm.exec) {v w : Value} (hv : v.isRef = true) (hw : w.isRef = true) {o : Int} (hd : decode c.code pc = .ok (.if_acmp .ne o, 3)) (ho : 0 ≤ (pc : Int) + o) (hp1 : ((pc : Int) + o).toNat = pc1) (hp2 : pc + 3 = pc2) (k1 : ¬ v = w → OG p e below P (T.setTop (mkF m pc1 L S))) (k2 : v = w → OG p e below P (T.setTop (mkF m pc2 L S))) : OG p e below P (T.setTop (mkF m pc L (w :: v :: S))) := by
  subst hp2 hp1; by_cases q : v = w
  · exact OG.of (fun t k => Jvm.RoadKit.acmp X hx rfl hv hw (same := true) rfl hd rfl (decide_eq_true q) ho rfl k) (k2 q)
  · exact OG.of (fun t k => Jvm.RoadKit.acmp X hx rfl hv hw (same := false) rfl hd rfl (decide_eq_false q) ho rfl k) (k1 q)
theorem og_ldc (X : Stand p l e R s m args below meth c T locs cells slots) (hx : p.tables.exec = Jvm.exec) (hZ : Z.Warmed39 s.vm) {own : String} {index : Nat} {v : Int32} (hown : s.vm.findClass own = some m.cls) (w : (Cond.constant own index v).before a0 Z = true) (hd : decode c.code pc = .ok (.ldc index, 2)) (hp : pc + 2 = pc') (k : OG p e below P (T.setTop (mkF m pc' L (.int v :: S)))) : OG p e below P (T.setTop (mkF m pc L S)) := by
  subst hp; exact OG.of (X.ldcInt hx hown (mvT hZ w) (g := mkF m pc L S) rfl hd) k
theorem og_ldc2 (X : Stand p l e R s m args below meth c T locs cells slots) (hx : p.tables.exec = Jvm.exec) (hZ : Z.Warmed39 s.vm) {own : String} {index : Nat} {v : Int64} (hown : s.vm.findClass own = some m.cls) (w : (Cond.constantLong own index v).before a0 Z = true) (hd : decode c.code pc = .ok (.ldc2_w index, 3)) (hp : pc + 3 = pc') (k : OG p e below P (T.setTop (mkF m pc' L (.long v :: S)))) : OG p e below P (T.setTop (mkF m pc L S)) := by
  subst hp; exact OG.of (X.ldc2Long hx hown (mvT hZ w) (g := mkF m pc L S) rfl hd) k
theorem og_getstatic (X : Stand p l e R s m args below meth c T locs cells slots) (hx : p.tables.exec = Jvm.exec) (hZ : Z.Warmed39 s.vm) {own R0 O n d host : String} {index : Nat} (hown : s.vm.findClass own = some m.cls) (w : (Cond.fieldLink own index R0 n d).before a0 Z = true ∨ (Cond.fieldLinkNest own index R0 n d host).before a0 Z = true) (via : Via Z R0 O n d) (eT : T.heap = h) {v : Value} (F : Sta Z h O n d v) (hd : decode c.code pc = .ok (.getstatic index, 3)) (hp : pc + 3 = pc') (k : ∀ T', Stand p l e R s m args below meth c T' locs cells slots → T'.heap = h → OG p e below P (T'.setTop (mkF m pc' L (v :: S)))) : OG p e below P (T.setTop (mkF m pc L S)) := by
  subst hp; obtain ⟨T', X', e', st⟩ := getS2 X hx hZ hown w via eT F (g := mkF m pc L S) rfl hd
  exact OG.of st (k T' X' e')
theorem og_getfield (X : Stand p l e R s m args below meth c T locs cells slots) (hx : p.tables.exec = Jvm.exec) (hZ : Z.Warmed39 s.vm) {own R0 O n d host : String} {index : Nat} (hown : s.vm.findClass own = some m.cls) (w : (Cond.fieldLink own index R0 n d).before a0 Z = true ∨ (Cond.fieldLinkNest own index R0 n d host).before a0 Z = true) (via : Via Z R0 O n d) (eT : T.heap = h) {a : Addr} {v : Value} (F : Fld Z h a O n d v) (hd : decode c.code pc = .ok (.getfield index, 3)) (hp : pc + 3 = pc') (k : ∀ T', Stand p l e R s m args below meth c T' locs cells slots → T'.heap = h → OG p e below P (T'.setTop (mkF m pc' L (v :: S)))) : OG p e below P (T.setTop (mkF m pc L (.ref a :: S))) := by
  subst hp; obtain ⟨T', X', e', st⟩ := getF X hx hZ hown w via eT F (g := mkF m pc L (.ref a :: S)) rfl rfl hd
  exact OG.of st (k T' X' e')
theorem og_putfield (X : Stand p l e R s m args below meth c T locs cells slots) (hx : p.tables.exec = Jvm.exec) (hZ : Z.Warmed39 s.vm) {C : String} {kk : Nat} {ty : FieldType} {own R0 O n d host : String} {index : Nat} (hown : s.vm.findClass own = some m.cls) (w : (Cond.fieldLink own index R0 n d).before a0 Z = true ∨ (Cond.fieldLinkNest own index R0 n d host).before a0 Z = true) (via : Via Z R0 O n d) (eT : T.heap = h) {a : Addr} {v old : Value} (F : Fld Z h a O n d old) (E : Exa Z h a C) (Ly : (Cond.lays C O n d).before a0 Z = true ∨ ((Cond.laysFinal C O n d).before a0 Z = true ∧ own = O ∧ meth.name = "<init>")) (wi : (Cond.instantiable C kk).before a0 Z = true) (hty : parseFieldDescriptor d = some ty) (hn : narrow ty v = v) (hf : fits ty v = true) (hd : decode c.code pc = .ok (.putfield index, 3)) (hp : pc + 3 = pc') (k : ∀ T' h', Stand p l e R s m args below meth c T' (locs ++ [⟨a, Jvm.RoadKit.slotOf Z O n d⟩]) cells slots → T'.heap = h' → Wr h h' a (Jvm.RoadKit.slotOf Z O n d) v → OG p e below P (T'.setTop (mkF m pc' L S))) : OG p e below P (T.setTop (mkF m pc L (v :: .ref a :: S))) := by
  subst hp; obtain ⟨T', h', X', e', W', st⟩ := putF X hx hZ hown w via eT F E Ly wi hty hn hf (g := mkF m pc L (v :: .ref a :: S)) rfl rfl hd
  exact OG.of st (k T' h' X' e' W')
theorem og_new (X : Stand p l e R s m args below meth c T locs cells slots) (hx : p.tables.exec = Jvm.exec) (hZ : Z.Warmed39 s.vm) {own C : String} {index n : Nat} {cells' slots' : Nat} (hown : s.vm.findClass own = some m.cls) (w : (Cond.classLink own index C).before a0 Z = true) (wi : (Cond.instantiable C n).before a0 Z = true) (wz : (Cond.initialized C).before a0 Z = true) (eT : T.heap = h) (hd : decode c.code pc = .ok (.new index, 3)) (hp : pc + 3 = pc') (hc' : cells + 1 = cells') (hs' : slots + n = slots') (hc : cells' ≤ R.cells) (hl : slots' ≤ R.slots) (k : ∀ T' h' a, Stand p l e R s m args below meth c T' locs cells' slots' → T'.heap = h' → Ext h h' → a = h.size → Exa Z h' a C → (∀ {O nm d : String} {ty : FieldType}, Laid Z a0 C O nm d → parseFieldDescriptor d = some ty → Fld Z h' a O nm d (defaultValue ty)) → (∃ cell : Cell, h'[a]? = some cell ∧ cell.vm = .none ∧ cell.monitor = {}) → OG p e below P (T'.setTop (mkF m pc' L (.ref a :: S)))) : OG p e below P (T.setTop (mkF m pc L S)) := by
  subst hp hc' hs'; obtain ⟨T', h', X', e', E', A', D', B', st⟩ := newO X hx hZ hown w wi wz eT (g := mkF m pc L S) rfl hd hc hl
  exact OG.of st (k T' h' _ X' e' E' rfl A' D' B')
theorem og_newarray (X : Stand p l e R s m args below meth c T locs cells slots) (hx : p.tables.exec = Jvm.exec) (hZ : Z.Warmed39 s.vm) {aty : ArrayType} {ty : FieldType} {cells' slots' : Nat} (hty : newarray.typeOf aty = ty) (w : (Cond.arrayClass ty).before a0 Z = true) (eT : T.heap = h) {n : Int32} (hn : ¬ n < 0) {cap : Nat} (hcap : n.toNatClampNeg ≤ cap) (hb : cap * 8 ≤ 536870912) (hd : decode c.code pc = .ok (.newarray aty, 2)) (hp : pc + 2 = pc') (hc' : cells + 1 = cells') (hs' : slots + cap = slots') (hc : cells' ≤ R.cells) (hl : slots' ≤ R.slots) (k : ∀ T' h' a kA, Stand p l e R s m args below meth c T' locs cells' slots' → T'.heap = h' → Ext h h' → a = h.size → Arv Z h' a kA ty n [] (defaultValue ty) → OG p e below P (T'.setTop (mkF m pc' L (.ref a :: S)))) : OG p e below P (T.setTop (mkF m pc L (.int n :: S))) := by
  subst hp hc' hs' hty; obtain ⟨T', h', kA, X', e', E', A', st⟩ := newP X hx hZ w eT (g := mkF m pc L (.int n :: S)) rfl hd rfl hn hcap hb hc hl
  exact OG.of st (k T' h' _ kA X' e' E' rfl (Arv.new A' hn))
theorem og_castore (X : Stand p l e R s m args below meth c T locs cells slots) (hx : p.tables.exec = Jvm.exec) (hZ : Z.Warmed39 s.vm) (eT : T.heap = h) {a : Addr} {kA : ClassId} {j x z : Int32} {vs : List Value} {dv : Value} (F : Arv Z h a kA .char z vs dv) (q : ¬ j < 0 ∧ j < z) (i : Nat) (hj : j.toNatClampNeg = i) (hi : i < vs.length) (hd : decode c.code pc = .ok (.castore, 1)) (hp : pc + 1 = pc') (k : ∀ T' h', Stand p l e R s m args below meth c T' (locs ++ [⟨a, j.toNatClampNeg⟩]) cells slots → T'.heap = h' → Wr h h' a j.toNatClampNeg (.int (nar .char x)) → Arv Z h' a kA .char z (vs.set i (.int (nar .char x))) dv → OG p e below P (T'.setTop (mkF m pc' L S))) : OG p e below P (T.setTop (mkF m pc L (.int x :: .int j :: .ref a :: S))) := by
  subst hp; obtain ⟨cl, A, q1, S1, q3, H, G⟩ := F
  obtain ⟨T', h', X', e', W', st⟩ := stC X hx hZ eT A (j := j) (inb_of S1 q) (g := mkF m pc L (.int x :: .int j :: .ref a :: S)) rfl rfl hd
  exact OG.of st (k T' h' X' e' W' (Arv.set A q1 S1 q3 H G (fits_nar_char _) W' i hj hi))
theorem og_bastore (X : Stand p l e R s m args below meth c T locs cells slots) (hx : p.tables.exec = Jvm.exec) (hZ : Z.Warmed39 s.vm) (eT : T.heap = h) {a : Addr} {kA : ClassId} {j x z : Int32} {vs : List Value} {dv : Value} (F : Arv Z h a kA .byte z vs dv) (q : ¬ j < 0 ∧ j < z) (i : Nat) (hj : j.toNatClampNeg = i) (hi : i < vs.length) (hd : decode c.code pc = .ok (.bastore, 1)) (hp : pc + 1 = pc') (k : ∀ T' h', Stand p l e R s m args below meth c T' (locs ++ [⟨a, j.toNatClampNeg⟩]) cells slots → T'.heap = h' → Wr h h' a j.toNatClampNeg (.int (nar .byte x)) → Arv Z h' a kA .byte z (vs.set i (.int (nar .byte x))) dv → OG p e below P (T'.setTop (mkF m pc' L S))) : OG p e below P (T.setTop (mkF m pc L (.int x :: .int j :: .ref a :: S))) := by
  subst hp; obtain ⟨cl, A, q1, S1, q3, H, G⟩ := F
  obtain ⟨T', h', X', e', W', st⟩ := stB X hx hZ eT A (j := j) (inb_of S1 q) (g := mkF m pc L (.int x :: .int j :: .ref a :: S)) rfl rfl hd
  exact OG.of st (k T' h' X' e' W' (Arv.set A q1 S1 q3 H G (fits_nar_byte _) W' i hj hi))
theorem og_caload (X : Stand p l e R s m args below meth c T locs cells slots) (hx : p.tables.exec = Jvm.exec) (hZ : Z.Warmed39 s.vm) (eT : T.heap = h) {a : Addr} {kA : ClassId} {j z : Int32} {vs : List Value} {dv v : Value} (F : Arv Z h a kA .char z vs dv) (q : ¬ j < 0 ∧ j < z) (hv : vs.getD j.toNatClampNeg dv = v) (hd : decode c.code pc = .ok (.caload, 1)) (hp : pc + 1 = pc') (k : OG p e below P (T.setTop (mkF m pc' L (v :: S)))) : OG p e below P (T.setTop (mkF m pc L (.int j :: .ref a :: S))) := by
  subst hp; obtain ⟨cl, A, q1, S1, q3, H, G⟩ := F
  exact OG.of (fun t k => X.caload hx (j := j) (v := v) (by rw [eT]; exact A.1) (State.isArrayOf_alike hZ.alike A.2.1) A.2.2 (inb_of S1 q) (H.at (inb_of S1 q) hv) (g := mkF m pc L (.int j :: .ref a :: S)) rfl rfl hd t k) k
theorem og_baload (X : Stand p l e R s m args below meth c T locs cells slots) (hx : p.tables.exec = Jvm.exec) (hZ : Z.Warmed39 s.vm) (eT : T.heap = h) {a : Addr} {kA : ClassId} {j z : Int32} {vs : List Value} {dv v : Value} (F : Arv Z h a kA .byte z vs dv) (q : ¬ j < 0 ∧ j < z) (hv : vs.getD j.toNatClampNeg dv = v) (hd : decode c.code pc = .ok (.baload, 1)) (hp : pc + 1 = pc') (k : OG p e below P (T.setTop (mkF m pc' L (v :: S)))) : OG p e below P (T.setTop (mkF m pc L (.int j :: .ref a :: S))) := by
  subst hp; obtain ⟨cl, A, q1, S1, q3, H, G⟩ := F
  exact OG.of (fun t k => X.baloadBytes hx (j := j) (v := v) (by rw [eT]; exact A.1) (State.isArrayOf_alike hZ.alike A.2.1) A.2.2 (inb_of S1 q) (H.at (inb_of S1 q) hv) (g := mkF m pc L (.int j :: .ref a :: S)) rfl rfl hd t k) k
theorem og_arraylength (X : Stand p l e R s m args below meth c T locs cells slots) (hx : p.tables.exec = Jvm.exec) (hZ : Z.Warmed39 s.vm) (eT : T.heap = h) {a : Addr} {kA : ClassId} {z : Int32} {vs : List Value} {dv : Value} {ty : FieldType} (F : Arv Z h a kA ty z vs dv) (hd : decode c.code pc = .ok (.arraylength, 1)) (hp : pc + 1 = pc') (k : OG p e below P (T.setTop (mkF m pc' L (.int z :: S)))) : OG p e below P (T.setTop (mkF m pc L (.ref a :: S))) := by
  subst hp; obtain ⟨cl, A, q1, S1, q3, H, G⟩ := F
  refine OG.of (fun t k => X.arraylength hx (by rw [eT]; exact A.1) (State.isArrayOf_alike hZ.alike A.2.1) (g := mkF m pc L (.ref a :: S)) rfl rfl hd t k) ?_
  rw [len_of S1 q3]; exact k
theorem og_initO (X : Stand p l e R s m args below meth c T locs cells slots) (hx : p.tables.exec = Jvm.exec) (hZ : Z.Warmed39 s.vm) {own : String} {idx : Nat} (hml : L.size = c.maxLocals) (hown : s.vm.findClass own = some m.cls) (w1 : (Cond.methodLink own idx Lib.objectInit).before a0 Z = true) (w2 : (Cond.instanceMethod Lib.objectInit).before a0 Z = true) (w3 : (Cond.code Lib.objectInit ⟨#[0xb1]⟩ 1 none).before a0 Z = true) (eT : T.heap = h) {a : Addr} {W : Nat} (hW : (S.map fun v => v.category).sum = W) (hf : 1 ≤ R.frames) (hl : W + 12 ≤ R.locals) (hd : decode c.code pc = .ok (.invokespecial idx, 3)) (hp : pc + 3 = pc') (k : ∀ T', Stand p l e R s m args below meth c T' locs cells slots → T'.heap = h → OG p e below P (T'.setTop (mkF m pc' L S))) : OG p e below P (T.setTop (mkF m pc L (.ref a :: S))) := by
  subst hp; obtain ⟨T', X', e', st⟩ := initO X hx hZ hown w1 w2 w3 eT (g := mkF m pc L (.ref a :: S)) rfl hml rfl hd hf (W := W) (by show 2 * 0 + _ ≤ _; rw [hW]; omega) hl
  exact OG.of st (k T' X' e')
def Con (l : Launch) (Z : State) (y : MethodName) (bytes : ByteArray) (maxL : Nat) (ret : Option FieldType) (rm : Room) (as' : Array Value) (h : Heap) (Q : Option Value → Heap → List Loc → Prop) : Prop :=
  MetFree l y (head1 [Cond.code y bytes maxL ret] rm) (fun a U => a = as' ∧ Z.Warmed39 U.vm ∧ U.heap = h) (fun _ _ _ _ _ => True) (fun _ U o U' => ∃ v L, o = .returned v ∧ Q v U'.heap L ∧ FrameEnd U o U' L rm.cells rm.slots)
abbrev OFin (s : State) (Q : Option Value → Heap → List Loc → Prop) (k n : Nat) (o : Outcome) (t : State) : Prop := ∃ v L, o = .returned v ∧ Q v t.heap L ∧ FrameEnd s o t L k n
theorem own_start {y : MethodName} {bytes : ByteArray} {maxL : Nat} {ret : Option FieldType} {rm : Room} {as' : Array Value} {ws : List Cond} {Q : Option Value → Heap → List Loc → Prop} {kc ks : Nat} (hpn : plainFor y = true)
    (body : ∀ (p : Program) (e : Env) (s : State) (m : MethodId) (below : List Frame) (meth : Method) (c : Code) (T : State), Stand p l e rm s m as' below meth c T [] 0 0 → p.tables.exec = Jvm.exec → c.code = bytes → c.maxLocals = maxL → Z.Warmed39 s.vm → s.vm.findClass y.cls = some m.cls → meth.name = y.name → meth.sig.returnType = ret → meth.locks = false → T.heap = h → OG p e below (OFin s Q kc ks) (T.setTop (entryFrame m as' maxL))) :
    MetFree l y (head1 (Cond.code y bytes maxL ret :: ws) rm) (fun a U => a = as' ∧ Z.Warmed39 U.vm ∧ U.heap = h) (fun _ _ _ _ _ => True) (fun _ U o U' => ∃ v L, o = .returned v ∧ Q v U'.heap L ∧ FrameEnd U o U' L kc ks) := by
  refine MetFree.of_bodySF hpn hisR ?_
  intro p e s m args below meth c s₁ Bd hml0 hP hK
  obtain ⟨rfl, hZ, hh⟩ := hP
  exact body p e s m below meth c s₁ (Stand.of_body Bd) Bd.exec Bd.bytes hml0 hZ (findClass_of_methodNamed Bd.named) (name_of_methodNamed Bd.named Bd.method).1 Bd.returns Bd.notSynchronized (by rw [← hh, Bd.state]; rfl)
theorem own_startC {y : MethodName} {bytes : ByteArray} {maxL : Nat} {ret : Option FieldType} {rm : Room} {as' : Array Value} {Q : Option Value → Heap → List Loc → Prop} (hpn : plainFor y = true)
    (body : ∀ (p : Program) (e : Env) (s : State) (m : MethodId) (below : List Frame) (meth : Method) (c : Code) (T : State), Stand p l e rm s m as' below meth c T [] 0 0 → p.tables.exec = Jvm.exec → c.code = bytes → c.maxLocals = maxL → Z.Warmed39 s.vm → s.vm.findClass y.cls = some m.cls → meth.name = y.name → meth.sig.returnType = ret → meth.locks = false → T.heap = h → OG p e below (OFin s Q rm.cells rm.slots) (T.setTop (entryFrame m as' maxL))) : Con l Z y bytes maxL ret rm as' h Q := own_start (Q := Q) hpn body
theorem og_ret (X : Stand p l e R s m args below meth c T locs cells slots) (hlk : meth.locks = false) {Q : Option Value → Heap → List Loc → Prop} {kc ks : Nat} {g : JFrame} (v : Option Value) (hv : meth.sig.returnType = none → v = none)
    (st : ∀ fs, (∀ (f : JFrame) (acts : List Action), f.method = m → f.locked = none → f.entered = [] → (doReturn e (T.setTop f) acts v).1 = T.setFrames fs) → Steps p.tables e below (T.setTop g) (T.setFrames fs)) (hc : cells ≤ kc) (hs : slots ≤ ks) (hQ : Q v T.heap locs) : OG p e below (OFin s Q kc ks) (T.setTop g) := by
  obtain ⟨fs, hr, hrun, hended, hW, hsame⟩ := X.leave hv hlk
  exact ⟨_, _, st fs hr, hrun, hended, v, locs, rfl, hQ, ⟨_, rfl⟩, hW, hsame.mono hc hs⟩
theorem og_retI (X : Stand p l e R s m args below meth c T locs cells slots) (hx : p.tables.exec = Jvm.exec) (hlk : meth.locks = false) (hret : meth.sig.returnType = some .int) {Q : Option Value → Heap → List Loc → Prop} {kc ks : Nat} {z : Int32} (hd : decode c.code pc = .ok (.ireturn, 1)) (hc : cells ≤ kc) (hs : slots ≤ ks) (hQ : Q (some (.int z)) T.heap locs) : OG p e below (OFin s Q kc ks) (T.setTop (mkF m pc L (.int z :: S))) :=
  og_ret X hlk (some (.int z)) (fun q => by rw [hret] at q; cases q) (fun fs hr => retI X hx hret hd hr) hc hs hQ
theorem og_retN (X : Stand p l e R s m args below meth c T locs cells slots) (hx : p.tables.exec = Jvm.exec) (hlk : meth.locks = false) {t : FieldType} (hret : meth.sig.returnType = some t) (ht : t = .boolean ∨ t = .byte ∨ t = .char ∨ t = .short) {Q : Option Value → Heap → List Loc → Prop} {kc ks : Nat} {z : Int32} (hd : decode c.code pc = .ok (.ireturn, 1)) (hc : cells ≤ kc) (hs : slots ≤ ks) (hQ : Q (some (.int (nar t z))) T.heap locs) : OG p e below (OFin s Q kc ks) (T.setTop (mkF m pc L (.int z :: S))) :=
  og_ret X hlk (some (.int (nar t z))) (fun q => by rw [hret] at q; cases q) (fun fs hr => retN X hx hret ht hd hr) hc hs hQ
theorem og_retR (X : Stand p l e R s m args below meth c T locs cells slots) (hx : p.tables.exec = Jvm.exec) (hlk : meth.locks = false) {t : FieldType} (hret : meth.sig.returnType = some t) (ht : t.isReference = true) {Q : Option Value → Heap → List Loc → Prop} {kc ks : Nat} {v : Value} (hv : v.isRef = true) (hn : narrow t v = v) (hd : decode c.code pc = .ok (.areturn, 1)) (hc : cells ≤ kc) (hs : slots ≤ ks) (hQ : Q (some v) T.heap locs) : OG p e below (OFin s Q kc ks) (T.setTop (mkF m pc L (v :: S))) :=
  og_ret X hlk (some v) (fun q => by rw [hret] at q; cases q) (fun fs hr => retOut X hx hret hn (Or.inr (Or.inr (Or.inr (Or.inr ⟨rfl, ht, hv⟩)))) hd hr) hc hs hQ
theorem og_retV (X : Stand p l e R s m args below meth c T locs cells slots) (hx : p.tables.exec = Jvm.exec) (hlk : meth.locks = false) (hret : meth.sig.returnType = none) {Q : Option Value → Heap → List Loc → Prop} {kc ks : Nat} (hd : decode c.code pc = .ok (.return_, 1)) (hc : cells ≤ kc) (hs : slots ≤ ks) (hQ : Q none T.heap locs) : OG p e below (OFin s Q kc ks) (T.setTop (mkF m pc L [])) :=
  og_ret X hlk none (fun _ => rfl) (fun fs hr => X.returnOut hx hret hd hr) hc hs hQ
theorem og_static (X : Stand p l e R s m args below meth c T locs cells slots) (hx : p.tables.exec = Jvm.exec) (hZ : Z.Warmed39 s.vm) {own : String} {index : Nat} {y : MethodName} {bytes : ByteArray} {maxL : Nat} {ret : Option FieldType} {rm : Room} {as' : Array Value} {Q : Option Value → Heap → List Loc → Prop} {W cells' slots' : Nat} (hM : Con l Z y bytes maxL ret rm as' h Q) (hown : s.vm.findClass own = some m.cls) (w1 : (Cond.methodLink own index y).before a0 Z = true) (w2 : (Cond.static y).before a0 Z = true) (wz : (Cond.initialized y.cls).before a0 Z = true) (wc : (Cond.code y bytes maxL ret).before a0 Z = true) (hy : y.cls ≠ "java/lang/invoke/MethodHandle" ∧ y.cls ≠ "java/lang/invoke/VarHandle") (hml : L.size = c.maxLocals) (eT : T.heap = h) {ps : List FieldType} {rt : Option FieldType} (hpd : parseMethodDescriptor y.desc = some ⟨ps, rt⟩) (argsL rest : List Value) (hll : argsL.length = ps.length) (has : argsL.toArray = as') (hst : S = argsL.reverse ++ rest) (hW : (rest.map fun v => v.category).sum = W) (hf : rm.frames + 1 ≤ R.frames) (hl : W + (maxL + 11) + rm.locals ≤ R.locals) (hc' : cells + rm.cells = cells') (hs' : slots + rm.slots = slots') (hc : cells' ≤ R.cells) (hs : slots' ≤ R.slots) (hd : decode c.code pc = .ok (.invokestatic index, 3)) (hp : pc + 3 = pc') (k : ∀ v T' h' Lc, Stand p l e R s m args below meth c T' (locs ++ Lc) cells' slots' → T'.heap = h' → Q v h' Lc → OG p e below P (T'.setTop (mkF m pc' L (v.toList ++ rest)))) : OG p e below P (T.setTop (mkF m pc L S)) := by
  subst hp hst hc' hs' has
  obtain ⟨v, _, ⟨T1, L1, k1, n1⟩, -, X1, ⟨Lc, hQ, l1, y1, z1⟩, st⟩ := Jvm.LawKit.callS X hx (y := y) hown (mvT hZ w1) (mvT hZ w2) (mvT hZ wz) (mvT hZ wc) hy (backOf (W := W) hM hZ wc wz hf hl) (g := mkF m pc L (argsL.reverse ++ rest)) rfl hml (argsL := argsL) (rest := rest) (lenOf hpd hll) rfl (by show 2 * 0 + _ ≤ _; rw [hW]; omega) hd (fun _ _ => ⟨rfl, eT, hc, hs⟩)
  dsimp only [Pt.U, Pt.locs, Pt.cells, Pt.slots] at X1 l1 y1 z1 st hQ
  subst l1 y1 z1
  exact OG.of st (k v T1 _ Lc X1 rfl hQ)
theorem og_special (X : Stand p l e R s m args below meth c T locs cells slots) (hx : p.tables.exec = Jvm.exec) (hZ : Z.Warmed39 s.vm) {own : String} {index : Nat} {y : MethodName} {bytes : ByteArray} {maxL : Nat} {rm : Room} {as' : Array Value} {Q : Option Value → Heap → List Loc → Prop} {W cells' slots' : Nat} (hM : Con l Z y bytes maxL none rm as' h Q) (hin : y.name = "<init>") (hown : s.vm.findClass own = some m.cls) (w1 : (Cond.methodLink own index y).before a0 Z = true) (w2 : (Cond.instanceMethod y).before a0 Z = true) (wz : (Cond.initialized y.cls).before a0 Z = true) (wc : (Cond.code y bytes maxL none).before a0 Z = true) (hy : y.cls ≠ "java/lang/invoke/MethodHandle" ∧ y.cls ≠ "java/lang/invoke/VarHandle") (hml : L.size = c.maxLocals) (eT : T.heap = h) {ps : List FieldType} {rt : Option FieldType} (hpd : parseMethodDescriptor y.desc = some ⟨ps, rt⟩) {a : Addr} (argsL rest : List Value) (hll : argsL.length = ps.length) (has : (.ref a :: argsL).toArray = as') (hst : S = argsL.reverse ++ .ref a :: rest) (hW : (rest.map fun v => v.category).sum = W) (hf : rm.frames + 1 ≤ R.frames) (hl : W + (maxL + 11) + rm.locals ≤ R.locals) (hc' : cells + rm.cells = cells') (hs' : slots + rm.slots = slots') (hc : cells' ≤ R.cells) (hs : slots' ≤ R.slots) (hd : decode c.code pc = .ok (.invokespecial index, 3)) (hp : pc + 3 = pc') (k : ∀ v T' h' Lc, Stand p l e R s m args below meth c T' (locs ++ Lc) cells' slots' → T'.heap = h' → Q v h' Lc → OG p e below P (T'.setTop (mkF m pc' L (v.toList ++ rest)))) : OG p e below P (T.setTop (mkF m pc L S)) := by
  subst hp hst hc' hs' has
  obtain ⟨v, _, ⟨T1, L1, k1, n1⟩, -, X1, ⟨Lc, hQ, l1, y1, z1⟩, st⟩ := X.specialBack hx (y := y) hin hown (mvT hZ w1) (mvT hZ w2) (mvT hZ wc) hy (backOf (W := W) hM hZ wc wz hf hl) (g := mkF m pc L (argsL.reverse ++ .ref a :: rest)) rfl hml (Steps.refl _) (a := a) (argsL := argsL) (rest := rest) (lenOf hpd hll) rfl (by show 2 * 0 + _ ≤ _; rw [hW]; omega) hd (fun _ _ => ⟨rfl, eT, hc, hs⟩)
  dsimp only [Pt.U, Pt.locs, Pt.cells, Pt.slots] at X1 l1 y1 z1 st hQ
  subst l1 y1 z1
  exact OG.of (fun t k => st.trans k) (k v T1 _ Lc X1 rfl hQ)
theorem og_virtual (X : Stand p l e R s m args below meth c T locs cells slots) (hx : p.tables.exec = Jvm.exec) (hZ : Z.Warmed39 s.vm) {own C : String} {index : Nat} {y z : MethodName} {bytes : ByteArray} {maxL : Nat} {ret : Option FieldType} {rm : Room} {as' : Array Value} {Q : Option Value → Heap → List Loc → Prop} {W cells' slots' : Nat} (hM : Con l Z z bytes maxL ret rm as' h Q) (hown : s.vm.findClass own = some m.cls) (w1 : (Cond.methodLink own index y).before a0 Z = true) (w2 : (Cond.declares y).before a0 Z = true) (hnf : NotFace s y) (w3 : (Cond.selects C y z).before a0 Z = true) (w4 : (Cond.instanceMethod z).before a0 Z = true) (wz : (Cond.initialized z.cls).before a0 Z = true) (wc : (Cond.code z bytes maxL ret).before a0 Z = true) (hy : y.cls ≠ "java/lang/invoke/MethodHandle" ∧ y.cls ≠ "java/lang/invoke/VarHandle") (hml : L.size = c.maxLocals) (eT : T.heap = h) {ps : List FieldType} {rt : Option FieldType} (hpd : parseMethodDescriptor y.desc = some ⟨ps, rt⟩) {a : Addr} (argsL rest : List Value) (hll : argsL.length = ps.length) (has : (.ref a :: argsL).toArray = as') (hst : S = argsL.reverse ++ .ref a :: rest) (hW : (rest.map fun v => v.category).sum = W) (hf : rm.frames + 1 ≤ R.frames) (hl : W + (maxL + 11) + rm.locals ≤ R.locals) (hc' : cells + rm.cells = cells') (hs' : slots + rm.slots = slots') (hc : cells' ≤ R.cells) (hs : slots' ≤ R.slots) (E : Exa Z h a C) (hd : decode c.code pc = .ok (.invokevirtual index, 3)) (hp : pc + 3 = pc') (k : ∀ v T' h' Lc, Stand p l e R s m args below meth c T' (locs ++ Lc) cells' slots' → T'.heap = h' → Q v h' Lc → OG p e below P (T'.setTop (mkF m pc' L (v.toList ++ rest)))) : OG p e below P (T.setTop (mkF m pc L S)) := by
  subst hp hst hc' hs' has
  obtain ⟨cq, kq, qa, qb, qc⟩ := isOf hZ eT E
  obtain ⟨v, _, ⟨T1, L1, k1, n1⟩, -, X1, ⟨Lc, hQ, l1, y1, z1⟩, st⟩ := X.virtualBack hx (y := y) (z := z) hown (mvT hZ w1) (mvT hZ w2) hnf (mvT hZ w3) (mvT hZ w4) hy (backOf (W := W) hM hZ wc wz hf hl) qa qc (g := mkF m pc L (argsL.reverse ++ .ref a :: rest)) rfl hml (Steps.refl _) (argsL := argsL) (rest := rest) (lenOf hpd hll) rfl (by show 2 * 0 + _ ≤ _; rw [hW]; omega) hd (fun _ _ => ⟨rfl, eT, hc, hs⟩)
  dsimp only [Pt.U, Pt.locs, Pt.cells, Pt.slots] at X1 l1 y1 z1 st hQ
  subst l1 y1 z1
  exact OG.of (fun t k => st.trans k) (k v T1 _ Lc X1 rfl hQ)
theorem own_nf (hZ : Z.Warmed39 s.vm) {C : String} {y : MethodName} (w : (Cond.selects C y y).before a0 Z = true) : NotFace s y := notFace_of_selects (args := #[]) (mvT hZ w)
theorem own_n0 {n0 : Nat} (O : Old Z n0 h) : n0 ≤ h.size := O.1 ▸ O.2.1
theorem own_eqint {args : Array Value} {t : Term} {n : Int32} (q : (Cond.eq t (Term.int n)).value args s none s [] = some true) : t.eval args s none [] s = some (.int n) := by
  simp only [Cond.value, Term.eval] at q
  cases ht : t.eval args s none [] s with
  | none => simp [ht] at q
  | some x => cases x <;> simp [ht] at q ⊢; exact q
theorem own_fldstart {args : Array Value} {t : Term} {C n d : String} {a : Addr} {v : Value} (ht : t.eval args s none [] s = some (.ref a)) (q : (Term.field t C n d).eval args s none [] s = some v) : Fld s s.heap a C n d v := Fld.start (by rw [← fld_at ht]; exact q)
theorem og_virtualUp (X : Stand p l e R s m args below meth c T locs cells slots) (hx : p.tables.exec = Jvm.exec) (hZ : Z.Warmed39 s.vm) {own C owner : String} {index : Nat} {y z : MethodName} {bytes : ByteArray} {maxL : Nat} {ret : Option FieldType} {rm : Room} {as' : Array Value} {Q : Option Value → Heap → List Loc → Prop} {W cells' slots' : Nat} (hM : Con l Z z bytes maxL ret rm as' h Q) (hown : s.vm.findClass own = some m.cls) (w1 : (Cond.methodLink own index y).before a0 Z = true) (w2 : (Cond.sameMethod y.cls owner y.name y.desc).before a0 Z = true) (w2' : (Cond.declares ⟨owner, y.name, y.desc⟩).before a0 Z = true) (hy' : owner ≠ "java/lang/invoke/MethodHandle" ∧ owner ≠ "java/lang/invoke/VarHandle") (w3 : (Cond.selects C y z).before a0 Z = true) (w4 : (Cond.instanceMethod z).before a0 Z = true) (wz : (Cond.initialized z.cls).before a0 Z = true) (wc : (Cond.code z bytes maxL ret).before a0 Z = true) (hy : y.cls ≠ "java/lang/invoke/MethodHandle" ∧ y.cls ≠ "java/lang/invoke/VarHandle") (hml : L.size = c.maxLocals) (eT : T.heap = h) {ps : List FieldType} {rt : Option FieldType} (hpd : parseMethodDescriptor y.desc = some ⟨ps, rt⟩) {a : Addr} (argsL rest : List Value) (hll : argsL.length = ps.length) (has : (.ref a :: argsL).toArray = as') (hst : S = argsL.reverse ++ .ref a :: rest) (hW : (rest.map fun v => v.category).sum = W) (hf : rm.frames + 1 ≤ R.frames) (hl : W + (maxL + 11) + rm.locals ≤ R.locals) (hc' : cells + rm.cells = cells') (hs' : slots + rm.slots = slots') (hc : cells' ≤ R.cells) (hs : slots' ≤ R.slots) (E : Exa Z h a C) (hd : decode c.code pc = .ok (.invokevirtual index, 3)) (hp : pc + 3 = pc') (k : ∀ v T' h' Lc, Stand p l e R s m args below meth c T' (locs ++ Lc) cells' slots' → T'.heap = h' → Q v h' Lc → OG p e below P (T'.setTop (mkF m pc' L (v.toList ++ rest)))) : OG p e below P (T.setTop (mkF m pc L S)) := by
  subst hp hst hc' hs' has
  obtain ⟨cq, kq, qa, qb, qc⟩ := isOf hZ eT E
  obtain ⟨v, _, ⟨T1, L1, k1, n1⟩, -, X1, ⟨Lc, hQ, l1, y1, z1⟩, st⟩ := X.virtualBackUp hx (x := y) (y := z) hown (mvT hZ w1) (mvT hZ w2) (mvT hZ w2') hy' (mvT hZ w3) (mvT hZ w4) (backOf (W := W) hM hZ wc wz hf hl) qa qc (g := mkF m pc L (argsL.reverse ++ .ref a :: rest)) rfl hml (Steps.refl _) (argsL := argsL) (rest := rest) (lenOf hpd hll) rfl (by show 2 * 0 + _ ≤ _; rw [hW]; omega) hd (fun _ _ => ⟨rfl, eT, hc, hs⟩)
  dsimp only [Pt.U, Pt.locs, Pt.cells, Pt.slots] at X1 l1 y1 z1 st hQ
  subst l1 y1 z1
  exact OG.of (fun t k => st.trans k) (k v T1 _ Lc X1 rfl hQ)
end OwnKit
abbrev HW (a0 : Array Value) (Z : State) : Prop := ∀ d ∈ tables_1, d.before a0 Z = true
def ow0 {a0 : Array Value} {Z : State} (hw : HW a0 Z) := hw _ (List.mem_of_getElem? (i := 0) rfl)
def ow1 {a0 : Array Value} {Z : State} (hw : HW a0 Z) := hw _ (List.mem_of_getElem? (i := 1) rfl)
def ow2 {a0 : Array Value} {Z : State} (hw : HW a0 Z) := hw _ (List.mem_of_getElem? (i := 2) rfl)
def ow3 {a0 : Array Value} {Z : State} (hw : HW a0 Z) := hw _ (List.mem_of_getElem? (i := 3) rfl)
def ow4 {a0 : Array Value} {Z : State} (hw : HW a0 Z) := hw _ (List.mem_of_getElem? (i := 4) rfl)
def ow5 {a0 : Array Value} {Z : State} (hw : HW a0 Z) := hw _ (List.mem_of_getElem? (i := 5) rfl)
def ow6 {a0 : Array Value} {Z : State} (hw : HW a0 Z) := hw _ (List.mem_of_getElem? (i := 6) rfl)
def ow7 {a0 : Array Value} {Z : State} (hw : HW a0 Z) := hw _ (List.mem_of_getElem? (i := 7) rfl)
def ow8 {a0 : Array Value} {Z : State} (hw : HW a0 Z) := hw _ (List.mem_of_getElem? (i := 8) rfl)
def ow9 {a0 : Array Value} {Z : State} (hw : HW a0 Z) := hw _ (List.mem_of_getElem? (i := 9) rfl)
def ow10 {a0 : Array Value} {Z : State} (hw : HW a0 Z) := hw _ (List.mem_of_getElem? (i := 10) rfl)
def ow11 {a0 : Array Value} {Z : State} (hw : HW a0 Z) := hw _ (List.mem_of_getElem? (i := 11) rfl)
def ow12 {a0 : Array Value} {Z : State} (hw : HW a0 Z) := hw _ (List.mem_of_getElem? (i := 12) rfl)
def ow13 {a0 : Array Value} {Z : State} (hw : HW a0 Z) := hw _ (List.mem_of_getElem? (i := 13) rfl)
def ow14 {a0 : Array Value} {Z : State} (hw : HW a0 Z) := hw _ (List.mem_of_getElem? (i := 14) rfl)
def ow15 {a0 : Array Value} {Z : State} (hw : HW a0 Z) := hw _ (List.mem_of_getElem? (i := 15) rfl)
def ow16 {a0 : Array Value} {Z : State} (hw : HW a0 Z) := hw _ (List.mem_of_getElem? (i := 16) rfl)
def ow17 {a0 : Array Value} {Z : State} (hw : HW a0 Z) := hw _ (List.mem_of_getElem? (i := 17) rfl)
def ow18 {a0 : Array Value} {Z : State} (hw : HW a0 Z) := hw _ (List.mem_of_getElem? (i := 18) rfl)
def ow20 {a0 : Array Value} {Z : State} (hw : HW a0 Z) := hw _ (List.mem_of_getElem? (i := 20) rfl)
def ow21 {a0 : Array Value} {Z : State} (hw : HW a0 Z) := hw _ (List.mem_of_getElem? (i := 21) rfl)
def ow22 {a0 : Array Value} {Z : State} (hw : HW a0 Z) := hw _ (List.mem_of_getElem? (i := 22) rfl)
def ow23 {a0 : Array Value} {Z : State} (hw : HW a0 Z) := hw _ (List.mem_of_getElem? (i := 23) rfl)
def ow24 {a0 : Array Value} {Z : State} (hw : HW a0 Z) := hw _ (List.mem_of_getElem? (i := 24) rfl)
def ow25 {a0 : Array Value} {Z : State} (hw : HW a0 Z) := hw _ (List.mem_of_getElem? (i := 25) rfl)
def ow26 {a0 : Array Value} {Z : State} (hw : HW a0 Z) := hw _ (List.mem_of_getElem? (i := 26) rfl)
def ow27 {a0 : Array Value} {Z : State} (hw : HW a0 Z) := hw _ (List.mem_of_getElem? (i := 27) rfl)
def ow28 {a0 : Array Value} {Z : State} (hw : HW a0 Z) := hw _ (List.mem_of_getElem? (i := 28) rfl)
def ow29 {a0 : Array Value} {Z : State} (hw : HW a0 Z) := hw _ (List.mem_of_getElem? (i := 29) rfl)
def ow30 {a0 : Array Value} {Z : State} (hw : HW a0 Z) := hw _ (List.mem_of_getElem? (i := 30) rfl)
def ow31 {a0 : Array Value} {Z : State} (hw : HW a0 Z) := hw _ (List.mem_of_getElem? (i := 31) rfl)
def ow32 {a0 : Array Value} {Z : State} (hw : HW a0 Z) := hw _ (List.mem_of_getElem? (i := 32) rfl)
def ow33 {a0 : Array Value} {Z : State} (hw : HW a0 Z) := hw _ (List.mem_of_getElem? (i := 33) rfl)
def ow34 {a0 : Array Value} {Z : State} (hw : HW a0 Z) := hw _ (List.mem_of_getElem? (i := 34) rfl)
def ow35 {a0 : Array Value} {Z : State} (hw : HW a0 Z) := hw _ (List.mem_of_getElem? (i := 35) rfl)
def ow36 {a0 : Array Value} {Z : State} (hw : HW a0 Z) := hw _ (List.mem_of_getElem? (i := 36) rfl)
def ow37 {a0 : Array Value} {Z : State} (hw : HW a0 Z) := hw _ (List.mem_of_getElem? (i := 37) rfl)
def ow38 {a0 : Array Value} {Z : State} (hw : HW a0 Z) := hw _ (List.mem_of_getElem? (i := 38) rfl)
def ow39 {a0 : Array Value} {Z : State} (hw : HW a0 Z) := hw _ (List.mem_of_getElem? (i := 39) rfl)
def ow40 {a0 : Array Value} {Z : State} (hw : HW a0 Z) := hw _ (List.mem_of_getElem? (i := 40) rfl)
def ow41 {a0 : Array Value} {Z : State} (hw : HW a0 Z) := hw _ (List.mem_of_getElem? (i := 41) rfl)
def ow42 {a0 : Array Value} {Z : State} (hw : HW a0 Z) := hw _ (List.mem_of_getElem? (i := 42) rfl)
def ow43 {a0 : Array Value} {Z : State} (hw : HW a0 Z) := hw _ (List.mem_of_getElem? (i := 43) rfl)
def ow44 {a0 : Array Value} {Z : State} (hw : HW a0 Z) := hw _ (List.mem_of_getElem? (i := 44) rfl)
def ow45 {a0 : Array Value} {Z : State} (hw : HW a0 Z) := hw _ (List.mem_of_getElem? (i := 45) rfl)
def ow46 {a0 : Array Value} {Z : State} (hw : HW a0 Z) := hw _ (List.mem_of_getElem? (i := 46) rfl)
def ow47 {a0 : Array Value} {Z : State} (hw : HW a0 Z) := hw _ (List.mem_of_getElem? (i := 47) rfl)
def ow48 {a0 : Array Value} {Z : State} (hw : HW a0 Z) := hw _ (List.mem_of_getElem? (i := 48) rfl)
def ow49 {a0 : Array Value} {Z : State} (hw : HW a0 Z) := hw _ (List.mem_of_getElem? (i := 49) rfl)
def ow50 {a0 : Array Value} {Z : State} (hw : HW a0 Z) := hw _ (List.mem_of_getElem? (i := 50) rfl)
def ow51 {a0 : Array Value} {Z : State} (hw : HW a0 Z) := hw _ (List.mem_of_getElem? (i := 51) rfl)
def ow52 {a0 : Array Value} {Z : State} (hw : HW a0 Z) := hw _ (List.mem_of_getElem? (i := 52) rfl)
def ow53 {a0 : Array Value} {Z : State} (hw : HW a0 Z) := hw _ (List.mem_of_getElem? (i := 53) rfl)
def ow54 {a0 : Array Value} {Z : State} (hw : HW a0 Z) := hw _ (List.mem_of_getElem? (i := 54) rfl)
def ow55 {a0 : Array Value} {Z : State} (hw : HW a0 Z) := hw _ (List.mem_of_getElem? (i := 55) rfl)
def ow56 {a0 : Array Value} {Z : State} (hw : HW a0 Z) := hw _ (List.mem_of_getElem? (i := 56) rfl)
def ow57 {a0 : Array Value} {Z : State} (hw : HW a0 Z) := hw _ (List.mem_of_getElem? (i := 57) rfl)
def ow58 {a0 : Array Value} {Z : State} (hw : HW a0 Z) := hw _ (List.mem_of_getElem? (i := 58) rfl)
def ow59 {a0 : Array Value} {Z : State} (hw : HW a0 Z) := hw _ (List.mem_of_getElem? (i := 59) rfl)
def ow60 {a0 : Array Value} {Z : State} (hw : HW a0 Z) := hw _ (List.mem_of_getElem? (i := 60) rfl)
def ow61 {a0 : Array Value} {Z : State} (hw : HW a0 Z) := hw _ (List.mem_of_getElem? (i := 61) rfl)
def ow62 {a0 : Array Value} {Z : State} (hw : HW a0 Z) := hw _ (List.mem_of_getElem? (i := 62) rfl)
def ow63 {a0 : Array Value} {Z : State} (hw : HW a0 Z) := hw _ (List.mem_of_getElem? (i := 63) rfl)
def ow64 {a0 : Array Value} {Z : State} (hw : HW a0 Z) := hw _ (List.mem_of_getElem? (i := 64) rfl)
def ow65 {a0 : Array Value} {Z : State} (hw : HW a0 Z) := hw _ (List.mem_of_getElem? (i := 65) rfl)
def ow66 {a0 : Array Value} {Z : State} (hw : HW a0 Z) := hw _ (List.mem_of_getElem? (i := 66) rfl)
def ow67 {a0 : Array Value} {Z : State} (hw : HW a0 Z) := hw _ (List.mem_of_getElem? (i := 67) rfl)
def ow68 {a0 : Array Value} {Z : State} (hw : HW a0 Z) := hw _ (List.mem_of_getElem? (i := 68) rfl)
def ow69 {a0 : Array Value} {Z : State} (hw : HW a0 Z) := hw _ (List.mem_of_getElem? (i := 69) rfl)
def ow70 {a0 : Array Value} {Z : State} (hw : HW a0 Z) := hw _ (List.mem_of_getElem? (i := 70) rfl)
def ow71 {a0 : Array Value} {Z : State} (hw : HW a0 Z) := hw _ (List.mem_of_getElem? (i := 71) rfl)
def ow72 {a0 : Array Value} {Z : State} (hw : HW a0 Z) := hw _ (List.mem_of_getElem? (i := 72) rfl)
def ow73 {a0 : Array Value} {Z : State} (hw : HW a0 Z) := hw _ (List.mem_of_getElem? (i := 73) rfl)
def ow74 {a0 : Array Value} {Z : State} (hw : HW a0 Z) := hw _ (List.mem_of_getElem? (i := 74) rfl)
def ow75 {a0 : Array Value} {Z : State} (hw : HW a0 Z) := hw _ (List.mem_of_getElem? (i := 75) rfl)
def ow76 {a0 : Array Value} {Z : State} (hw : HW a0 Z) := hw _ (List.mem_of_getElem? (i := 76) rfl)
def ow77 {a0 : Array Value} {Z : State} (hw : HW a0 Z) := hw _ (List.mem_of_getElem? (i := 77) rfl)
def ow78 {a0 : Array Value} {Z : State} (hw : HW a0 Z) := hw _ (List.mem_of_getElem? (i := 78) rfl)
def ow79 {a0 : Array Value} {Z : State} (hw : HW a0 Z) := hw _ (List.mem_of_getElem? (i := 79) rfl)
def ow80 {a0 : Array Value} {Z : State} (hw : HW a0 Z) := hw _ (List.mem_of_getElem? (i := 80) rfl)
def ow81 {a0 : Array Value} {Z : State} (hw : HW a0 Z) := hw _ (List.mem_of_getElem? (i := 81) rfl)
def ow83 {a0 : Array Value} {Z : State} (hw : HW a0 Z) := hw _ (List.mem_of_getElem? (i := 83) rfl)
def ow84 {a0 : Array Value} {Z : State} (hw : HW a0 Z) := hw _ (List.mem_of_getElem? (i := 84) rfl)
def ow85 {a0 : Array Value} {Z : State} (hw : HW a0 Z) := hw _ (List.mem_of_getElem? (i := 85) rfl)
def ow86 {a0 : Array Value} {Z : State} (hw : HW a0 Z) := hw _ (List.mem_of_getElem? (i := 86) rfl)
def ow87 {a0 : Array Value} {Z : State} (hw : HW a0 Z) := hw _ (List.mem_of_getElem? (i := 87) rfl)
def ow88 {a0 : Array Value} {Z : State} (hw : HW a0 Z) := hw _ (List.mem_of_getElem? (i := 88) rfl)
def ow89 {a0 : Array Value} {Z : State} (hw : HW a0 Z) := hw _ (List.mem_of_getElem? (i := 89) rfl)
def ow90 {a0 : Array Value} {Z : State} (hw : HW a0 Z) := hw _ (List.mem_of_getElem? (i := 90) rfl)
def ow91 {a0 : Array Value} {Z : State} (hw : HW a0 Z) := hw _ (List.mem_of_getElem? (i := 91) rfl)
def ow92 {a0 : Array Value} {Z : State} (hw : HW a0 Z) := hw _ (List.mem_of_getElem? (i := 92) rfl)
def ow93 {a0 : Array Value} {Z : State} (hw : HW a0 Z) := hw _ (List.mem_of_getElem? (i := 93) rfl)
def ow94 {a0 : Array Value} {Z : State} (hw : HW a0 Z) := hw _ (List.mem_of_getElem? (i := 94) rfl)
def ow95 {a0 : Array Value} {Z : State} (hw : HW a0 Z) := hw _ (List.mem_of_getElem? (i := 95) rfl)
def ow96 {a0 : Array Value} {Z : State} (hw : HW a0 Z) := hw _ (List.mem_of_getElem? (i := 96) rfl)
def ow97 {a0 : Array Value} {Z : State} (hw : HW a0 Z) := hw _ (List.mem_of_getElem? (i := 97) rfl)
def ow98 {a0 : Array Value} {Z : State} (hw : HW a0 Z) := hw _ (List.mem_of_getElem? (i := 98) rfl)
def ow99 {a0 : Array Value} {Z : State} (hw : HW a0 Z) := hw _ (List.mem_of_getElem? (i := 99) rfl)
def ow100 {a0 : Array Value} {Z : State} (hw : HW a0 Z) := hw _ (List.mem_of_getElem? (i := 100) rfl)
def ow101 {a0 : Array Value} {Z : State} (hw : HW a0 Z) := hw _ (List.mem_of_getElem? (i := 101) rfl)
def ow102 {a0 : Array Value} {Z : State} (hw : HW a0 Z) := hw _ (List.mem_of_getElem? (i := 102) rfl)
def ow103 {a0 : Array Value} {Z : State} (hw : HW a0 Z) := hw _ (List.mem_of_getElem? (i := 103) rfl)
def ow104 {a0 : Array Value} {Z : State} (hw : HW a0 Z) := hw _ (List.mem_of_getElem? (i := 104) rfl)
theorem opd_0 : parseMethodDescriptor "()I" = some ⟨[], some .int⟩ := by decide +kernel
theorem opd_1 : parseMethodDescriptor "([CI[BII)I" = some ⟨[(.array .char), .int, (.array .byte), .int, .int], some .int⟩ := by decide +kernel
theorem opd_2 : parseMethodDescriptor "([CII)[B" = some ⟨[(.array .char), .int, .int], some (.array .byte)⟩ := by decide +kernel
theorem opd_3 : parseMethodDescriptor "([BI)B" = some ⟨[(.array .byte), .int], some .byte⟩ := by decide +kernel
theorem opd_4 : parseMethodDescriptor "([CIILjava/lang/Void;)V" = some ⟨[(.array .char), .int, .int, (.object "java/lang/Void")], none⟩ := by decide +kernel
theorem opd_5 : parseMethodDescriptor "(IILjava/util/function/BiFunction;)I" = some ⟨[.int, .int, (.object "java/util/function/BiFunction")], some .int⟩ := by decide +kernel
theorem opd_6 : parseMethodDescriptor "(II)V" = some ⟨[.int, .int], none⟩ := by decide +kernel
theorem opd_7 : parseMethodDescriptor "()Z" = some ⟨[], some .boolean⟩ := by decide +kernel
theorem opd_8 : parseMethodDescriptor "([BI)C" = some ⟨[(.array .byte), .int], some .char⟩ := by decide +kernel
theorem opd_9 : parseMethodDescriptor "()B" = some ⟨[], some .byte⟩ := by decide +kernel
theorem opd_10 : parseMethodDescriptor "([CII)I" = some ⟨[(.array .char), .int, .int], some .int⟩ := by decide +kernel
theorem opd_11 : parseMethodDescriptor "(I)C" = some ⟨[.int], some .char⟩ := by decide +kernel
theorem opd_12 : parseMethodDescriptor "(C)Lcom/example/nitpick/nitpick/internal/interpolation/ExpressionLiterals$Quoting;" = some ⟨[.char], some (.object "com/example/nitpick/nitpick/internal/interpolation/ExpressionLiterals$Quoting")⟩ := by decide +kernel
theorem opd_13 : parseMethodDescriptor "(J)C" = some ⟨[.long], some .char⟩ := by decide +kernel
theorem opd_14 : parseMethodDescriptor "([C)V" = some ⟨[(.array .char)], none⟩ := by decide +kernel
theorem opd_15 : parseMethodDescriptor "(Ljava/lang/String;I)I" = some ⟨[(.object "java/lang/String"), .int], some .int⟩ := by decide +kernel
theorem opd_16 : parseMethodDescriptor "([CICI)Z" = some ⟨[(.array .char), .int, .char, .int], some .boolean⟩ := by decide +kernel
theorem d1_0 : decode method_3_code 0 = .ok (.lload_n 0, 1) := by decide +kernel
theorem d1_1 : decode method_3_code 1 = .ok (.ldc2_w 29, 3) := by decide +kernel
theorem d1_4 : decode method_3_code 4 = .ok (.land, 1) := by decide +kernel
theorem d1_5 : decode method_3_code 5 = .ok (.l2i, 1) := by decide +kernel
theorem d1_6 : decode method_3_code 6 = .ok (.istore_n 2, 1) := by decide +kernel
theorem d1_7 : decode method_3_code 7 = .ok (.iload_n 2, 1) := by decide +kernel
theorem d1_8 : decode method_3_code 8 = .ok (.ifCond .ne 6, 3) := by decide +kernel
theorem d1_11 : decode method_3_code 11 = .ok (.bipush 39, 2) := by decide +kernel
theorem d1_13 : decode method_3_code 13 = .ok (.ireturn, 1) := by decide +kernel
theorem d1_14 : decode method_3_code 14 = .ok (.iload_n 2, 1) := by decide +kernel
theorem d1_15 : decode method_3_code 15 = .ok (.iconst 1, 1) := by decide +kernel
theorem d1_16 : decode method_3_code 16 = .ok (.if_icmp .ne 6, 3) := by decide +kernel
theorem d1_19 : decode method_3_code 19 = .ok (.bipush 34, 2) := by decide +kernel
theorem d1_21 : decode method_3_code 21 = .ok (.ireturn, 1) := by decide +kernel
theorem d1_22 : decode method_3_code 22 = .ok (.iload_n 2, 1) := by decide +kernel
theorem d1_23 : decode method_3_code 23 = .ok (.iconst 2, 1) := by decide +kernel
theorem d1_24 : decode method_3_code 24 = .ok (.if_icmp .ne 6, 3) := by decide +kernel
theorem d1_27 : decode method_3_code 27 = .ok (.bipush 92, 2) := by decide +kernel
theorem d1_29 : decode method_3_code 29 = .ok (.ireturn, 1) := by decide +kernel
theorem d1_30 : decode method_3_code 30 = .ok (.lload_n 0, 1) := by decide +kernel
theorem d1_31 : decode method_3_code 31 = .ok (.iconst 2, 1) := by decide +kernel
theorem d1_32 : decode method_3_code 32 = .ok (.lushr, 1) := by decide +kernel
theorem d1_33 : decode method_3_code 33 = .ok (.ldc2_w 31, 3) := by decide +kernel
theorem d1_36 : decode method_3_code 36 = .ok (.land, 1) := by decide +kernel
theorem d1_37 : decode method_3_code 37 = .ok (.l2i, 1) := by decide +kernel
theorem d1_38 : decode method_3_code 38 = .ok (.i2c, 1) := by decide +kernel
theorem d1_39 : decode method_3_code 39 = .ok (.ireturn, 1) := by decide +kernel
theorem d2_0 : decode method_4_code 0 = .ok (.iload_n 3, 1) := by decide +kernel
theorem d2_1 : decode method_4_code 1 = .ok (.iload_n 1, 1) := by decide +kernel
theorem d2_2 : decode method_4_code 2 = .ok (.if_icmp .le 25, 3) := by decide +kernel
theorem d2_5 : decode method_4_code 5 = .ok (.aload_n 0, 1) := by decide +kernel
theorem d2_6 : decode method_4_code 6 = .ok (.iload_n 3, 1) := by decide +kernel
theorem d2_7 : decode method_4_code 7 = .ok (.caload, 1) := by decide +kernel
theorem d2_8 : decode method_4_code 8 = .ok (.iload_n 2, 1) := by decide +kernel
theorem d2_9 : decode method_4_code 9 = .ok (.if_icmp .ne 18, 3) := by decide +kernel
theorem d2_12 : decode method_4_code 12 = .ok (.aload_n 0, 1) := by decide +kernel
theorem d2_13 : decode method_4_code 13 = .ok (.iload_n 1, 1) := by decide +kernel
theorem d2_14 : decode method_4_code 14 = .ok (.iload_n 3, 1) := by decide +kernel
theorem d2_15 : decode method_4_code 15 = .ok (.invokestatic 33, 3) := by decide +kernel
theorem d2_18 : decode method_4_code 18 = .ok (.iconst 2, 1) := by decide +kernel
theorem d2_19 : decode method_4_code 19 = .ok (.irem, 1) := by decide +kernel
theorem d2_20 : decode method_4_code 20 = .ok (.ifCond .ne 7, 3) := by decide +kernel
theorem d2_23 : decode method_4_code 23 = .ok (.iconst 1, 1) := by decide +kernel
theorem d2_24 : decode method_4_code 24 = .ok (.goto 4, 3) := by decide +kernel
theorem d2_27 : decode method_4_code 27 = .ok (.iconst 0, 1) := by decide +kernel
theorem d2_28 : decode method_4_code 28 = .ok (.ireturn, 1) := by decide +kernel
theorem d3_0 : decode jdk_42_method_3_code 0 = .ok (.aload_n 0, 1) := by decide +kernel
theorem d3_1 : decode jdk_42_method_3_code 1 = .ok (.aload_n 1, 1) := by decide +kernel
theorem d3_2 : decode jdk_42_method_3_code 2 = .ok (.iconst 0, 1) := by decide +kernel
theorem d3_3 : decode jdk_42_method_3_code 3 = .ok (.aload_n 1, 1) := by decide +kernel
theorem d3_4 : decode jdk_42_method_3_code 4 = .ok (.arraylength, 1) := by decide +kernel
theorem d3_5 : decode jdk_42_method_3_code 5 = .ok (.aconst_null, 1) := by decide +kernel
theorem d3_6 : decode jdk_42_method_3_code 6 = .ok (.invokespecial 27, 3) := by decide +kernel
theorem d3_9 : decode jdk_42_method_3_code 9 = .ok (.return_, 1) := by decide +kernel
theorem d4_0 : decode jdk_42_method_149_code 0 = .ok (.aload_n 0, 1) := by decide +kernel
theorem d4_1 : decode jdk_42_method_149_code 1 = .ok (.invokespecial 1, 3) := by decide +kernel
theorem d4_4 : decode jdk_42_method_149_code 4 = .ok (.iload_n 3, 1) := by decide +kernel
theorem d4_5 : decode jdk_42_method_149_code 5 = .ok (.ifCond .ne 22, 3) := by decide +kernel
theorem d4_27 : decode jdk_42_method_149_code 27 = .ok (.getstatic 38, 3) := by decide +kernel
theorem d4_30 : decode jdk_42_method_149_code 30 = .ok (.ifCond .eq 28, 3) := by decide +kernel
theorem d4_33 : decode jdk_42_method_149_code 33 = .ok (.aload_n 1, 1) := by decide +kernel
theorem d4_34 : decode jdk_42_method_149_code 34 = .ok (.iload_n 2, 1) := by decide +kernel
theorem d4_35 : decode jdk_42_method_149_code 35 = .ok (.iload_n 3, 1) := by decide +kernel
theorem d4_36 : decode jdk_42_method_149_code 36 = .ok (.invokestatic 177, 3) := by decide +kernel
theorem d4_39 : decode jdk_42_method_149_code 39 = .ok (.astore 5, 2) := by decide +kernel
theorem d4_41 : decode jdk_42_method_149_code 41 = .ok (.aload_n 0, 1) := by decide +kernel
theorem d4_42 : decode jdk_42_method_149_code 42 = .ok (.aload 5, 2) := by decide +kernel
theorem d4_44 : decode jdk_42_method_149_code 44 = .ok (.iload_n 3, 1) := by decide +kernel
theorem d4_45 : decode jdk_42_method_149_code 45 = .ok (.invokestatic 47, 3) := by decide +kernel
theorem d4_48 : decode jdk_42_method_149_code 48 = .ok (.putfield 15, 3) := by decide +kernel
theorem d4_51 : decode jdk_42_method_149_code 51 = .ok (.aload_n 0, 1) := by decide +kernel
theorem d4_52 : decode jdk_42_method_149_code 52 = .ok (.aload 5, 2) := by decide +kernel
theorem d4_54 : decode jdk_42_method_149_code 54 = .ok (.putfield 9, 3) := by decide +kernel
theorem d4_57 : decode jdk_42_method_149_code 57 = .ok (.return_, 1) := by decide +kernel
theorem d6_0 : decode jdk_52_method_16_code 0 = .ok (.iload_n 2, 1) := by decide +kernel
theorem d6_1 : decode jdk_52_method_16_code 1 = .ok (.newarray .byte, 2) := by decide +kernel
theorem d6_3 : decode jdk_52_method_16_code 3 = .ok (.astore_n 3, 1) := by decide +kernel
theorem d6_4 : decode jdk_52_method_16_code 4 = .ok (.aload_n 0, 1) := by decide +kernel
theorem d6_5 : decode jdk_52_method_16_code 5 = .ok (.iload_n 1, 1) := by decide +kernel
theorem d6_6 : decode jdk_52_method_16_code 6 = .ok (.aload_n 3, 1) := by decide +kernel
theorem d6_7 : decode jdk_52_method_16_code 7 = .ok (.iconst 0, 1) := by decide +kernel
theorem d6_8 : decode jdk_52_method_16_code 8 = .ok (.iload_n 2, 1) := by decide +kernel
theorem d6_9 : decode jdk_52_method_16_code 9 = .ok (.invokestatic 115, 3) := by decide +kernel
theorem d6_12 : decode jdk_52_method_16_code 12 = .ok (.istore 4, 2) := by decide +kernel
theorem d6_14 : decode jdk_52_method_16_code 14 = .ok (.iload 4, 2) := by decide +kernel
theorem d6_16 : decode jdk_52_method_16_code 16 = .ok (.iload_n 2, 1) := by decide +kernel
theorem d6_17 : decode jdk_52_method_16_code 17 = .ok (.if_icmp .eq 40, 3) := by decide +kernel
theorem d6_57 : decode jdk_52_method_16_code 57 = .ok (.aload_n 3, 1) := by decide +kernel
theorem d6_58 : decode jdk_52_method_16_code 58 = .ok (.areturn, 1) := by decide +kernel
theorem d7_0 : decode jdk_52_method_21_code 0 = .ok (.iconst 0, 1) := by decide +kernel
theorem d7_1 : decode jdk_52_method_21_code 1 = .ok (.istore 5, 2) := by decide +kernel
theorem d7_3 : decode jdk_52_method_21_code 3 = .ok (.iload 5, 2) := by decide +kernel
theorem d7_5 : decode jdk_52_method_21_code 5 = .ok (.iload 4, 2) := by decide +kernel
theorem d7_7 : decode jdk_52_method_21_code 7 = .ok (.if_icmp .ge 37, 3) := by decide +kernel
theorem d7_10 : decode jdk_52_method_21_code 10 = .ok (.aload_n 0, 1) := by decide +kernel
theorem d7_11 : decode jdk_52_method_21_code 11 = .ok (.iload_n 1, 1) := by decide +kernel
theorem d7_12 : decode jdk_52_method_21_code 12 = .ok (.caload, 1) := by decide +kernel
theorem d7_13 : decode jdk_52_method_21_code 13 = .ok (.istore 6, 2) := by decide +kernel
theorem d7_15 : decode jdk_52_method_21_code 15 = .ok (.iload 6, 2) := by decide +kernel
theorem d7_17 : decode jdk_52_method_21_code 17 = .ok (.sipush 255, 3) := by decide +kernel
theorem d7_20 : decode jdk_52_method_21_code 20 = .ok (.if_icmp .le 6, 3) := by decide +kernel
theorem d7_26 : decode jdk_52_method_21_code 26 = .ok (.aload_n 2, 1) := by decide +kernel
theorem d7_27 : decode jdk_52_method_21_code 27 = .ok (.iload_n 3, 1) := by decide +kernel
theorem d7_28 : decode jdk_52_method_21_code 28 = .ok (.iload 6, 2) := by decide +kernel
theorem d7_30 : decode jdk_52_method_21_code 30 = .ok (.i2b, 1) := by decide +kernel
theorem d7_31 : decode jdk_52_method_21_code 31 = .ok (.bastore, 1) := by decide +kernel
theorem d7_32 : decode jdk_52_method_21_code 32 = .ok (.iinc 1 1, 3) := by decide +kernel
theorem d7_35 : decode jdk_52_method_21_code 35 = .ok (.iinc 3 1, 3) := by decide +kernel
theorem d7_38 : decode jdk_52_method_21_code 38 = .ok (.iinc 5 1, 3) := by decide +kernel
theorem d7_41 : decode jdk_52_method_21_code 41 = .ok (.goto (-38), 3) := by decide +kernel
theorem d7_44 : decode jdk_52_method_21_code 44 = .ok (.iload 4, 2) := by decide +kernel
theorem d7_46 : decode jdk_52_method_21_code 46 = .ok (.ireturn, 1) := by decide +kernel
theorem d8_0 : decode jdk_52_method_15_code 0 = .ok (.iload_n 1, 1) := by decide +kernel
theorem d8_1 : decode jdk_52_method_15_code 1 = .ok (.aload_n 0, 1) := by decide +kernel
theorem d8_2 : decode jdk_52_method_15_code 2 = .ok (.arraylength, 1) := by decide +kernel
theorem d8_3 : decode jdk_52_method_15_code 3 = .ok (.isub, 1) := by decide +kernel
theorem d8_4 : decode jdk_52_method_15_code 4 = .ok (.bipush 31, 2) := by decide +kernel
theorem d8_6 : decode jdk_52_method_15_code 6 = .ok (.iushr, 1) := by decide +kernel
theorem d8_7 : decode jdk_52_method_15_code 7 = .ok (.i2b, 1) := by decide +kernel
theorem d8_8 : decode jdk_52_method_15_code 8 = .ok (.ireturn, 1) := by decide +kernel
theorem d9_0 : decode prog_59_method_6_code 0 = .ok (.getstatic 126, 3) := by decide +kernel
theorem d9_3 : decode prog_59_method_6_code 3 = .ok (.aload_n 0, 1) := by decide +kernel
theorem d9_4 : decode prog_59_method_6_code 4 = .ok (.iload_n 1, 1) := by decide +kernel
theorem d9_5 : decode prog_59_method_6_code 5 = .ok (.invokevirtual 36, 3) := by decide +kernel
theorem d9_8 : decode prog_59_method_6_code 8 = .ok (.invokevirtual 132, 3) := by decide +kernel
theorem d9_11 : decode prog_59_method_6_code 11 = .ok (.astore_n 2, 1) := by decide +kernel
theorem d9_12 : decode prog_59_method_6_code 12 = .ok (.iload_n 1, 1) := by decide +kernel
theorem d9_13 : decode prog_59_method_6_code 13 = .ok (.iconst 1, 1) := by decide +kernel
theorem d9_14 : decode prog_59_method_6_code 14 = .ok (.iadd, 1) := by decide +kernel
theorem d9_15 : decode prog_59_method_6_code 15 = .ok (.istore_n 3, 1) := by decide +kernel
theorem d9_16 : decode prog_59_method_6_code 16 = .ok (.iload_n 3, 1) := by decide +kernel
theorem d9_17 : decode prog_59_method_6_code 17 = .ok (.aload_n 0, 1) := by decide +kernel
theorem d9_18 : decode prog_59_method_6_code 18 = .ok (.invokevirtual 30, 3) := by decide +kernel
theorem d9_21 : decode prog_59_method_6_code 21 = .ok (.if_icmp .ge 28, 3) := by decide +kernel
theorem d9_24 : decode prog_59_method_6_code 24 = .ok (.aload_n 2, 1) := by decide +kernel
theorem d9_25 : decode prog_59_method_6_code 25 = .ok (.aload_n 0, 1) := by decide +kernel
theorem d9_26 : decode prog_59_method_6_code 26 = .ok (.iload_n 3, 1) := by decide +kernel
theorem d9_27 : decode prog_59_method_6_code 27 = .ok (.invokevirtual 36, 3) := by decide +kernel
theorem d9_30 : decode prog_59_method_6_code 30 = .ok (.invokevirtual 132, 3) := by decide +kernel
theorem d9_33 : decode prog_59_method_6_code 33 = .ok (.astore_n 2, 1) := by decide +kernel
theorem d9_34 : decode prog_59_method_6_code 34 = .ok (.aload_n 2, 1) := by decide +kernel
theorem d9_35 : decode prog_59_method_6_code 35 = .ok (.getstatic 126, 3) := by decide +kernel
theorem d9_38 : decode prog_59_method_6_code 38 = .ok (.if_acmp .ne 5, 3) := by decide +kernel
theorem d9_41 : decode prog_59_method_6_code 41 = .ok (.iload_n 3, 1) := by decide +kernel
theorem d9_42 : decode prog_59_method_6_code 42 = .ok (.ireturn, 1) := by decide +kernel
theorem d9_43 : decode prog_59_method_6_code 43 = .ok (.iinc 3 1, 3) := by decide +kernel
theorem d9_46 : decode prog_59_method_6_code 46 = .ok (.goto (-30), 3) := by decide +kernel
theorem d9_49 : decode prog_59_method_6_code 49 = .ok (.iconst (-1), 1) := by decide +kernel
theorem d9_50 : decode prog_59_method_6_code 50 = .ok (.ireturn, 1) := by decide +kernel
theorem d10_0 : decode jdk_42_method_56_code 0 = .ok (.aload_n 0, 1) := by decide +kernel
theorem d10_1 : decode jdk_42_method_56_code 1 = .ok (.invokevirtual 492, 3) := by decide +kernel
theorem d10_4 : decode jdk_42_method_56_code 4 = .ok (.ifCond .eq 12, 3) := by decide +kernel
theorem d10_7 : decode jdk_42_method_56_code 7 = .ok (.aload_n 0, 1) := by decide +kernel
theorem d10_8 : decode jdk_42_method_56_code 8 = .ok (.getfield 9, 3) := by decide +kernel
theorem d10_11 : decode jdk_42_method_56_code 11 = .ok (.iload_n 1, 1) := by decide +kernel
theorem d10_12 : decode jdk_42_method_56_code 12 = .ok (.invokestatic 495, 3) := by decide +kernel
theorem d10_15 : decode jdk_42_method_56_code 15 = .ok (.ireturn, 1) := by decide +kernel
theorem d11_0 : decode jdk_42_method_154_code 0 = .ok (.getstatic 38, 3) := by decide +kernel
theorem d11_3 : decode jdk_42_method_154_code 3 = .ok (.ifCond .eq 14, 3) := by decide +kernel
theorem d11_6 : decode jdk_42_method_154_code 6 = .ok (.aload_n 0, 1) := by decide +kernel
theorem d11_7 : decode jdk_42_method_154_code 7 = .ok (.getfield 15, 3) := by decide +kernel
theorem d11_10 : decode jdk_42_method_154_code 10 = .ok (.ifCond .ne 7, 3) := by decide +kernel
theorem d11_13 : decode jdk_42_method_154_code 13 = .ok (.iconst 1, 1) := by decide +kernel
theorem d11_14 : decode jdk_42_method_154_code 14 = .ok (.goto 4, 3) := by decide +kernel
theorem d11_18 : decode jdk_42_method_154_code 18 = .ok (.ireturn, 1) := by decide +kernel
theorem d12_0 : decode jdk_43_method_2_code 0 = .ok (.iload_n 1, 1) := by decide +kernel
theorem d12_1 : decode jdk_43_method_2_code 1 = .ok (.aload_n 0, 1) := by decide +kernel
theorem d12_2 : decode jdk_43_method_2_code 2 = .ok (.arraylength, 1) := by decide +kernel
theorem d12_3 : decode jdk_43_method_2_code 3 = .ok (.invokestatic 9, 3) := by decide +kernel
theorem d12_6 : decode jdk_43_method_2_code 6 = .ok (.aload_n 0, 1) := by decide +kernel
theorem d12_7 : decode jdk_43_method_2_code 7 = .ok (.iload_n 1, 1) := by decide +kernel
theorem d12_8 : decode jdk_43_method_2_code 8 = .ok (.baload, 1) := by decide +kernel
theorem d12_9 : decode jdk_43_method_2_code 9 = .ok (.sipush 255, 3) := by decide +kernel
theorem d12_12 : decode jdk_43_method_2_code 12 = .ok (.iand, 1) := by decide +kernel
theorem d12_13 : decode jdk_43_method_2_code 13 = .ok (.i2c, 1) := by decide +kernel
theorem d12_14 : decode jdk_43_method_2_code 14 = .ok (.ireturn, 1) := by decide +kernel
theorem d13_0 : decode jdk_42_method_155_code 0 = .ok (.iload_n 0, 1) := by decide +kernel
theorem d13_1 : decode jdk_42_method_155_code 1 = .ok (.iload_n 1, 1) := by decide +kernel
theorem d13_2 : decode jdk_42_method_155_code 2 = .ok (.getstatic 1053, 3) := by decide +kernel
theorem d13_5 : decode jdk_42_method_155_code 5 = .ok (.invokestatic 1059, 3) := by decide +kernel
theorem d13_8 : decode jdk_42_method_155_code 8 = .ok (.pop, 1) := by decide +kernel
theorem d13_9 : decode jdk_42_method_155_code 9 = .ok (.return_, 1) := by decide +kernel
theorem d14_0 : decode jdk_41_method_11_code 0 = .ok (.iload_n 0, 1) := by decide +kernel
theorem d14_1 : decode jdk_41_method_11_code 1 = .ok (.ifCond .lt 8, 3) := by decide +kernel
theorem d14_4 : decode jdk_41_method_11_code 4 = .ok (.iload_n 0, 1) := by decide +kernel
theorem d14_5 : decode jdk_41_method_11_code 5 = .ok (.iload_n 1, 1) := by decide +kernel
theorem d14_6 : decode jdk_41_method_11_code 6 = .ok (.if_icmp .lt 10, 3) := by decide +kernel
theorem d14_16 : decode jdk_41_method_11_code 16 = .ok (.iload_n 0, 1) := by decide +kernel
theorem d14_17 : decode jdk_41_method_11_code 17 = .ok (.ireturn, 1) := by decide +kernel
theorem d15_0 : decode prog_60_method_4_code 0 = .ok (.aload_n 0, 1) := by decide +kernel
theorem d15_1 : decode prog_60_method_4_code 1 = .ok (.invokevirtual 38, 3) := by decide +kernel
theorem d15_4 : decode prog_60_method_4_code 4 = .ok (.tableswitch 36 0 4 #[46, 76, 136, 106, 142], 36) := by decide +kernel
theorem d15_50 : decode prog_60_method_4_code 50 = .ok (.iload_n 1, 1) := by decide +kernel
theorem d15_51 : decode prog_60_method_4_code 51 = .ok (.bipush 39, 2) := by decide +kernel
theorem d15_53 : decode prog_60_method_4_code 53 = .ok (.if_icmp .ne 9, 3) := by decide +kernel
theorem d15_56 : decode prog_60_method_4_code 56 = .ok (.getstatic 7, 3) := by decide +kernel
theorem d15_59 : decode prog_60_method_4_code 59 = .ok (.goto 90, 3) := by decide +kernel
theorem d15_62 : decode prog_60_method_4_code 62 = .ok (.iload_n 1, 1) := by decide +kernel
theorem d15_63 : decode prog_60_method_4_code 63 = .ok (.bipush 34, 2) := by decide +kernel
theorem d15_65 : decode prog_60_method_4_code 65 = .ok (.if_icmp .ne 9, 3) := by decide +kernel
theorem d15_68 : decode prog_60_method_4_code 68 = .ok (.getstatic 13, 3) := by decide +kernel
theorem d15_71 : decode prog_60_method_4_code 71 = .ok (.goto 78, 3) := by decide +kernel
theorem d15_74 : decode prog_60_method_4_code 74 = .ok (.getstatic 3, 3) := by decide +kernel
theorem d15_77 : decode prog_60_method_4_code 77 = .ok (.goto 72, 3) := by decide +kernel
theorem d15_80 : decode prog_60_method_4_code 80 = .ok (.iload_n 1, 1) := by decide +kernel
theorem d15_81 : decode prog_60_method_4_code 81 = .ok (.bipush 92, 2) := by decide +kernel
theorem d15_83 : decode prog_60_method_4_code 83 = .ok (.if_icmp .ne 9, 3) := by decide +kernel
theorem d15_86 : decode prog_60_method_4_code 86 = .ok (.getstatic 10, 3) := by decide +kernel
theorem d15_89 : decode prog_60_method_4_code 89 = .ok (.goto 60, 3) := by decide +kernel
theorem d15_92 : decode prog_60_method_4_code 92 = .ok (.iload_n 1, 1) := by decide +kernel
theorem d15_93 : decode prog_60_method_4_code 93 = .ok (.bipush 39, 2) := by decide +kernel
theorem d15_95 : decode prog_60_method_4_code 95 = .ok (.if_icmp .ne 9, 3) := by decide +kernel
theorem d15_98 : decode prog_60_method_4_code 98 = .ok (.getstatic 3, 3) := by decide +kernel
theorem d15_101 : decode prog_60_method_4_code 101 = .ok (.goto 48, 3) := by decide +kernel
theorem d15_104 : decode prog_60_method_4_code 104 = .ok (.getstatic 7, 3) := by decide +kernel
theorem d15_107 : decode prog_60_method_4_code 107 = .ok (.goto 42, 3) := by decide +kernel
theorem d15_110 : decode prog_60_method_4_code 110 = .ok (.iload_n 1, 1) := by decide +kernel
theorem d15_111 : decode prog_60_method_4_code 111 = .ok (.bipush 92, 2) := by decide +kernel
theorem d15_113 : decode prog_60_method_4_code 113 = .ok (.if_icmp .ne 9, 3) := by decide +kernel
theorem d15_116 : decode prog_60_method_4_code 116 = .ok (.getstatic 16, 3) := by decide +kernel
theorem d15_119 : decode prog_60_method_4_code 119 = .ok (.goto 30, 3) := by decide +kernel
theorem d15_122 : decode prog_60_method_4_code 122 = .ok (.iload_n 1, 1) := by decide +kernel
theorem d15_123 : decode prog_60_method_4_code 123 = .ok (.bipush 34, 2) := by decide +kernel
theorem d15_125 : decode prog_60_method_4_code 125 = .ok (.if_icmp .ne 9, 3) := by decide +kernel
theorem d15_128 : decode prog_60_method_4_code 128 = .ok (.getstatic 3, 3) := by decide +kernel
theorem d15_131 : decode prog_60_method_4_code 131 = .ok (.goto 18, 3) := by decide +kernel
theorem d15_134 : decode prog_60_method_4_code 134 = .ok (.getstatic 13, 3) := by decide +kernel
theorem d15_137 : decode prog_60_method_4_code 137 = .ok (.goto 12, 3) := by decide +kernel
theorem d15_140 : decode prog_60_method_4_code 140 = .ok (.getstatic 7, 3) := by decide +kernel
theorem d15_143 : decode prog_60_method_4_code 143 = .ok (.goto 6, 3) := by decide +kernel
theorem d15_146 : decode prog_60_method_4_code 146 = .ok (.getstatic 13, 3) := by decide +kernel
theorem d15_149 : decode prog_60_method_4_code 149 = .ok (.areturn, 1) := by decide +kernel
theorem d16_0 : decode jdk_37_method_2_code 0 = .ok (.aload_n 0, 1) := by decide +kernel
theorem d16_1 : decode jdk_37_method_2_code 1 = .ok (.getfield 7, 3) := by decide +kernel
theorem d16_4 : decode jdk_37_method_2_code 4 = .ok (.ireturn, 1) := by decide +kernel
theorem d17_0 : decode jdk_42_method_54_code 0 = .ok (.aload_n 0, 1) := by decide +kernel
theorem d17_1 : decode jdk_42_method_54_code 1 = .ok (.getfield 9, 3) := by decide +kernel
theorem d17_4 : decode jdk_42_method_54_code 4 = .ok (.arraylength, 1) := by decide +kernel
theorem d17_5 : decode jdk_42_method_54_code 5 = .ok (.aload_n 0, 1) := by decide +kernel
theorem d17_6 : decode jdk_42_method_54_code 6 = .ok (.invokevirtual 335, 3) := by decide +kernel
theorem d17_9 : decode jdk_42_method_54_code 9 = .ok (.ishr, 1) := by decide +kernel
theorem d17_10 : decode jdk_42_method_54_code 10 = .ok (.ireturn, 1) := by decide +kernel
theorem d18_0 : decode jdk_42_method_152_code 0 = .ok (.getstatic 38, 3) := by decide +kernel
theorem d18_3 : decode jdk_42_method_152_code 3 = .ok (.ifCond .eq 10, 3) := by decide +kernel
theorem d18_6 : decode jdk_42_method_152_code 6 = .ok (.aload_n 0, 1) := by decide +kernel
theorem d18_7 : decode jdk_42_method_152_code 7 = .ok (.getfield 15, 3) := by decide +kernel
theorem d18_10 : decode jdk_42_method_152_code 10 = .ok (.goto 4, 3) := by decide +kernel
theorem d18_14 : decode jdk_42_method_152_code 14 = .ok (.ireturn, 1) := by decide +kernel
theorem d19_0 : decode method_5_code 0 = .ok (.iconst 0, 1) := by decide +kernel
theorem d19_1 : decode method_5_code 1 = .ok (.istore_n 3, 1) := by decide +kernel
theorem d19_2 : decode method_5_code 2 = .ok (.iload_n 2, 1) := by decide +kernel
theorem d19_3 : decode method_5_code 3 = .ok (.iconst 1, 1) := by decide +kernel
theorem d19_4 : decode method_5_code 4 = .ok (.isub, 1) := by decide +kernel
theorem d19_5 : decode method_5_code 5 = .ok (.iload_n 1, 1) := by decide +kernel
theorem d19_6 : decode method_5_code 6 = .ok (.if_icmp .le 72, 3) := by decide +kernel
theorem d19_9 : decode method_5_code 9 = .ok (.aload_n 0, 1) := by decide +kernel
theorem d19_10 : decode method_5_code 10 = .ok (.iload_n 2, 1) := by decide +kernel
theorem d19_11 : decode method_5_code 11 = .ok (.iconst 1, 1) := by decide +kernel
theorem d19_12 : decode method_5_code 12 = .ok (.isub, 1) := by decide +kernel
theorem d19_13 : decode method_5_code 13 = .ok (.caload, 1) := by decide +kernel
theorem d19_14 : decode method_5_code 14 = .ok (.bipush 92, 2) := by decide +kernel
theorem d19_16 : decode method_5_code 16 = .ok (.if_icmp .ne 62, 3) := by decide +kernel
theorem d19_19 : decode method_5_code 19 = .ok (.iconst 1, 1) := by decide +kernel
theorem d19_20 : decode method_5_code 20 = .ok (.istore_n 3, 1) := by decide +kernel
theorem d19_21 : decode method_5_code 21 = .ok (.iload_n 2, 1) := by decide +kernel
theorem d19_22 : decode method_5_code 22 = .ok (.iconst 2, 1) := by decide +kernel
theorem d19_23 : decode method_5_code 23 = .ok (.isub, 1) := by decide +kernel
theorem d19_24 : decode method_5_code 24 = .ok (.iload_n 1, 1) := by decide +kernel
theorem d19_25 : decode method_5_code 25 = .ok (.if_icmp .le 53, 3) := by decide +kernel
theorem d19_28 : decode method_5_code 28 = .ok (.aload_n 0, 1) := by decide +kernel
theorem d19_29 : decode method_5_code 29 = .ok (.iload_n 2, 1) := by decide +kernel
theorem d19_30 : decode method_5_code 30 = .ok (.iconst 2, 1) := by decide +kernel
theorem d19_31 : decode method_5_code 31 = .ok (.isub, 1) := by decide +kernel
theorem d19_32 : decode method_5_code 32 = .ok (.caload, 1) := by decide +kernel
theorem d19_33 : decode method_5_code 33 = .ok (.bipush 92, 2) := by decide +kernel
theorem d19_35 : decode method_5_code 35 = .ok (.if_icmp .ne 43, 3) := by decide +kernel
theorem d19_38 : decode method_5_code 38 = .ok (.iconst 2, 1) := by decide +kernel
theorem d19_39 : decode method_5_code 39 = .ok (.istore_n 3, 1) := by decide +kernel
theorem d19_40 : decode method_5_code 40 = .ok (.iload_n 2, 1) := by decide +kernel
theorem d19_41 : decode method_5_code 41 = .ok (.iconst 3, 1) := by decide +kernel
theorem d19_42 : decode method_5_code 42 = .ok (.isub, 1) := by decide +kernel
theorem d19_43 : decode method_5_code 43 = .ok (.iload_n 1, 1) := by decide +kernel
theorem d19_44 : decode method_5_code 44 = .ok (.if_icmp .le 34, 3) := by decide +kernel
theorem d19_47 : decode method_5_code 47 = .ok (.aload_n 0, 1) := by decide +kernel
theorem d19_48 : decode method_5_code 48 = .ok (.iload_n 2, 1) := by decide +kernel
theorem d19_49 : decode method_5_code 49 = .ok (.iconst 3, 1) := by decide +kernel
theorem d19_50 : decode method_5_code 50 = .ok (.isub, 1) := by decide +kernel
theorem d19_51 : decode method_5_code 51 = .ok (.caload, 1) := by decide +kernel
theorem d19_52 : decode method_5_code 52 = .ok (.bipush 92, 2) := by decide +kernel
theorem d19_54 : decode method_5_code 54 = .ok (.if_icmp .ne 24, 3) := by decide +kernel
theorem d19_57 : decode method_5_code 57 = .ok (.iconst 3, 1) := by decide +kernel
theorem d19_58 : decode method_5_code 58 = .ok (.istore_n 3, 1) := by decide +kernel
theorem d19_59 : decode method_5_code 59 = .ok (.iload_n 2, 1) := by decide +kernel
theorem d19_60 : decode method_5_code 60 = .ok (.iconst 4, 1) := by decide +kernel
theorem d19_61 : decode method_5_code 61 = .ok (.isub, 1) := by decide +kernel
theorem d19_62 : decode method_5_code 62 = .ok (.iload_n 1, 1) := by decide +kernel
theorem d19_63 : decode method_5_code 63 = .ok (.if_icmp .le 15, 3) := by decide +kernel
theorem d19_66 : decode method_5_code 66 = .ok (.aload_n 0, 1) := by decide +kernel
theorem d19_67 : decode method_5_code 67 = .ok (.iload_n 2, 1) := by decide +kernel
theorem d19_68 : decode method_5_code 68 = .ok (.iconst 4, 1) := by decide +kernel
theorem d19_69 : decode method_5_code 69 = .ok (.isub, 1) := by decide +kernel
theorem d19_70 : decode method_5_code 70 = .ok (.caload, 1) := by decide +kernel
theorem d19_71 : decode method_5_code 71 = .ok (.bipush 92, 2) := by decide +kernel
theorem d19_73 : decode method_5_code 73 = .ok (.if_icmp .ne 5, 3) := by decide +kernel
theorem d19_76 : decode method_5_code 76 = .ok (.iconst 4, 1) := by decide +kernel
theorem d19_77 : decode method_5_code 77 = .ok (.istore_n 3, 1) := by decide +kernel
theorem d19_78 : decode method_5_code 78 = .ok (.iload_n 3, 1) := by decide +kernel
theorem d19_79 : decode method_5_code 79 = .ok (.ireturn, 1) := by decide +kernel
theorem opn_0 : plainFor x = true := plainFor_of_name (by first | (simp [plainName, overriddenIn]; done) | decide +kernel)
theorem opn_1 : plainFor (⟨"com/example/nitpick/nitpick/internal/interpolation/ExpressionLiteralsStringEndPinLaw", "draw", "(J)C"⟩ : MethodName) = true := plainFor_of_name (by first | (simp [plainName, overriddenIn]; done) | decide +kernel)
theorem opn_2 : plainFor (⟨"com/example/nitpick/nitpick/internal/interpolation/ExpressionLiteralsStringEndPinLaw", "closes", "([CICI)Z"⟩ : MethodName) = true := plainFor_of_name (by first | (simp [plainName, overriddenIn]; done) | decide +kernel)
theorem opn_3 : plainFor (⟨"java/lang/String", "<init>", "([C)V"⟩ : MethodName) = true := plainFor_of_name (by first | (simp [plainName, overriddenIn]; done) | decide +kernel)
theorem opn_4 : plainFor (⟨"java/lang/String", "<init>", "([CIILjava/lang/Void;)V"⟩ : MethodName) = true := plainFor_of_name (by first | (simp [plainName, overriddenIn]; done) | decide +kernel)
theorem opn_6 : plainFor (⟨"java/lang/StringUTF16", "compress", "([CII)[B"⟩ : MethodName) = true := plainFor_of_name (by first | (simp [plainName, overriddenIn]; done) | decide +kernel)
theorem opn_7 : plainFor (⟨"java/lang/StringUTF16", "compress", "([CI[BII)I"⟩ : MethodName) = true := plainFor_of_name (by first | (simp [plainName, overriddenIn]; done) | decide +kernel)
theorem opn_8 : plainFor (⟨"java/lang/StringUTF16", "coderFromArrayLen", "([BI)B"⟩ : MethodName) = true := plainFor_of_name (by first | (simp [plainName, overriddenIn]; done) | decide +kernel)
theorem opn_9 : plainFor (⟨"com/example/nitpick/nitpick/internal/interpolation/ExpressionLiterals", "stringEnd", "(Ljava/lang/String;I)I"⟩ : MethodName) = true := plainFor_of_name (by first | (simp [plainName, overriddenIn]; done) | decide +kernel)
theorem opn_10 : plainFor (⟨"java/lang/String", "charAt", "(I)C"⟩ : MethodName) = true := plainFor_of_name (by first | (simp [plainName, overriddenIn]; done) | decide +kernel)
theorem opn_11 : plainFor (⟨"java/lang/String", "isLatin1", "()Z"⟩ : MethodName) = true := plainFor_of_name (by first | (simp [plainName, overriddenIn]; done) | decide +kernel)
theorem opn_12 : plainFor (⟨"java/lang/StringLatin1", "charAt", "([BI)C"⟩ : MethodName) = true := plainFor_of_name (by first | (simp [plainName, overriddenIn]; done) | decide +kernel)
theorem opn_13 : plainFor (⟨"java/lang/String", "checkIndex", "(II)V"⟩ : MethodName) = true := plainFor_of_name (by first | (simp [plainName, overriddenIn]; done) | decide +kernel)
theorem opn_14 : plainFor (⟨"jdk/internal/util/Preconditions", "checkIndex", "(IILjava/util/function/BiFunction;)I"⟩ : MethodName) = true := plainFor_of_name (by first | (simp [plainName, overriddenIn]; done) | decide +kernel)
theorem opn_15 : plainFor (⟨"com/example/nitpick/nitpick/internal/interpolation/ExpressionLiterals$Quoting", "next", "(C)Lcom/example/nitpick/nitpick/internal/interpolation/ExpressionLiterals$Quoting;"⟩ : MethodName) = true := plainFor_of_name (by first | (simp [plainName, overriddenIn]; done) | decide +kernel)
theorem opn_16 : plainFor (⟨"java/lang/Enum", "ordinal", "()I"⟩ : MethodName) = true := plainFor_of_name (by first | (simp [plainName, overriddenIn]; done) | decide +kernel)
theorem opn_17 : plainFor (⟨"java/lang/String", "length", "()I"⟩ : MethodName) = true := plainFor_of_name (by first | (simp [plainName, overriddenIn]; done) | decide +kernel)
theorem opn_18 : plainFor (⟨"java/lang/String", "coder", "()B"⟩ : MethodName) = true := plainFor_of_name (by first | (simp [plainName, overriddenIn]; done) | decide +kernel)
theorem opn_19 : plainFor (⟨"com/example/nitpick/nitpick/internal/interpolation/ExpressionLiteralsStringEndPinLaw", "run", "([CII)I"⟩ : MethodName) = true := plainFor_of_name (by first | (simp [plainName, overriddenIn]; done) | decide +kernel)
theorem own_rem (x n : Int32) (k : Int) (hn : n.toInt = k) (h0 : 0 < k) : 0 ≤ ((x &&& 2147483647) % n).toInt ∧ ((x &&& 2147483647) % n).toInt < k := by
  have h1 := (c_and x 2147483647 (by decide)).1
  have h2 := (c_irem (x &&& 2147483647) n k hn).1 h1
  rw [h2]; exact ⟨Int.emod_nonneg _ (by omega), Int.emod_lt_of_pos _ h0⟩
theorem own_cases5 {z : Int32} (h : 0 ≤ z.toInt ∧ z.toInt < 5) : z = 0 ∨ z = 1 ∨ z = 2 ∨ z = 3 ∨ z = 4 := by
  have q : z.toInt = 0 ∨ z.toInt = 1 ∨ z.toInt = 2 ∨ z.toInt = 3 ∨ z.toInt = 4 := by omega
  rcases q with q | q | q | q | q
  · exact Or.inl (Int32.toInt_inj.mp q)
  · exact Or.inr (Or.inl (Int32.toInt_inj.mp q))
  · exact Or.inr (Or.inr (Or.inl (Int32.toInt_inj.mp q)))
  · exact Or.inr (Or.inr (Or.inr (Or.inl (Int32.toInt_inj.mp q))))
  · exact Or.inr (Or.inr (Or.inr (Or.inr (Int32.toInt_inj.mp q))))
theorem own_nb (x : Int32) : nar .byte (x.toInt8.toInt32) = x.toInt8.toInt32 := by
  show x.toInt8.toInt32.toInt8.toInt32 = x.toInt8.toInt32
  simp
theorem own_strarr {Z : State} {h : Heap} {a b : Addr} {C : String} {k : ClassId} {ty : FieldType} {z : Int32} {vs : List Value} {dv : Value} {a0 : Array Value} {n : Nat} (E : Exa Z h a C) (A : Arv Z h b k ty z vs dv) (w : (Cond.instantiable C n).before a0 Z = true) (q : a = b) : False := by
  obtain ⟨cl, A, -⟩ := A
  exact ne_arr E w A q
theorem own_ne0 {args : Array Value} {s : State} {t : Term} {x : Int32} (e : t.eval args s none [] s = some (.int x)) (h : (Cond.not (Cond.eq t (Term.int (0 : Int32)))).value args s none s [] = some true) : ¬ x = 0 := by
  have h := not_v h
  simp only [Cond.value, Term.eval, e] at h
  simpa using h
theorem own_byte {c : Int32} (h : 0 ≤ c.toInt ∧ c.toInt ≤ 255) : ∃ n : Fin 256, c = Int32.ofNat n.val := by
  refine ⟨⟨c.toInt.toNat, by omega⟩, ?_⟩
  apply Int32.toInt_inj.mp
  rw [Int32.toInt_ofNat_of_lt (by omega)]
  show c.toInt = ((c.toInt.toNat : Nat) : Int)
  omega
theorem own_ch {c : Int32} (h : 0 ≤ c.toInt ∧ c.toInt ≤ 255) : nar .char ((c.toInt8.toInt32 &&& 255).toUInt32.toUInt16.toUInt32.toInt32) = c := by
  obtain ⟨n, rfl⟩ := own_byte h
  revert n; decide +kernel
theorem own_nc {c : Int32} (h : 0 ≤ c.toInt ∧ c.toInt ≤ 255) : nar .char c = c := by
  obtain ⟨n, rfl⟩ := own_byte h
  revert n; decide +kernel
theorem own_shr0 (x : Int32) : x >>> ((0 : Int32) &&& 31) = x := by
  have h := c_ishr x 0 0 (by decide)
  apply Int32.toInt_inj.mp
  rw [h]; simp
theorem own_le255 {c : Int32} (h : 0 ≤ c.toInt ∧ c.toInt ≤ 255) : ¬ (255 : Int32) < c := by
  rw [Int32.lt_iff_toInt_lt]
  have e : (255 : Int32).toInt = 255 := by decide
  omega
theorem own_cases6 {z : Int32} (h : 0 ≤ z.toInt ∧ z.toInt < 6) : z = 0 ∨ z = 1 ∨ z = 2 ∨ z = 3 ∨ z = 4 ∨ z = 5 := by
  by_cases q : z.toInt = 5
  · exact Or.inr (Or.inr (Or.inr (Or.inr (Or.inr (Int32.toInt_inj.mp q)))))
  · rcases own_cases5 (z := z) ⟨h.1, by omega⟩ with q | q | q | q | q <;> simp [q]
theorem own_i2c {c : Int32} (h : 0 ≤ c.toInt ∧ c.toInt ≤ 255) : c.toUInt32.toUInt16.toUInt32.toInt32 = c := own_nc h
theorem own_draw (x : Int64) : 0 ≤ (nar .char ((x &&& 255).toInt32.toUInt32.toUInt16.toUInt32.toInt32)).toInt ∧ (nar .char ((x &&& 255).toInt32.toUInt32.toUInt16.toUInt32.toInt32)).toInt ≤ 255 := by
  have h1 := c_maskL x 255 8 (by decide) (by decide)
  have h2 := c_l2i (x &&& 255)
  have h3 := rng32 (x &&& 255).toInt32
  have h : 0 ≤ (x &&& 255).toInt32.toInt ∧ (x &&& 255).toInt32.toInt ≤ 255 := by omega
  rw [own_i2c h, own_nc h]; exact h
def own_cnt : List Int32 → Int32
  | [] => 0
  | c :: cs => if c = 92 then own_cnt cs + 1 else 0
def own_end (q : Int32) : Bool → List Int32 → Int32 → Int32
  | _, [], _ => -1
  | true, _ :: cs, i => own_end q false cs (i + 1)
  | false, c :: cs, i => if c = 92 then own_end q true cs (i + 1) else if c = q then i else own_end q false cs (i + 1)
theorem own_ee {q c i : Int32} {cs : List Int32} : own_end q true (c :: cs) i = own_end q false cs (i + 1) := rfl
theorem own_e92 {q c i : Int32} {cs : List Int32} (h : c = 92) : own_end q false (c :: cs) i = own_end q true cs (i + 1) := if_pos h
theorem own_eq {q c i : Int32} {cs : List Int32} (h : ¬ c = 92) (h2 : c = q) : own_end q false (c :: cs) i = i := (if_neg h).trans (if_pos h2)
theorem own_eo {q c i : Int32} {cs : List Int32} (h : ¬ c = 92) (h2 : ¬ c = q) : own_end q false (c :: cs) i = own_end q false cs (i + 1) := (if_neg h).trans (if_neg h2)
def own_exp (q : Int32) : List Int32 → List Int32 → Int32 → Int32
  | _, [], _ => -1
  | prev, c :: cs, i => if c = q ∧ own_cnt prev % 2 = 0 then i else own_exp q (c :: prev) cs (i + 1)
theorem own_even (x : Int32) : x % 2 = 0 ↔ x.toInt % 2 = 0 := by
  have h := c_irem x 2 2 (by decide)
  have e : x % 2 = 0 ↔ (x % 2).toInt = 0 := ⟨fun q => by rw [q]; rfl, fun q => Int32.toInt_inj.mp q⟩
  rw [e]
  by_cases q : 0 ≤ x.toInt
  · rw [h.1 q]
  · rw [h.2 (by omega)]; omega
theorem own_flip (x : Int32) : (x + 1) % 2 = 0 ↔ ¬ x % 2 = 0 := by
  rw [own_even, own_even]
  have h := c_iadd x 1
  have e : (1 : Int32).toInt = 1 := by decide
  rw [e] at h
  omega
theorem own_par {c : Int32} {prev : List Int32} {par : Bool} (h : own_cnt prev % 2 = 0 ↔ par = false) : own_cnt (c :: prev) % 2 = 0 ↔ (decide (c = 92) && !par) = false := by
  by_cases q : c = 92
  · have e : own_cnt (c :: prev) = own_cnt prev + 1 := if_pos q
    rw [e, own_flip, h]; simp [q]
  · have e : own_cnt (c :: prev) = 0 := if_neg q
    rw [e]; simp [q]
theorem own_law {q : Int32} (hq : ¬ q = 92) : ∀ (cs prev : List Int32) (par : Bool) (i : Int32), (own_cnt prev % 2 = 0 ↔ par = false) → own_end q par cs i = own_exp q prev cs i
  | [], prev, par, i, h => by cases par <;> rfl
  | c :: cs, prev, true, i, h => by
    have ih := own_law hq cs (c :: prev) _ (i + 1) (own_par h)
    have n : ¬ own_cnt prev % 2 = 0 := fun z => by simpa using h.mp z
    have e : own_exp q prev (c :: cs) i = own_exp q (c :: prev) cs (i + 1) := if_neg fun z => n z.2
    rw [e, ← ih, own_ee]; simp
  | c :: cs, prev, false, i, h => by
    have ih := own_law hq cs (c :: prev) _ (i + 1) (own_par h)
    have n : own_cnt prev % 2 = 0 := h.mpr rfl
    by_cases a : c = 92
    · have e : own_exp q prev (c :: cs) i = own_exp q (c :: prev) cs (i + 1) := if_neg fun z => hq (z.1.symm.trans a)
      rw [e, ← ih, own_e92 a]; simp [a]
    · by_cases b : c = q
      · have e : own_exp q prev (c :: cs) i = i := if_pos ⟨b, n⟩
        rw [e, own_eq a b]
      · have e : own_exp q prev (c :: cs) i = own_exp q (c :: prev) cs (i + 1) := if_neg fun z => b z.1
        rw [e, ← ih, own_eo a b]; simp [a]
theorem own_nx0 {q : Int32} {w0 w1 w2 w3 w4 wS wE : Addr} (hq : (q = 39 ∧ wS = w1 ∧ wE = w2) ∨ (q = 34 ∧ wS = w3 ∧ wE = w4)) : (if q = 39 then w1 else if q = 34 then w3 else w0) = wS := by
  rcases hq with ⟨rfl, rfl, -⟩ | ⟨rfl, rfl, -⟩
  · rfl
  · rfl
theorem own_qb {q : Int32} {w1 w2 w3 w4 wS wE : Addr} (hq : (q = 39 ∧ wS = w1 ∧ wE = w2) ∨ (q = 34 ∧ wS = w3 ∧ wE = w4)) : 0 ≤ q.toInt ∧ q.toInt ≤ 255 := by
  rcases hq with ⟨rfl, -⟩ | ⟨rfl, -⟩ <;> decide
theorem own_q92 {q : Int32} {w1 w2 w3 w4 wS wE : Addr} (hq : (q = 39 ∧ wS = w1 ∧ wE = w2) ∨ (q = 34 ∧ wS = w3 ∧ wE = w4)) : ¬ q = 92 := by
  rcases hq with ⟨rfl, -⟩ | ⟨rfl, -⟩ <;> decide
theorem oef0 (m : MethodId) (x0 : Addr) : entryFrame m #[(.ref x0)] 1 = mkF m 0 #[.val (.ref x0)] [] := by first | (simp [entryFrame, mkF, argsToLocals, Value.category]; done) | rfl
theorem rm_ord (l : Launch) (Z : State) (a0 : Array Value) (hw : HW a0 Z) (a1 : Addr) (k : Int32) (h0 : Heap) (n0 : Nat) (O : Old Z n0 h0) (F1 : Fld Z Z.heap a1 "java/lang/Enum" "ordinal" "I" (.int k)) :
    Con l Z (⟨"java/lang/Enum", "ordinal", "()I"⟩ : MethodName) jdk_37_method_2_code 1 (some .int) ({ frames := 0, cells := 0, slots := 0, locals := 0 } : Room) #[(.ref a1)] h0 (fun v h L => v = some (.int k) ∧ Fr n0 L ∧ h = h0) := by
  refine own_startC opn_16 ?_
  intro p e s m below meth c T0 X0 hx hby hml hZ hown hnm hret hlk e0
  have N := Fr.nil n0; have K := Keep.refl h0 []
  refine OG.cast (oef0 m a1) ?_
  refine og_aloadN (pc' := 1) X0 hx rfl rfl (hb hby d16_0) rfl ?_
  refine og_getfield (pc' := 4) X0 hx hZ (host := "") hown (Or.inl (ow81 hw)) Via.refl e0 (F1.ext O.2) (hb hby d16_1) rfl (fun T11 X11 e11 => ?_)
  refine og_retI X11 hx hlk hret (hb hby d16_4) (by decide) (by decide) ?_
  rw [e11]; exact ⟨rfl, N, rfl⟩
theorem oef1 (m : MethodId) (x0 : Addr) (x1 : Int32) : entryFrame m #[(.ref x0), (.int x1)] 2 = mkF m 0 #[.val (.ref x0), .val (.int x1)] [] := by first | (simp [entryFrame, mkF, argsToLocals, Value.category]; done) | rfl
theorem rm_nx0 (l : Launch) (Z : State) (a0 : Array Value) (hw : HW a0 Z) (w0 w1 w2 w3 w4 : Addr) (cc : Int32) (r : Addr) (hr : (if cc = 39 then w1 else if cc = 34 then w3 else w0) = r) (h0 : Heap) (n0 : Nat) (O : Old Z n0 h0) (S_CODE : Sta Z Z.heap "com/example/nitpick/nitpick/internal/interpolation/ExpressionLiterals$Quoting" "CODE" "Lcom/example/nitpick/nitpick/internal/interpolation/ExpressionLiterals$Quoting;" (.ref w0)) (S_SINGLE : Sta Z Z.heap "com/example/nitpick/nitpick/internal/interpolation/ExpressionLiterals$Quoting" "SINGLE" "Lcom/example/nitpick/nitpick/internal/interpolation/ExpressionLiterals$Quoting;" (.ref w1)) (S_SINGLE_ESCAPED : Sta Z Z.heap "com/example/nitpick/nitpick/internal/interpolation/ExpressionLiterals$Quoting" "SINGLE_ESCAPED" "Lcom/example/nitpick/nitpick/internal/interpolation/ExpressionLiterals$Quoting;" (.ref w2)) (S_DOUBLE : Sta Z Z.heap "com/example/nitpick/nitpick/internal/interpolation/ExpressionLiterals$Quoting" "DOUBLE" "Lcom/example/nitpick/nitpick/internal/interpolation/ExpressionLiterals$Quoting;" (.ref w3)) (S_DOUBLE_ESCAPED : Sta Z Z.heap "com/example/nitpick/nitpick/internal/interpolation/ExpressionLiterals$Quoting" "DOUBLE_ESCAPED" "Lcom/example/nitpick/nitpick/internal/interpolation/ExpressionLiterals$Quoting;" (.ref w4)) (E_w0 : Exa Z Z.heap w0 "com/example/nitpick/nitpick/internal/interpolation/ExpressionLiterals$Quoting") (E_w1 : Exa Z Z.heap w1 "com/example/nitpick/nitpick/internal/interpolation/ExpressionLiterals$Quoting") (E_w2 : Exa Z Z.heap w2 "com/example/nitpick/nitpick/internal/interpolation/ExpressionLiterals$Quoting") (E_w3 : Exa Z Z.heap w3 "com/example/nitpick/nitpick/internal/interpolation/ExpressionLiterals$Quoting") (E_w4 : Exa Z Z.heap w4 "com/example/nitpick/nitpick/internal/interpolation/ExpressionLiterals$Quoting") (F_w0 : Fld Z Z.heap w0 "java/lang/Enum" "ordinal" "I" (.int (0 : Int32))) (F_w1 : Fld Z Z.heap w1 "java/lang/Enum" "ordinal" "I" (.int (1 : Int32))) (F_w2 : Fld Z Z.heap w2 "java/lang/Enum" "ordinal" "I" (.int (2 : Int32))) (F_w3 : Fld Z Z.heap w3 "java/lang/Enum" "ordinal" "I" (.int (3 : Int32))) (F_w4 : Fld Z Z.heap w4 "java/lang/Enum" "ordinal" "I" (.int (4 : Int32))) :
    Con l Z (⟨"com/example/nitpick/nitpick/internal/interpolation/ExpressionLiterals$Quoting", "next", "(C)Lcom/example/nitpick/nitpick/internal/interpolation/ExpressionLiterals$Quoting;"⟩ : MethodName) prog_60_method_4_code 2 (some (.object "com/example/nitpick/nitpick/internal/interpolation/ExpressionLiterals$Quoting")) ({ frames := 1, cells := 0, slots := 0, locals := 12 } : Room) #[(.ref w0), (.int cc)] h0 (fun v h L => v = some (.ref r) ∧ Fr n0 L ∧ h = h0) := by
  refine own_startC opn_15 ?_
  intro p e s m below meth c T0 X0 hx hby hml hZ hown hnm hret hlk e0
  have N := Fr.nil n0; have K := Keep.refl h0 []
  refine OG.cast (oef1 m w0 cc) ?_
  refine og_aloadN (pc' := 1) X0 hx rfl rfl (hb hby d15_0) rfl ?_
  refine og_virtualUp (pc' := 4) (cells' := 0) (slots' := 0) (W := 0) X0 hx hZ (y := (⟨"com/example/nitpick/nitpick/internal/interpolation/ExpressionLiterals$Quoting", "ordinal", "()I"⟩ : MethodName)) (rm_ord l Z a0 hw w0 0 h0 n0 O F_w0) hown (ow74 hw) (ow75 hw) (ow76 hw) (by decide) (ow78 hw) (ow77 hw) (ow79 hw) (ow80 hw) (by decide) (by rw [hml]; rfl) e0 opd_0 [] [] rfl rfl rfl rfl (by decide) (by decide) rfl rfl (by decide) (by decide) (E_w0.ext O.2) (hb hby d15_1) rfl (fun v11 T11 h11 L11 X11 e11 z11 => ?_)
  obtain ⟨rfl, Nq11, hq11⟩ := z11; replace e11 := e11.trans hq11; have N := Fr.app N Nq11
  show OG p e below _ (T11.setTop (mkF m 4 #[.val (.ref w0), .val (.int cc)] [(.int (0 : Int32))]))
  refine OG.of (fun t k => XS.tswIn X11.here hx rfl (pc0 := 4) (pc' := 50) rfl (hb hby d15_4) rfl (by decide) (o := 46) (by decide) (by decide) (by decide) k) ?_
  show OG p e below _ (T11.setTop (mkF m 50 #[.val (.ref w0), .val (.int cc)] []))
  refine og_iloadN (pc' := 51) X11 hx rfl (hb hby d15_50) rfl ?_
  refine og_bipush (pc' := 53) (v := (39 : Int32)) X11 hx rfl (hb hby d15_51) rfl ?_
  refine og_icmp_ne (pc1 := 62) (pc2 := 56) X11 hx (hb hby d15_53) (by decide) (by decide) rfl (fun hc53 => ?_) (fun hc53 => ?_)
  · -- pc 62
    refine og_iloadN (pc' := 63) X11 hx rfl (hb hby d15_62) rfl ?_
    refine og_bipush (pc' := 65) (v := (34 : Int32)) X11 hx rfl (hb hby d15_63) rfl ?_
    refine og_icmp_ne (pc1 := 74) (pc2 := 68) X11 hx (hb hby d15_65) (by decide) (by decide) rfl (fun hc65 => ?_) (fun hc65 => ?_)
    · -- pc 74
      refine og_getstatic (pc' := 77) X11 hx hZ (host := "") hown (Or.inl (ow98 hw)) Via.refl e11 (S_CODE.ext O.2) (hb hby d15_74) rfl (fun T12 X12 e12 => ?_)
      refine og_goto (pc' := 149) X12 hx (hb hby d15_77) (by decide) (by decide) ?_
      refine og_retR X12 hx hlk hret rfl rfl rfl (hb hby d15_149) (by decide) (by decide) ?_
      rw [e12]; refine ⟨?_, N, rfl⟩
      rw [← hr]; simp [hc53, hc65]
    · -- pc 68
      subst hc65
      refine og_getstatic (pc' := 71) X11 hx hZ (host := "") hown (Or.inl (ow83 hw)) Via.refl e11 (S_DOUBLE.ext O.2) (hb hby d15_68) rfl (fun T13 X13 e13 => ?_)
      refine og_goto (pc' := 149) X13 hx (hb hby d15_71) (by decide) (by decide) ?_
      refine og_retR X13 hx hlk hret rfl rfl rfl (hb hby d15_149) (by decide) (by decide) ?_
      rw [e13]; refine ⟨?_, N, rfl⟩
      rw [← hr]; simp [hc53]
  · -- pc 56
    subst hc53
    refine og_getstatic (pc' := 59) X11 hx hZ (host := "") hown (Or.inl (ow101 hw)) Via.refl e11 (S_SINGLE.ext O.2) (hb hby d15_56) rfl (fun T14 X14 e14 => ?_)
    refine og_goto (pc' := 149) X14 hx (hb hby d15_59) (by decide) (by decide) ?_
    refine og_retR X14 hx hlk hret rfl rfl rfl (hb hby d15_149) (by decide) (by decide) ?_
    rw [e14]; refine ⟨?_, N, rfl⟩
    rw [← hr]; simp
theorem rm_nx1 (l : Launch) (Z : State) (a0 : Array Value) (hw : HW a0 Z) (w0 w1 w2 w3 w4 : Addr) (cc : Int32) (r : Addr) (hr : (if cc = 92 then w2 else if cc = 39 then w0 else w1) = r) (h0 : Heap) (n0 : Nat) (O : Old Z n0 h0) (S_CODE : Sta Z Z.heap "com/example/nitpick/nitpick/internal/interpolation/ExpressionLiterals$Quoting" "CODE" "Lcom/example/nitpick/nitpick/internal/interpolation/ExpressionLiterals$Quoting;" (.ref w0)) (S_SINGLE : Sta Z Z.heap "com/example/nitpick/nitpick/internal/interpolation/ExpressionLiterals$Quoting" "SINGLE" "Lcom/example/nitpick/nitpick/internal/interpolation/ExpressionLiterals$Quoting;" (.ref w1)) (S_SINGLE_ESCAPED : Sta Z Z.heap "com/example/nitpick/nitpick/internal/interpolation/ExpressionLiterals$Quoting" "SINGLE_ESCAPED" "Lcom/example/nitpick/nitpick/internal/interpolation/ExpressionLiterals$Quoting;" (.ref w2)) (S_DOUBLE : Sta Z Z.heap "com/example/nitpick/nitpick/internal/interpolation/ExpressionLiterals$Quoting" "DOUBLE" "Lcom/example/nitpick/nitpick/internal/interpolation/ExpressionLiterals$Quoting;" (.ref w3)) (S_DOUBLE_ESCAPED : Sta Z Z.heap "com/example/nitpick/nitpick/internal/interpolation/ExpressionLiterals$Quoting" "DOUBLE_ESCAPED" "Lcom/example/nitpick/nitpick/internal/interpolation/ExpressionLiterals$Quoting;" (.ref w4)) (E_w0 : Exa Z Z.heap w0 "com/example/nitpick/nitpick/internal/interpolation/ExpressionLiterals$Quoting") (E_w1 : Exa Z Z.heap w1 "com/example/nitpick/nitpick/internal/interpolation/ExpressionLiterals$Quoting") (E_w2 : Exa Z Z.heap w2 "com/example/nitpick/nitpick/internal/interpolation/ExpressionLiterals$Quoting") (E_w3 : Exa Z Z.heap w3 "com/example/nitpick/nitpick/internal/interpolation/ExpressionLiterals$Quoting") (E_w4 : Exa Z Z.heap w4 "com/example/nitpick/nitpick/internal/interpolation/ExpressionLiterals$Quoting") (F_w0 : Fld Z Z.heap w0 "java/lang/Enum" "ordinal" "I" (.int (0 : Int32))) (F_w1 : Fld Z Z.heap w1 "java/lang/Enum" "ordinal" "I" (.int (1 : Int32))) (F_w2 : Fld Z Z.heap w2 "java/lang/Enum" "ordinal" "I" (.int (2 : Int32))) (F_w3 : Fld Z Z.heap w3 "java/lang/Enum" "ordinal" "I" (.int (3 : Int32))) (F_w4 : Fld Z Z.heap w4 "java/lang/Enum" "ordinal" "I" (.int (4 : Int32))) :
    Con l Z (⟨"com/example/nitpick/nitpick/internal/interpolation/ExpressionLiterals$Quoting", "next", "(C)Lcom/example/nitpick/nitpick/internal/interpolation/ExpressionLiterals$Quoting;"⟩ : MethodName) prog_60_method_4_code 2 (some (.object "com/example/nitpick/nitpick/internal/interpolation/ExpressionLiterals$Quoting")) ({ frames := 1, cells := 0, slots := 0, locals := 12 } : Room) #[(.ref w1), (.int cc)] h0 (fun v h L => v = some (.ref r) ∧ Fr n0 L ∧ h = h0) := by
  refine own_startC opn_15 ?_
  intro p e s m below meth c T0 X0 hx hby hml hZ hown hnm hret hlk e0
  have N := Fr.nil n0; have K := Keep.refl h0 []
  refine OG.cast (oef1 m w1 cc) ?_
  refine og_aloadN (pc' := 1) X0 hx rfl rfl (hb hby d15_0) rfl ?_
  refine og_virtualUp (pc' := 4) (cells' := 0) (slots' := 0) (W := 0) X0 hx hZ (y := (⟨"com/example/nitpick/nitpick/internal/interpolation/ExpressionLiterals$Quoting", "ordinal", "()I"⟩ : MethodName)) (rm_ord l Z a0 hw w1 1 h0 n0 O F_w1) hown (ow74 hw) (ow75 hw) (ow76 hw) (by decide) (ow78 hw) (ow77 hw) (ow79 hw) (ow80 hw) (by decide) (by rw [hml]; rfl) e0 opd_0 [] [] rfl rfl rfl rfl (by decide) (by decide) rfl rfl (by decide) (by decide) (E_w1.ext O.2) (hb hby d15_1) rfl (fun v11 T11 h11 L11 X11 e11 z11 => ?_)
  obtain ⟨rfl, Nq11, hq11⟩ := z11; replace e11 := e11.trans hq11; have N := Fr.app N Nq11
  show OG p e below _ (T11.setTop (mkF m 4 #[.val (.ref w1), .val (.int cc)] [(.int (1 : Int32))]))
  refine OG.of (fun t k => XS.tswIn X11.here hx rfl (pc0 := 4) (pc' := 80) rfl (hb hby d15_4) rfl (by decide) (o := 76) (by decide) (by decide) (by decide) k) ?_
  show OG p e below _ (T11.setTop (mkF m 80 #[.val (.ref w1), .val (.int cc)] []))
  refine og_iloadN (pc' := 81) X11 hx rfl (hb hby d15_80) rfl ?_
  refine og_bipush (pc' := 83) (v := (92 : Int32)) X11 hx rfl (hb hby d15_81) rfl ?_
  refine og_icmp_ne (pc1 := 92) (pc2 := 86) X11 hx (hb hby d15_83) (by decide) (by decide) rfl (fun hc83 => ?_) (fun hc83 => ?_)
  · -- pc 92
    refine og_iloadN (pc' := 93) X11 hx rfl (hb hby d15_92) rfl ?_
    refine og_bipush (pc' := 95) (v := (39 : Int32)) X11 hx rfl (hb hby d15_93) rfl ?_
    refine og_icmp_ne (pc1 := 104) (pc2 := 98) X11 hx (hb hby d15_95) (by decide) (by decide) rfl (fun hc95 => ?_) (fun hc95 => ?_)
    · -- pc 104
      refine og_getstatic (pc' := 107) X11 hx hZ (host := "") hown (Or.inl (ow101 hw)) Via.refl e11 (S_SINGLE.ext O.2) (hb hby d15_104) rfl (fun T12 X12 e12 => ?_)
      refine og_goto (pc' := 149) X12 hx (hb hby d15_107) (by decide) (by decide) ?_
      refine og_retR X12 hx hlk hret rfl rfl rfl (hb hby d15_149) (by decide) (by decide) ?_
      rw [e12]; refine ⟨?_, N, rfl⟩
      rw [← hr]; simp [hc83, hc95]
    · -- pc 98
      subst hc95
      refine og_getstatic (pc' := 101) X11 hx hZ (host := "") hown (Or.inl (ow98 hw)) Via.refl e11 (S_CODE.ext O.2) (hb hby d15_98) rfl (fun T13 X13 e13 => ?_)
      refine og_goto (pc' := 149) X13 hx (hb hby d15_101) (by decide) (by decide) ?_
      refine og_retR X13 hx hlk hret rfl rfl rfl (hb hby d15_149) (by decide) (by decide) ?_
      rw [e13]; refine ⟨?_, N, rfl⟩
      rw [← hr]; simp [hc83]
  · -- pc 86
    subst hc83
    refine og_getstatic (pc' := 89) X11 hx hZ (host := "") hown (Or.inl (ow103 hw)) Via.refl e11 (S_SINGLE_ESCAPED.ext O.2) (hb hby d15_86) rfl (fun T14 X14 e14 => ?_)
    refine og_goto (pc' := 149) X14 hx (hb hby d15_89) (by decide) (by decide) ?_
    refine og_retR X14 hx hlk hret rfl rfl rfl (hb hby d15_149) (by decide) (by decide) ?_
    rw [e14]; refine ⟨?_, N, rfl⟩
    rw [← hr]; simp
theorem rm_nx2 (l : Launch) (Z : State) (a0 : Array Value) (hw : HW a0 Z) (w0 w1 w2 w3 w4 : Addr) (cc : Int32) (r : Addr) (hr : (w1) = r) (h0 : Heap) (n0 : Nat) (O : Old Z n0 h0) (S_CODE : Sta Z Z.heap "com/example/nitpick/nitpick/internal/interpolation/ExpressionLiterals$Quoting" "CODE" "Lcom/example/nitpick/nitpick/internal/interpolation/ExpressionLiterals$Quoting;" (.ref w0)) (S_SINGLE : Sta Z Z.heap "com/example/nitpick/nitpick/internal/interpolation/ExpressionLiterals$Quoting" "SINGLE" "Lcom/example/nitpick/nitpick/internal/interpolation/ExpressionLiterals$Quoting;" (.ref w1)) (S_SINGLE_ESCAPED : Sta Z Z.heap "com/example/nitpick/nitpick/internal/interpolation/ExpressionLiterals$Quoting" "SINGLE_ESCAPED" "Lcom/example/nitpick/nitpick/internal/interpolation/ExpressionLiterals$Quoting;" (.ref w2)) (S_DOUBLE : Sta Z Z.heap "com/example/nitpick/nitpick/internal/interpolation/ExpressionLiterals$Quoting" "DOUBLE" "Lcom/example/nitpick/nitpick/internal/interpolation/ExpressionLiterals$Quoting;" (.ref w3)) (S_DOUBLE_ESCAPED : Sta Z Z.heap "com/example/nitpick/nitpick/internal/interpolation/ExpressionLiterals$Quoting" "DOUBLE_ESCAPED" "Lcom/example/nitpick/nitpick/internal/interpolation/ExpressionLiterals$Quoting;" (.ref w4)) (E_w0 : Exa Z Z.heap w0 "com/example/nitpick/nitpick/internal/interpolation/ExpressionLiterals$Quoting") (E_w1 : Exa Z Z.heap w1 "com/example/nitpick/nitpick/internal/interpolation/ExpressionLiterals$Quoting") (E_w2 : Exa Z Z.heap w2 "com/example/nitpick/nitpick/internal/interpolation/ExpressionLiterals$Quoting") (E_w3 : Exa Z Z.heap w3 "com/example/nitpick/nitpick/internal/interpolation/ExpressionLiterals$Quoting") (E_w4 : Exa Z Z.heap w4 "com/example/nitpick/nitpick/internal/interpolation/ExpressionLiterals$Quoting") (F_w0 : Fld Z Z.heap w0 "java/lang/Enum" "ordinal" "I" (.int (0 : Int32))) (F_w1 : Fld Z Z.heap w1 "java/lang/Enum" "ordinal" "I" (.int (1 : Int32))) (F_w2 : Fld Z Z.heap w2 "java/lang/Enum" "ordinal" "I" (.int (2 : Int32))) (F_w3 : Fld Z Z.heap w3 "java/lang/Enum" "ordinal" "I" (.int (3 : Int32))) (F_w4 : Fld Z Z.heap w4 "java/lang/Enum" "ordinal" "I" (.int (4 : Int32))) :
    Con l Z (⟨"com/example/nitpick/nitpick/internal/interpolation/ExpressionLiterals$Quoting", "next", "(C)Lcom/example/nitpick/nitpick/internal/interpolation/ExpressionLiterals$Quoting;"⟩ : MethodName) prog_60_method_4_code 2 (some (.object "com/example/nitpick/nitpick/internal/interpolation/ExpressionLiterals$Quoting")) ({ frames := 1, cells := 0, slots := 0, locals := 12 } : Room) #[(.ref w2), (.int cc)] h0 (fun v h L => v = some (.ref r) ∧ Fr n0 L ∧ h = h0) := by
  refine own_startC opn_15 ?_
  intro p e s m below meth c T0 X0 hx hby hml hZ hown hnm hret hlk e0
  have N := Fr.nil n0; have K := Keep.refl h0 []
  refine OG.cast (oef1 m w2 cc) ?_
  refine og_aloadN (pc' := 1) X0 hx rfl rfl (hb hby d15_0) rfl ?_
  refine og_virtualUp (pc' := 4) (cells' := 0) (slots' := 0) (W := 0) X0 hx hZ (y := (⟨"com/example/nitpick/nitpick/internal/interpolation/ExpressionLiterals$Quoting", "ordinal", "()I"⟩ : MethodName)) (rm_ord l Z a0 hw w2 2 h0 n0 O F_w2) hown (ow74 hw) (ow75 hw) (ow76 hw) (by decide) (ow78 hw) (ow77 hw) (ow79 hw) (ow80 hw) (by decide) (by rw [hml]; rfl) e0 opd_0 [] [] rfl rfl rfl rfl (by decide) (by decide) rfl rfl (by decide) (by decide) (E_w2.ext O.2) (hb hby d15_1) rfl (fun v11 T11 h11 L11 X11 e11 z11 => ?_)
  obtain ⟨rfl, Nq11, hq11⟩ := z11; replace e11 := e11.trans hq11; have N := Fr.app N Nq11
  show OG p e below _ (T11.setTop (mkF m 4 #[.val (.ref w2), .val (.int cc)] [(.int (2 : Int32))]))
  refine OG.of (fun t k => XS.tswIn X11.here hx rfl (pc0 := 4) (pc' := 140) rfl (hb hby d15_4) rfl (by decide) (o := 136) (by decide) (by decide) (by decide) k) ?_
  show OG p e below _ (T11.setTop (mkF m 140 #[.val (.ref w2), .val (.int cc)] []))
  refine og_getstatic (pc' := 143) X11 hx hZ (host := "") hown (Or.inl (ow101 hw)) Via.refl e11 (S_SINGLE.ext O.2) (hb hby d15_140) rfl (fun T12 X12 e12 => ?_)
  refine og_goto (pc' := 149) X12 hx (hb hby d15_143) (by decide) (by decide) ?_
  refine og_retR X12 hx hlk hret rfl rfl rfl (hb hby d15_149) (by decide) (by decide) ?_
  rw [e12]; exact ⟨by rw [← hr], N, rfl⟩
theorem rm_nx3 (l : Launch) (Z : State) (a0 : Array Value) (hw : HW a0 Z) (w0 w1 w2 w3 w4 : Addr) (cc : Int32) (r : Addr) (hr : (if cc = 92 then w4 else if cc = 34 then w0 else w3) = r) (h0 : Heap) (n0 : Nat) (O : Old Z n0 h0) (S_CODE : Sta Z Z.heap "com/example/nitpick/nitpick/internal/interpolation/ExpressionLiterals$Quoting" "CODE" "Lcom/example/nitpick/nitpick/internal/interpolation/ExpressionLiterals$Quoting;" (.ref w0)) (S_SINGLE : Sta Z Z.heap "com/example/nitpick/nitpick/internal/interpolation/ExpressionLiterals$Quoting" "SINGLE" "Lcom/example/nitpick/nitpick/internal/interpolation/ExpressionLiterals$Quoting;" (.ref w1)) (S_SINGLE_ESCAPED : Sta Z Z.heap "com/example/nitpick/nitpick/internal/interpolation/ExpressionLiterals$Quoting" "SINGLE_ESCAPED" "Lcom/example/nitpick/nitpick/internal/interpolation/ExpressionLiterals$Quoting;" (.ref w2)) (S_DOUBLE : Sta Z Z.heap "com/example/nitpick/nitpick/internal/interpolation/ExpressionLiterals$Quoting" "DOUBLE" "Lcom/example/nitpick/nitpick/internal/interpolation/ExpressionLiterals$Quoting;" (.ref w3)) (S_DOUBLE_ESCAPED : Sta Z Z.heap "com/example/nitpick/nitpick/internal/interpolation/ExpressionLiterals$Quoting" "DOUBLE_ESCAPED" "Lcom/example/nitpick/nitpick/internal/interpolation/ExpressionLiterals$Quoting;" (.ref w4)) (E_w0 : Exa Z Z.heap w0 "com/example/nitpick/nitpick/internal/interpolation/ExpressionLiterals$Quoting") (E_w1 : Exa Z Z.heap w1 "com/example/nitpick/nitpick/internal/interpolation/ExpressionLiterals$Quoting") (E_w2 : Exa Z Z.heap w2 "com/example/nitpick/nitpick/internal/interpolation/ExpressionLiterals$Quoting") (E_w3 : Exa Z Z.heap w3 "com/example/nitpick/nitpick/internal/interpolation/ExpressionLiterals$Quoting") (E_w4 : Exa Z Z.heap w4 "com/example/nitpick/nitpick/internal/interpolation/ExpressionLiterals$Quoting") (F_w0 : Fld Z Z.heap w0 "java/lang/Enum" "ordinal" "I" (.int (0 : Int32))) (F_w1 : Fld Z Z.heap w1 "java/lang/Enum" "ordinal" "I" (.int (1 : Int32))) (F_w2 : Fld Z Z.heap w2 "java/lang/Enum" "ordinal" "I" (.int (2 : Int32))) (F_w3 : Fld Z Z.heap w3 "java/lang/Enum" "ordinal" "I" (.int (3 : Int32))) (F_w4 : Fld Z Z.heap w4 "java/lang/Enum" "ordinal" "I" (.int (4 : Int32))) :
    Con l Z (⟨"com/example/nitpick/nitpick/internal/interpolation/ExpressionLiterals$Quoting", "next", "(C)Lcom/example/nitpick/nitpick/internal/interpolation/ExpressionLiterals$Quoting;"⟩ : MethodName) prog_60_method_4_code 2 (some (.object "com/example/nitpick/nitpick/internal/interpolation/ExpressionLiterals$Quoting")) ({ frames := 1, cells := 0, slots := 0, locals := 12 } : Room) #[(.ref w3), (.int cc)] h0 (fun v h L => v = some (.ref r) ∧ Fr n0 L ∧ h = h0) := by
  refine own_startC opn_15 ?_
  intro p e s m below meth c T0 X0 hx hby hml hZ hown hnm hret hlk e0
  have N := Fr.nil n0; have K := Keep.refl h0 []
  refine OG.cast (oef1 m w3 cc) ?_
  refine og_aloadN (pc' := 1) X0 hx rfl rfl (hb hby d15_0) rfl ?_
  refine og_virtualUp (pc' := 4) (cells' := 0) (slots' := 0) (W := 0) X0 hx hZ (y := (⟨"com/example/nitpick/nitpick/internal/interpolation/ExpressionLiterals$Quoting", "ordinal", "()I"⟩ : MethodName)) (rm_ord l Z a0 hw w3 3 h0 n0 O F_w3) hown (ow74 hw) (ow75 hw) (ow76 hw) (by decide) (ow78 hw) (ow77 hw) (ow79 hw) (ow80 hw) (by decide) (by rw [hml]; rfl) e0 opd_0 [] [] rfl rfl rfl rfl (by decide) (by decide) rfl rfl (by decide) (by decide) (E_w3.ext O.2) (hb hby d15_1) rfl (fun v11 T11 h11 L11 X11 e11 z11 => ?_)
  obtain ⟨rfl, Nq11, hq11⟩ := z11; replace e11 := e11.trans hq11; have N := Fr.app N Nq11
  show OG p e below _ (T11.setTop (mkF m 4 #[.val (.ref w3), .val (.int cc)] [(.int (3 : Int32))]))
  refine OG.of (fun t k => XS.tswIn X11.here hx rfl (pc0 := 4) (pc' := 110) rfl (hb hby d15_4) rfl (by decide) (o := 106) (by decide) (by decide) (by decide) k) ?_
  show OG p e below _ (T11.setTop (mkF m 110 #[.val (.ref w3), .val (.int cc)] []))
  refine og_iloadN (pc' := 111) X11 hx rfl (hb hby d15_110) rfl ?_
  refine og_bipush (pc' := 113) (v := (92 : Int32)) X11 hx rfl (hb hby d15_111) rfl ?_
  refine og_icmp_ne (pc1 := 122) (pc2 := 116) X11 hx (hb hby d15_113) (by decide) (by decide) rfl (fun hc113 => ?_) (fun hc113 => ?_)
  · -- pc 122
    refine og_iloadN (pc' := 123) X11 hx rfl (hb hby d15_122) rfl ?_
    refine og_bipush (pc' := 125) (v := (34 : Int32)) X11 hx rfl (hb hby d15_123) rfl ?_
    refine og_icmp_ne (pc1 := 134) (pc2 := 128) X11 hx (hb hby d15_125) (by decide) (by decide) rfl (fun hc125 => ?_) (fun hc125 => ?_)
    · -- pc 134
      refine og_getstatic (pc' := 137) X11 hx hZ (host := "") hown (Or.inl (ow83 hw)) Via.refl e11 (S_DOUBLE.ext O.2) (hb hby d15_134) rfl (fun T12 X12 e12 => ?_)
      refine og_goto (pc' := 149) X12 hx (hb hby d15_137) (by decide) (by decide) ?_
      refine og_retR X12 hx hlk hret rfl rfl rfl (hb hby d15_149) (by decide) (by decide) ?_
      rw [e12]; refine ⟨?_, N, rfl⟩
      rw [← hr]; simp [hc113, hc125]
    · -- pc 128
      subst hc125
      refine og_getstatic (pc' := 131) X11 hx hZ (host := "") hown (Or.inl (ow98 hw)) Via.refl e11 (S_CODE.ext O.2) (hb hby d15_128) rfl (fun T13 X13 e13 => ?_)
      refine og_goto (pc' := 149) X13 hx (hb hby d15_131) (by decide) (by decide) ?_
      refine og_retR X13 hx hlk hret rfl rfl rfl (hb hby d15_149) (by decide) (by decide) ?_
      rw [e13]; refine ⟨?_, N, rfl⟩
      rw [← hr]; simp [hc113]
  · -- pc 116
    subst hc113
    refine og_getstatic (pc' := 119) X11 hx hZ (host := "") hown (Or.inl (ow99 hw)) Via.refl e11 (S_DOUBLE_ESCAPED.ext O.2) (hb hby d15_116) rfl (fun T14 X14 e14 => ?_)
    refine og_goto (pc' := 149) X14 hx (hb hby d15_119) (by decide) (by decide) ?_
    refine og_retR X14 hx hlk hret rfl rfl rfl (hb hby d15_149) (by decide) (by decide) ?_
    rw [e14]; refine ⟨?_, N, rfl⟩
    rw [← hr]; simp
theorem rm_nx4 (l : Launch) (Z : State) (a0 : Array Value) (hw : HW a0 Z) (w0 w1 w2 w3 w4 : Addr) (cc : Int32) (r : Addr) (hr : (w3) = r) (h0 : Heap) (n0 : Nat) (O : Old Z n0 h0) (S_CODE : Sta Z Z.heap "com/example/nitpick/nitpick/internal/interpolation/ExpressionLiterals$Quoting" "CODE" "Lcom/example/nitpick/nitpick/internal/interpolation/ExpressionLiterals$Quoting;" (.ref w0)) (S_SINGLE : Sta Z Z.heap "com/example/nitpick/nitpick/internal/interpolation/ExpressionLiterals$Quoting" "SINGLE" "Lcom/example/nitpick/nitpick/internal/interpolation/ExpressionLiterals$Quoting;" (.ref w1)) (S_SINGLE_ESCAPED : Sta Z Z.heap "com/example/nitpick/nitpick/internal/interpolation/ExpressionLiterals$Quoting" "SINGLE_ESCAPED" "Lcom/example/nitpick/nitpick/internal/interpolation/ExpressionLiterals$Quoting;" (.ref w2)) (S_DOUBLE : Sta Z Z.heap "com/example/nitpick/nitpick/internal/interpolation/ExpressionLiterals$Quoting" "DOUBLE" "Lcom/example/nitpick/nitpick/internal/interpolation/ExpressionLiterals$Quoting;" (.ref w3)) (S_DOUBLE_ESCAPED : Sta Z Z.heap "com/example/nitpick/nitpick/internal/interpolation/ExpressionLiterals$Quoting" "DOUBLE_ESCAPED" "Lcom/example/nitpick/nitpick/internal/interpolation/ExpressionLiterals$Quoting;" (.ref w4)) (E_w0 : Exa Z Z.heap w0 "com/example/nitpick/nitpick/internal/interpolation/ExpressionLiterals$Quoting") (E_w1 : Exa Z Z.heap w1 "com/example/nitpick/nitpick/internal/interpolation/ExpressionLiterals$Quoting") (E_w2 : Exa Z Z.heap w2 "com/example/nitpick/nitpick/internal/interpolation/ExpressionLiterals$Quoting") (E_w3 : Exa Z Z.heap w3 "com/example/nitpick/nitpick/internal/interpolation/ExpressionLiterals$Quoting") (E_w4 : Exa Z Z.heap w4 "com/example/nitpick/nitpick/internal/interpolation/ExpressionLiterals$Quoting") (F_w0 : Fld Z Z.heap w0 "java/lang/Enum" "ordinal" "I" (.int (0 : Int32))) (F_w1 : Fld Z Z.heap w1 "java/lang/Enum" "ordinal" "I" (.int (1 : Int32))) (F_w2 : Fld Z Z.heap w2 "java/lang/Enum" "ordinal" "I" (.int (2 : Int32))) (F_w3 : Fld Z Z.heap w3 "java/lang/Enum" "ordinal" "I" (.int (3 : Int32))) (F_w4 : Fld Z Z.heap w4 "java/lang/Enum" "ordinal" "I" (.int (4 : Int32))) :
    Con l Z (⟨"com/example/nitpick/nitpick/internal/interpolation/ExpressionLiterals$Quoting", "next", "(C)Lcom/example/nitpick/nitpick/internal/interpolation/ExpressionLiterals$Quoting;"⟩ : MethodName) prog_60_method_4_code 2 (some (.object "com/example/nitpick/nitpick/internal/interpolation/ExpressionLiterals$Quoting")) ({ frames := 1, cells := 0, slots := 0, locals := 12 } : Room) #[(.ref w4), (.int cc)] h0 (fun v h L => v = some (.ref r) ∧ Fr n0 L ∧ h = h0) := by
  refine own_startC opn_15 ?_
  intro p e s m below meth c T0 X0 hx hby hml hZ hown hnm hret hlk e0
  have N := Fr.nil n0; have K := Keep.refl h0 []
  refine OG.cast (oef1 m w4 cc) ?_
  refine og_aloadN (pc' := 1) X0 hx rfl rfl (hb hby d15_0) rfl ?_
  refine og_virtualUp (pc' := 4) (cells' := 0) (slots' := 0) (W := 0) X0 hx hZ (y := (⟨"com/example/nitpick/nitpick/internal/interpolation/ExpressionLiterals$Quoting", "ordinal", "()I"⟩ : MethodName)) (rm_ord l Z a0 hw w4 4 h0 n0 O F_w4) hown (ow74 hw) (ow75 hw) (ow76 hw) (by decide) (ow78 hw) (ow77 hw) (ow79 hw) (ow80 hw) (by decide) (by rw [hml]; rfl) e0 opd_0 [] [] rfl rfl rfl rfl (by decide) (by decide) rfl rfl (by decide) (by decide) (E_w4.ext O.2) (hb hby d15_1) rfl (fun v11 T11 h11 L11 X11 e11 z11 => ?_)
  obtain ⟨rfl, Nq11, hq11⟩ := z11; replace e11 := e11.trans hq11; have N := Fr.app N Nq11
  show OG p e below _ (T11.setTop (mkF m 4 #[.val (.ref w4), .val (.int cc)] [(.int (4 : Int32))]))
  refine OG.of (fun t k => XS.tswIn X11.here hx rfl (pc0 := 4) (pc' := 146) rfl (hb hby d15_4) rfl (by decide) (o := 142) (by decide) (by decide) (by decide) k) ?_
  show OG p e below _ (T11.setTop (mkF m 146 #[.val (.ref w4), .val (.int cc)] []))
  refine og_getstatic (pc' := 149) X11 hx hZ (host := "") hown (Or.inl (ow83 hw)) Via.refl e11 (S_DOUBLE.ext O.2) (hb hby d15_146) rfl (fun T12 X12 e12 => ?_)
  refine og_retR X12 hx hlk hret rfl rfl rfl (hb hby d15_149) (by decide) (by decide) ?_
  rw [e12]; exact ⟨by rw [← hr], N, rfl⟩
theorem oef2 (m : MethodId) (x0 : Addr) (x1 : Int32) (x2 : Addr) (x3 : Int32) (x4 : Int32) : entryFrame m #[(.ref x0), (.int x1), (.ref x2), (.int x3), (.int x4)] 7 = mkF m 0 #[.val (.ref x0), .val (.int x1), .val (.ref x2), .val (.int x3), .val (.int x4), .unset, .unset] [] := by first | (simp [entryFrame, mkF, argsToLocals, Value.category]; done) | rfl
theorem rm_c2_6 (l : Launch) (Z : State) (a0 : Array Value) (hw : HW a0 Z) (ca ba : Addr) (kc kb : ClassId) (c0 c1 c2 c3 c4 c5 : Int32) (hb0 : ¬ 255 < c0) (hb1 : ¬ 255 < c1) (hb2 : ¬ 255 < c2) (hb3 : ¬ 255 < c3) (hb4 : ¬ 255 < c4) (hb5 : ¬ 255 < c5) (h0 : Heap) (n0 : Nat) (O : Old Z n0 h0) (V_ca : Arv Z h0 ca kc .char (6 : Int32) [(.int c0), (.int c1), (.int c2), (.int c3), (.int c4), (.int c5)] (.int (0 : Int32))) (V_ba : Arv Z h0 ba kb .byte (6 : Int32) [(.int (0 : Int32)), (.int (0 : Int32)), (.int (0 : Int32)), (.int (0 : Int32)), (.int (0 : Int32)), (.int (0 : Int32))] (.int (0 : Int32))) (g_ba : n0 ≤ ba) (ne_ca_ba : ca ≠ ba) :
    Con l Z (⟨"java/lang/StringUTF16", "compress", "([CI[BII)I"⟩ : MethodName) jdk_52_method_21_code 7 (some .int) ({ frames := 0, cells := 0, slots := 0, locals := 0 } : Room) #[(.ref ca), (.int (0 : Int32)), (.ref ba), (.int (0 : Int32)), (.int (6 : Int32))] h0 (fun v h L => v = some (.int (6 : Int32)) ∧ Fr n0 L ∧ Keep h0 h [ba] ∧ Arv Z h ba kb .byte (6 : Int32) [(.int c0.toInt8.toInt32), (.int c1.toInt8.toInt32), (.int c2.toInt8.toInt32), (.int c3.toInt8.toInt32), (.int c4.toInt8.toInt32), (.int c5.toInt8.toInt32)] (.int (0 : Int32))) := by
  refine own_startC opn_7 ?_
  intro p e s m below meth c T0 X0 hx hby hml hZ hown hnm hret hlk e0
  have N := Fr.nil n0; have K := Keep.refl h0 [ba]
  refine OG.cast (oef2 m ca (0 : Int32) ba (0 : Int32) (6 : Int32)) ?_
  refine og_iconst (pc' := 1) (v := (0 : Int32)) X0 hx rfl (hb hby d7_0) rfl ?_
  refine og_istore (pc' := 3) (L' := #[.val (.ref ca), .val (.int (0 : Int32)), .val (.ref ba), .val (.int (0 : Int32)), .val (.int (6 : Int32)), .val (.int (0 : Int32)), .unset]) X0 hx rfl (hb hby d7_1) rfl ?_
  refine og_iload (pc' := 5) X0 hx rfl (hb hby d7_3) rfl ?_
  refine og_iload (pc' := 7) X0 hx rfl (hb hby d7_5) rfl ?_
  refine og_icmp_ge (pc1 := 44) (pc2 := 10) X0 hx (hb hby d7_7) (by decide) (by decide) rfl (fun q => absurd q (by decide)) (fun _ => ?_)
  refine og_aloadN (pc' := 11) X0 hx rfl rfl (hb hby d7_10) rfl ?_
  refine og_iloadN (pc' := 12) X0 hx rfl (hb hby d7_11) rfl ?_
  refine og_caload (pc' := 13) (v := (.int c0)) X0 hx hZ e0 V_ca ⟨by decide, by decide⟩ rfl (hb hby d7_12) rfl ?_
  refine og_istore (pc' := 15) (L' := #[.val (.ref ca), .val (.int (0 : Int32)), .val (.ref ba), .val (.int (0 : Int32)), .val (.int (6 : Int32)), .val (.int (0 : Int32)), .val (.int c0)]) X0 hx rfl (hb hby d7_13) rfl ?_
  refine og_iload (pc' := 17) X0 hx rfl (hb hby d7_15) rfl ?_
  refine og_sipush (pc' := 20) (v := (255 : Int32)) X0 hx rfl (hb hby d7_17) rfl ?_
  refine og_icmp_le (pc1 := 26) (pc2 := 23) X0 hx (hb hby d7_20) (by decide) (by decide) rfl (fun _ => ?_) (fun q => absurd q hb0)
  refine og_aloadN (pc' := 27) X0 hx rfl rfl (hb hby d7_26) rfl ?_
  refine og_iloadN (pc' := 28) X0 hx rfl (hb hby d7_27) rfl ?_
  refine og_iload (pc' := 30) X0 hx rfl (hb hby d7_28) rfl ?_
  refine og_i2b (pc' := 31) X0 hx (hb hby d7_30) rfl ?_
  refine og_bastore (pc' := 32) X0 hx hZ e0 V_ba ⟨by decide, by decide⟩ 0 (by decide) (Nat.le_of_ble_eq_true rfl) (hb hby d7_31) rfl (fun T11 h11 X11 e11 W11 V11 => ?_)
  have V_ca := V_ca.other W11 ne_ca_ba; have O := O.wr W11 g_ba; have K := K.wr W11 (Or.inl (List.mem_of_getElem? (i := 0) rfl))
  have N := Fr.snoc X11 N g_ba
  have V_ba : Arv Z h11 ba kb .byte (6 : Int32) [(.int (nar .byte (c0.toInt8.toInt32))), (.int (0 : Int32)), (.int (0 : Int32)), (.int (0 : Int32)), (.int (0 : Int32)), (.int (0 : Int32))] (.int (0 : Int32)) := V11
  rw [own_nb] at V_ba
  refine og_iinc (pc' := 35) (L' := #[.val (.ref ca), .val (.int (1 : Int32)), .val (.ref ba), .val (.int (0 : Int32)), .val (.int (6 : Int32)), .val (.int (0 : Int32)), .val (.int c0)]) (w := (1 : Int32)) X11 hx rfl rfl rfl (hb hby d7_32) rfl ?_
  refine og_iinc (pc' := 38) (L' := #[.val (.ref ca), .val (.int (1 : Int32)), .val (.ref ba), .val (.int (1 : Int32)), .val (.int (6 : Int32)), .val (.int (0 : Int32)), .val (.int c0)]) (w := (1 : Int32)) X11 hx rfl rfl rfl (hb hby d7_35) rfl ?_
  refine og_iinc (pc' := 41) (L' := #[.val (.ref ca), .val (.int (1 : Int32)), .val (.ref ba), .val (.int (1 : Int32)), .val (.int (6 : Int32)), .val (.int (1 : Int32)), .val (.int c0)]) (w := (1 : Int32)) X11 hx rfl rfl rfl (hb hby d7_38) rfl ?_
  refine og_goto (pc' := 3) X11 hx (hb hby d7_41) (by decide) (by decide) ?_
  refine og_iload (pc' := 5) X11 hx rfl (hb hby d7_3) rfl ?_
  refine og_iload (pc' := 7) X11 hx rfl (hb hby d7_5) rfl ?_
  refine og_icmp_ge (pc1 := 44) (pc2 := 10) X11 hx (hb hby d7_7) (by decide) (by decide) rfl (fun q => absurd q (by decide)) (fun _ => ?_)
  refine og_aloadN (pc' := 11) X11 hx rfl rfl (hb hby d7_10) rfl ?_
  refine og_iloadN (pc' := 12) X11 hx rfl (hb hby d7_11) rfl ?_
  refine og_caload (pc' := 13) (v := (.int c1)) X11 hx hZ e11 V_ca ⟨by decide, by decide⟩ rfl (hb hby d7_12) rfl ?_
  refine og_istore (pc' := 15) (L' := #[.val (.ref ca), .val (.int (1 : Int32)), .val (.ref ba), .val (.int (1 : Int32)), .val (.int (6 : Int32)), .val (.int (1 : Int32)), .val (.int c1)]) X11 hx rfl (hb hby d7_13) rfl ?_
  refine og_iload (pc' := 17) X11 hx rfl (hb hby d7_15) rfl ?_
  refine og_sipush (pc' := 20) (v := (255 : Int32)) X11 hx rfl (hb hby d7_17) rfl ?_
  refine og_icmp_le (pc1 := 26) (pc2 := 23) X11 hx (hb hby d7_20) (by decide) (by decide) rfl (fun _ => ?_) (fun q => absurd q hb1)
  refine og_aloadN (pc' := 27) X11 hx rfl rfl (hb hby d7_26) rfl ?_
  refine og_iloadN (pc' := 28) X11 hx rfl (hb hby d7_27) rfl ?_
  refine og_iload (pc' := 30) X11 hx rfl (hb hby d7_28) rfl ?_
  refine og_i2b (pc' := 31) X11 hx (hb hby d7_30) rfl ?_
  refine og_bastore (pc' := 32) X11 hx hZ e11 V_ba ⟨by decide, by decide⟩ 1 (by decide) (Nat.le_of_ble_eq_true rfl) (hb hby d7_31) rfl (fun T12 h12 X12 e12 W12 V12 => ?_)
  have V_ca := V_ca.other W12 ne_ca_ba; have O := O.wr W12 g_ba; have K := K.wr W12 (Or.inl (List.mem_of_getElem? (i := 0) rfl))
  have N := Fr.snoc X12 N g_ba
  have V_ba : Arv Z h12 ba kb .byte (6 : Int32) [(.int c0.toInt8.toInt32), (.int (nar .byte (c1.toInt8.toInt32))), (.int (0 : Int32)), (.int (0 : Int32)), (.int (0 : Int32)), (.int (0 : Int32))] (.int (0 : Int32)) := V12
  rw [own_nb] at V_ba
  refine og_iinc (pc' := 35) (L' := #[.val (.ref ca), .val (.int (2 : Int32)), .val (.ref ba), .val (.int (1 : Int32)), .val (.int (6 : Int32)), .val (.int (1 : Int32)), .val (.int c1)]) (w := (1 : Int32)) X12 hx rfl rfl rfl (hb hby d7_32) rfl ?_
  refine og_iinc (pc' := 38) (L' := #[.val (.ref ca), .val (.int (2 : Int32)), .val (.ref ba), .val (.int (2 : Int32)), .val (.int (6 : Int32)), .val (.int (1 : Int32)), .val (.int c1)]) (w := (1 : Int32)) X12 hx rfl rfl rfl (hb hby d7_35) rfl ?_
  refine og_iinc (pc' := 41) (L' := #[.val (.ref ca), .val (.int (2 : Int32)), .val (.ref ba), .val (.int (2 : Int32)), .val (.int (6 : Int32)), .val (.int (2 : Int32)), .val (.int c1)]) (w := (1 : Int32)) X12 hx rfl rfl rfl (hb hby d7_38) rfl ?_
  refine og_goto (pc' := 3) X12 hx (hb hby d7_41) (by decide) (by decide) ?_
  refine og_iload (pc' := 5) X12 hx rfl (hb hby d7_3) rfl ?_
  refine og_iload (pc' := 7) X12 hx rfl (hb hby d7_5) rfl ?_
  refine og_icmp_ge (pc1 := 44) (pc2 := 10) X12 hx (hb hby d7_7) (by decide) (by decide) rfl (fun q => absurd q (by decide)) (fun _ => ?_)
  refine og_aloadN (pc' := 11) X12 hx rfl rfl (hb hby d7_10) rfl ?_
  refine og_iloadN (pc' := 12) X12 hx rfl (hb hby d7_11) rfl ?_
  refine og_caload (pc' := 13) (v := (.int c2)) X12 hx hZ e12 V_ca ⟨by decide, by decide⟩ rfl (hb hby d7_12) rfl ?_
  refine og_istore (pc' := 15) (L' := #[.val (.ref ca), .val (.int (2 : Int32)), .val (.ref ba), .val (.int (2 : Int32)), .val (.int (6 : Int32)), .val (.int (2 : Int32)), .val (.int c2)]) X12 hx rfl (hb hby d7_13) rfl ?_
  refine og_iload (pc' := 17) X12 hx rfl (hb hby d7_15) rfl ?_
  refine og_sipush (pc' := 20) (v := (255 : Int32)) X12 hx rfl (hb hby d7_17) rfl ?_
  refine og_icmp_le (pc1 := 26) (pc2 := 23) X12 hx (hb hby d7_20) (by decide) (by decide) rfl (fun _ => ?_) (fun q => absurd q hb2)
  refine og_aloadN (pc' := 27) X12 hx rfl rfl (hb hby d7_26) rfl ?_
  refine og_iloadN (pc' := 28) X12 hx rfl (hb hby d7_27) rfl ?_
  refine og_iload (pc' := 30) X12 hx rfl (hb hby d7_28) rfl ?_
  refine og_i2b (pc' := 31) X12 hx (hb hby d7_30) rfl ?_
  refine og_bastore (pc' := 32) X12 hx hZ e12 V_ba ⟨by decide, by decide⟩ 2 (by decide) (Nat.le_of_ble_eq_true rfl) (hb hby d7_31) rfl (fun T13 h13 X13 e13 W13 V13 => ?_)
  have V_ca := V_ca.other W13 ne_ca_ba; have O := O.wr W13 g_ba; have K := K.wr W13 (Or.inl (List.mem_of_getElem? (i := 0) rfl))
  have N := Fr.snoc X13 N g_ba
  have V_ba : Arv Z h13 ba kb .byte (6 : Int32) [(.int c0.toInt8.toInt32), (.int c1.toInt8.toInt32), (.int (nar .byte (c2.toInt8.toInt32))), (.int (0 : Int32)), (.int (0 : Int32)), (.int (0 : Int32))] (.int (0 : Int32)) := V13
  rw [own_nb] at V_ba
  refine og_iinc (pc' := 35) (L' := #[.val (.ref ca), .val (.int (3 : Int32)), .val (.ref ba), .val (.int (2 : Int32)), .val (.int (6 : Int32)), .val (.int (2 : Int32)), .val (.int c2)]) (w := (1 : Int32)) X13 hx rfl rfl rfl (hb hby d7_32) rfl ?_
  refine og_iinc (pc' := 38) (L' := #[.val (.ref ca), .val (.int (3 : Int32)), .val (.ref ba), .val (.int (3 : Int32)), .val (.int (6 : Int32)), .val (.int (2 : Int32)), .val (.int c2)]) (w := (1 : Int32)) X13 hx rfl rfl rfl (hb hby d7_35) rfl ?_
  refine og_iinc (pc' := 41) (L' := #[.val (.ref ca), .val (.int (3 : Int32)), .val (.ref ba), .val (.int (3 : Int32)), .val (.int (6 : Int32)), .val (.int (3 : Int32)), .val (.int c2)]) (w := (1 : Int32)) X13 hx rfl rfl rfl (hb hby d7_38) rfl ?_
  refine og_goto (pc' := 3) X13 hx (hb hby d7_41) (by decide) (by decide) ?_
  refine og_iload (pc' := 5) X13 hx rfl (hb hby d7_3) rfl ?_
  refine og_iload (pc' := 7) X13 hx rfl (hb hby d7_5) rfl ?_
  refine og_icmp_ge (pc1 := 44) (pc2 := 10) X13 hx (hb hby d7_7) (by decide) (by decide) rfl (fun q => absurd q (by decide)) (fun _ => ?_)
  refine og_aloadN (pc' := 11) X13 hx rfl rfl (hb hby d7_10) rfl ?_
  refine og_iloadN (pc' := 12) X13 hx rfl (hb hby d7_11) rfl ?_
  refine og_caload (pc' := 13) (v := (.int c3)) X13 hx hZ e13 V_ca ⟨by decide, by decide⟩ rfl (hb hby d7_12) rfl ?_
  refine og_istore (pc' := 15) (L' := #[.val (.ref ca), .val (.int (3 : Int32)), .val (.ref ba), .val (.int (3 : Int32)), .val (.int (6 : Int32)), .val (.int (3 : Int32)), .val (.int c3)]) X13 hx rfl (hb hby d7_13) rfl ?_
  refine og_iload (pc' := 17) X13 hx rfl (hb hby d7_15) rfl ?_
  refine og_sipush (pc' := 20) (v := (255 : Int32)) X13 hx rfl (hb hby d7_17) rfl ?_
  refine og_icmp_le (pc1 := 26) (pc2 := 23) X13 hx (hb hby d7_20) (by decide) (by decide) rfl (fun _ => ?_) (fun q => absurd q hb3)
  refine og_aloadN (pc' := 27) X13 hx rfl rfl (hb hby d7_26) rfl ?_
  refine og_iloadN (pc' := 28) X13 hx rfl (hb hby d7_27) rfl ?_
  refine og_iload (pc' := 30) X13 hx rfl (hb hby d7_28) rfl ?_
  refine og_i2b (pc' := 31) X13 hx (hb hby d7_30) rfl ?_
  refine og_bastore (pc' := 32) X13 hx hZ e13 V_ba ⟨by decide, by decide⟩ 3 (by decide) (Nat.le_of_ble_eq_true rfl) (hb hby d7_31) rfl (fun T14 h14 X14 e14 W14 V14 => ?_)
  have V_ca := V_ca.other W14 ne_ca_ba; have O := O.wr W14 g_ba; have K := K.wr W14 (Or.inl (List.mem_of_getElem? (i := 0) rfl))
  have N := Fr.snoc X14 N g_ba
  have V_ba : Arv Z h14 ba kb .byte (6 : Int32) [(.int c0.toInt8.toInt32), (.int c1.toInt8.toInt32), (.int c2.toInt8.toInt32), (.int (nar .byte (c3.toInt8.toInt32))), (.int (0 : Int32)), (.int (0 : Int32))] (.int (0 : Int32)) := V14
  rw [own_nb] at V_ba
  refine og_iinc (pc' := 35) (L' := #[.val (.ref ca), .val (.int (4 : Int32)), .val (.ref ba), .val (.int (3 : Int32)), .val (.int (6 : Int32)), .val (.int (3 : Int32)), .val (.int c3)]) (w := (1 : Int32)) X14 hx rfl rfl rfl (hb hby d7_32) rfl ?_
  refine og_iinc (pc' := 38) (L' := #[.val (.ref ca), .val (.int (4 : Int32)), .val (.ref ba), .val (.int (4 : Int32)), .val (.int (6 : Int32)), .val (.int (3 : Int32)), .val (.int c3)]) (w := (1 : Int32)) X14 hx rfl rfl rfl (hb hby d7_35) rfl ?_
  refine og_iinc (pc' := 41) (L' := #[.val (.ref ca), .val (.int (4 : Int32)), .val (.ref ba), .val (.int (4 : Int32)), .val (.int (6 : Int32)), .val (.int (4 : Int32)), .val (.int c3)]) (w := (1 : Int32)) X14 hx rfl rfl rfl (hb hby d7_38) rfl ?_
  refine og_goto (pc' := 3) X14 hx (hb hby d7_41) (by decide) (by decide) ?_
  refine og_iload (pc' := 5) X14 hx rfl (hb hby d7_3) rfl ?_
  refine og_iload (pc' := 7) X14 hx rfl (hb hby d7_5) rfl ?_
  refine og_icmp_ge (pc1 := 44) (pc2 := 10) X14 hx (hb hby d7_7) (by decide) (by decide) rfl (fun q => absurd q (by decide)) (fun _ => ?_)
  refine og_aloadN (pc' := 11) X14 hx rfl rfl (hb hby d7_10) rfl ?_
  refine og_iloadN (pc' := 12) X14 hx rfl (hb hby d7_11) rfl ?_
  refine og_caload (pc' := 13) (v := (.int c4)) X14 hx hZ e14 V_ca ⟨by decide, by decide⟩ rfl (hb hby d7_12) rfl ?_
  refine og_istore (pc' := 15) (L' := #[.val (.ref ca), .val (.int (4 : Int32)), .val (.ref ba), .val (.int (4 : Int32)), .val (.int (6 : Int32)), .val (.int (4 : Int32)), .val (.int c4)]) X14 hx rfl (hb hby d7_13) rfl ?_
  refine og_iload (pc' := 17) X14 hx rfl (hb hby d7_15) rfl ?_
  refine og_sipush (pc' := 20) (v := (255 : Int32)) X14 hx rfl (hb hby d7_17) rfl ?_
  refine og_icmp_le (pc1 := 26) (pc2 := 23) X14 hx (hb hby d7_20) (by decide) (by decide) rfl (fun _ => ?_) (fun q => absurd q hb4)
  refine og_aloadN (pc' := 27) X14 hx rfl rfl (hb hby d7_26) rfl ?_
  refine og_iloadN (pc' := 28) X14 hx rfl (hb hby d7_27) rfl ?_
  refine og_iload (pc' := 30) X14 hx rfl (hb hby d7_28) rfl ?_
  refine og_i2b (pc' := 31) X14 hx (hb hby d7_30) rfl ?_
  refine og_bastore (pc' := 32) X14 hx hZ e14 V_ba ⟨by decide, by decide⟩ 4 (by decide) (Nat.le_of_ble_eq_true rfl) (hb hby d7_31) rfl (fun T15 h15 X15 e15 W15 V15 => ?_)
  have V_ca := V_ca.other W15 ne_ca_ba; have O := O.wr W15 g_ba; have K := K.wr W15 (Or.inl (List.mem_of_getElem? (i := 0) rfl))
  have N := Fr.snoc X15 N g_ba
  have V_ba : Arv Z h15 ba kb .byte (6 : Int32) [(.int c0.toInt8.toInt32), (.int c1.toInt8.toInt32), (.int c2.toInt8.toInt32), (.int c3.toInt8.toInt32), (.int (nar .byte (c4.toInt8.toInt32))), (.int (0 : Int32))] (.int (0 : Int32)) := V15
  rw [own_nb] at V_ba
  refine og_iinc (pc' := 35) (L' := #[.val (.ref ca), .val (.int (5 : Int32)), .val (.ref ba), .val (.int (4 : Int32)), .val (.int (6 : Int32)), .val (.int (4 : Int32)), .val (.int c4)]) (w := (1 : Int32)) X15 hx rfl rfl rfl (hb hby d7_32) rfl ?_
  refine og_iinc (pc' := 38) (L' := #[.val (.ref ca), .val (.int (5 : Int32)), .val (.ref ba), .val (.int (5 : Int32)), .val (.int (6 : Int32)), .val (.int (4 : Int32)), .val (.int c4)]) (w := (1 : Int32)) X15 hx rfl rfl rfl (hb hby d7_35) rfl ?_
  refine og_iinc (pc' := 41) (L' := #[.val (.ref ca), .val (.int (5 : Int32)), .val (.ref ba), .val (.int (5 : Int32)), .val (.int (6 : Int32)), .val (.int (5 : Int32)), .val (.int c4)]) (w := (1 : Int32)) X15 hx rfl rfl rfl (hb hby d7_38) rfl ?_
  refine og_goto (pc' := 3) X15 hx (hb hby d7_41) (by decide) (by decide) ?_
  refine og_iload (pc' := 5) X15 hx rfl (hb hby d7_3) rfl ?_
  refine og_iload (pc' := 7) X15 hx rfl (hb hby d7_5) rfl ?_
  refine og_icmp_ge (pc1 := 44) (pc2 := 10) X15 hx (hb hby d7_7) (by decide) (by decide) rfl (fun q => absurd q (by decide)) (fun _ => ?_)
  refine og_aloadN (pc' := 11) X15 hx rfl rfl (hb hby d7_10) rfl ?_
  refine og_iloadN (pc' := 12) X15 hx rfl (hb hby d7_11) rfl ?_
  refine og_caload (pc' := 13) (v := (.int c5)) X15 hx hZ e15 V_ca ⟨by decide, by decide⟩ rfl (hb hby d7_12) rfl ?_
  refine og_istore (pc' := 15) (L' := #[.val (.ref ca), .val (.int (5 : Int32)), .val (.ref ba), .val (.int (5 : Int32)), .val (.int (6 : Int32)), .val (.int (5 : Int32)), .val (.int c5)]) X15 hx rfl (hb hby d7_13) rfl ?_
  refine og_iload (pc' := 17) X15 hx rfl (hb hby d7_15) rfl ?_
  refine og_sipush (pc' := 20) (v := (255 : Int32)) X15 hx rfl (hb hby d7_17) rfl ?_
  refine og_icmp_le (pc1 := 26) (pc2 := 23) X15 hx (hb hby d7_20) (by decide) (by decide) rfl (fun _ => ?_) (fun q => absurd q hb5)
  refine og_aloadN (pc' := 27) X15 hx rfl rfl (hb hby d7_26) rfl ?_
  refine og_iloadN (pc' := 28) X15 hx rfl (hb hby d7_27) rfl ?_
  refine og_iload (pc' := 30) X15 hx rfl (hb hby d7_28) rfl ?_
  refine og_i2b (pc' := 31) X15 hx (hb hby d7_30) rfl ?_
  refine og_bastore (pc' := 32) X15 hx hZ e15 V_ba ⟨by decide, by decide⟩ 5 (by decide) (Nat.le_of_ble_eq_true rfl) (hb hby d7_31) rfl (fun T16 h16 X16 e16 W16 V16 => ?_)
  have V_ca := V_ca.other W16 ne_ca_ba; have O := O.wr W16 g_ba; have K := K.wr W16 (Or.inl (List.mem_of_getElem? (i := 0) rfl))
  have N := Fr.snoc X16 N g_ba
  have V_ba : Arv Z h16 ba kb .byte (6 : Int32) [(.int c0.toInt8.toInt32), (.int c1.toInt8.toInt32), (.int c2.toInt8.toInt32), (.int c3.toInt8.toInt32), (.int c4.toInt8.toInt32), (.int (nar .byte (c5.toInt8.toInt32)))] (.int (0 : Int32)) := V16
  rw [own_nb] at V_ba
  refine og_iinc (pc' := 35) (L' := #[.val (.ref ca), .val (.int (6 : Int32)), .val (.ref ba), .val (.int (5 : Int32)), .val (.int (6 : Int32)), .val (.int (5 : Int32)), .val (.int c5)]) (w := (1 : Int32)) X16 hx rfl rfl rfl (hb hby d7_32) rfl ?_
  refine og_iinc (pc' := 38) (L' := #[.val (.ref ca), .val (.int (6 : Int32)), .val (.ref ba), .val (.int (6 : Int32)), .val (.int (6 : Int32)), .val (.int (5 : Int32)), .val (.int c5)]) (w := (1 : Int32)) X16 hx rfl rfl rfl (hb hby d7_35) rfl ?_
  refine og_iinc (pc' := 41) (L' := #[.val (.ref ca), .val (.int (6 : Int32)), .val (.ref ba), .val (.int (6 : Int32)), .val (.int (6 : Int32)), .val (.int (6 : Int32)), .val (.int c5)]) (w := (1 : Int32)) X16 hx rfl rfl rfl (hb hby d7_38) rfl ?_
  refine og_goto (pc' := 3) X16 hx (hb hby d7_41) (by decide) (by decide) ?_
  refine og_iload (pc' := 5) X16 hx rfl (hb hby d7_3) rfl ?_
  refine og_iload (pc' := 7) X16 hx rfl (hb hby d7_5) rfl ?_
  refine og_icmp_ge (pc1 := 44) (pc2 := 10) X16 hx (hb hby d7_7) (by decide) (by decide) rfl (fun _ => ?_) (fun q => absurd q (by decide))
  refine og_iload (pc' := 46) X16 hx rfl (hb hby d7_44) rfl ?_
  refine og_retI X16 hx hlk hret (hb hby d7_46) (by decide) (by decide) ?_
  rw [e16]; exact ⟨rfl, N, K, V_ba⟩
theorem oef3 (m : MethodId) (x0 : Addr) (x1 : Int32) (x2 : Int32) : entryFrame m #[(.ref x0), (.int x1), (.int x2)] 6 = mkF m 0 #[.val (.ref x0), .val (.int x1), .val (.int x2), .unset, .unset, .unset] [] := by first | (simp [entryFrame, mkF, argsToLocals, Value.category]; done) | rfl
theorem rm_c1_6 (l : Launch) (Z : State) (a0 : Array Value) (hw : HW a0 Z) (ca : Addr) (kc : ClassId) (c0 c1 c2 c3 c4 c5 : Int32) (hb0 : ¬ 255 < c0) (hb1 : ¬ 255 < c1) (hb2 : ¬ 255 < c2) (hb3 : ¬ 255 < c3) (hb4 : ¬ 255 < c4) (hb5 : ¬ 255 < c5) (h0 : Heap) (n0 : Nat) (O : Old Z n0 h0) (V_ca : Arv Z h0 ca kc .char (6 : Int32) [(.int c0), (.int c1), (.int c2), (.int c3), (.int c4), (.int c5)] (.int (0 : Int32))) :
    Con l Z (⟨"java/lang/StringUTF16", "compress", "([CII)[B"⟩ : MethodName) jdk_52_method_16_code 6 (some (.array .byte)) ({ frames := 1, cells := 1, slots := 6, locals := 18 } : Room) #[(.ref ca), (.int (0 : Int32)), (.int (6 : Int32))] h0 (fun v h L => ∃ b k, v = some (.ref b) ∧ Fr n0 L ∧ Keep h0 h [] ∧ h0.size ≤ b ∧ Arv Z h b k .byte (6 : Int32) [(.int c0.toInt8.toInt32), (.int c1.toInt8.toInt32), (.int c2.toInt8.toInt32), (.int c3.toInt8.toInt32), (.int c4.toInt8.toInt32), (.int c5.toInt8.toInt32)] (.int (0 : Int32))) := by
  refine own_startC opn_6 ?_
  intro p e s m below meth c T0 X0 hx hby hml hZ hown hnm hret hlk e0
  have N := Fr.nil n0; have K := Keep.refl h0 []
  refine OG.cast (oef3 m ca (0 : Int32) (6 : Int32)) ?_
  refine og_iloadN (pc' := 1) X0 hx rfl (hb hby d6_0) rfl ?_
  refine og_newarray (pc' := 3) (cells' := 1) (slots' := 6) (cap := 6) (ty := .byte) X0 hx hZ rfl (ow29 hw) e0 (by decide) (by decide) (by decide) (hb hby d6_1) rfl rfl rfl (by decide) (by decide) (fun T11 h11 nb11 kA11 X11 e11 E11 q11 V_nb11 => ?_)
  have s_nb11 : h0.size ≤ nb11 := Nat.le_of_eq q11.symm; have g_nb11 : n0 ≤ nb11 := Nat.le_trans (own_n0 O) s_nb11; have sz_nb11 : h0.size ≤ nb11 := Nat.le_trans K.1 s_nb11; have ne_ca_nb11 : ca ≠ nb11 := Nat.ne_of_lt (Nat.lt_of_lt_of_le V_ca.lt s_nb11)
  have V_ca := V_ca.ext E11; have O := O.ext E11; have K := K.ext E11
  have V_nb11 : Arv Z h11 nb11 kA11 .byte (6 : Int32) [(.int (0 : Int32)), (.int (0 : Int32)), (.int (0 : Int32)), (.int (0 : Int32)), (.int (0 : Int32)), (.int (0 : Int32))] (.int (0 : Int32)) := V_nb11.pad (pad_rep [] (.int (0 : Int32)) 6)
  refine og_astoreN (pc' := 4) (L' := #[.val (.ref ca), .val (.int (0 : Int32)), .val (.int (6 : Int32)), .val (.ref nb11), .unset, .unset]) X11 hx rfl rfl (hb hby d6_3) rfl ?_
  refine og_aloadN (pc' := 5) X11 hx rfl rfl (hb hby d6_4) rfl ?_
  refine og_iloadN (pc' := 6) X11 hx rfl (hb hby d6_5) rfl ?_
  refine og_aloadN (pc' := 7) X11 hx rfl rfl (hb hby d6_6) rfl ?_
  refine og_iconst (pc' := 8) (v := (0 : Int32)) X11 hx rfl (hb hby d6_7) rfl ?_
  refine og_iloadN (pc' := 9) X11 hx rfl (hb hby d6_8) rfl ?_
  refine og_static (pc' := 12) (cells' := 1) (slots' := 6) (W := 0) X11 hx hZ (rm_c2_6 l Z a0 hw ca nb11 kc kA11 c0 c1 c2 c3 c4 c5 hb0 hb1 hb2 hb3 hb4 hb5 h11 n0 O V_ca V_nb11 g_nb11 ne_ca_nb11) hown (ow30 hw) (ow31 hw) (ow27 hw) (ow32 hw) (by decide) (by rw [hml]; rfl) e11 opd_1 [(.ref ca), (.int (0 : Int32)), (.ref nb11), (.int (0 : Int32)), (.int (6 : Int32))] [] rfl rfl rfl rfl (by decide) (by decide) rfl rfl (by decide) (by decide) (hb hby d6_9) rfl (fun v12 T12 h12 L12 X12 e12 z12 => ?_)
  obtain ⟨rfl, Nq12, K12, V_nb11'⟩ := z12; have N := Fr.app N Nq12
  have V_ca := V_ca.keep K12 (ninS ne_ca_nb11 nin0); have O := O.keep K12 (allS g_nb11 all0); have K := K.trans K12 (allS (Or.inr sz_nb11) all0)
  have V_nb11 := V_nb11'
  show OG p e below _ (T12.setTop (mkF m 12 #[.val (.ref ca), .val (.int (0 : Int32)), .val (.int (6 : Int32)), .val (.ref nb11), .unset, .unset] [(.int (6 : Int32))]))
  refine og_istore (pc' := 14) (L' := #[.val (.ref ca), .val (.int (0 : Int32)), .val (.int (6 : Int32)), .val (.ref nb11), .val (.int (6 : Int32)), .unset]) X12 hx rfl (hb hby d6_12) rfl ?_
  refine og_iload (pc' := 16) X12 hx rfl (hb hby d6_14) rfl ?_
  refine og_iloadN (pc' := 17) X12 hx rfl (hb hby d6_16) rfl ?_
  refine og_icmp_eq (pc1 := 57) (pc2 := 20) X12 hx (hb hby d6_17) (by decide) (by decide) rfl (fun _ => ?_) (fun q => absurd q (by decide))
  refine og_aloadN (pc' := 58) X12 hx rfl rfl (hb hby d6_57) rfl ?_
  refine og_retR X12 hx hlk hret rfl rfl rfl (hb hby d6_58) (by decide) (by decide) ?_
  rw [e12]; exact ⟨_, _, rfl, N, K, sz_nb11, V_nb11⟩
theorem rm_cfa_6 (l : Launch) (Z : State) (a0 : Array Value) (hw : HW a0 Z) (ba : Addr) (kb : ClassId) (vs : List Value) (h0 : Heap) (n0 : Nat) (O : Old Z n0 h0) (V_ba : Arv Z h0 ba kb .byte (6 : Int32) vs (.int (0 : Int32))) :
    Con l Z (⟨"java/lang/StringUTF16", "coderFromArrayLen", "([BI)B"⟩ : MethodName) jdk_52_method_15_code 2 (some .byte) ({ frames := 0, cells := 0, slots := 0, locals := 0 } : Room) #[(.ref ba), (.int (6 : Int32))] h0 (fun v h L => v = some (.int (0 : Int32)) ∧ Fr n0 L ∧ h = h0) := by
  refine own_startC opn_8 ?_
  intro p e s m below meth c T0 X0 hx hby hml hZ hown hnm hret hlk e0
  have N := Fr.nil n0; have K := Keep.refl h0 []
  refine OG.cast (oef1 m ba (6 : Int32)) ?_
  refine og_iloadN (pc' := 1) X0 hx rfl (hb hby d8_0) rfl ?_
  refine og_aloadN (pc' := 2) X0 hx rfl rfl (hb hby d8_1) rfl ?_
  refine og_arraylength (pc' := 3) X0 hx hZ e0 V_ba (hb hby d8_2) rfl ?_
  refine og_isub (pc' := 4) X0 hx (hb hby d8_3) rfl ?_
  show OG p e below _ (T0.setTop (mkF m 4 #[.val (.ref ba), .val (.int (6 : Int32))] [(.int (0 : Int32))]))
  refine og_bipush (pc' := 6) (v := (31 : Int32)) X0 hx rfl (hb hby d8_4) rfl ?_
  refine og_iushr (pc' := 7) X0 hx (hb hby d8_6) rfl ?_
  show OG p e below _ (T0.setTop (mkF m 7 #[.val (.ref ba), .val (.int (6 : Int32))] [(.int (0 : Int32))]))
  refine og_i2b (pc' := 8) X0 hx (hb hby d8_7) rfl ?_
  show OG p e below _ (T0.setTop (mkF m 8 #[.val (.ref ba), .val (.int (6 : Int32))] [(.int (0 : Int32))]))
  refine og_retN X0 hx hlk hret (by simp) (hb hby d8_8) (by decide) (by decide) ?_
  rw [e0]; exact ⟨rfl, N, rfl⟩
theorem oef4 (m : MethodId) (x0 : Addr) (x1 : Addr) (x2 : Int32) (x3 : Int32) : entryFrame m #[(.ref x0), (.ref x1), (.int x2), (.int x3), .null] 6 = mkF m 0 #[.val (.ref x0), .val (.ref x1), .val (.int x2), .val (.int x3), .val .null, .unset] [] := by first | (simp [entryFrame, mkF, argsToLocals, Value.category]; done) | rfl
theorem rm_sv_6 (l : Launch) (Z : State) (a0 : Array Value) (hw : HW a0 Z) (a1 ca : Addr) (kc : ClassId) (c0 c1 c2 c3 c4 c5 : Int32) (hb0 : ¬ 255 < c0) (hb1 : ¬ 255 < c1) (hb2 : ¬ 255 < c2) (hb3 : ¬ 255 < c3) (hb4 : ¬ 255 < c4) (hb5 : ¬ 255 < c5) (cs : Int32) (hcs : ¬ cs = 0) (h0 : Heap) (n0 : Nat) (O : Old Z n0 h0) (E_a1 : Exa Z h0 a1 "java/lang/String") (F_value_a1 : Fld Z h0 a1 "java/lang/String" "value" "[B" .null) (F_coder_a1 : Fld Z h0 a1 "java/lang/String" "coder" "B" (.int (0 : Int32))) (V_ca : Arv Z h0 ca kc .char (6 : Int32) [(.int c0), (.int c1), (.int c2), (.int c3), (.int c4), (.int c5)] (.int (0 : Int32))) (S_CS : Sta Z Z.heap "java/lang/String" "COMPACT_STRINGS" "Z" (.int cs)) (g_a1 : n0 ≤ a1) (ne_ca_a1 : ca ≠ a1) :
    Con l Z (⟨"java/lang/String", "<init>", "([CIILjava/lang/Void;)V"⟩ : MethodName) jdk_42_method_149_code 6 none ({ frames := 2, cells := 1, slots := 6, locals := 35 } : Room) #[(.ref a1), (.ref ca), (.int (0 : Int32)), (.int (6 : Int32)), .null] h0 (fun v h L => ∃ b k, v = none ∧ Fr n0 L ∧ Keep h0 h [a1] ∧ h0.size ≤ b ∧ Exa Z h a1 "java/lang/String" ∧ Fld Z h a1 "java/lang/String" "value" "[B" (.ref b) ∧ Fld Z h a1 "java/lang/String" "coder" "B" (.int (0 : Int32)) ∧ Arv Z h b k .byte (6 : Int32) [(.int c0.toInt8.toInt32), (.int c1.toInt8.toInt32), (.int c2.toInt8.toInt32), (.int c3.toInt8.toInt32), (.int c4.toInt8.toInt32), (.int c5.toInt8.toInt32)] (.int (0 : Int32))) := by
  refine own_startC opn_4 ?_
  intro p e s m below meth c T0 X0 hx hby hml hZ hown hnm hret hlk e0
  have N := Fr.nil n0; have K := Keep.refl h0 [a1]
  refine OG.cast (oef4 m a1 ca (0 : Int32) (6 : Int32)) ?_
  refine og_aloadN (pc' := 1) X0 hx rfl rfl (hb hby d4_0) rfl ?_
  refine og_initO (pc' := 4) X0 hx hZ (W := 0) (by rw [hml]; rfl) hown (ow21 hw) (ow22 hw) (ow23 hw) e0 rfl (by decide) (by decide) (hb hby d4_1) rfl (fun T11 X11 e11 => ?_)
  refine og_iloadN (pc' := 5) X11 hx rfl (hb hby d4_4) rfl ?_
  refine og_if_ne (pc1 := 27) (pc2 := 8) X11 hx (hb hby d4_5) (by decide) (by decide) rfl (fun _ => ?_) (fun q => absurd q (by decide))
  refine og_getstatic (pc' := 30) X11 hx hZ (host := "") hown (Or.inl (ow24 hw)) Via.refl e11 (S_CS.ext O.2) (hb hby d4_27) rfl (fun T12 X12 e12 => ?_)
  refine og_if_eq (pc1 := 58) (pc2 := 33) X12 hx (hb hby d4_30) (by decide) (by decide) rfl (fun q => absurd q hcs) (fun _ => ?_)
  refine og_aloadN (pc' := 34) X12 hx rfl rfl (hb hby d4_33) rfl ?_
  refine og_iloadN (pc' := 35) X12 hx rfl (hb hby d4_34) rfl ?_
  refine og_iloadN (pc' := 36) X12 hx rfl (hb hby d4_35) rfl ?_
  refine og_static (pc' := 39) (cells' := 1) (slots' := 6) (W := 0) X12 hx hZ (rm_c1_6 l Z a0 hw ca kc c0 c1 c2 c3 c4 c5 hb0 hb1 hb2 hb3 hb4 hb5 h0 n0 O V_ca) hown (ow25 hw) (ow26 hw) (ow27 hw) (ow28 hw) (by decide) (by rw [hml]; rfl) e12 opd_2 [(.ref ca), (.int (0 : Int32)), (.int (6 : Int32))] [] rfl rfl rfl rfl (by decide) (by decide) rfl rfl (by decide) (by decide) (hb hby d4_36) rfl (fun v13 T13 h13 L13 X13 e13 z13 => ?_)
  obtain ⟨nb13, k13, rfl, Nq13, K13, sb13, V_nb13⟩ := z13; have N := Fr.app N Nq13
  have s_nb13 : h0.size ≤ nb13 := sb13; have g_nb13 : n0 ≤ nb13 := Nat.le_trans (own_n0 O) s_nb13; have sz_nb13 : h0.size ≤ nb13 := Nat.le_trans K.1 s_nb13; have ne_a1_nb13 : a1 ≠ nb13 := Nat.ne_of_lt (Nat.lt_of_lt_of_le E_a1.lt s_nb13); have ne_ca_nb13 : ca ≠ nb13 := Nat.ne_of_lt (Nat.lt_of_lt_of_le V_ca.lt s_nb13)
  have E_a1 := E_a1.keep K13; have F_value_a1 := F_value_a1.keep K13 nin0; have F_coder_a1 := F_coder_a1.keep K13 nin0; have V_ca := V_ca.keep K13 nin0; have O := O.keep K13 all0; have K := K.trans K13 all0
  show OG p e below _ (T13.setTop (mkF m 39 #[.val (.ref a1), .val (.ref ca), .val (.int (0 : Int32)), .val (.int (6 : Int32)), .val .null, .unset] [(.ref nb13)]))
  refine og_astore (pc' := 41) (L' := #[.val (.ref a1), .val (.ref ca), .val (.int (0 : Int32)), .val (.int (6 : Int32)), .val .null, .val (.ref nb13)]) X13 hx rfl rfl (hb hby d4_39) rfl ?_
  refine og_aloadN (pc' := 42) X13 hx rfl rfl (hb hby d4_41) rfl ?_
  refine og_aload (pc' := 44) X13 hx rfl rfl (hb hby d4_42) rfl ?_
  refine og_iloadN (pc' := 45) X13 hx rfl (hb hby d4_44) rfl ?_
  refine og_static (pc' := 48) (cells' := 1) (slots' := 6) (W := 1) X13 hx hZ (rm_cfa_6 l Z a0 hw nb13 k13 _ h13 n0 O V_nb13) hown (ow33 hw) (ow34 hw) (ow27 hw) (ow35 hw) (by decide) (by rw [hml]; rfl) e13 opd_3 [(.ref nb13), (.int (6 : Int32))] [(.ref a1)] rfl rfl rfl rfl (by decide) (by decide) rfl rfl (by decide) (by decide) (hb hby d4_45) rfl (fun v14 T14 h14 L14 X14 e14 z14 => ?_)
  obtain ⟨rfl, Nq14, hq14⟩ := z14; replace e14 := e14.trans hq14; have N := Fr.app N Nq14
  show OG p e below _ (T14.setTop (mkF m 48 #[.val (.ref a1), .val (.ref ca), .val (.int (0 : Int32)), .val (.int (6 : Int32)), .val .null, .val (.ref nb13)] [(.int (0 : Int32)), (.ref a1)]))
  refine og_putfield (pc' := 51) X14 hx hZ (ty := .byte) (host := "") hown (Or.inl (ow36 hw)) Via.refl e14 F_coder_a1 E_a1 (Or.inr ⟨(ow37 hw), rfl, hnm⟩) (ow12 hw) (by decide) rfl rfl (hb hby d4_48) rfl (fun T15 h15 X15 e15 W15 => ?_)
  have F_coder_a1_ := F_coder_a1.same W15
  have E_a1 := E_a1.wr W15; have F_value_a1 := F_value_a1.other W15 (Or.inr (slot_ne (Or.inr (ow39 hw)) (Or.inr (ow37 hw)) (by decide) (t := (.array .byte)) (t' := .byte) (by decide) (by decide))); have V_ca := V_ca.other W15 ne_ca_a1; have V_nb13 := V_nb13.other W15 (Ne.symm ne_a1_nb13); have O := O.wr W15 g_a1; have K := K.wr W15 (Or.inl (List.mem_of_getElem? (i := 0) rfl))
  have N := Fr.snoc X15 N g_a1; have F_coder_a1 := F_coder_a1_
  refine og_aloadN (pc' := 52) X15 hx rfl rfl (hb hby d4_51) rfl ?_
  refine og_aload (pc' := 54) X15 hx rfl rfl (hb hby d4_52) rfl ?_
  refine og_putfield (pc' := 57) X15 hx hZ (ty := (.array .byte)) (host := "") hown (Or.inl (ow38 hw)) Via.refl e15 F_value_a1 E_a1 (Or.inr ⟨(ow39 hw), rfl, hnm⟩) (ow12 hw) (by decide) rfl rfl (hb hby d4_54) rfl (fun T16 h16 X16 e16 W16 => ?_)
  have F_value_a1_ := F_value_a1.same W16
  have E_a1 := E_a1.wr W16; have V_ca := V_ca.other W16 ne_ca_a1; have V_nb13 := V_nb13.other W16 (Ne.symm ne_a1_nb13); have F_coder_a1 := F_coder_a1.other W16 (Or.inr (slot_ne (Or.inr (ow37 hw)) (Or.inr (ow39 hw)) (by decide) (t := .byte) (t' := (.array .byte)) (by decide) (by decide))); have O := O.wr W16 g_a1; have K := K.wr W16 (Or.inl (List.mem_of_getElem? (i := 0) rfl))
  have N := Fr.snoc X16 N g_a1; have F_value_a1 := F_value_a1_
  refine og_retV X16 hx hlk hret (hb hby d4_57) (by decide) (by decide) ?_
  rw [e16]; exact ⟨_, _, rfl, N, K, sz_nb13, E_a1, F_value_a1, F_coder_a1, V_nb13⟩
theorem oef5 (m : MethodId) (x0 : Addr) (x1 : Addr) : entryFrame m #[(.ref x0), (.ref x1)] 2 = mkF m 0 #[.val (.ref x0), .val (.ref x1)] [] := by first | (simp [entryFrame, mkF, argsToLocals, Value.category]; done) | rfl
theorem rm_sn_6 (l : Launch) (Z : State) (a0 : Array Value) (hw : HW a0 Z) (a1 ca : Addr) (kc : ClassId) (c0 c1 c2 c3 c4 c5 : Int32) (hb0 : ¬ 255 < c0) (hb1 : ¬ 255 < c1) (hb2 : ¬ 255 < c2) (hb3 : ¬ 255 < c3) (hb4 : ¬ 255 < c4) (hb5 : ¬ 255 < c5) (cs : Int32) (hcs : ¬ cs = 0) (h0 : Heap) (n0 : Nat) (O : Old Z n0 h0) (E_a1 : Exa Z h0 a1 "java/lang/String") (F_value_a1 : Fld Z h0 a1 "java/lang/String" "value" "[B" .null) (F_coder_a1 : Fld Z h0 a1 "java/lang/String" "coder" "B" (.int (0 : Int32))) (V_ca : Arv Z h0 ca kc .char (6 : Int32) [(.int c0), (.int c1), (.int c2), (.int c3), (.int c4), (.int c5)] (.int (0 : Int32))) (S_CS : Sta Z Z.heap "java/lang/String" "COMPACT_STRINGS" "Z" (.int cs)) (g_a1 : n0 ≤ a1) (ne_ca_a1 : ca ≠ a1) :
    Con l Z (⟨"java/lang/String", "<init>", "([C)V"⟩ : MethodName) jdk_42_method_3_code 2 none ({ frames := 3, cells := 1, slots := 6, locals := 52 } : Room) #[(.ref a1), (.ref ca)] h0 (fun v h L => ∃ b k, v = none ∧ Fr n0 L ∧ Keep h0 h [a1] ∧ h0.size ≤ b ∧ Exa Z h a1 "java/lang/String" ∧ Fld Z h a1 "java/lang/String" "value" "[B" (.ref b) ∧ Fld Z h a1 "java/lang/String" "coder" "B" (.int (0 : Int32)) ∧ Arv Z h b k .byte (6 : Int32) [(.int c0.toInt8.toInt32), (.int c1.toInt8.toInt32), (.int c2.toInt8.toInt32), (.int c3.toInt8.toInt32), (.int c4.toInt8.toInt32), (.int c5.toInt8.toInt32)] (.int (0 : Int32))) := by
  refine own_startC opn_3 ?_
  intro p e s m below meth c T0 X0 hx hby hml hZ hown hnm hret hlk e0
  have N := Fr.nil n0; have K := Keep.refl h0 [a1]
  refine OG.cast (oef5 m a1 ca) ?_
  refine og_aloadN (pc' := 1) X0 hx rfl rfl (hb hby d3_0) rfl ?_
  refine og_aloadN (pc' := 2) X0 hx rfl rfl (hb hby d3_1) rfl ?_
  refine og_iconst (pc' := 3) (v := (0 : Int32)) X0 hx rfl (hb hby d3_2) rfl ?_
  refine og_aloadN (pc' := 4) X0 hx rfl rfl (hb hby d3_3) rfl ?_
  refine og_arraylength (pc' := 5) X0 hx hZ e0 V_ca (hb hby d3_4) rfl ?_
  refine og_aconst_null (pc' := 6) X0 hx (hb hby d3_5) rfl ?_
  refine og_special (pc' := 9) (cells' := 1) (slots' := 6) (W := 0) X0 hx hZ (rm_sv_6 l Z a0 hw a1 ca kc c0 c1 c2 c3 c4 c5 hb0 hb1 hb2 hb3 hb4 hb5 cs hcs h0 n0 O E_a1 F_value_a1 F_coder_a1 V_ca S_CS g_a1 ne_ca_a1) rfl hown (ow17 hw) (ow18 hw) (ow13 hw) (ow20 hw) (by decide) (by rw [hml]; rfl) e0 opd_4 [(.ref ca), (.int (0 : Int32)), (.int (6 : Int32)), .null] [] rfl rfl rfl rfl (by decide) (by decide) rfl rfl (by decide) (by decide) (hb hby d3_6) rfl (fun v11 T11 h11 L11 X11 e11 z11 => ?_)
  obtain ⟨nb11, k11, rfl, Nq11, K11, sb11, E_a1', F_value_a1', F_coder_a1', V_nb11⟩ := z11; have N := Fr.app N Nq11
  have s_nb11 : h0.size ≤ nb11 := sb11; have g_nb11 : n0 ≤ nb11 := Nat.le_trans (own_n0 O) s_nb11; have sz_nb11 : h0.size ≤ nb11 := Nat.le_trans K.1 s_nb11; have ne_a1_nb11 : a1 ≠ nb11 := Nat.ne_of_lt (Nat.lt_of_lt_of_le E_a1.lt s_nb11); have ne_ca_nb11 : ca ≠ nb11 := Nat.ne_of_lt (Nat.lt_of_lt_of_le V_ca.lt s_nb11)
  have E_a1 := E_a1.keep K11; have V_ca := V_ca.keep K11 (ninS ne_ca_a1 nin0); have O := O.keep K11 (allS g_a1 all0); have K := K.trans K11 (allS (Or.inl (List.mem_of_getElem? (i := 0) rfl)) all0)
  have E_a1 := E_a1'; have F_value_a1 := F_value_a1'; have F_coder_a1 := F_coder_a1'
  show OG p e below _ (T11.setTop (mkF m 9 #[.val (.ref a1), .val (.ref ca)] []))
  refine og_retV X11 hx hlk hret (hb hby d3_9) (by decide) (by decide) ?_
  rw [e11]; exact ⟨_, _, rfl, N, K, sz_nb11, E_a1, F_value_a1, F_coder_a1, V_nb11⟩
theorem oef6 (m : MethodId) (x0 : Int32) (x1 : Int32) (x2 : Value) (hx2 : x2.isRef = true) : entryFrame m #[(.int x0), (.int x1), x2] 3 = mkF m 0 #[.val (.int x0), .val (.int x1), .val x2] [] := by rcases ref_cases hx2 with rfl | ⟨_, rfl⟩ <;> first | (simp [entryFrame, mkF, argsToLocals, Value.category]; done) | rfl
theorem rm_pc (l : Launch) (Z : State) (a0 : Array Value) (hw : HW a0 Z) (nn ii : Int32) (hi : ¬ ii < 0 ∧ ii < nn) (fm : Value) (hfm : fm.isRef = true) (h0 : Heap) (n0 : Nat) (O : Old Z n0 h0) :
    Con l Z (⟨"jdk/internal/util/Preconditions", "checkIndex", "(IILjava/util/function/BiFunction;)I"⟩ : MethodName) jdk_41_method_11_code 3 (some .int) ({ frames := 0, cells := 0, slots := 0, locals := 0 } : Room) #[(.int ii), (.int nn), fm] h0 (fun v h L => v = some (.int ii) ∧ Fr n0 L ∧ h = h0) := by
  refine own_startC opn_14 ?_
  intro p e s m below meth c T0 X0 hx hby hml hZ hown hnm hret hlk e0
  have N := Fr.nil n0; have K := Keep.refl h0 []
  refine OG.cast (oef6 m ii nn fm hfm) ?_
  refine og_iloadN (pc' := 1) X0 hx rfl (hb hby d14_0) rfl ?_
  refine og_if_lt (pc1 := 9) (pc2 := 4) X0 hx (hb hby d14_1) (by decide) (by decide) rfl (fun q => absurd q hi.1) (fun _ => ?_)
  refine og_iloadN (pc' := 5) X0 hx rfl (hb hby d14_4) rfl ?_
  refine og_iloadN (pc' := 6) X0 hx rfl (hb hby d14_5) rfl ?_
  refine og_icmp_lt (pc1 := 16) (pc2 := 9) X0 hx (hb hby d14_6) (by decide) (by decide) rfl (fun _ => ?_) (fun q => absurd hi.2 q)
  refine og_iloadN (pc' := 17) X0 hx rfl (hb hby d14_16) rfl ?_
  refine og_retI X0 hx hlk hret (hb hby d14_17) (by decide) (by decide) ?_
  rw [e0]; exact ⟨rfl, N, rfl⟩
theorem oef7 (m : MethodId) (x0 : Int32) (x1 : Int32) : entryFrame m #[(.int x0), (.int x1)] 2 = mkF m 0 #[.val (.int x0), .val (.int x1)] [] := by first | (simp [entryFrame, mkF, argsToLocals, Value.category]; done) | rfl
theorem rm_ci (l : Launch) (Z : State) (a0 : Array Value) (hw : HW a0 Z) (nn ii : Int32) (hi : ¬ ii < 0 ∧ ii < nn) (fm : Value) (hfm : fm.isRef = true) (h0 : Heap) (n0 : Nat) (O : Old Z n0 h0) (S_FM : Sta Z Z.heap "jdk/internal/util/Preconditions" "SIOOBE_FORMATTER" "Ljava/util/function/BiFunction;" fm) :
    Con l Z (⟨"java/lang/String", "checkIndex", "(II)V"⟩ : MethodName) jdk_42_method_155_code 2 none ({ frames := 1, cells := 0, slots := 0, locals := 14 } : Room) #[(.int ii), (.int nn)] h0 (fun v h L => v = none ∧ Fr n0 L ∧ h = h0) := by
  refine own_startC opn_13 ?_
  intro p e s m below meth c T0 X0 hx hby hml hZ hown hnm hret hlk e0
  have N := Fr.nil n0; have K := Keep.refl h0 []
  refine OG.cast (oef7 m ii nn) ?_
  refine og_iloadN (pc' := 1) X0 hx rfl (hb hby d13_0) rfl ?_
  refine og_iloadN (pc' := 2) X0 hx rfl (hb hby d13_1) rfl ?_
  refine og_getstatic (pc' := 5) X0 hx hZ (host := "") hown (Or.inl (ow64 hw)) Via.refl e0 (S_FM.ext O.2) (hb hby d13_2) rfl (fun T11 X11 e11 => ?_)
  refine og_static (pc' := 8) (cells' := 0) (slots' := 0) (W := 0) X11 hx hZ (rm_pc l Z a0 hw nn ii hi fm hfm h0 n0 O) hown (ow66 hw) (ow67 hw) (ow65 hw) (ow68 hw) (by decide) (by rw [hml]; rfl) e11 opd_5 [(.int ii), (.int nn), fm] [] rfl rfl rfl rfl (by decide) (by decide) rfl rfl (by decide) (by decide) (hb hby d13_5) rfl (fun v12 T12 h12 L12 X12 e12 z12 => ?_)
  obtain ⟨rfl, Nq12, hq12⟩ := z12; replace e12 := e12.trans hq12; have N := Fr.app N Nq12
  show OG p e below _ (T12.setTop (mkF m 8 #[.val (.int ii), .val (.int nn)] [(.int ii)]))
  refine og_pop (pc' := 9) X12 hx rfl (hb hby d13_8) rfl ?_
  refine og_retV X12 hx hlk hret (hb hby d13_9) (by decide) (by decide) ?_
  rw [e12]; exact ⟨rfl, N, rfl⟩
theorem rm_lc (l : Launch) (Z : State) (a0 : Array Value) (hw : HW a0 Z) (ba : Addr) (kb : ClassId) (nn ii : Int32) (hi : ¬ ii < 0 ∧ ii < nn) (vs : List Value) (cc : Int32) (hv : vs.getD ii.toNatClampNeg (.int 0) = .int cc.toInt8.toInt32) (hcc : 0 ≤ cc.toInt ∧ cc.toInt ≤ 255) (fm : Value) (hfm : fm.isRef = true) (h0 : Heap) (n0 : Nat) (O : Old Z n0 h0) (V_ba : Arv Z h0 ba kb .byte nn vs (.int (0 : Int32))) (S_FM : Sta Z Z.heap "jdk/internal/util/Preconditions" "SIOOBE_FORMATTER" "Ljava/util/function/BiFunction;" fm) :
    Con l Z (⟨"java/lang/StringLatin1", "charAt", "([BI)C"⟩ : MethodName) jdk_43_method_2_code 2 (some .char) ({ frames := 2, cells := 0, slots := 0, locals := 27 } : Room) #[(.ref ba), (.int ii)] h0 (fun v h L => v = some (.int cc) ∧ Fr n0 L ∧ h = h0) := by
  refine own_startC opn_12 ?_
  intro p e s m below meth c T0 X0 hx hby hml hZ hown hnm hret hlk e0
  have N := Fr.nil n0; have K := Keep.refl h0 []
  refine OG.cast (oef1 m ba ii) ?_
  refine og_iloadN (pc' := 1) X0 hx rfl (hb hby d12_0) rfl ?_
  refine og_aloadN (pc' := 2) X0 hx rfl rfl (hb hby d12_1) rfl ?_
  refine og_arraylength (pc' := 3) X0 hx hZ e0 V_ba (hb hby d12_2) rfl ?_
  refine og_static (pc' := 6) (cells' := 0) (slots' := 0) (W := 0) X0 hx hZ (rm_ci l Z a0 hw nn ii hi fm hfm h0 n0 O S_FM) hown (ow61 hw) (ow62 hw) (ow13 hw) (ow63 hw) (by decide) (by rw [hml]; rfl) e0 opd_6 [(.int ii), (.int nn)] [] rfl rfl rfl rfl (by decide) (by decide) rfl rfl (by decide) (by decide) (hb hby d12_3) rfl (fun v11 T11 h11 L11 X11 e11 z11 => ?_)
  obtain ⟨rfl, Nq11, hq11⟩ := z11; replace e11 := e11.trans hq11; have N := Fr.app N Nq11
  show OG p e below _ (T11.setTop (mkF m 6 #[.val (.ref ba), .val (.int ii)] []))
  refine og_aloadN (pc' := 7) X11 hx rfl rfl (hb hby d12_6) rfl ?_
  refine og_iloadN (pc' := 8) X11 hx rfl (hb hby d12_7) rfl ?_
  refine og_baload (pc' := 9) (v := (.int cc.toInt8.toInt32)) X11 hx hZ e11 V_ba hi hv (hb hby d12_8) rfl ?_
  refine og_sipush (pc' := 12) (v := (255 : Int32)) X11 hx rfl (hb hby d12_9) rfl ?_
  refine og_iand (pc' := 13) X11 hx (hb hby d12_12) rfl ?_
  refine og_i2c (pc' := 14) X11 hx (hb hby d12_13) rfl ?_
  refine og_retN X11 hx hlk hret (by simp) (hb hby d12_14) (by decide) (by decide) ?_
  rw [e11, own_ch hcc]; exact ⟨rfl, N, rfl⟩
theorem rm_il (l : Launch) (Z : State) (a0 : Array Value) (hw : HW a0 Z) (a1 : Addr) (cs : Int32) (hcs : ¬ cs = 0) (h0 : Heap) (n0 : Nat) (O : Old Z n0 h0) (F_coder_a1 : Fld Z h0 a1 "java/lang/String" "coder" "B" (.int (0 : Int32))) (S_CS : Sta Z Z.heap "java/lang/String" "COMPACT_STRINGS" "Z" (.int cs)) :
    Con l Z (⟨"java/lang/String", "isLatin1", "()Z"⟩ : MethodName) jdk_42_method_154_code 1 (some .boolean) ({ frames := 0, cells := 0, slots := 0, locals := 0 } : Room) #[(.ref a1)] h0 (fun v h L => v = some (.int (1 : Int32)) ∧ Fr n0 L ∧ h = h0) := by
  refine own_startC opn_11 ?_
  intro p e s m below meth c T0 X0 hx hby hml hZ hown hnm hret hlk e0
  have N := Fr.nil n0; have K := Keep.refl h0 []
  refine OG.cast (oef0 m a1) ?_
  refine og_getstatic (pc' := 3) X0 hx hZ (host := "") hown (Or.inl (ow24 hw)) Via.refl e0 (S_CS.ext O.2) (hb hby d11_0) rfl (fun T11 X11 e11 => ?_)
  refine og_if_eq (pc1 := 17) (pc2 := 6) X11 hx (hb hby d11_3) (by decide) (by decide) rfl (fun q => absurd q hcs) (fun _ => ?_)
  refine og_aloadN (pc' := 7) X11 hx rfl rfl (hb hby d11_6) rfl ?_
  refine og_getfield (pc' := 10) X11 hx hZ (host := "") hown (Or.inl (ow36 hw)) Via.refl e11 F_coder_a1 (hb hby d11_7) rfl (fun T12 X12 e12 => ?_)
  refine og_if_ne (pc1 := 17) (pc2 := 13) X12 hx (hb hby d11_10) (by decide) (by decide) rfl (fun q => absurd q (by decide)) (fun _ => ?_)
  refine og_iconst (pc' := 14) (v := (1 : Int32)) X12 hx rfl (hb hby d11_13) rfl ?_
  refine og_goto (pc' := 18) X12 hx (hb hby d11_14) (by decide) (by decide) ?_
  refine og_retN X12 hx hlk hret (by simp) (hb hby d11_18) (by decide) (by decide) ?_
  rw [e12]; exact ⟨rfl, N, rfl⟩
theorem rm_ch (l : Launch) (Z : State) (a0 : Array Value) (hw : HW a0 Z) (a1 ba : Addr) (kb : ClassId) (nn ii : Int32) (hi : ¬ ii < 0 ∧ ii < nn) (vs : List Value) (cc : Int32) (hv : vs.getD ii.toNatClampNeg (.int 0) = .int cc.toInt8.toInt32) (hcc : 0 ≤ cc.toInt ∧ cc.toInt ≤ 255) (cs : Int32) (hcs : ¬ cs = 0) (fm : Value) (hfm : fm.isRef = true) (h0 : Heap) (n0 : Nat) (O : Old Z n0 h0) (E_a1 : Exa Z h0 a1 "java/lang/String") (F_value_a1 : Fld Z h0 a1 "java/lang/String" "value" "[B" (.ref ba)) (F_coder_a1 : Fld Z h0 a1 "java/lang/String" "coder" "B" (.int (0 : Int32))) (V_ba : Arv Z h0 ba kb .byte nn vs (.int (0 : Int32))) (S_CS : Sta Z Z.heap "java/lang/String" "COMPACT_STRINGS" "Z" (.int cs)) (S_FM : Sta Z Z.heap "jdk/internal/util/Preconditions" "SIOOBE_FORMATTER" "Ljava/util/function/BiFunction;" fm) :
    Con l Z (⟨"java/lang/String", "charAt", "(I)C"⟩ : MethodName) jdk_42_method_56_code 2 (some .char) ({ frames := 3, cells := 0, slots := 0, locals := 40 } : Room) #[(.ref a1), (.int ii)] h0 (fun v h L => v = some (.int cc) ∧ Fr n0 L ∧ h = h0) := by
  refine own_startC opn_10 ?_
  intro p e s m below meth c T0 X0 hx hby hml hZ hown hnm hret hlk e0
  have N := Fr.nil n0; have K := Keep.refl h0 []
  refine OG.cast (oef1 m a1 ii) ?_
  refine og_aloadN (pc' := 1) X0 hx rfl rfl (hb hby d10_0) rfl ?_
  refine og_virtual (pc' := 4) (cells' := 0) (slots' := 0) (W := 0) X0 hx hZ (rm_il l Z a0 hw a1 cs hcs h0 n0 O F_coder_a1 S_CS) hown (ow52 hw) (ow53 hw) (own_nf hZ (ow55 hw)) (ow55 hw) (ow54 hw) (ow13 hw) (ow56 hw) (by decide) (by rw [hml]; rfl) e0 opd_7 [] [] rfl rfl rfl rfl (by decide) (by decide) rfl rfl (by decide) (by decide) E_a1 (hb hby d10_1) rfl (fun v11 T11 h11 L11 X11 e11 z11 => ?_)
  obtain ⟨rfl, Nq11, hq11⟩ := z11; replace e11 := e11.trans hq11; have N := Fr.app N Nq11
  show OG p e below _ (T11.setTop (mkF m 4 #[.val (.ref a1), .val (.int ii)] [(.int (1 : Int32))]))
  refine og_if_eq (pc1 := 16) (pc2 := 7) X11 hx (hb hby d10_4) (by decide) (by decide) rfl (fun q => absurd q (by decide)) (fun _ => ?_)
  refine og_aloadN (pc' := 8) X11 hx rfl rfl (hb hby d10_7) rfl ?_
  refine og_getfield (pc' := 11) X11 hx hZ (host := "") hown (Or.inl (ow38 hw)) Via.refl e11 F_value_a1 (hb hby d10_8) rfl (fun T12 X12 e12 => ?_)
  refine og_iloadN (pc' := 12) X12 hx rfl (hb hby d10_11) rfl ?_
  refine og_static (pc' := 15) (cells' := 0) (slots' := 0) (W := 0) X12 hx hZ (rm_lc l Z a0 hw ba kb nn ii hi vs cc hv hcc fm hfm h0 n0 O V_ba S_FM) hown (ow57 hw) (ow58 hw) (ow59 hw) (ow60 hw) (by decide) (by rw [hml]; rfl) e12 opd_8 [(.ref ba), (.int ii)] [] rfl rfl rfl rfl (by decide) (by decide) rfl rfl (by decide) (by decide) (hb hby d10_12) rfl (fun v13 T13 h13 L13 X13 e13 z13 => ?_)
  obtain ⟨rfl, Nq13, hq13⟩ := z13; replace e13 := e13.trans hq13; have N := Fr.app N Nq13
  show OG p e below _ (T13.setTop (mkF m 15 #[.val (.ref a1), .val (.int ii)] [(.int cc)]))
  refine og_retN X13 hx hlk hret (by simp) (hb hby d10_15) (by decide) (by decide) ?_
  rw [e13, own_nc hcc]; exact ⟨rfl, N, rfl⟩
theorem rm_cod (l : Launch) (Z : State) (a0 : Array Value) (hw : HW a0 Z) (a1 : Addr) (cs : Int32) (hcs : ¬ cs = 0) (h0 : Heap) (n0 : Nat) (O : Old Z n0 h0) (F_coder_a1 : Fld Z h0 a1 "java/lang/String" "coder" "B" (.int (0 : Int32))) (S_CS : Sta Z Z.heap "java/lang/String" "COMPACT_STRINGS" "Z" (.int cs)) :
    Con l Z (⟨"java/lang/String", "coder", "()B"⟩ : MethodName) jdk_42_method_152_code 1 (some .byte) ({ frames := 0, cells := 0, slots := 0, locals := 0 } : Room) #[(.ref a1)] h0 (fun v h L => v = some (.int (0 : Int32)) ∧ Fr n0 L ∧ h = h0) := by
  refine own_startC opn_18 ?_
  intro p e s m below meth c T0 X0 hx hby hml hZ hown hnm hret hlk e0
  have N := Fr.nil n0; have K := Keep.refl h0 []
  refine OG.cast (oef0 m a1) ?_
  refine og_getstatic (pc' := 3) X0 hx hZ (host := "") hown (Or.inl (ow24 hw)) Via.refl e0 (S_CS.ext O.2) (hb hby d18_0) rfl (fun T11 X11 e11 => ?_)
  refine og_if_eq (pc1 := 13) (pc2 := 6) X11 hx (hb hby d18_3) (by decide) (by decide) rfl (fun q => absurd q hcs) (fun _ => ?_)
  refine og_aloadN (pc' := 7) X11 hx rfl rfl (hb hby d18_6) rfl ?_
  refine og_getfield (pc' := 10) X11 hx hZ (host := "") hown (Or.inl (ow36 hw)) Via.refl e11 F_coder_a1 (hb hby d18_7) rfl (fun T12 X12 e12 => ?_)
  refine og_goto (pc' := 14) X12 hx (hb hby d18_10) (by decide) (by decide) ?_
  refine og_retN X12 hx hlk hret (by simp) (hb hby d18_14) (by decide) (by decide) ?_
  rw [e12]; exact ⟨rfl, N, rfl⟩
theorem rm_len (l : Launch) (Z : State) (a0 : Array Value) (hw : HW a0 Z) (a1 ba : Addr) (kb : ClassId) (nn : Int32) (vs : List Value) (cs : Int32) (hcs : ¬ cs = 0) (h0 : Heap) (n0 : Nat) (O : Old Z n0 h0) (E_a1 : Exa Z h0 a1 "java/lang/String") (F_value_a1 : Fld Z h0 a1 "java/lang/String" "value" "[B" (.ref ba)) (F_coder_a1 : Fld Z h0 a1 "java/lang/String" "coder" "B" (.int (0 : Int32))) (V_ba : Arv Z h0 ba kb .byte nn vs (.int (0 : Int32))) (S_CS : Sta Z Z.heap "java/lang/String" "COMPACT_STRINGS" "Z" (.int cs)) :
    Con l Z (⟨"java/lang/String", "length", "()I"⟩ : MethodName) jdk_42_method_54_code 1 (some .int) ({ frames := 1, cells := 0, slots := 0, locals := 13 } : Room) #[(.ref a1)] h0 (fun v h L => v = some (.int nn) ∧ Fr n0 L ∧ h = h0) := by
  refine own_startC opn_17 ?_
  intro p e s m below meth c T0 X0 hx hby hml hZ hown hnm hret hlk e0
  have N := Fr.nil n0; have K := Keep.refl h0 []
  refine OG.cast (oef0 m a1) ?_
  refine og_aloadN (pc' := 1) X0 hx rfl rfl (hb hby d17_0) rfl ?_
  refine og_getfield (pc' := 4) X0 hx hZ (host := "") hown (Or.inl (ow38 hw)) Via.refl e0 F_value_a1 (hb hby d17_1) rfl (fun T11 X11 e11 => ?_)
  refine og_arraylength (pc' := 5) X11 hx hZ e11 V_ba (hb hby d17_4) rfl ?_
  refine og_aloadN (pc' := 6) X11 hx rfl rfl (hb hby d17_5) rfl ?_
  refine og_virtual (pc' := 9) (cells' := 0) (slots' := 0) (W := 1) X11 hx hZ (rm_cod l Z a0 hw a1 cs hcs h0 n0 O F_coder_a1 S_CS) hown (ow90 hw) (ow91 hw) (own_nf hZ (ow93 hw)) (ow93 hw) (ow92 hw) (ow13 hw) (ow94 hw) (by decide) (by rw [hml]; rfl) e11 opd_9 [] [(.int nn)] rfl rfl rfl rfl (by decide) (by decide) rfl rfl (by decide) (by decide) E_a1 (hb hby d17_6) rfl (fun v12 T12 h12 L12 X12 e12 z12 => ?_)
  obtain ⟨rfl, Nq12, hq12⟩ := z12; replace e12 := e12.trans hq12; have N := Fr.app N Nq12
  show OG p e below _ (T12.setTop (mkF m 9 #[.val (.ref a1)] [(.int (0 : Int32)), (.int nn)]))
  refine og_ishr (pc' := 10) X12 hx (hb hby d17_9) rfl ?_
  refine og_retI X12 hx hlk hret (hb hby d17_10) (by decide) (by decide) ?_
  rw [e12, own_shr0]; exact ⟨rfl, N, rfl⟩
theorem oef8 (m : MethodId) (x0 : Int64) : entryFrame m #[(.long x0)] 3 = mkF m 0 #[.val (.long x0), .second, .unset] [] := by first | (simp [entryFrame, mkF, argsToLocals, Value.category]; done) | rfl
theorem rm_dr (l : Launch) (Z : State) (a0 : Array Value) (hw : HW a0 Z) (vv : Int64) (h0 : Heap) (n0 : Nat) (O : Old Z n0 h0) :
    Con l Z (⟨"com/example/nitpick/nitpick/internal/interpolation/ExpressionLiteralsStringEndPinLaw", "draw", "(J)C"⟩ : MethodName) method_3_code 3 (some .char) ({ frames := 0, cells := 0, slots := 0, locals := 0 } : Room) #[(.long vv)] h0 (fun v h L => ∃ z : Int32, v = some (.int z) ∧ Fr n0 L ∧ h = h0 ∧ 0 ≤ z.toInt ∧ z.toInt ≤ 255) := by
  refine own_startC opn_1 ?_
  intro p e s m below meth c T0 X0 hx hby hml hZ hown hnm hret hlk e0
  have N := Fr.nil n0; have K := Keep.refl h0 []
  refine OG.cast (oef8 m vv) ?_
  refine og_lloadN (pc' := 1) X0 hx rfl (hb hby d1_0) rfl ?_
  refine og_ldc2 (pc' := 4) X0 hx hZ hown (ow5 hw) (hb hby d1_1) rfl ?_
  refine og_land (pc' := 5) X0 hx (hb hby d1_4) rfl ?_
  refine og_l2i (pc' := 6) X0 hx (hb hby d1_5) rfl ?_
  refine og_istoreN (pc' := 7) (L' := #[.val (.long vv), .second, .val (.int ((vv &&& (3 : Int64)).toInt32))]) X0 hx rfl (hb hby d1_6) rfl ?_
  refine og_iloadN (pc' := 8) X0 hx rfl (hb hby d1_7) rfl ?_
  refine og_if_ne (pc1 := 14) (pc2 := 11) X0 hx (hb hby d1_8) (by decide) (by decide) rfl (fun hc8 => ?_) (fun hc8 => ?_)
  · -- pc 14
    refine og_iloadN (pc' := 15) X0 hx rfl (hb hby d1_14) rfl ?_
    refine og_iconst (pc' := 16) (v := (1 : Int32)) X0 hx rfl (hb hby d1_15) rfl ?_
    refine og_icmp_ne (pc1 := 22) (pc2 := 19) X0 hx (hb hby d1_16) (by decide) (by decide) rfl (fun hc16 => ?_) (fun hc16 => ?_)
    · -- pc 22
      refine og_iloadN (pc' := 23) X0 hx rfl (hb hby d1_22) rfl ?_
      refine og_iconst (pc' := 24) (v := (2 : Int32)) X0 hx rfl (hb hby d1_23) rfl ?_
      refine og_icmp_ne (pc1 := 30) (pc2 := 27) X0 hx (hb hby d1_24) (by decide) (by decide) rfl (fun hc24 => ?_) (fun hc24 => ?_)
      · -- pc 30
        refine og_lloadN (pc' := 31) X0 hx rfl (hb hby d1_30) rfl ?_
        refine og_iconst (pc' := 32) (v := (2 : Int32)) X0 hx rfl (hb hby d1_31) rfl ?_
        refine og_lushr (pc' := 33) X0 hx (hb hby d1_32) rfl ?_
        refine og_ldc2 (pc' := 36) X0 hx hZ hown (ow6 hw) (hb hby d1_33) rfl ?_
        refine og_land (pc' := 37) X0 hx (hb hby d1_36) rfl ?_
        refine og_l2i (pc' := 38) X0 hx (hb hby d1_37) rfl ?_
        refine og_i2c (pc' := 39) X0 hx (hb hby d1_38) rfl ?_
        refine og_retN X0 hx hlk hret (by simp) (hb hby d1_39) (by decide) (by decide) ?_
        rw [e0]; exact ⟨_, rfl, N, rfl, own_draw _⟩
      · -- pc 27
        refine og_bipush (pc' := 29) (v := (92 : Int32)) X0 hx rfl (hb hby d1_27) rfl ?_
        refine og_retN X0 hx hlk hret (by simp) (hb hby d1_29) (by decide) (by decide) ?_
        rw [e0]; exact ⟨(92 : Int32), rfl, N, rfl, by decide, by decide⟩
    · -- pc 19
      refine og_bipush (pc' := 21) (v := (34 : Int32)) X0 hx rfl (hb hby d1_19) rfl ?_
      refine og_retN X0 hx hlk hret (by simp) (hb hby d1_21) (by decide) (by decide) ?_
      rw [e0]; exact ⟨(34 : Int32), rfl, N, rfl, by decide, by decide⟩
  · -- pc 11
    refine og_bipush (pc' := 13) (v := (39 : Int32)) X0 hx rfl (hb hby d1_11) rfl ?_
    refine og_retN X0 hx hlk hret (by simp) (hb hby d1_13) (by decide) (by decide) ?_
    rw [e0]; exact ⟨(39 : Int32), rfl, N, rfl, by decide, by decide⟩
theorem oef9 (m : MethodId) (x0 : Addr) (x1 : Int32) (x2 : Int32) : entryFrame m #[(.ref x0), (.int x1), (.int x2)] 4 = mkF m 0 #[.val (.ref x0), .val (.int x1), .val (.int x2), .unset] [] := by first | (simp [entryFrame, mkF, argsToLocals, Value.category]; done) | rfl
theorem rm_run01 (l : Launch) (Z : State) (a0 : Array Value) (hw : HW a0 Z) (ca : Addr) (kc : ClassId) (d0 d1 d2 d3 d4 d5 : Int32) (rr : Int32) (hr : rr = own_cnt []) (h0 : Heap) (n0 : Nat) (O : Old Z n0 h0) (V_ca : Arv Z h0 ca kc .char (6 : Int32) [(.int d0), (.int d1), (.int d2), (.int d3), (.int d4), (.int d5)] (.int (0 : Int32))) :
    Con l Z (⟨"com/example/nitpick/nitpick/internal/interpolation/ExpressionLiteralsStringEndPinLaw", "run", "([CII)I"⟩ : MethodName) method_5_code 4 (some .int) ({ frames := 0, cells := 0, slots := 0, locals := 0 } : Room) #[(.ref ca), (.int (0 : Int32)), (.int (1 : Int32))] h0 (fun v h L => v = some (.int rr) ∧ Fr n0 L ∧ h = h0) := by
  refine own_startC opn_19 ?_
  intro p e s m below meth c T0 X0 hx hby hml hZ hown hnm hret hlk e0
  have N := Fr.nil n0; have K := Keep.refl h0 []
  refine OG.cast (oef9 m ca (0 : Int32) (1 : Int32)) ?_
  refine og_iconst (pc' := 1) (v := (0 : Int32)) X0 hx rfl (hb hby d19_0) rfl ?_
  refine og_istoreN (pc' := 2) (L' := #[.val (.ref ca), .val (.int (0 : Int32)), .val (.int (1 : Int32)), .val (.int (0 : Int32))]) X0 hx rfl (hb hby d19_1) rfl ?_
  refine og_iloadN (pc' := 3) X0 hx rfl (hb hby d19_2) rfl ?_
  refine og_iconst (pc' := 4) (v := (1 : Int32)) X0 hx rfl (hb hby d19_3) rfl ?_
  refine og_isub (pc' := 5) X0 hx (hb hby d19_4) rfl ?_
  show OG p e below _ (T0.setTop (mkF m 5 #[.val (.ref ca), .val (.int (0 : Int32)), .val (.int (1 : Int32)), .val (.int (0 : Int32))] [(.int (0 : Int32))]))
  refine og_iloadN (pc' := 6) X0 hx rfl (hb hby d19_5) rfl ?_
  refine og_icmp_le (pc1 := 78) (pc2 := 9) X0 hx (hb hby d19_6) (by decide) (by decide) rfl (fun _ => ?_) (fun q => absurd q (by decide))
  refine og_iloadN (pc' := 79) X0 hx rfl (hb hby d19_78) rfl ?_
  refine og_retI X0 hx hlk hret (hb hby d19_79) (by decide) (by decide) ?_
  rw [e0]; refine ⟨?_, N, rfl⟩
  rw [hr]; simp [own_cnt]
theorem oef10 (m : MethodId) (x0 : Addr) (x1 : Int32) (x2 : Int32) (x3 : Int32) : entryFrame m #[(.ref x0), (.int x1), (.int x2), (.int x3)] 4 = mkF m 0 #[.val (.ref x0), .val (.int x1), .val (.int x2), .val (.int x3)] [] := by first | (simp [entryFrame, mkF, argsToLocals, Value.category]; done) | rfl
theorem rm_cl01 (l : Launch) (Z : State) (a0 : Array Value) (hw : HW a0 Z) (ca : Addr) (kc : ClassId) (d0 d1 d2 d3 d4 d5 : Int32) (q rr : Int32) (hr : rr = if d1 = q ∧ own_cnt [] % 2 = 0 then 1 else 0) (h0 : Heap) (n0 : Nat) (O : Old Z n0 h0) (V_ca : Arv Z h0 ca kc .char (6 : Int32) [(.int d0), (.int d1), (.int d2), (.int d3), (.int d4), (.int d5)] (.int (0 : Int32))) :
    Con l Z (⟨"com/example/nitpick/nitpick/internal/interpolation/ExpressionLiteralsStringEndPinLaw", "closes", "([CICI)Z"⟩ : MethodName) method_4_code 4 (some .boolean) ({ frames := 1, cells := 0, slots := 0, locals := 15 } : Room) #[(.ref ca), (.int (0 : Int32)), (.int q), (.int (1 : Int32))] h0 (fun v h L => v = some (.int rr) ∧ Fr n0 L ∧ h = h0) := by
  refine own_startC opn_2 ?_
  intro p e s m below meth c T0 X0 hx hby hml hZ hown hnm hret hlk e0
  have N := Fr.nil n0; have K := Keep.refl h0 []
  refine OG.cast (oef10 m ca (0 : Int32) q (1 : Int32)) ?_
  refine og_iloadN (pc' := 1) X0 hx rfl (hb hby d2_0) rfl ?_
  refine og_iloadN (pc' := 2) X0 hx rfl (hb hby d2_1) rfl ?_
  refine og_icmp_le (pc1 := 27) (pc2 := 5) X0 hx (hb hby d2_2) (by decide) (by decide) rfl (fun q => absurd q (by decide)) (fun _ => ?_)
  refine og_aloadN (pc' := 6) X0 hx rfl rfl (hb hby d2_5) rfl ?_
  refine og_iloadN (pc' := 7) X0 hx rfl (hb hby d2_6) rfl ?_
  refine og_caload (pc' := 8) (v := (.int d1)) X0 hx hZ e0 V_ca ⟨by decide, by decide⟩ rfl (hb hby d2_7) rfl ?_
  refine og_iloadN (pc' := 9) X0 hx rfl (hb hby d2_8) rfl ?_
  refine og_icmp_ne (pc1 := 27) (pc2 := 12) X0 hx (hb hby d2_9) (by decide) (by decide) rfl (fun hc9 => ?_) (fun hc9 => ?_)
  · -- pc 27
    refine og_iconst (pc' := 28) (v := (0 : Int32)) X0 hx rfl (hb hby d2_27) rfl ?_
    refine og_retN X0 hx hlk hret (by simp) (hb hby d2_28) (by decide) (by decide) ?_
    rw [e0]; refine ⟨?_, N, rfl⟩
    show some (Value.int (0 : Int32)) = _
    rw [hr]; simp [hc9]
  · -- pc 12
    refine og_aloadN (pc' := 13) X0 hx rfl rfl (hb hby d2_12) rfl ?_
    refine og_iloadN (pc' := 14) X0 hx rfl (hb hby d2_13) rfl ?_
    refine og_iloadN (pc' := 15) X0 hx rfl (hb hby d2_14) rfl ?_
    refine og_static (pc' := 18) (cells' := 0) (slots' := 0) (W := 0) X0 hx hZ (rm_run01 l Z a0 hw ca kc d0 d1 d2 d3 d4 d5 _ rfl h0 n0 O V_ca) hown (ow95 hw) (ow96 hw) (ow3 hw) (ow97 hw) (by decide) (by rw [hml]; rfl) e0 opd_10 [(.ref ca), (.int (0 : Int32)), (.int (1 : Int32))] [] rfl rfl rfl rfl (by decide) (by decide) rfl rfl (by decide) (by decide) (hb hby d2_15) rfl (fun v11 T11 h11 L11 X11 e11 z11 => ?_)
    obtain ⟨rfl, Nq11, hq11⟩ := z11; replace e11 := e11.trans hq11; have N := Fr.app N Nq11
    show OG p e below _ (T11.setTop (mkF m 18 #[.val (.ref ca), .val (.int (0 : Int32)), .val (.int q), .val (.int (1 : Int32))] [(.int (own_cnt []))]))
    refine og_iconst (pc' := 19) (v := (2 : Int32)) X11 hx rfl (hb hby d2_18) rfl ?_
    refine og_irem (pc' := 20) X11 hx (by decide) (hb hby d2_19) rfl ?_
    refine og_if_ne (pc1 := 27) (pc2 := 23) X11 hx (hb hby d2_20) (by decide) (by decide) rfl (fun hc20 => ?_) (fun hc20 => ?_)
    · -- pc 27
      refine og_iconst (pc' := 28) (v := (0 : Int32)) X11 hx rfl (hb hby d2_27) rfl ?_
      refine og_retN X11 hx hlk hret (by simp) (hb hby d2_28) (by decide) (by decide) ?_
      rw [e11]; refine ⟨?_, N, rfl⟩
      show some (Value.int (0 : Int32)) = _
      rw [hr]; simp [hc9, hc20]
    · -- pc 23
      refine og_iconst (pc' := 24) (v := (1 : Int32)) X11 hx rfl (hb hby d2_23) rfl ?_
      refine og_goto (pc' := 28) X11 hx (hb hby d2_24) (by decide) (by decide) ?_
      refine og_retN X11 hx hlk hret (by simp) (hb hby d2_28) (by decide) (by decide) ?_
      rw [e11]; refine ⟨?_, N, rfl⟩
      show some (Value.int (1 : Int32)) = _
      rw [hr]; simp [hc9, hc20]
theorem rm_run02 (l : Launch) (Z : State) (a0 : Array Value) (hw : HW a0 Z) (ca : Addr) (kc : ClassId) (d0 d1 d2 d3 d4 d5 : Int32) (rr : Int32) (hr : rr = own_cnt [d1]) (h0 : Heap) (n0 : Nat) (O : Old Z n0 h0) (V_ca : Arv Z h0 ca kc .char (6 : Int32) [(.int d0), (.int d1), (.int d2), (.int d3), (.int d4), (.int d5)] (.int (0 : Int32))) :
    Con l Z (⟨"com/example/nitpick/nitpick/internal/interpolation/ExpressionLiteralsStringEndPinLaw", "run", "([CII)I"⟩ : MethodName) method_5_code 4 (some .int) ({ frames := 0, cells := 0, slots := 0, locals := 0 } : Room) #[(.ref ca), (.int (0 : Int32)), (.int (2 : Int32))] h0 (fun v h L => v = some (.int rr) ∧ Fr n0 L ∧ h = h0) := by
  refine own_startC opn_19 ?_
  intro p e s m below meth c T0 X0 hx hby hml hZ hown hnm hret hlk e0
  have N := Fr.nil n0; have K := Keep.refl h0 []
  refine OG.cast (oef9 m ca (0 : Int32) (2 : Int32)) ?_
  refine og_iconst (pc' := 1) (v := (0 : Int32)) X0 hx rfl (hb hby d19_0) rfl ?_
  refine og_istoreN (pc' := 2) (L' := #[.val (.ref ca), .val (.int (0 : Int32)), .val (.int (2 : Int32)), .val (.int (0 : Int32))]) X0 hx rfl (hb hby d19_1) rfl ?_
  refine og_iloadN (pc' := 3) X0 hx rfl (hb hby d19_2) rfl ?_
  refine og_iconst (pc' := 4) (v := (1 : Int32)) X0 hx rfl (hb hby d19_3) rfl ?_
  refine og_isub (pc' := 5) X0 hx (hb hby d19_4) rfl ?_
  show OG p e below _ (T0.setTop (mkF m 5 #[.val (.ref ca), .val (.int (0 : Int32)), .val (.int (2 : Int32)), .val (.int (0 : Int32))] [(.int (1 : Int32))]))
  refine og_iloadN (pc' := 6) X0 hx rfl (hb hby d19_5) rfl ?_
  refine og_icmp_le (pc1 := 78) (pc2 := 9) X0 hx (hb hby d19_6) (by decide) (by decide) rfl (fun q => absurd q (by decide)) (fun _ => ?_)
  refine og_aloadN (pc' := 10) X0 hx rfl rfl (hb hby d19_9) rfl ?_
  refine og_iloadN (pc' := 11) X0 hx rfl (hb hby d19_10) rfl ?_
  refine og_iconst (pc' := 12) (v := (1 : Int32)) X0 hx rfl (hb hby d19_11) rfl ?_
  refine og_isub (pc' := 13) X0 hx (hb hby d19_12) rfl ?_
  show OG p e below _ (T0.setTop (mkF m 13 #[.val (.ref ca), .val (.int (0 : Int32)), .val (.int (2 : Int32)), .val (.int (0 : Int32))] [(.int (1 : Int32)), (.ref ca)]))
  refine og_caload (pc' := 14) (v := (.int d1)) X0 hx hZ e0 V_ca ⟨by decide, by decide⟩ rfl (hb hby d19_13) rfl ?_
  refine og_bipush (pc' := 16) (v := (92 : Int32)) X0 hx rfl (hb hby d19_14) rfl ?_
  refine og_icmp_ne (pc1 := 78) (pc2 := 19) X0 hx (hb hby d19_16) (by decide) (by decide) rfl (fun hc16 => ?_) (fun hc16 => ?_)
  · -- pc 78
    refine og_iloadN (pc' := 79) X0 hx rfl (hb hby d19_78) rfl ?_
    refine og_retI X0 hx hlk hret (hb hby d19_79) (by decide) (by decide) ?_
    rw [e0]; refine ⟨?_, N, rfl⟩
    rw [hr]; simp [own_cnt, hc16]
  · -- pc 19
    refine og_iconst (pc' := 20) (v := (1 : Int32)) X0 hx rfl (hb hby d19_19) rfl ?_
    refine og_istoreN (pc' := 21) (L' := #[.val (.ref ca), .val (.int (0 : Int32)), .val (.int (2 : Int32)), .val (.int (1 : Int32))]) X0 hx rfl (hb hby d19_20) rfl ?_
    refine og_iloadN (pc' := 22) X0 hx rfl (hb hby d19_21) rfl ?_
    refine og_iconst (pc' := 23) (v := (2 : Int32)) X0 hx rfl (hb hby d19_22) rfl ?_
    refine og_isub (pc' := 24) X0 hx (hb hby d19_23) rfl ?_
    show OG p e below _ (T0.setTop (mkF m 24 #[.val (.ref ca), .val (.int (0 : Int32)), .val (.int (2 : Int32)), .val (.int (1 : Int32))] [(.int (0 : Int32))]))
    refine og_iloadN (pc' := 25) X0 hx rfl (hb hby d19_24) rfl ?_
    refine og_icmp_le (pc1 := 78) (pc2 := 28) X0 hx (hb hby d19_25) (by decide) (by decide) rfl (fun _ => ?_) (fun q => absurd q (by decide))
    refine og_iloadN (pc' := 79) X0 hx rfl (hb hby d19_78) rfl ?_
    refine og_retI X0 hx hlk hret (hb hby d19_79) (by decide) (by decide) ?_
    rw [e0]; refine ⟨?_, N, rfl⟩
    rw [hr]; simp [own_cnt, hc16]
theorem rm_cl02 (l : Launch) (Z : State) (a0 : Array Value) (hw : HW a0 Z) (ca : Addr) (kc : ClassId) (d0 d1 d2 d3 d4 d5 : Int32) (q rr : Int32) (hr : rr = if d2 = q ∧ own_cnt [d1] % 2 = 0 then 1 else 0) (h0 : Heap) (n0 : Nat) (O : Old Z n0 h0) (V_ca : Arv Z h0 ca kc .char (6 : Int32) [(.int d0), (.int d1), (.int d2), (.int d3), (.int d4), (.int d5)] (.int (0 : Int32))) :
    Con l Z (⟨"com/example/nitpick/nitpick/internal/interpolation/ExpressionLiteralsStringEndPinLaw", "closes", "([CICI)Z"⟩ : MethodName) method_4_code 4 (some .boolean) ({ frames := 1, cells := 0, slots := 0, locals := 15 } : Room) #[(.ref ca), (.int (0 : Int32)), (.int q), (.int (2 : Int32))] h0 (fun v h L => v = some (.int rr) ∧ Fr n0 L ∧ h = h0) := by
  refine own_startC opn_2 ?_
  intro p e s m below meth c T0 X0 hx hby hml hZ hown hnm hret hlk e0
  have N := Fr.nil n0; have K := Keep.refl h0 []
  refine OG.cast (oef10 m ca (0 : Int32) q (2 : Int32)) ?_
  refine og_iloadN (pc' := 1) X0 hx rfl (hb hby d2_0) rfl ?_
  refine og_iloadN (pc' := 2) X0 hx rfl (hb hby d2_1) rfl ?_
  refine og_icmp_le (pc1 := 27) (pc2 := 5) X0 hx (hb hby d2_2) (by decide) (by decide) rfl (fun q => absurd q (by decide)) (fun _ => ?_)
  refine og_aloadN (pc' := 6) X0 hx rfl rfl (hb hby d2_5) rfl ?_
  refine og_iloadN (pc' := 7) X0 hx rfl (hb hby d2_6) rfl ?_
  refine og_caload (pc' := 8) (v := (.int d2)) X0 hx hZ e0 V_ca ⟨by decide, by decide⟩ rfl (hb hby d2_7) rfl ?_
  refine og_iloadN (pc' := 9) X0 hx rfl (hb hby d2_8) rfl ?_
  refine og_icmp_ne (pc1 := 27) (pc2 := 12) X0 hx (hb hby d2_9) (by decide) (by decide) rfl (fun hc9 => ?_) (fun hc9 => ?_)
  · -- pc 27
    refine og_iconst (pc' := 28) (v := (0 : Int32)) X0 hx rfl (hb hby d2_27) rfl ?_
    refine og_retN X0 hx hlk hret (by simp) (hb hby d2_28) (by decide) (by decide) ?_
    rw [e0]; refine ⟨?_, N, rfl⟩
    show some (Value.int (0 : Int32)) = _
    rw [hr]; simp [hc9]
  · -- pc 12
    refine og_aloadN (pc' := 13) X0 hx rfl rfl (hb hby d2_12) rfl ?_
    refine og_iloadN (pc' := 14) X0 hx rfl (hb hby d2_13) rfl ?_
    refine og_iloadN (pc' := 15) X0 hx rfl (hb hby d2_14) rfl ?_
    refine og_static (pc' := 18) (cells' := 0) (slots' := 0) (W := 0) X0 hx hZ (rm_run02 l Z a0 hw ca kc d0 d1 d2 d3 d4 d5 _ rfl h0 n0 O V_ca) hown (ow95 hw) (ow96 hw) (ow3 hw) (ow97 hw) (by decide) (by rw [hml]; rfl) e0 opd_10 [(.ref ca), (.int (0 : Int32)), (.int (2 : Int32))] [] rfl rfl rfl rfl (by decide) (by decide) rfl rfl (by decide) (by decide) (hb hby d2_15) rfl (fun v11 T11 h11 L11 X11 e11 z11 => ?_)
    obtain ⟨rfl, Nq11, hq11⟩ := z11; replace e11 := e11.trans hq11; have N := Fr.app N Nq11
    show OG p e below _ (T11.setTop (mkF m 18 #[.val (.ref ca), .val (.int (0 : Int32)), .val (.int q), .val (.int (2 : Int32))] [(.int (own_cnt [d1]))]))
    refine og_iconst (pc' := 19) (v := (2 : Int32)) X11 hx rfl (hb hby d2_18) rfl ?_
    refine og_irem (pc' := 20) X11 hx (by decide) (hb hby d2_19) rfl ?_
    refine og_if_ne (pc1 := 27) (pc2 := 23) X11 hx (hb hby d2_20) (by decide) (by decide) rfl (fun hc20 => ?_) (fun hc20 => ?_)
    · -- pc 27
      refine og_iconst (pc' := 28) (v := (0 : Int32)) X11 hx rfl (hb hby d2_27) rfl ?_
      refine og_retN X11 hx hlk hret (by simp) (hb hby d2_28) (by decide) (by decide) ?_
      rw [e11]; refine ⟨?_, N, rfl⟩
      show some (Value.int (0 : Int32)) = _
      rw [hr]; simp [hc9, hc20]
    · -- pc 23
      refine og_iconst (pc' := 24) (v := (1 : Int32)) X11 hx rfl (hb hby d2_23) rfl ?_
      refine og_goto (pc' := 28) X11 hx (hb hby d2_24) (by decide) (by decide) ?_
      refine og_retN X11 hx hlk hret (by simp) (hb hby d2_28) (by decide) (by decide) ?_
      rw [e11]; refine ⟨?_, N, rfl⟩
      show some (Value.int (1 : Int32)) = _
      rw [hr]; simp [hc9, hc20]
theorem rm_run03 (l : Launch) (Z : State) (a0 : Array Value) (hw : HW a0 Z) (ca : Addr) (kc : ClassId) (d0 d1 d2 d3 d4 d5 : Int32) (rr : Int32) (hr : rr = own_cnt [d2, d1]) (h0 : Heap) (n0 : Nat) (O : Old Z n0 h0) (V_ca : Arv Z h0 ca kc .char (6 : Int32) [(.int d0), (.int d1), (.int d2), (.int d3), (.int d4), (.int d5)] (.int (0 : Int32))) :
    Con l Z (⟨"com/example/nitpick/nitpick/internal/interpolation/ExpressionLiteralsStringEndPinLaw", "run", "([CII)I"⟩ : MethodName) method_5_code 4 (some .int) ({ frames := 0, cells := 0, slots := 0, locals := 0 } : Room) #[(.ref ca), (.int (0 : Int32)), (.int (3 : Int32))] h0 (fun v h L => v = some (.int rr) ∧ Fr n0 L ∧ h = h0) := by
  refine own_startC opn_19 ?_
  intro p e s m below meth c T0 X0 hx hby hml hZ hown hnm hret hlk e0
  have N := Fr.nil n0; have K := Keep.refl h0 []
  refine OG.cast (oef9 m ca (0 : Int32) (3 : Int32)) ?_
  refine og_iconst (pc' := 1) (v := (0 : Int32)) X0 hx rfl (hb hby d19_0) rfl ?_
  refine og_istoreN (pc' := 2) (L' := #[.val (.ref ca), .val (.int (0 : Int32)), .val (.int (3 : Int32)), .val (.int (0 : Int32))]) X0 hx rfl (hb hby d19_1) rfl ?_
  refine og_iloadN (pc' := 3) X0 hx rfl (hb hby d19_2) rfl ?_
  refine og_iconst (pc' := 4) (v := (1 : Int32)) X0 hx rfl (hb hby d19_3) rfl ?_
  refine og_isub (pc' := 5) X0 hx (hb hby d19_4) rfl ?_
  show OG p e below _ (T0.setTop (mkF m 5 #[.val (.ref ca), .val (.int (0 : Int32)), .val (.int (3 : Int32)), .val (.int (0 : Int32))] [(.int (2 : Int32))]))
  refine og_iloadN (pc' := 6) X0 hx rfl (hb hby d19_5) rfl ?_
  refine og_icmp_le (pc1 := 78) (pc2 := 9) X0 hx (hb hby d19_6) (by decide) (by decide) rfl (fun q => absurd q (by decide)) (fun _ => ?_)
  refine og_aloadN (pc' := 10) X0 hx rfl rfl (hb hby d19_9) rfl ?_
  refine og_iloadN (pc' := 11) X0 hx rfl (hb hby d19_10) rfl ?_
  refine og_iconst (pc' := 12) (v := (1 : Int32)) X0 hx rfl (hb hby d19_11) rfl ?_
  refine og_isub (pc' := 13) X0 hx (hb hby d19_12) rfl ?_
  show OG p e below _ (T0.setTop (mkF m 13 #[.val (.ref ca), .val (.int (0 : Int32)), .val (.int (3 : Int32)), .val (.int (0 : Int32))] [(.int (2 : Int32)), (.ref ca)]))
  refine og_caload (pc' := 14) (v := (.int d2)) X0 hx hZ e0 V_ca ⟨by decide, by decide⟩ rfl (hb hby d19_13) rfl ?_
  refine og_bipush (pc' := 16) (v := (92 : Int32)) X0 hx rfl (hb hby d19_14) rfl ?_
  refine og_icmp_ne (pc1 := 78) (pc2 := 19) X0 hx (hb hby d19_16) (by decide) (by decide) rfl (fun hc16 => ?_) (fun hc16 => ?_)
  · -- pc 78
    refine og_iloadN (pc' := 79) X0 hx rfl (hb hby d19_78) rfl ?_
    refine og_retI X0 hx hlk hret (hb hby d19_79) (by decide) (by decide) ?_
    rw [e0]; refine ⟨?_, N, rfl⟩
    rw [hr]; simp [own_cnt, hc16]
  · -- pc 19
    refine og_iconst (pc' := 20) (v := (1 : Int32)) X0 hx rfl (hb hby d19_19) rfl ?_
    refine og_istoreN (pc' := 21) (L' := #[.val (.ref ca), .val (.int (0 : Int32)), .val (.int (3 : Int32)), .val (.int (1 : Int32))]) X0 hx rfl (hb hby d19_20) rfl ?_
    refine og_iloadN (pc' := 22) X0 hx rfl (hb hby d19_21) rfl ?_
    refine og_iconst (pc' := 23) (v := (2 : Int32)) X0 hx rfl (hb hby d19_22) rfl ?_
    refine og_isub (pc' := 24) X0 hx (hb hby d19_23) rfl ?_
    show OG p e below _ (T0.setTop (mkF m 24 #[.val (.ref ca), .val (.int (0 : Int32)), .val (.int (3 : Int32)), .val (.int (1 : Int32))] [(.int (1 : Int32))]))
    refine og_iloadN (pc' := 25) X0 hx rfl (hb hby d19_24) rfl ?_
    refine og_icmp_le (pc1 := 78) (pc2 := 28) X0 hx (hb hby d19_25) (by decide) (by decide) rfl (fun q => absurd q (by decide)) (fun _ => ?_)
    refine og_aloadN (pc' := 29) X0 hx rfl rfl (hb hby d19_28) rfl ?_
    refine og_iloadN (pc' := 30) X0 hx rfl (hb hby d19_29) rfl ?_
    refine og_iconst (pc' := 31) (v := (2 : Int32)) X0 hx rfl (hb hby d19_30) rfl ?_
    refine og_isub (pc' := 32) X0 hx (hb hby d19_31) rfl ?_
    show OG p e below _ (T0.setTop (mkF m 32 #[.val (.ref ca), .val (.int (0 : Int32)), .val (.int (3 : Int32)), .val (.int (1 : Int32))] [(.int (1 : Int32)), (.ref ca)]))
    refine og_caload (pc' := 33) (v := (.int d1)) X0 hx hZ e0 V_ca ⟨by decide, by decide⟩ rfl (hb hby d19_32) rfl ?_
    refine og_bipush (pc' := 35) (v := (92 : Int32)) X0 hx rfl (hb hby d19_33) rfl ?_
    refine og_icmp_ne (pc1 := 78) (pc2 := 38) X0 hx (hb hby d19_35) (by decide) (by decide) rfl (fun hc35 => ?_) (fun hc35 => ?_)
    · -- pc 78
      refine og_iloadN (pc' := 79) X0 hx rfl (hb hby d19_78) rfl ?_
      refine og_retI X0 hx hlk hret (hb hby d19_79) (by decide) (by decide) ?_
      rw [e0]; refine ⟨?_, N, rfl⟩
      rw [hr]; simp [own_cnt, hc16, hc35]
    · -- pc 38
      refine og_iconst (pc' := 39) (v := (2 : Int32)) X0 hx rfl (hb hby d19_38) rfl ?_
      refine og_istoreN (pc' := 40) (L' := #[.val (.ref ca), .val (.int (0 : Int32)), .val (.int (3 : Int32)), .val (.int (2 : Int32))]) X0 hx rfl (hb hby d19_39) rfl ?_
      refine og_iloadN (pc' := 41) X0 hx rfl (hb hby d19_40) rfl ?_
      refine og_iconst (pc' := 42) (v := (3 : Int32)) X0 hx rfl (hb hby d19_41) rfl ?_
      refine og_isub (pc' := 43) X0 hx (hb hby d19_42) rfl ?_
      show OG p e below _ (T0.setTop (mkF m 43 #[.val (.ref ca), .val (.int (0 : Int32)), .val (.int (3 : Int32)), .val (.int (2 : Int32))] [(.int (0 : Int32))]))
      refine og_iloadN (pc' := 44) X0 hx rfl (hb hby d19_43) rfl ?_
      refine og_icmp_le (pc1 := 78) (pc2 := 47) X0 hx (hb hby d19_44) (by decide) (by decide) rfl (fun _ => ?_) (fun q => absurd q (by decide))
      refine og_iloadN (pc' := 79) X0 hx rfl (hb hby d19_78) rfl ?_
      refine og_retI X0 hx hlk hret (hb hby d19_79) (by decide) (by decide) ?_
      rw [e0]; refine ⟨?_, N, rfl⟩
      rw [hr]; simp [own_cnt, hc16, hc35]
theorem rm_cl03 (l : Launch) (Z : State) (a0 : Array Value) (hw : HW a0 Z) (ca : Addr) (kc : ClassId) (d0 d1 d2 d3 d4 d5 : Int32) (q rr : Int32) (hr : rr = if d3 = q ∧ own_cnt [d2, d1] % 2 = 0 then 1 else 0) (h0 : Heap) (n0 : Nat) (O : Old Z n0 h0) (V_ca : Arv Z h0 ca kc .char (6 : Int32) [(.int d0), (.int d1), (.int d2), (.int d3), (.int d4), (.int d5)] (.int (0 : Int32))) :
    Con l Z (⟨"com/example/nitpick/nitpick/internal/interpolation/ExpressionLiteralsStringEndPinLaw", "closes", "([CICI)Z"⟩ : MethodName) method_4_code 4 (some .boolean) ({ frames := 1, cells := 0, slots := 0, locals := 15 } : Room) #[(.ref ca), (.int (0 : Int32)), (.int q), (.int (3 : Int32))] h0 (fun v h L => v = some (.int rr) ∧ Fr n0 L ∧ h = h0) := by
  refine own_startC opn_2 ?_
  intro p e s m below meth c T0 X0 hx hby hml hZ hown hnm hret hlk e0
  have N := Fr.nil n0; have K := Keep.refl h0 []
  refine OG.cast (oef10 m ca (0 : Int32) q (3 : Int32)) ?_
  refine og_iloadN (pc' := 1) X0 hx rfl (hb hby d2_0) rfl ?_
  refine og_iloadN (pc' := 2) X0 hx rfl (hb hby d2_1) rfl ?_
  refine og_icmp_le (pc1 := 27) (pc2 := 5) X0 hx (hb hby d2_2) (by decide) (by decide) rfl (fun q => absurd q (by decide)) (fun _ => ?_)
  refine og_aloadN (pc' := 6) X0 hx rfl rfl (hb hby d2_5) rfl ?_
  refine og_iloadN (pc' := 7) X0 hx rfl (hb hby d2_6) rfl ?_
  refine og_caload (pc' := 8) (v := (.int d3)) X0 hx hZ e0 V_ca ⟨by decide, by decide⟩ rfl (hb hby d2_7) rfl ?_
  refine og_iloadN (pc' := 9) X0 hx rfl (hb hby d2_8) rfl ?_
  refine og_icmp_ne (pc1 := 27) (pc2 := 12) X0 hx (hb hby d2_9) (by decide) (by decide) rfl (fun hc9 => ?_) (fun hc9 => ?_)
  · -- pc 27
    refine og_iconst (pc' := 28) (v := (0 : Int32)) X0 hx rfl (hb hby d2_27) rfl ?_
    refine og_retN X0 hx hlk hret (by simp) (hb hby d2_28) (by decide) (by decide) ?_
    rw [e0]; refine ⟨?_, N, rfl⟩
    show some (Value.int (0 : Int32)) = _
    rw [hr]; simp [hc9]
  · -- pc 12
    refine og_aloadN (pc' := 13) X0 hx rfl rfl (hb hby d2_12) rfl ?_
    refine og_iloadN (pc' := 14) X0 hx rfl (hb hby d2_13) rfl ?_
    refine og_iloadN (pc' := 15) X0 hx rfl (hb hby d2_14) rfl ?_
    refine og_static (pc' := 18) (cells' := 0) (slots' := 0) (W := 0) X0 hx hZ (rm_run03 l Z a0 hw ca kc d0 d1 d2 d3 d4 d5 _ rfl h0 n0 O V_ca) hown (ow95 hw) (ow96 hw) (ow3 hw) (ow97 hw) (by decide) (by rw [hml]; rfl) e0 opd_10 [(.ref ca), (.int (0 : Int32)), (.int (3 : Int32))] [] rfl rfl rfl rfl (by decide) (by decide) rfl rfl (by decide) (by decide) (hb hby d2_15) rfl (fun v11 T11 h11 L11 X11 e11 z11 => ?_)
    obtain ⟨rfl, Nq11, hq11⟩ := z11; replace e11 := e11.trans hq11; have N := Fr.app N Nq11
    show OG p e below _ (T11.setTop (mkF m 18 #[.val (.ref ca), .val (.int (0 : Int32)), .val (.int q), .val (.int (3 : Int32))] [(.int (own_cnt [d2, d1]))]))
    refine og_iconst (pc' := 19) (v := (2 : Int32)) X11 hx rfl (hb hby d2_18) rfl ?_
    refine og_irem (pc' := 20) X11 hx (by decide) (hb hby d2_19) rfl ?_
    refine og_if_ne (pc1 := 27) (pc2 := 23) X11 hx (hb hby d2_20) (by decide) (by decide) rfl (fun hc20 => ?_) (fun hc20 => ?_)
    · -- pc 27
      refine og_iconst (pc' := 28) (v := (0 : Int32)) X11 hx rfl (hb hby d2_27) rfl ?_
      refine og_retN X11 hx hlk hret (by simp) (hb hby d2_28) (by decide) (by decide) ?_
      rw [e11]; refine ⟨?_, N, rfl⟩
      show some (Value.int (0 : Int32)) = _
      rw [hr]; simp [hc9, hc20]
    · -- pc 23
      refine og_iconst (pc' := 24) (v := (1 : Int32)) X11 hx rfl (hb hby d2_23) rfl ?_
      refine og_goto (pc' := 28) X11 hx (hb hby d2_24) (by decide) (by decide) ?_
      refine og_retN X11 hx hlk hret (by simp) (hb hby d2_28) (by decide) (by decide) ?_
      rw [e11]; refine ⟨?_, N, rfl⟩
      show some (Value.int (1 : Int32)) = _
      rw [hr]; simp [hc9, hc20]
theorem rm_run04 (l : Launch) (Z : State) (a0 : Array Value) (hw : HW a0 Z) (ca : Addr) (kc : ClassId) (d0 d1 d2 d3 d4 d5 : Int32) (rr : Int32) (hr : rr = own_cnt [d3, d2, d1]) (h0 : Heap) (n0 : Nat) (O : Old Z n0 h0) (V_ca : Arv Z h0 ca kc .char (6 : Int32) [(.int d0), (.int d1), (.int d2), (.int d3), (.int d4), (.int d5)] (.int (0 : Int32))) :
    Con l Z (⟨"com/example/nitpick/nitpick/internal/interpolation/ExpressionLiteralsStringEndPinLaw", "run", "([CII)I"⟩ : MethodName) method_5_code 4 (some .int) ({ frames := 0, cells := 0, slots := 0, locals := 0 } : Room) #[(.ref ca), (.int (0 : Int32)), (.int (4 : Int32))] h0 (fun v h L => v = some (.int rr) ∧ Fr n0 L ∧ h = h0) := by
  refine own_startC opn_19 ?_
  intro p e s m below meth c T0 X0 hx hby hml hZ hown hnm hret hlk e0
  have N := Fr.nil n0; have K := Keep.refl h0 []
  refine OG.cast (oef9 m ca (0 : Int32) (4 : Int32)) ?_
  refine og_iconst (pc' := 1) (v := (0 : Int32)) X0 hx rfl (hb hby d19_0) rfl ?_
  refine og_istoreN (pc' := 2) (L' := #[.val (.ref ca), .val (.int (0 : Int32)), .val (.int (4 : Int32)), .val (.int (0 : Int32))]) X0 hx rfl (hb hby d19_1) rfl ?_
  refine og_iloadN (pc' := 3) X0 hx rfl (hb hby d19_2) rfl ?_
  refine og_iconst (pc' := 4) (v := (1 : Int32)) X0 hx rfl (hb hby d19_3) rfl ?_
  refine og_isub (pc' := 5) X0 hx (hb hby d19_4) rfl ?_
  show OG p e below _ (T0.setTop (mkF m 5 #[.val (.ref ca), .val (.int (0 : Int32)), .val (.int (4 : Int32)), .val (.int (0 : Int32))] [(.int (3 : Int32))]))
  refine og_iloadN (pc' := 6) X0 hx rfl (hb hby d19_5) rfl ?_
  refine og_icmp_le (pc1 := 78) (pc2 := 9) X0 hx (hb hby d19_6) (by decide) (by decide) rfl (fun q => absurd q (by decide)) (fun _ => ?_)
  refine og_aloadN (pc' := 10) X0 hx rfl rfl (hb hby d19_9) rfl ?_
  refine og_iloadN (pc' := 11) X0 hx rfl (hb hby d19_10) rfl ?_
  refine og_iconst (pc' := 12) (v := (1 : Int32)) X0 hx rfl (hb hby d19_11) rfl ?_
  refine og_isub (pc' := 13) X0 hx (hb hby d19_12) rfl ?_
  show OG p e below _ (T0.setTop (mkF m 13 #[.val (.ref ca), .val (.int (0 : Int32)), .val (.int (4 : Int32)), .val (.int (0 : Int32))] [(.int (3 : Int32)), (.ref ca)]))
  refine og_caload (pc' := 14) (v := (.int d3)) X0 hx hZ e0 V_ca ⟨by decide, by decide⟩ rfl (hb hby d19_13) rfl ?_
  refine og_bipush (pc' := 16) (v := (92 : Int32)) X0 hx rfl (hb hby d19_14) rfl ?_
  refine og_icmp_ne (pc1 := 78) (pc2 := 19) X0 hx (hb hby d19_16) (by decide) (by decide) rfl (fun hc16 => ?_) (fun hc16 => ?_)
  · -- pc 78
    refine og_iloadN (pc' := 79) X0 hx rfl (hb hby d19_78) rfl ?_
    refine og_retI X0 hx hlk hret (hb hby d19_79) (by decide) (by decide) ?_
    rw [e0]; refine ⟨?_, N, rfl⟩
    rw [hr]; simp [own_cnt, hc16]
  · -- pc 19
    refine og_iconst (pc' := 20) (v := (1 : Int32)) X0 hx rfl (hb hby d19_19) rfl ?_
    refine og_istoreN (pc' := 21) (L' := #[.val (.ref ca), .val (.int (0 : Int32)), .val (.int (4 : Int32)), .val (.int (1 : Int32))]) X0 hx rfl (hb hby d19_20) rfl ?_
    refine og_iloadN (pc' := 22) X0 hx rfl (hb hby d19_21) rfl ?_
    refine og_iconst (pc' := 23) (v := (2 : Int32)) X0 hx rfl (hb hby d19_22) rfl ?_
    refine og_isub (pc' := 24) X0 hx (hb hby d19_23) rfl ?_
    show OG p e below _ (T0.setTop (mkF m 24 #[.val (.ref ca), .val (.int (0 : Int32)), .val (.int (4 : Int32)), .val (.int (1 : Int32))] [(.int (2 : Int32))]))
    refine og_iloadN (pc' := 25) X0 hx rfl (hb hby d19_24) rfl ?_
    refine og_icmp_le (pc1 := 78) (pc2 := 28) X0 hx (hb hby d19_25) (by decide) (by decide) rfl (fun q => absurd q (by decide)) (fun _ => ?_)
    refine og_aloadN (pc' := 29) X0 hx rfl rfl (hb hby d19_28) rfl ?_
    refine og_iloadN (pc' := 30) X0 hx rfl (hb hby d19_29) rfl ?_
    refine og_iconst (pc' := 31) (v := (2 : Int32)) X0 hx rfl (hb hby d19_30) rfl ?_
    refine og_isub (pc' := 32) X0 hx (hb hby d19_31) rfl ?_
    show OG p e below _ (T0.setTop (mkF m 32 #[.val (.ref ca), .val (.int (0 : Int32)), .val (.int (4 : Int32)), .val (.int (1 : Int32))] [(.int (2 : Int32)), (.ref ca)]))
    refine og_caload (pc' := 33) (v := (.int d2)) X0 hx hZ e0 V_ca ⟨by decide, by decide⟩ rfl (hb hby d19_32) rfl ?_
    refine og_bipush (pc' := 35) (v := (92 : Int32)) X0 hx rfl (hb hby d19_33) rfl ?_
    refine og_icmp_ne (pc1 := 78) (pc2 := 38) X0 hx (hb hby d19_35) (by decide) (by decide) rfl (fun hc35 => ?_) (fun hc35 => ?_)
    · -- pc 78
      refine og_iloadN (pc' := 79) X0 hx rfl (hb hby d19_78) rfl ?_
      refine og_retI X0 hx hlk hret (hb hby d19_79) (by decide) (by decide) ?_
      rw [e0]; refine ⟨?_, N, rfl⟩
      rw [hr]; simp [own_cnt, hc16, hc35]
    · -- pc 38
      refine og_iconst (pc' := 39) (v := (2 : Int32)) X0 hx rfl (hb hby d19_38) rfl ?_
      refine og_istoreN (pc' := 40) (L' := #[.val (.ref ca), .val (.int (0 : Int32)), .val (.int (4 : Int32)), .val (.int (2 : Int32))]) X0 hx rfl (hb hby d19_39) rfl ?_
      refine og_iloadN (pc' := 41) X0 hx rfl (hb hby d19_40) rfl ?_
      refine og_iconst (pc' := 42) (v := (3 : Int32)) X0 hx rfl (hb hby d19_41) rfl ?_
      refine og_isub (pc' := 43) X0 hx (hb hby d19_42) rfl ?_
      show OG p e below _ (T0.setTop (mkF m 43 #[.val (.ref ca), .val (.int (0 : Int32)), .val (.int (4 : Int32)), .val (.int (2 : Int32))] [(.int (1 : Int32))]))
      refine og_iloadN (pc' := 44) X0 hx rfl (hb hby d19_43) rfl ?_
      refine og_icmp_le (pc1 := 78) (pc2 := 47) X0 hx (hb hby d19_44) (by decide) (by decide) rfl (fun q => absurd q (by decide)) (fun _ => ?_)
      refine og_aloadN (pc' := 48) X0 hx rfl rfl (hb hby d19_47) rfl ?_
      refine og_iloadN (pc' := 49) X0 hx rfl (hb hby d19_48) rfl ?_
      refine og_iconst (pc' := 50) (v := (3 : Int32)) X0 hx rfl (hb hby d19_49) rfl ?_
      refine og_isub (pc' := 51) X0 hx (hb hby d19_50) rfl ?_
      show OG p e below _ (T0.setTop (mkF m 51 #[.val (.ref ca), .val (.int (0 : Int32)), .val (.int (4 : Int32)), .val (.int (2 : Int32))] [(.int (1 : Int32)), (.ref ca)]))
      refine og_caload (pc' := 52) (v := (.int d1)) X0 hx hZ e0 V_ca ⟨by decide, by decide⟩ rfl (hb hby d19_51) rfl ?_
      refine og_bipush (pc' := 54) (v := (92 : Int32)) X0 hx rfl (hb hby d19_52) rfl ?_
      refine og_icmp_ne (pc1 := 78) (pc2 := 57) X0 hx (hb hby d19_54) (by decide) (by decide) rfl (fun hc54 => ?_) (fun hc54 => ?_)
      · -- pc 78
        refine og_iloadN (pc' := 79) X0 hx rfl (hb hby d19_78) rfl ?_
        refine og_retI X0 hx hlk hret (hb hby d19_79) (by decide) (by decide) ?_
        rw [e0]; refine ⟨?_, N, rfl⟩
        rw [hr]; simp [own_cnt, hc16, hc35, hc54]
      · -- pc 57
        refine og_iconst (pc' := 58) (v := (3 : Int32)) X0 hx rfl (hb hby d19_57) rfl ?_
        refine og_istoreN (pc' := 59) (L' := #[.val (.ref ca), .val (.int (0 : Int32)), .val (.int (4 : Int32)), .val (.int (3 : Int32))]) X0 hx rfl (hb hby d19_58) rfl ?_
        refine og_iloadN (pc' := 60) X0 hx rfl (hb hby d19_59) rfl ?_
        refine og_iconst (pc' := 61) (v := (4 : Int32)) X0 hx rfl (hb hby d19_60) rfl ?_
        refine og_isub (pc' := 62) X0 hx (hb hby d19_61) rfl ?_
        show OG p e below _ (T0.setTop (mkF m 62 #[.val (.ref ca), .val (.int (0 : Int32)), .val (.int (4 : Int32)), .val (.int (3 : Int32))] [(.int (0 : Int32))]))
        refine og_iloadN (pc' := 63) X0 hx rfl (hb hby d19_62) rfl ?_
        refine og_icmp_le (pc1 := 78) (pc2 := 66) X0 hx (hb hby d19_63) (by decide) (by decide) rfl (fun _ => ?_) (fun q => absurd q (by decide))
        refine og_iloadN (pc' := 79) X0 hx rfl (hb hby d19_78) rfl ?_
        refine og_retI X0 hx hlk hret (hb hby d19_79) (by decide) (by decide) ?_
        rw [e0]; refine ⟨?_, N, rfl⟩
        rw [hr]; simp [own_cnt, hc16, hc35, hc54]
theorem rm_cl04 (l : Launch) (Z : State) (a0 : Array Value) (hw : HW a0 Z) (ca : Addr) (kc : ClassId) (d0 d1 d2 d3 d4 d5 : Int32) (q rr : Int32) (hr : rr = if d4 = q ∧ own_cnt [d3, d2, d1] % 2 = 0 then 1 else 0) (h0 : Heap) (n0 : Nat) (O : Old Z n0 h0) (V_ca : Arv Z h0 ca kc .char (6 : Int32) [(.int d0), (.int d1), (.int d2), (.int d3), (.int d4), (.int d5)] (.int (0 : Int32))) :
    Con l Z (⟨"com/example/nitpick/nitpick/internal/interpolation/ExpressionLiteralsStringEndPinLaw", "closes", "([CICI)Z"⟩ : MethodName) method_4_code 4 (some .boolean) ({ frames := 1, cells := 0, slots := 0, locals := 15 } : Room) #[(.ref ca), (.int (0 : Int32)), (.int q), (.int (4 : Int32))] h0 (fun v h L => v = some (.int rr) ∧ Fr n0 L ∧ h = h0) := by
  refine own_startC opn_2 ?_
  intro p e s m below meth c T0 X0 hx hby hml hZ hown hnm hret hlk e0
  have N := Fr.nil n0; have K := Keep.refl h0 []
  refine OG.cast (oef10 m ca (0 : Int32) q (4 : Int32)) ?_
  refine og_iloadN (pc' := 1) X0 hx rfl (hb hby d2_0) rfl ?_
  refine og_iloadN (pc' := 2) X0 hx rfl (hb hby d2_1) rfl ?_
  refine og_icmp_le (pc1 := 27) (pc2 := 5) X0 hx (hb hby d2_2) (by decide) (by decide) rfl (fun q => absurd q (by decide)) (fun _ => ?_)
  refine og_aloadN (pc' := 6) X0 hx rfl rfl (hb hby d2_5) rfl ?_
  refine og_iloadN (pc' := 7) X0 hx rfl (hb hby d2_6) rfl ?_
  refine og_caload (pc' := 8) (v := (.int d4)) X0 hx hZ e0 V_ca ⟨by decide, by decide⟩ rfl (hb hby d2_7) rfl ?_
  refine og_iloadN (pc' := 9) X0 hx rfl (hb hby d2_8) rfl ?_
  refine og_icmp_ne (pc1 := 27) (pc2 := 12) X0 hx (hb hby d2_9) (by decide) (by decide) rfl (fun hc9 => ?_) (fun hc9 => ?_)
  · -- pc 27
    refine og_iconst (pc' := 28) (v := (0 : Int32)) X0 hx rfl (hb hby d2_27) rfl ?_
    refine og_retN X0 hx hlk hret (by simp) (hb hby d2_28) (by decide) (by decide) ?_
    rw [e0]; refine ⟨?_, N, rfl⟩
    show some (Value.int (0 : Int32)) = _
    rw [hr]; simp [hc9]
  · -- pc 12
    refine og_aloadN (pc' := 13) X0 hx rfl rfl (hb hby d2_12) rfl ?_
    refine og_iloadN (pc' := 14) X0 hx rfl (hb hby d2_13) rfl ?_
    refine og_iloadN (pc' := 15) X0 hx rfl (hb hby d2_14) rfl ?_
    refine og_static (pc' := 18) (cells' := 0) (slots' := 0) (W := 0) X0 hx hZ (rm_run04 l Z a0 hw ca kc d0 d1 d2 d3 d4 d5 _ rfl h0 n0 O V_ca) hown (ow95 hw) (ow96 hw) (ow3 hw) (ow97 hw) (by decide) (by rw [hml]; rfl) e0 opd_10 [(.ref ca), (.int (0 : Int32)), (.int (4 : Int32))] [] rfl rfl rfl rfl (by decide) (by decide) rfl rfl (by decide) (by decide) (hb hby d2_15) rfl (fun v11 T11 h11 L11 X11 e11 z11 => ?_)
    obtain ⟨rfl, Nq11, hq11⟩ := z11; replace e11 := e11.trans hq11; have N := Fr.app N Nq11
    show OG p e below _ (T11.setTop (mkF m 18 #[.val (.ref ca), .val (.int (0 : Int32)), .val (.int q), .val (.int (4 : Int32))] [(.int (own_cnt [d3, d2, d1]))]))
    refine og_iconst (pc' := 19) (v := (2 : Int32)) X11 hx rfl (hb hby d2_18) rfl ?_
    refine og_irem (pc' := 20) X11 hx (by decide) (hb hby d2_19) rfl ?_
    refine og_if_ne (pc1 := 27) (pc2 := 23) X11 hx (hb hby d2_20) (by decide) (by decide) rfl (fun hc20 => ?_) (fun hc20 => ?_)
    · -- pc 27
      refine og_iconst (pc' := 28) (v := (0 : Int32)) X11 hx rfl (hb hby d2_27) rfl ?_
      refine og_retN X11 hx hlk hret (by simp) (hb hby d2_28) (by decide) (by decide) ?_
      rw [e11]; refine ⟨?_, N, rfl⟩
      show some (Value.int (0 : Int32)) = _
      rw [hr]; simp [hc9, hc20]
    · -- pc 23
      refine og_iconst (pc' := 24) (v := (1 : Int32)) X11 hx rfl (hb hby d2_23) rfl ?_
      refine og_goto (pc' := 28) X11 hx (hb hby d2_24) (by decide) (by decide) ?_
      refine og_retN X11 hx hlk hret (by simp) (hb hby d2_28) (by decide) (by decide) ?_
      rw [e11]; refine ⟨?_, N, rfl⟩
      show some (Value.int (1 : Int32)) = _
      rw [hr]; simp [hc9, hc20]
theorem rm_run05 (l : Launch) (Z : State) (a0 : Array Value) (hw : HW a0 Z) (ca : Addr) (kc : ClassId) (d0 d1 d2 d3 d4 d5 : Int32) (rr : Int32) (hr : rr = own_cnt [d4, d3, d2, d1]) (h0 : Heap) (n0 : Nat) (O : Old Z n0 h0) (V_ca : Arv Z h0 ca kc .char (6 : Int32) [(.int d0), (.int d1), (.int d2), (.int d3), (.int d4), (.int d5)] (.int (0 : Int32))) :
    Con l Z (⟨"com/example/nitpick/nitpick/internal/interpolation/ExpressionLiteralsStringEndPinLaw", "run", "([CII)I"⟩ : MethodName) method_5_code 4 (some .int) ({ frames := 0, cells := 0, slots := 0, locals := 0 } : Room) #[(.ref ca), (.int (0 : Int32)), (.int (5 : Int32))] h0 (fun v h L => v = some (.int rr) ∧ Fr n0 L ∧ h = h0) := by
  refine own_startC opn_19 ?_
  intro p e s m below meth c T0 X0 hx hby hml hZ hown hnm hret hlk e0
  have N := Fr.nil n0; have K := Keep.refl h0 []
  refine OG.cast (oef9 m ca (0 : Int32) (5 : Int32)) ?_
  refine og_iconst (pc' := 1) (v := (0 : Int32)) X0 hx rfl (hb hby d19_0) rfl ?_
  refine og_istoreN (pc' := 2) (L' := #[.val (.ref ca), .val (.int (0 : Int32)), .val (.int (5 : Int32)), .val (.int (0 : Int32))]) X0 hx rfl (hb hby d19_1) rfl ?_
  refine og_iloadN (pc' := 3) X0 hx rfl (hb hby d19_2) rfl ?_
  refine og_iconst (pc' := 4) (v := (1 : Int32)) X0 hx rfl (hb hby d19_3) rfl ?_
  refine og_isub (pc' := 5) X0 hx (hb hby d19_4) rfl ?_
  show OG p e below _ (T0.setTop (mkF m 5 #[.val (.ref ca), .val (.int (0 : Int32)), .val (.int (5 : Int32)), .val (.int (0 : Int32))] [(.int (4 : Int32))]))
  refine og_iloadN (pc' := 6) X0 hx rfl (hb hby d19_5) rfl ?_
  refine og_icmp_le (pc1 := 78) (pc2 := 9) X0 hx (hb hby d19_6) (by decide) (by decide) rfl (fun q => absurd q (by decide)) (fun _ => ?_)
  refine og_aloadN (pc' := 10) X0 hx rfl rfl (hb hby d19_9) rfl ?_
  refine og_iloadN (pc' := 11) X0 hx rfl (hb hby d19_10) rfl ?_
  refine og_iconst (pc' := 12) (v := (1 : Int32)) X0 hx rfl (hb hby d19_11) rfl ?_
  refine og_isub (pc' := 13) X0 hx (hb hby d19_12) rfl ?_
  show OG p e below _ (T0.setTop (mkF m 13 #[.val (.ref ca), .val (.int (0 : Int32)), .val (.int (5 : Int32)), .val (.int (0 : Int32))] [(.int (4 : Int32)), (.ref ca)]))
  refine og_caload (pc' := 14) (v := (.int d4)) X0 hx hZ e0 V_ca ⟨by decide, by decide⟩ rfl (hb hby d19_13) rfl ?_
  refine og_bipush (pc' := 16) (v := (92 : Int32)) X0 hx rfl (hb hby d19_14) rfl ?_
  refine og_icmp_ne (pc1 := 78) (pc2 := 19) X0 hx (hb hby d19_16) (by decide) (by decide) rfl (fun hc16 => ?_) (fun hc16 => ?_)
  · -- pc 78
    refine og_iloadN (pc' := 79) X0 hx rfl (hb hby d19_78) rfl ?_
    refine og_retI X0 hx hlk hret (hb hby d19_79) (by decide) (by decide) ?_
    rw [e0]; refine ⟨?_, N, rfl⟩
    rw [hr]; simp [own_cnt, hc16]
  · -- pc 19
    refine og_iconst (pc' := 20) (v := (1 : Int32)) X0 hx rfl (hb hby d19_19) rfl ?_
    refine og_istoreN (pc' := 21) (L' := #[.val (.ref ca), .val (.int (0 : Int32)), .val (.int (5 : Int32)), .val (.int (1 : Int32))]) X0 hx rfl (hb hby d19_20) rfl ?_
    refine og_iloadN (pc' := 22) X0 hx rfl (hb hby d19_21) rfl ?_
    refine og_iconst (pc' := 23) (v := (2 : Int32)) X0 hx rfl (hb hby d19_22) rfl ?_
    refine og_isub (pc' := 24) X0 hx (hb hby d19_23) rfl ?_
    show OG p e below _ (T0.setTop (mkF m 24 #[.val (.ref ca), .val (.int (0 : Int32)), .val (.int (5 : Int32)), .val (.int (1 : Int32))] [(.int (3 : Int32))]))
    refine og_iloadN (pc' := 25) X0 hx rfl (hb hby d19_24) rfl ?_
    refine og_icmp_le (pc1 := 78) (pc2 := 28) X0 hx (hb hby d19_25) (by decide) (by decide) rfl (fun q => absurd q (by decide)) (fun _ => ?_)
    refine og_aloadN (pc' := 29) X0 hx rfl rfl (hb hby d19_28) rfl ?_
    refine og_iloadN (pc' := 30) X0 hx rfl (hb hby d19_29) rfl ?_
    refine og_iconst (pc' := 31) (v := (2 : Int32)) X0 hx rfl (hb hby d19_30) rfl ?_
    refine og_isub (pc' := 32) X0 hx (hb hby d19_31) rfl ?_
    show OG p e below _ (T0.setTop (mkF m 32 #[.val (.ref ca), .val (.int (0 : Int32)), .val (.int (5 : Int32)), .val (.int (1 : Int32))] [(.int (3 : Int32)), (.ref ca)]))
    refine og_caload (pc' := 33) (v := (.int d3)) X0 hx hZ e0 V_ca ⟨by decide, by decide⟩ rfl (hb hby d19_32) rfl ?_
    refine og_bipush (pc' := 35) (v := (92 : Int32)) X0 hx rfl (hb hby d19_33) rfl ?_
    refine og_icmp_ne (pc1 := 78) (pc2 := 38) X0 hx (hb hby d19_35) (by decide) (by decide) rfl (fun hc35 => ?_) (fun hc35 => ?_)
    · -- pc 78
      refine og_iloadN (pc' := 79) X0 hx rfl (hb hby d19_78) rfl ?_
      refine og_retI X0 hx hlk hret (hb hby d19_79) (by decide) (by decide) ?_
      rw [e0]; refine ⟨?_, N, rfl⟩
      rw [hr]; simp [own_cnt, hc16, hc35]
    · -- pc 38
      refine og_iconst (pc' := 39) (v := (2 : Int32)) X0 hx rfl (hb hby d19_38) rfl ?_
      refine og_istoreN (pc' := 40) (L' := #[.val (.ref ca), .val (.int (0 : Int32)), .val (.int (5 : Int32)), .val (.int (2 : Int32))]) X0 hx rfl (hb hby d19_39) rfl ?_
      refine og_iloadN (pc' := 41) X0 hx rfl (hb hby d19_40) rfl ?_
      refine og_iconst (pc' := 42) (v := (3 : Int32)) X0 hx rfl (hb hby d19_41) rfl ?_
      refine og_isub (pc' := 43) X0 hx (hb hby d19_42) rfl ?_
      show OG p e below _ (T0.setTop (mkF m 43 #[.val (.ref ca), .val (.int (0 : Int32)), .val (.int (5 : Int32)), .val (.int (2 : Int32))] [(.int (2 : Int32))]))
      refine og_iloadN (pc' := 44) X0 hx rfl (hb hby d19_43) rfl ?_
      refine og_icmp_le (pc1 := 78) (pc2 := 47) X0 hx (hb hby d19_44) (by decide) (by decide) rfl (fun q => absurd q (by decide)) (fun _ => ?_)
      refine og_aloadN (pc' := 48) X0 hx rfl rfl (hb hby d19_47) rfl ?_
      refine og_iloadN (pc' := 49) X0 hx rfl (hb hby d19_48) rfl ?_
      refine og_iconst (pc' := 50) (v := (3 : Int32)) X0 hx rfl (hb hby d19_49) rfl ?_
      refine og_isub (pc' := 51) X0 hx (hb hby d19_50) rfl ?_
      show OG p e below _ (T0.setTop (mkF m 51 #[.val (.ref ca), .val (.int (0 : Int32)), .val (.int (5 : Int32)), .val (.int (2 : Int32))] [(.int (2 : Int32)), (.ref ca)]))
      refine og_caload (pc' := 52) (v := (.int d2)) X0 hx hZ e0 V_ca ⟨by decide, by decide⟩ rfl (hb hby d19_51) rfl ?_
      refine og_bipush (pc' := 54) (v := (92 : Int32)) X0 hx rfl (hb hby d19_52) rfl ?_
      refine og_icmp_ne (pc1 := 78) (pc2 := 57) X0 hx (hb hby d19_54) (by decide) (by decide) rfl (fun hc54 => ?_) (fun hc54 => ?_)
      · -- pc 78
        refine og_iloadN (pc' := 79) X0 hx rfl (hb hby d19_78) rfl ?_
        refine og_retI X0 hx hlk hret (hb hby d19_79) (by decide) (by decide) ?_
        rw [e0]; refine ⟨?_, N, rfl⟩
        rw [hr]; simp [own_cnt, hc16, hc35, hc54]
      · -- pc 57
        refine og_iconst (pc' := 58) (v := (3 : Int32)) X0 hx rfl (hb hby d19_57) rfl ?_
        refine og_istoreN (pc' := 59) (L' := #[.val (.ref ca), .val (.int (0 : Int32)), .val (.int (5 : Int32)), .val (.int (3 : Int32))]) X0 hx rfl (hb hby d19_58) rfl ?_
        refine og_iloadN (pc' := 60) X0 hx rfl (hb hby d19_59) rfl ?_
        refine og_iconst (pc' := 61) (v := (4 : Int32)) X0 hx rfl (hb hby d19_60) rfl ?_
        refine og_isub (pc' := 62) X0 hx (hb hby d19_61) rfl ?_
        show OG p e below _ (T0.setTop (mkF m 62 #[.val (.ref ca), .val (.int (0 : Int32)), .val (.int (5 : Int32)), .val (.int (3 : Int32))] [(.int (1 : Int32))]))
        refine og_iloadN (pc' := 63) X0 hx rfl (hb hby d19_62) rfl ?_
        refine og_icmp_le (pc1 := 78) (pc2 := 66) X0 hx (hb hby d19_63) (by decide) (by decide) rfl (fun q => absurd q (by decide)) (fun _ => ?_)
        refine og_aloadN (pc' := 67) X0 hx rfl rfl (hb hby d19_66) rfl ?_
        refine og_iloadN (pc' := 68) X0 hx rfl (hb hby d19_67) rfl ?_
        refine og_iconst (pc' := 69) (v := (4 : Int32)) X0 hx rfl (hb hby d19_68) rfl ?_
        refine og_isub (pc' := 70) X0 hx (hb hby d19_69) rfl ?_
        show OG p e below _ (T0.setTop (mkF m 70 #[.val (.ref ca), .val (.int (0 : Int32)), .val (.int (5 : Int32)), .val (.int (3 : Int32))] [(.int (1 : Int32)), (.ref ca)]))
        refine og_caload (pc' := 71) (v := (.int d1)) X0 hx hZ e0 V_ca ⟨by decide, by decide⟩ rfl (hb hby d19_70) rfl ?_
        refine og_bipush (pc' := 73) (v := (92 : Int32)) X0 hx rfl (hb hby d19_71) rfl ?_
        refine og_icmp_ne (pc1 := 78) (pc2 := 76) X0 hx (hb hby d19_73) (by decide) (by decide) rfl (fun hc73 => ?_) (fun hc73 => ?_)
        · -- pc 78
          refine og_iloadN (pc' := 79) X0 hx rfl (hb hby d19_78) rfl ?_
          refine og_retI X0 hx hlk hret (hb hby d19_79) (by decide) (by decide) ?_
          rw [e0]; refine ⟨?_, N, rfl⟩
          rw [hr]; simp [own_cnt, hc16, hc35, hc54, hc73]
        · -- pc 76
          refine og_iconst (pc' := 77) (v := (4 : Int32)) X0 hx rfl (hb hby d19_76) rfl ?_
          refine og_istoreN (pc' := 78) (L' := #[.val (.ref ca), .val (.int (0 : Int32)), .val (.int (5 : Int32)), .val (.int (4 : Int32))]) X0 hx rfl (hb hby d19_77) rfl ?_
          refine og_iloadN (pc' := 79) X0 hx rfl (hb hby d19_78) rfl ?_
          refine og_retI X0 hx hlk hret (hb hby d19_79) (by decide) (by decide) ?_
          rw [e0]; refine ⟨?_, N, rfl⟩
          rw [hr]; simp [own_cnt, hc16, hc35, hc54, hc73]
theorem rm_cl05 (l : Launch) (Z : State) (a0 : Array Value) (hw : HW a0 Z) (ca : Addr) (kc : ClassId) (d0 d1 d2 d3 d4 d5 : Int32) (q rr : Int32) (hr : rr = if d5 = q ∧ own_cnt [d4, d3, d2, d1] % 2 = 0 then 1 else 0) (h0 : Heap) (n0 : Nat) (O : Old Z n0 h0) (V_ca : Arv Z h0 ca kc .char (6 : Int32) [(.int d0), (.int d1), (.int d2), (.int d3), (.int d4), (.int d5)] (.int (0 : Int32))) :
    Con l Z (⟨"com/example/nitpick/nitpick/internal/interpolation/ExpressionLiteralsStringEndPinLaw", "closes", "([CICI)Z"⟩ : MethodName) method_4_code 4 (some .boolean) ({ frames := 1, cells := 0, slots := 0, locals := 15 } : Room) #[(.ref ca), (.int (0 : Int32)), (.int q), (.int (5 : Int32))] h0 (fun v h L => v = some (.int rr) ∧ Fr n0 L ∧ h = h0) := by
  refine own_startC opn_2 ?_
  intro p e s m below meth c T0 X0 hx hby hml hZ hown hnm hret hlk e0
  have N := Fr.nil n0; have K := Keep.refl h0 []
  refine OG.cast (oef10 m ca (0 : Int32) q (5 : Int32)) ?_
  refine og_iloadN (pc' := 1) X0 hx rfl (hb hby d2_0) rfl ?_
  refine og_iloadN (pc' := 2) X0 hx rfl (hb hby d2_1) rfl ?_
  refine og_icmp_le (pc1 := 27) (pc2 := 5) X0 hx (hb hby d2_2) (by decide) (by decide) rfl (fun q => absurd q (by decide)) (fun _ => ?_)
  refine og_aloadN (pc' := 6) X0 hx rfl rfl (hb hby d2_5) rfl ?_
  refine og_iloadN (pc' := 7) X0 hx rfl (hb hby d2_6) rfl ?_
  refine og_caload (pc' := 8) (v := (.int d5)) X0 hx hZ e0 V_ca ⟨by decide, by decide⟩ rfl (hb hby d2_7) rfl ?_
  refine og_iloadN (pc' := 9) X0 hx rfl (hb hby d2_8) rfl ?_
  refine og_icmp_ne (pc1 := 27) (pc2 := 12) X0 hx (hb hby d2_9) (by decide) (by decide) rfl (fun hc9 => ?_) (fun hc9 => ?_)
  · -- pc 27
    refine og_iconst (pc' := 28) (v := (0 : Int32)) X0 hx rfl (hb hby d2_27) rfl ?_
    refine og_retN X0 hx hlk hret (by simp) (hb hby d2_28) (by decide) (by decide) ?_
    rw [e0]; refine ⟨?_, N, rfl⟩
    show some (Value.int (0 : Int32)) = _
    rw [hr]; simp [hc9]
  · -- pc 12
    refine og_aloadN (pc' := 13) X0 hx rfl rfl (hb hby d2_12) rfl ?_
    refine og_iloadN (pc' := 14) X0 hx rfl (hb hby d2_13) rfl ?_
    refine og_iloadN (pc' := 15) X0 hx rfl (hb hby d2_14) rfl ?_
    refine og_static (pc' := 18) (cells' := 0) (slots' := 0) (W := 0) X0 hx hZ (rm_run05 l Z a0 hw ca kc d0 d1 d2 d3 d4 d5 _ rfl h0 n0 O V_ca) hown (ow95 hw) (ow96 hw) (ow3 hw) (ow97 hw) (by decide) (by rw [hml]; rfl) e0 opd_10 [(.ref ca), (.int (0 : Int32)), (.int (5 : Int32))] [] rfl rfl rfl rfl (by decide) (by decide) rfl rfl (by decide) (by decide) (hb hby d2_15) rfl (fun v11 T11 h11 L11 X11 e11 z11 => ?_)
    obtain ⟨rfl, Nq11, hq11⟩ := z11; replace e11 := e11.trans hq11; have N := Fr.app N Nq11
    show OG p e below _ (T11.setTop (mkF m 18 #[.val (.ref ca), .val (.int (0 : Int32)), .val (.int q), .val (.int (5 : Int32))] [(.int (own_cnt [d4, d3, d2, d1]))]))
    refine og_iconst (pc' := 19) (v := (2 : Int32)) X11 hx rfl (hb hby d2_18) rfl ?_
    refine og_irem (pc' := 20) X11 hx (by decide) (hb hby d2_19) rfl ?_
    refine og_if_ne (pc1 := 27) (pc2 := 23) X11 hx (hb hby d2_20) (by decide) (by decide) rfl (fun hc20 => ?_) (fun hc20 => ?_)
    · -- pc 27
      refine og_iconst (pc' := 28) (v := (0 : Int32)) X11 hx rfl (hb hby d2_27) rfl ?_
      refine og_retN X11 hx hlk hret (by simp) (hb hby d2_28) (by decide) (by decide) ?_
      rw [e11]; refine ⟨?_, N, rfl⟩
      show some (Value.int (0 : Int32)) = _
      rw [hr]; simp [hc9, hc20]
    · -- pc 23
      refine og_iconst (pc' := 24) (v := (1 : Int32)) X11 hx rfl (hb hby d2_23) rfl ?_
      refine og_goto (pc' := 28) X11 hx (hb hby d2_24) (by decide) (by decide) ?_
      refine og_retN X11 hx hlk hret (by simp) (hb hby d2_28) (by decide) (by decide) ?_
      rw [e11]; refine ⟨?_, N, rfl⟩
      show some (Value.int (1 : Int32)) = _
      rw [hr]; simp [hc9, hc20]
theorem rm_run12 (l : Launch) (Z : State) (a0 : Array Value) (hw : HW a0 Z) (ca : Addr) (kc : ClassId) (d0 d1 d2 d3 d4 d5 : Int32) (rr : Int32) (hr : rr = own_cnt []) (h0 : Heap) (n0 : Nat) (O : Old Z n0 h0) (V_ca : Arv Z h0 ca kc .char (6 : Int32) [(.int d0), (.int d1), (.int d2), (.int d3), (.int d4), (.int d5)] (.int (0 : Int32))) :
    Con l Z (⟨"com/example/nitpick/nitpick/internal/interpolation/ExpressionLiteralsStringEndPinLaw", "run", "([CII)I"⟩ : MethodName) method_5_code 4 (some .int) ({ frames := 0, cells := 0, slots := 0, locals := 0 } : Room) #[(.ref ca), (.int (1 : Int32)), (.int (2 : Int32))] h0 (fun v h L => v = some (.int rr) ∧ Fr n0 L ∧ h = h0) := by
  refine own_startC opn_19 ?_
  intro p e s m below meth c T0 X0 hx hby hml hZ hown hnm hret hlk e0
  have N := Fr.nil n0; have K := Keep.refl h0 []
  refine OG.cast (oef9 m ca (1 : Int32) (2 : Int32)) ?_
  refine og_iconst (pc' := 1) (v := (0 : Int32)) X0 hx rfl (hb hby d19_0) rfl ?_
  refine og_istoreN (pc' := 2) (L' := #[.val (.ref ca), .val (.int (1 : Int32)), .val (.int (2 : Int32)), .val (.int (0 : Int32))]) X0 hx rfl (hb hby d19_1) rfl ?_
  refine og_iloadN (pc' := 3) X0 hx rfl (hb hby d19_2) rfl ?_
  refine og_iconst (pc' := 4) (v := (1 : Int32)) X0 hx rfl (hb hby d19_3) rfl ?_
  refine og_isub (pc' := 5) X0 hx (hb hby d19_4) rfl ?_
  show OG p e below _ (T0.setTop (mkF m 5 #[.val (.ref ca), .val (.int (1 : Int32)), .val (.int (2 : Int32)), .val (.int (0 : Int32))] [(.int (1 : Int32))]))
  refine og_iloadN (pc' := 6) X0 hx rfl (hb hby d19_5) rfl ?_
  refine og_icmp_le (pc1 := 78) (pc2 := 9) X0 hx (hb hby d19_6) (by decide) (by decide) rfl (fun _ => ?_) (fun q => absurd q (by decide))
  refine og_iloadN (pc' := 79) X0 hx rfl (hb hby d19_78) rfl ?_
  refine og_retI X0 hx hlk hret (hb hby d19_79) (by decide) (by decide) ?_
  rw [e0]; refine ⟨?_, N, rfl⟩
  rw [hr]; simp [own_cnt]
theorem rm_cl12 (l : Launch) (Z : State) (a0 : Array Value) (hw : HW a0 Z) (ca : Addr) (kc : ClassId) (d0 d1 d2 d3 d4 d5 : Int32) (q rr : Int32) (hr : rr = if d2 = q ∧ own_cnt [] % 2 = 0 then 1 else 0) (h0 : Heap) (n0 : Nat) (O : Old Z n0 h0) (V_ca : Arv Z h0 ca kc .char (6 : Int32) [(.int d0), (.int d1), (.int d2), (.int d3), (.int d4), (.int d5)] (.int (0 : Int32))) :
    Con l Z (⟨"com/example/nitpick/nitpick/internal/interpolation/ExpressionLiteralsStringEndPinLaw", "closes", "([CICI)Z"⟩ : MethodName) method_4_code 4 (some .boolean) ({ frames := 1, cells := 0, slots := 0, locals := 15 } : Room) #[(.ref ca), (.int (1 : Int32)), (.int q), (.int (2 : Int32))] h0 (fun v h L => v = some (.int rr) ∧ Fr n0 L ∧ h = h0) := by
  refine own_startC opn_2 ?_
  intro p e s m below meth c T0 X0 hx hby hml hZ hown hnm hret hlk e0
  have N := Fr.nil n0; have K := Keep.refl h0 []
  refine OG.cast (oef10 m ca (1 : Int32) q (2 : Int32)) ?_
  refine og_iloadN (pc' := 1) X0 hx rfl (hb hby d2_0) rfl ?_
  refine og_iloadN (pc' := 2) X0 hx rfl (hb hby d2_1) rfl ?_
  refine og_icmp_le (pc1 := 27) (pc2 := 5) X0 hx (hb hby d2_2) (by decide) (by decide) rfl (fun q => absurd q (by decide)) (fun _ => ?_)
  refine og_aloadN (pc' := 6) X0 hx rfl rfl (hb hby d2_5) rfl ?_
  refine og_iloadN (pc' := 7) X0 hx rfl (hb hby d2_6) rfl ?_
  refine og_caload (pc' := 8) (v := (.int d2)) X0 hx hZ e0 V_ca ⟨by decide, by decide⟩ rfl (hb hby d2_7) rfl ?_
  refine og_iloadN (pc' := 9) X0 hx rfl (hb hby d2_8) rfl ?_
  refine og_icmp_ne (pc1 := 27) (pc2 := 12) X0 hx (hb hby d2_9) (by decide) (by decide) rfl (fun hc9 => ?_) (fun hc9 => ?_)
  · -- pc 27
    refine og_iconst (pc' := 28) (v := (0 : Int32)) X0 hx rfl (hb hby d2_27) rfl ?_
    refine og_retN X0 hx hlk hret (by simp) (hb hby d2_28) (by decide) (by decide) ?_
    rw [e0]; refine ⟨?_, N, rfl⟩
    show some (Value.int (0 : Int32)) = _
    rw [hr]; simp [hc9]
  · -- pc 12
    refine og_aloadN (pc' := 13) X0 hx rfl rfl (hb hby d2_12) rfl ?_
    refine og_iloadN (pc' := 14) X0 hx rfl (hb hby d2_13) rfl ?_
    refine og_iloadN (pc' := 15) X0 hx rfl (hb hby d2_14) rfl ?_
    refine og_static (pc' := 18) (cells' := 0) (slots' := 0) (W := 0) X0 hx hZ (rm_run12 l Z a0 hw ca kc d0 d1 d2 d3 d4 d5 _ rfl h0 n0 O V_ca) hown (ow95 hw) (ow96 hw) (ow3 hw) (ow97 hw) (by decide) (by rw [hml]; rfl) e0 opd_10 [(.ref ca), (.int (1 : Int32)), (.int (2 : Int32))] [] rfl rfl rfl rfl (by decide) (by decide) rfl rfl (by decide) (by decide) (hb hby d2_15) rfl (fun v11 T11 h11 L11 X11 e11 z11 => ?_)
    obtain ⟨rfl, Nq11, hq11⟩ := z11; replace e11 := e11.trans hq11; have N := Fr.app N Nq11
    show OG p e below _ (T11.setTop (mkF m 18 #[.val (.ref ca), .val (.int (1 : Int32)), .val (.int q), .val (.int (2 : Int32))] [(.int (own_cnt []))]))
    refine og_iconst (pc' := 19) (v := (2 : Int32)) X11 hx rfl (hb hby d2_18) rfl ?_
    refine og_irem (pc' := 20) X11 hx (by decide) (hb hby d2_19) rfl ?_
    refine og_if_ne (pc1 := 27) (pc2 := 23) X11 hx (hb hby d2_20) (by decide) (by decide) rfl (fun hc20 => ?_) (fun hc20 => ?_)
    · -- pc 27
      refine og_iconst (pc' := 28) (v := (0 : Int32)) X11 hx rfl (hb hby d2_27) rfl ?_
      refine og_retN X11 hx hlk hret (by simp) (hb hby d2_28) (by decide) (by decide) ?_
      rw [e11]; refine ⟨?_, N, rfl⟩
      show some (Value.int (0 : Int32)) = _
      rw [hr]; simp [hc9, hc20]
    · -- pc 23
      refine og_iconst (pc' := 24) (v := (1 : Int32)) X11 hx rfl (hb hby d2_23) rfl ?_
      refine og_goto (pc' := 28) X11 hx (hb hby d2_24) (by decide) (by decide) ?_
      refine og_retN X11 hx hlk hret (by simp) (hb hby d2_28) (by decide) (by decide) ?_
      rw [e11]; refine ⟨?_, N, rfl⟩
      show some (Value.int (1 : Int32)) = _
      rw [hr]; simp [hc9, hc20]
theorem rm_run13 (l : Launch) (Z : State) (a0 : Array Value) (hw : HW a0 Z) (ca : Addr) (kc : ClassId) (d0 d1 d2 d3 d4 d5 : Int32) (rr : Int32) (hr : rr = own_cnt [d2]) (h0 : Heap) (n0 : Nat) (O : Old Z n0 h0) (V_ca : Arv Z h0 ca kc .char (6 : Int32) [(.int d0), (.int d1), (.int d2), (.int d3), (.int d4), (.int d5)] (.int (0 : Int32))) :
    Con l Z (⟨"com/example/nitpick/nitpick/internal/interpolation/ExpressionLiteralsStringEndPinLaw", "run", "([CII)I"⟩ : MethodName) method_5_code 4 (some .int) ({ frames := 0, cells := 0, slots := 0, locals := 0 } : Room) #[(.ref ca), (.int (1 : Int32)), (.int (3 : Int32))] h0 (fun v h L => v = some (.int rr) ∧ Fr n0 L ∧ h = h0) := by
  refine own_startC opn_19 ?_
  intro p e s m below meth c T0 X0 hx hby hml hZ hown hnm hret hlk e0
  have N := Fr.nil n0; have K := Keep.refl h0 []
  refine OG.cast (oef9 m ca (1 : Int32) (3 : Int32)) ?_
  refine og_iconst (pc' := 1) (v := (0 : Int32)) X0 hx rfl (hb hby d19_0) rfl ?_
  refine og_istoreN (pc' := 2) (L' := #[.val (.ref ca), .val (.int (1 : Int32)), .val (.int (3 : Int32)), .val (.int (0 : Int32))]) X0 hx rfl (hb hby d19_1) rfl ?_
  refine og_iloadN (pc' := 3) X0 hx rfl (hb hby d19_2) rfl ?_
  refine og_iconst (pc' := 4) (v := (1 : Int32)) X0 hx rfl (hb hby d19_3) rfl ?_
  refine og_isub (pc' := 5) X0 hx (hb hby d19_4) rfl ?_
  show OG p e below _ (T0.setTop (mkF m 5 #[.val (.ref ca), .val (.int (1 : Int32)), .val (.int (3 : Int32)), .val (.int (0 : Int32))] [(.int (2 : Int32))]))
  refine og_iloadN (pc' := 6) X0 hx rfl (hb hby d19_5) rfl ?_
  refine og_icmp_le (pc1 := 78) (pc2 := 9) X0 hx (hb hby d19_6) (by decide) (by decide) rfl (fun q => absurd q (by decide)) (fun _ => ?_)
  refine og_aloadN (pc' := 10) X0 hx rfl rfl (hb hby d19_9) rfl ?_
  refine og_iloadN (pc' := 11) X0 hx rfl (hb hby d19_10) rfl ?_
  refine og_iconst (pc' := 12) (v := (1 : Int32)) X0 hx rfl (hb hby d19_11) rfl ?_
  refine og_isub (pc' := 13) X0 hx (hb hby d19_12) rfl ?_
  show OG p e below _ (T0.setTop (mkF m 13 #[.val (.ref ca), .val (.int (1 : Int32)), .val (.int (3 : Int32)), .val (.int (0 : Int32))] [(.int (2 : Int32)), (.ref ca)]))
  refine og_caload (pc' := 14) (v := (.int d2)) X0 hx hZ e0 V_ca ⟨by decide, by decide⟩ rfl (hb hby d19_13) rfl ?_
  refine og_bipush (pc' := 16) (v := (92 : Int32)) X0 hx rfl (hb hby d19_14) rfl ?_
  refine og_icmp_ne (pc1 := 78) (pc2 := 19) X0 hx (hb hby d19_16) (by decide) (by decide) rfl (fun hc16 => ?_) (fun hc16 => ?_)
  · -- pc 78
    refine og_iloadN (pc' := 79) X0 hx rfl (hb hby d19_78) rfl ?_
    refine og_retI X0 hx hlk hret (hb hby d19_79) (by decide) (by decide) ?_
    rw [e0]; refine ⟨?_, N, rfl⟩
    rw [hr]; simp [own_cnt, hc16]
  · -- pc 19
    refine og_iconst (pc' := 20) (v := (1 : Int32)) X0 hx rfl (hb hby d19_19) rfl ?_
    refine og_istoreN (pc' := 21) (L' := #[.val (.ref ca), .val (.int (1 : Int32)), .val (.int (3 : Int32)), .val (.int (1 : Int32))]) X0 hx rfl (hb hby d19_20) rfl ?_
    refine og_iloadN (pc' := 22) X0 hx rfl (hb hby d19_21) rfl ?_
    refine og_iconst (pc' := 23) (v := (2 : Int32)) X0 hx rfl (hb hby d19_22) rfl ?_
    refine og_isub (pc' := 24) X0 hx (hb hby d19_23) rfl ?_
    show OG p e below _ (T0.setTop (mkF m 24 #[.val (.ref ca), .val (.int (1 : Int32)), .val (.int (3 : Int32)), .val (.int (1 : Int32))] [(.int (1 : Int32))]))
    refine og_iloadN (pc' := 25) X0 hx rfl (hb hby d19_24) rfl ?_
    refine og_icmp_le (pc1 := 78) (pc2 := 28) X0 hx (hb hby d19_25) (by decide) (by decide) rfl (fun _ => ?_) (fun q => absurd q (by decide))
    refine og_iloadN (pc' := 79) X0 hx rfl (hb hby d19_78) rfl ?_
    refine og_retI X0 hx hlk hret (hb hby d19_79) (by decide) (by decide) ?_
    rw [e0]; refine ⟨?_, N, rfl⟩
    rw [hr]; simp [own_cnt, hc16]
theorem rm_cl13 (l : Launch) (Z : State) (a0 : Array Value) (hw : HW a0 Z) (ca : Addr) (kc : ClassId) (d0 d1 d2 d3 d4 d5 : Int32) (q rr : Int32) (hr : rr = if d3 = q ∧ own_cnt [d2] % 2 = 0 then 1 else 0) (h0 : Heap) (n0 : Nat) (O : Old Z n0 h0) (V_ca : Arv Z h0 ca kc .char (6 : Int32) [(.int d0), (.int d1), (.int d2), (.int d3), (.int d4), (.int d5)] (.int (0 : Int32))) :
    Con l Z (⟨"com/example/nitpick/nitpick/internal/interpolation/ExpressionLiteralsStringEndPinLaw", "closes", "([CICI)Z"⟩ : MethodName) method_4_code 4 (some .boolean) ({ frames := 1, cells := 0, slots := 0, locals := 15 } : Room) #[(.ref ca), (.int (1 : Int32)), (.int q), (.int (3 : Int32))] h0 (fun v h L => v = some (.int rr) ∧ Fr n0 L ∧ h = h0) := by
  refine own_startC opn_2 ?_
  intro p e s m below meth c T0 X0 hx hby hml hZ hown hnm hret hlk e0
  have N := Fr.nil n0; have K := Keep.refl h0 []
  refine OG.cast (oef10 m ca (1 : Int32) q (3 : Int32)) ?_
  refine og_iloadN (pc' := 1) X0 hx rfl (hb hby d2_0) rfl ?_
  refine og_iloadN (pc' := 2) X0 hx rfl (hb hby d2_1) rfl ?_
  refine og_icmp_le (pc1 := 27) (pc2 := 5) X0 hx (hb hby d2_2) (by decide) (by decide) rfl (fun q => absurd q (by decide)) (fun _ => ?_)
  refine og_aloadN (pc' := 6) X0 hx rfl rfl (hb hby d2_5) rfl ?_
  refine og_iloadN (pc' := 7) X0 hx rfl (hb hby d2_6) rfl ?_
  refine og_caload (pc' := 8) (v := (.int d3)) X0 hx hZ e0 V_ca ⟨by decide, by decide⟩ rfl (hb hby d2_7) rfl ?_
  refine og_iloadN (pc' := 9) X0 hx rfl (hb hby d2_8) rfl ?_
  refine og_icmp_ne (pc1 := 27) (pc2 := 12) X0 hx (hb hby d2_9) (by decide) (by decide) rfl (fun hc9 => ?_) (fun hc9 => ?_)
  · -- pc 27
    refine og_iconst (pc' := 28) (v := (0 : Int32)) X0 hx rfl (hb hby d2_27) rfl ?_
    refine og_retN X0 hx hlk hret (by simp) (hb hby d2_28) (by decide) (by decide) ?_
    rw [e0]; refine ⟨?_, N, rfl⟩
    show some (Value.int (0 : Int32)) = _
    rw [hr]; simp [hc9]
  · -- pc 12
    refine og_aloadN (pc' := 13) X0 hx rfl rfl (hb hby d2_12) rfl ?_
    refine og_iloadN (pc' := 14) X0 hx rfl (hb hby d2_13) rfl ?_
    refine og_iloadN (pc' := 15) X0 hx rfl (hb hby d2_14) rfl ?_
    refine og_static (pc' := 18) (cells' := 0) (slots' := 0) (W := 0) X0 hx hZ (rm_run13 l Z a0 hw ca kc d0 d1 d2 d3 d4 d5 _ rfl h0 n0 O V_ca) hown (ow95 hw) (ow96 hw) (ow3 hw) (ow97 hw) (by decide) (by rw [hml]; rfl) e0 opd_10 [(.ref ca), (.int (1 : Int32)), (.int (3 : Int32))] [] rfl rfl rfl rfl (by decide) (by decide) rfl rfl (by decide) (by decide) (hb hby d2_15) rfl (fun v11 T11 h11 L11 X11 e11 z11 => ?_)
    obtain ⟨rfl, Nq11, hq11⟩ := z11; replace e11 := e11.trans hq11; have N := Fr.app N Nq11
    show OG p e below _ (T11.setTop (mkF m 18 #[.val (.ref ca), .val (.int (1 : Int32)), .val (.int q), .val (.int (3 : Int32))] [(.int (own_cnt [d2]))]))
    refine og_iconst (pc' := 19) (v := (2 : Int32)) X11 hx rfl (hb hby d2_18) rfl ?_
    refine og_irem (pc' := 20) X11 hx (by decide) (hb hby d2_19) rfl ?_
    refine og_if_ne (pc1 := 27) (pc2 := 23) X11 hx (hb hby d2_20) (by decide) (by decide) rfl (fun hc20 => ?_) (fun hc20 => ?_)
    · -- pc 27
      refine og_iconst (pc' := 28) (v := (0 : Int32)) X11 hx rfl (hb hby d2_27) rfl ?_
      refine og_retN X11 hx hlk hret (by simp) (hb hby d2_28) (by decide) (by decide) ?_
      rw [e11]; refine ⟨?_, N, rfl⟩
      show some (Value.int (0 : Int32)) = _
      rw [hr]; simp [hc9, hc20]
    · -- pc 23
      refine og_iconst (pc' := 24) (v := (1 : Int32)) X11 hx rfl (hb hby d2_23) rfl ?_
      refine og_goto (pc' := 28) X11 hx (hb hby d2_24) (by decide) (by decide) ?_
      refine og_retN X11 hx hlk hret (by simp) (hb hby d2_28) (by decide) (by decide) ?_
      rw [e11]; refine ⟨?_, N, rfl⟩
      show some (Value.int (1 : Int32)) = _
      rw [hr]; simp [hc9, hc20]
theorem rm_run14 (l : Launch) (Z : State) (a0 : Array Value) (hw : HW a0 Z) (ca : Addr) (kc : ClassId) (d0 d1 d2 d3 d4 d5 : Int32) (rr : Int32) (hr : rr = own_cnt [d3, d2]) (h0 : Heap) (n0 : Nat) (O : Old Z n0 h0) (V_ca : Arv Z h0 ca kc .char (6 : Int32) [(.int d0), (.int d1), (.int d2), (.int d3), (.int d4), (.int d5)] (.int (0 : Int32))) :
    Con l Z (⟨"com/example/nitpick/nitpick/internal/interpolation/ExpressionLiteralsStringEndPinLaw", "run", "([CII)I"⟩ : MethodName) method_5_code 4 (some .int) ({ frames := 0, cells := 0, slots := 0, locals := 0 } : Room) #[(.ref ca), (.int (1 : Int32)), (.int (4 : Int32))] h0 (fun v h L => v = some (.int rr) ∧ Fr n0 L ∧ h = h0) := by
  refine own_startC opn_19 ?_
  intro p e s m below meth c T0 X0 hx hby hml hZ hown hnm hret hlk e0
  have N := Fr.nil n0; have K := Keep.refl h0 []
  refine OG.cast (oef9 m ca (1 : Int32) (4 : Int32)) ?_
  refine og_iconst (pc' := 1) (v := (0 : Int32)) X0 hx rfl (hb hby d19_0) rfl ?_
  refine og_istoreN (pc' := 2) (L' := #[.val (.ref ca), .val (.int (1 : Int32)), .val (.int (4 : Int32)), .val (.int (0 : Int32))]) X0 hx rfl (hb hby d19_1) rfl ?_
  refine og_iloadN (pc' := 3) X0 hx rfl (hb hby d19_2) rfl ?_
  refine og_iconst (pc' := 4) (v := (1 : Int32)) X0 hx rfl (hb hby d19_3) rfl ?_
  refine og_isub (pc' := 5) X0 hx (hb hby d19_4) rfl ?_
  show OG p e below _ (T0.setTop (mkF m 5 #[.val (.ref ca), .val (.int (1 : Int32)), .val (.int (4 : Int32)), .val (.int (0 : Int32))] [(.int (3 : Int32))]))
  refine og_iloadN (pc' := 6) X0 hx rfl (hb hby d19_5) rfl ?_
  refine og_icmp_le (pc1 := 78) (pc2 := 9) X0 hx (hb hby d19_6) (by decide) (by decide) rfl (fun q => absurd q (by decide)) (fun _ => ?_)
  refine og_aloadN (pc' := 10) X0 hx rfl rfl (hb hby d19_9) rfl ?_
  refine og_iloadN (pc' := 11) X0 hx rfl (hb hby d19_10) rfl ?_
  refine og_iconst (pc' := 12) (v := (1 : Int32)) X0 hx rfl (hb hby d19_11) rfl ?_
  refine og_isub (pc' := 13) X0 hx (hb hby d19_12) rfl ?_
  show OG p e below _ (T0.setTop (mkF m 13 #[.val (.ref ca), .val (.int (1 : Int32)), .val (.int (4 : Int32)), .val (.int (0 : Int32))] [(.int (3 : Int32)), (.ref ca)]))
  refine og_caload (pc' := 14) (v := (.int d3)) X0 hx hZ e0 V_ca ⟨by decide, by decide⟩ rfl (hb hby d19_13) rfl ?_
  refine og_bipush (pc' := 16) (v := (92 : Int32)) X0 hx rfl (hb hby d19_14) rfl ?_
  refine og_icmp_ne (pc1 := 78) (pc2 := 19) X0 hx (hb hby d19_16) (by decide) (by decide) rfl (fun hc16 => ?_) (fun hc16 => ?_)
  · -- pc 78
    refine og_iloadN (pc' := 79) X0 hx rfl (hb hby d19_78) rfl ?_
    refine og_retI X0 hx hlk hret (hb hby d19_79) (by decide) (by decide) ?_
    rw [e0]; refine ⟨?_, N, rfl⟩
    rw [hr]; simp [own_cnt, hc16]
  · -- pc 19
    refine og_iconst (pc' := 20) (v := (1 : Int32)) X0 hx rfl (hb hby d19_19) rfl ?_
    refine og_istoreN (pc' := 21) (L' := #[.val (.ref ca), .val (.int (1 : Int32)), .val (.int (4 : Int32)), .val (.int (1 : Int32))]) X0 hx rfl (hb hby d19_20) rfl ?_
    refine og_iloadN (pc' := 22) X0 hx rfl (hb hby d19_21) rfl ?_
    refine og_iconst (pc' := 23) (v := (2 : Int32)) X0 hx rfl (hb hby d19_22) rfl ?_
    refine og_isub (pc' := 24) X0 hx (hb hby d19_23) rfl ?_
    show OG p e below _ (T0.setTop (mkF m 24 #[.val (.ref ca), .val (.int (1 : Int32)), .val (.int (4 : Int32)), .val (.int (1 : Int32))] [(.int (2 : Int32))]))
    refine og_iloadN (pc' := 25) X0 hx rfl (hb hby d19_24) rfl ?_
    refine og_icmp_le (pc1 := 78) (pc2 := 28) X0 hx (hb hby d19_25) (by decide) (by decide) rfl (fun q => absurd q (by decide)) (fun _ => ?_)
    refine og_aloadN (pc' := 29) X0 hx rfl rfl (hb hby d19_28) rfl ?_
    refine og_iloadN (pc' := 30) X0 hx rfl (hb hby d19_29) rfl ?_
    refine og_iconst (pc' := 31) (v := (2 : Int32)) X0 hx rfl (hb hby d19_30) rfl ?_
    refine og_isub (pc' := 32) X0 hx (hb hby d19_31) rfl ?_
    show OG p e below _ (T0.setTop (mkF m 32 #[.val (.ref ca), .val (.int (1 : Int32)), .val (.int (4 : Int32)), .val (.int (1 : Int32))] [(.int (2 : Int32)), (.ref ca)]))
    refine og_caload (pc' := 33) (v := (.int d2)) X0 hx hZ e0 V_ca ⟨by decide, by decide⟩ rfl (hb hby d19_32) rfl ?_
    refine og_bipush (pc' := 35) (v := (92 : Int32)) X0 hx rfl (hb hby d19_33) rfl ?_
    refine og_icmp_ne (pc1 := 78) (pc2 := 38) X0 hx (hb hby d19_35) (by decide) (by decide) rfl (fun hc35 => ?_) (fun hc35 => ?_)
    · -- pc 78
      refine og_iloadN (pc' := 79) X0 hx rfl (hb hby d19_78) rfl ?_
      refine og_retI X0 hx hlk hret (hb hby d19_79) (by decide) (by decide) ?_
      rw [e0]; refine ⟨?_, N, rfl⟩
      rw [hr]; simp [own_cnt, hc16, hc35]
    · -- pc 38
      refine og_iconst (pc' := 39) (v := (2 : Int32)) X0 hx rfl (hb hby d19_38) rfl ?_
      refine og_istoreN (pc' := 40) (L' := #[.val (.ref ca), .val (.int (1 : Int32)), .val (.int (4 : Int32)), .val (.int (2 : Int32))]) X0 hx rfl (hb hby d19_39) rfl ?_
      refine og_iloadN (pc' := 41) X0 hx rfl (hb hby d19_40) rfl ?_
      refine og_iconst (pc' := 42) (v := (3 : Int32)) X0 hx rfl (hb hby d19_41) rfl ?_
      refine og_isub (pc' := 43) X0 hx (hb hby d19_42) rfl ?_
      show OG p e below _ (T0.setTop (mkF m 43 #[.val (.ref ca), .val (.int (1 : Int32)), .val (.int (4 : Int32)), .val (.int (2 : Int32))] [(.int (1 : Int32))]))
      refine og_iloadN (pc' := 44) X0 hx rfl (hb hby d19_43) rfl ?_
      refine og_icmp_le (pc1 := 78) (pc2 := 47) X0 hx (hb hby d19_44) (by decide) (by decide) rfl (fun _ => ?_) (fun q => absurd q (by decide))
      refine og_iloadN (pc' := 79) X0 hx rfl (hb hby d19_78) rfl ?_
      refine og_retI X0 hx hlk hret (hb hby d19_79) (by decide) (by decide) ?_
      rw [e0]; refine ⟨?_, N, rfl⟩
      rw [hr]; simp [own_cnt, hc16, hc35]
theorem rm_cl14 (l : Launch) (Z : State) (a0 : Array Value) (hw : HW a0 Z) (ca : Addr) (kc : ClassId) (d0 d1 d2 d3 d4 d5 : Int32) (q rr : Int32) (hr : rr = if d4 = q ∧ own_cnt [d3, d2] % 2 = 0 then 1 else 0) (h0 : Heap) (n0 : Nat) (O : Old Z n0 h0) (V_ca : Arv Z h0 ca kc .char (6 : Int32) [(.int d0), (.int d1), (.int d2), (.int d3), (.int d4), (.int d5)] (.int (0 : Int32))) :
    Con l Z (⟨"com/example/nitpick/nitpick/internal/interpolation/ExpressionLiteralsStringEndPinLaw", "closes", "([CICI)Z"⟩ : MethodName) method_4_code 4 (some .boolean) ({ frames := 1, cells := 0, slots := 0, locals := 15 } : Room) #[(.ref ca), (.int (1 : Int32)), (.int q), (.int (4 : Int32))] h0 (fun v h L => v = some (.int rr) ∧ Fr n0 L ∧ h = h0) := by
  refine own_startC opn_2 ?_
  intro p e s m below meth c T0 X0 hx hby hml hZ hown hnm hret hlk e0
  have N := Fr.nil n0; have K := Keep.refl h0 []
  refine OG.cast (oef10 m ca (1 : Int32) q (4 : Int32)) ?_
  refine og_iloadN (pc' := 1) X0 hx rfl (hb hby d2_0) rfl ?_
  refine og_iloadN (pc' := 2) X0 hx rfl (hb hby d2_1) rfl ?_
  refine og_icmp_le (pc1 := 27) (pc2 := 5) X0 hx (hb hby d2_2) (by decide) (by decide) rfl (fun q => absurd q (by decide)) (fun _ => ?_)
  refine og_aloadN (pc' := 6) X0 hx rfl rfl (hb hby d2_5) rfl ?_
  refine og_iloadN (pc' := 7) X0 hx rfl (hb hby d2_6) rfl ?_
  refine og_caload (pc' := 8) (v := (.int d4)) X0 hx hZ e0 V_ca ⟨by decide, by decide⟩ rfl (hb hby d2_7) rfl ?_
  refine og_iloadN (pc' := 9) X0 hx rfl (hb hby d2_8) rfl ?_
  refine og_icmp_ne (pc1 := 27) (pc2 := 12) X0 hx (hb hby d2_9) (by decide) (by decide) rfl (fun hc9 => ?_) (fun hc9 => ?_)
  · -- pc 27
    refine og_iconst (pc' := 28) (v := (0 : Int32)) X0 hx rfl (hb hby d2_27) rfl ?_
    refine og_retN X0 hx hlk hret (by simp) (hb hby d2_28) (by decide) (by decide) ?_
    rw [e0]; refine ⟨?_, N, rfl⟩
    show some (Value.int (0 : Int32)) = _
    rw [hr]; simp [hc9]
  · -- pc 12
    refine og_aloadN (pc' := 13) X0 hx rfl rfl (hb hby d2_12) rfl ?_
    refine og_iloadN (pc' := 14) X0 hx rfl (hb hby d2_13) rfl ?_
    refine og_iloadN (pc' := 15) X0 hx rfl (hb hby d2_14) rfl ?_
    refine og_static (pc' := 18) (cells' := 0) (slots' := 0) (W := 0) X0 hx hZ (rm_run14 l Z a0 hw ca kc d0 d1 d2 d3 d4 d5 _ rfl h0 n0 O V_ca) hown (ow95 hw) (ow96 hw) (ow3 hw) (ow97 hw) (by decide) (by rw [hml]; rfl) e0 opd_10 [(.ref ca), (.int (1 : Int32)), (.int (4 : Int32))] [] rfl rfl rfl rfl (by decide) (by decide) rfl rfl (by decide) (by decide) (hb hby d2_15) rfl (fun v11 T11 h11 L11 X11 e11 z11 => ?_)
    obtain ⟨rfl, Nq11, hq11⟩ := z11; replace e11 := e11.trans hq11; have N := Fr.app N Nq11
    show OG p e below _ (T11.setTop (mkF m 18 #[.val (.ref ca), .val (.int (1 : Int32)), .val (.int q), .val (.int (4 : Int32))] [(.int (own_cnt [d3, d2]))]))
    refine og_iconst (pc' := 19) (v := (2 : Int32)) X11 hx rfl (hb hby d2_18) rfl ?_
    refine og_irem (pc' := 20) X11 hx (by decide) (hb hby d2_19) rfl ?_
    refine og_if_ne (pc1 := 27) (pc2 := 23) X11 hx (hb hby d2_20) (by decide) (by decide) rfl (fun hc20 => ?_) (fun hc20 => ?_)
    · -- pc 27
      refine og_iconst (pc' := 28) (v := (0 : Int32)) X11 hx rfl (hb hby d2_27) rfl ?_
      refine og_retN X11 hx hlk hret (by simp) (hb hby d2_28) (by decide) (by decide) ?_
      rw [e11]; refine ⟨?_, N, rfl⟩
      show some (Value.int (0 : Int32)) = _
      rw [hr]; simp [hc9, hc20]
    · -- pc 23
      refine og_iconst (pc' := 24) (v := (1 : Int32)) X11 hx rfl (hb hby d2_23) rfl ?_
      refine og_goto (pc' := 28) X11 hx (hb hby d2_24) (by decide) (by decide) ?_
      refine og_retN X11 hx hlk hret (by simp) (hb hby d2_28) (by decide) (by decide) ?_
      rw [e11]; refine ⟨?_, N, rfl⟩
      show some (Value.int (1 : Int32)) = _
      rw [hr]; simp [hc9, hc20]
theorem rm_run15 (l : Launch) (Z : State) (a0 : Array Value) (hw : HW a0 Z) (ca : Addr) (kc : ClassId) (d0 d1 d2 d3 d4 d5 : Int32) (rr : Int32) (hr : rr = own_cnt [d4, d3, d2]) (h0 : Heap) (n0 : Nat) (O : Old Z n0 h0) (V_ca : Arv Z h0 ca kc .char (6 : Int32) [(.int d0), (.int d1), (.int d2), (.int d3), (.int d4), (.int d5)] (.int (0 : Int32))) :
    Con l Z (⟨"com/example/nitpick/nitpick/internal/interpolation/ExpressionLiteralsStringEndPinLaw", "run", "([CII)I"⟩ : MethodName) method_5_code 4 (some .int) ({ frames := 0, cells := 0, slots := 0, locals := 0 } : Room) #[(.ref ca), (.int (1 : Int32)), (.int (5 : Int32))] h0 (fun v h L => v = some (.int rr) ∧ Fr n0 L ∧ h = h0) := by
  refine own_startC opn_19 ?_
  intro p e s m below meth c T0 X0 hx hby hml hZ hown hnm hret hlk e0
  have N := Fr.nil n0; have K := Keep.refl h0 []
  refine OG.cast (oef9 m ca (1 : Int32) (5 : Int32)) ?_
  refine og_iconst (pc' := 1) (v := (0 : Int32)) X0 hx rfl (hb hby d19_0) rfl ?_
  refine og_istoreN (pc' := 2) (L' := #[.val (.ref ca), .val (.int (1 : Int32)), .val (.int (5 : Int32)), .val (.int (0 : Int32))]) X0 hx rfl (hb hby d19_1) rfl ?_
  refine og_iloadN (pc' := 3) X0 hx rfl (hb hby d19_2) rfl ?_
  refine og_iconst (pc' := 4) (v := (1 : Int32)) X0 hx rfl (hb hby d19_3) rfl ?_
  refine og_isub (pc' := 5) X0 hx (hb hby d19_4) rfl ?_
  show OG p e below _ (T0.setTop (mkF m 5 #[.val (.ref ca), .val (.int (1 : Int32)), .val (.int (5 : Int32)), .val (.int (0 : Int32))] [(.int (4 : Int32))]))
  refine og_iloadN (pc' := 6) X0 hx rfl (hb hby d19_5) rfl ?_
  refine og_icmp_le (pc1 := 78) (pc2 := 9) X0 hx (hb hby d19_6) (by decide) (by decide) rfl (fun q => absurd q (by decide)) (fun _ => ?_)
  refine og_aloadN (pc' := 10) X0 hx rfl rfl (hb hby d19_9) rfl ?_
  refine og_iloadN (pc' := 11) X0 hx rfl (hb hby d19_10) rfl ?_
  refine og_iconst (pc' := 12) (v := (1 : Int32)) X0 hx rfl (hb hby d19_11) rfl ?_
  refine og_isub (pc' := 13) X0 hx (hb hby d19_12) rfl ?_
  show OG p e below _ (T0.setTop (mkF m 13 #[.val (.ref ca), .val (.int (1 : Int32)), .val (.int (5 : Int32)), .val (.int (0 : Int32))] [(.int (4 : Int32)), (.ref ca)]))
  refine og_caload (pc' := 14) (v := (.int d4)) X0 hx hZ e0 V_ca ⟨by decide, by decide⟩ rfl (hb hby d19_13) rfl ?_
  refine og_bipush (pc' := 16) (v := (92 : Int32)) X0 hx rfl (hb hby d19_14) rfl ?_
  refine og_icmp_ne (pc1 := 78) (pc2 := 19) X0 hx (hb hby d19_16) (by decide) (by decide) rfl (fun hc16 => ?_) (fun hc16 => ?_)
  · -- pc 78
    refine og_iloadN (pc' := 79) X0 hx rfl (hb hby d19_78) rfl ?_
    refine og_retI X0 hx hlk hret (hb hby d19_79) (by decide) (by decide) ?_
    rw [e0]; refine ⟨?_, N, rfl⟩
    rw [hr]; simp [own_cnt, hc16]
  · -- pc 19
    refine og_iconst (pc' := 20) (v := (1 : Int32)) X0 hx rfl (hb hby d19_19) rfl ?_
    refine og_istoreN (pc' := 21) (L' := #[.val (.ref ca), .val (.int (1 : Int32)), .val (.int (5 : Int32)), .val (.int (1 : Int32))]) X0 hx rfl (hb hby d19_20) rfl ?_
    refine og_iloadN (pc' := 22) X0 hx rfl (hb hby d19_21) rfl ?_
    refine og_iconst (pc' := 23) (v := (2 : Int32)) X0 hx rfl (hb hby d19_22) rfl ?_
    refine og_isub (pc' := 24) X0 hx (hb hby d19_23) rfl ?_
    show OG p e below _ (T0.setTop (mkF m 24 #[.val (.ref ca), .val (.int (1 : Int32)), .val (.int (5 : Int32)), .val (.int (1 : Int32))] [(.int (3 : Int32))]))
    refine og_iloadN (pc' := 25) X0 hx rfl (hb hby d19_24) rfl ?_
    refine og_icmp_le (pc1 := 78) (pc2 := 28) X0 hx (hb hby d19_25) (by decide) (by decide) rfl (fun q => absurd q (by decide)) (fun _ => ?_)
    refine og_aloadN (pc' := 29) X0 hx rfl rfl (hb hby d19_28) rfl ?_
    refine og_iloadN (pc' := 30) X0 hx rfl (hb hby d19_29) rfl ?_
    refine og_iconst (pc' := 31) (v := (2 : Int32)) X0 hx rfl (hb hby d19_30) rfl ?_
    refine og_isub (pc' := 32) X0 hx (hb hby d19_31) rfl ?_
    show OG p e below _ (T0.setTop (mkF m 32 #[.val (.ref ca), .val (.int (1 : Int32)), .val (.int (5 : Int32)), .val (.int (1 : Int32))] [(.int (3 : Int32)), (.ref ca)]))
    refine og_caload (pc' := 33) (v := (.int d3)) X0 hx hZ e0 V_ca ⟨by decide, by decide⟩ rfl (hb hby d19_32) rfl ?_
    refine og_bipush (pc' := 35) (v := (92 : Int32)) X0 hx rfl (hb hby d19_33) rfl ?_
    refine og_icmp_ne (pc1 := 78) (pc2 := 38) X0 hx (hb hby d19_35) (by decide) (by decide) rfl (fun hc35 => ?_) (fun hc35 => ?_)
    · -- pc 78
      refine og_iloadN (pc' := 79) X0 hx rfl (hb hby d19_78) rfl ?_
      refine og_retI X0 hx hlk hret (hb hby d19_79) (by decide) (by decide) ?_
      rw [e0]; refine ⟨?_, N, rfl⟩
      rw [hr]; simp [own_cnt, hc16, hc35]
    · -- pc 38
      refine og_iconst (pc' := 39) (v := (2 : Int32)) X0 hx rfl (hb hby d19_38) rfl ?_
      refine og_istoreN (pc' := 40) (L' := #[.val (.ref ca), .val (.int (1 : Int32)), .val (.int (5 : Int32)), .val (.int (2 : Int32))]) X0 hx rfl (hb hby d19_39) rfl ?_
      refine og_iloadN (pc' := 41) X0 hx rfl (hb hby d19_40) rfl ?_
      refine og_iconst (pc' := 42) (v := (3 : Int32)) X0 hx rfl (hb hby d19_41) rfl ?_
      refine og_isub (pc' := 43) X0 hx (hb hby d19_42) rfl ?_
      show OG p e below _ (T0.setTop (mkF m 43 #[.val (.ref ca), .val (.int (1 : Int32)), .val (.int (5 : Int32)), .val (.int (2 : Int32))] [(.int (2 : Int32))]))
      refine og_iloadN (pc' := 44) X0 hx rfl (hb hby d19_43) rfl ?_
      refine og_icmp_le (pc1 := 78) (pc2 := 47) X0 hx (hb hby d19_44) (by decide) (by decide) rfl (fun q => absurd q (by decide)) (fun _ => ?_)
      refine og_aloadN (pc' := 48) X0 hx rfl rfl (hb hby d19_47) rfl ?_
      refine og_iloadN (pc' := 49) X0 hx rfl (hb hby d19_48) rfl ?_
      refine og_iconst (pc' := 50) (v := (3 : Int32)) X0 hx rfl (hb hby d19_49) rfl ?_
      refine og_isub (pc' := 51) X0 hx (hb hby d19_50) rfl ?_
      show OG p e below _ (T0.setTop (mkF m 51 #[.val (.ref ca), .val (.int (1 : Int32)), .val (.int (5 : Int32)), .val (.int (2 : Int32))] [(.int (2 : Int32)), (.ref ca)]))
      refine og_caload (pc' := 52) (v := (.int d2)) X0 hx hZ e0 V_ca ⟨by decide, by decide⟩ rfl (hb hby d19_51) rfl ?_
      refine og_bipush (pc' := 54) (v := (92 : Int32)) X0 hx rfl (hb hby d19_52) rfl ?_
      refine og_icmp_ne (pc1 := 78) (pc2 := 57) X0 hx (hb hby d19_54) (by decide) (by decide) rfl (fun hc54 => ?_) (fun hc54 => ?_)
      · -- pc 78
        refine og_iloadN (pc' := 79) X0 hx rfl (hb hby d19_78) rfl ?_
        refine og_retI X0 hx hlk hret (hb hby d19_79) (by decide) (by decide) ?_
        rw [e0]; refine ⟨?_, N, rfl⟩
        rw [hr]; simp [own_cnt, hc16, hc35, hc54]
      · -- pc 57
        refine og_iconst (pc' := 58) (v := (3 : Int32)) X0 hx rfl (hb hby d19_57) rfl ?_
        refine og_istoreN (pc' := 59) (L' := #[.val (.ref ca), .val (.int (1 : Int32)), .val (.int (5 : Int32)), .val (.int (3 : Int32))]) X0 hx rfl (hb hby d19_58) rfl ?_
        refine og_iloadN (pc' := 60) X0 hx rfl (hb hby d19_59) rfl ?_
        refine og_iconst (pc' := 61) (v := (4 : Int32)) X0 hx rfl (hb hby d19_60) rfl ?_
        refine og_isub (pc' := 62) X0 hx (hb hby d19_61) rfl ?_
        show OG p e below _ (T0.setTop (mkF m 62 #[.val (.ref ca), .val (.int (1 : Int32)), .val (.int (5 : Int32)), .val (.int (3 : Int32))] [(.int (1 : Int32))]))
        refine og_iloadN (pc' := 63) X0 hx rfl (hb hby d19_62) rfl ?_
        refine og_icmp_le (pc1 := 78) (pc2 := 66) X0 hx (hb hby d19_63) (by decide) (by decide) rfl (fun _ => ?_) (fun q => absurd q (by decide))
        refine og_iloadN (pc' := 79) X0 hx rfl (hb hby d19_78) rfl ?_
        refine og_retI X0 hx hlk hret (hb hby d19_79) (by decide) (by decide) ?_
        rw [e0]; refine ⟨?_, N, rfl⟩
        rw [hr]; simp [own_cnt, hc16, hc35, hc54]
theorem rm_cl15 (l : Launch) (Z : State) (a0 : Array Value) (hw : HW a0 Z) (ca : Addr) (kc : ClassId) (d0 d1 d2 d3 d4 d5 : Int32) (q rr : Int32) (hr : rr = if d5 = q ∧ own_cnt [d4, d3, d2] % 2 = 0 then 1 else 0) (h0 : Heap) (n0 : Nat) (O : Old Z n0 h0) (V_ca : Arv Z h0 ca kc .char (6 : Int32) [(.int d0), (.int d1), (.int d2), (.int d3), (.int d4), (.int d5)] (.int (0 : Int32))) :
    Con l Z (⟨"com/example/nitpick/nitpick/internal/interpolation/ExpressionLiteralsStringEndPinLaw", "closes", "([CICI)Z"⟩ : MethodName) method_4_code 4 (some .boolean) ({ frames := 1, cells := 0, slots := 0, locals := 15 } : Room) #[(.ref ca), (.int (1 : Int32)), (.int q), (.int (5 : Int32))] h0 (fun v h L => v = some (.int rr) ∧ Fr n0 L ∧ h = h0) := by
  refine own_startC opn_2 ?_
  intro p e s m below meth c T0 X0 hx hby hml hZ hown hnm hret hlk e0
  have N := Fr.nil n0; have K := Keep.refl h0 []
  refine OG.cast (oef10 m ca (1 : Int32) q (5 : Int32)) ?_
  refine og_iloadN (pc' := 1) X0 hx rfl (hb hby d2_0) rfl ?_
  refine og_iloadN (pc' := 2) X0 hx rfl (hb hby d2_1) rfl ?_
  refine og_icmp_le (pc1 := 27) (pc2 := 5) X0 hx (hb hby d2_2) (by decide) (by decide) rfl (fun q => absurd q (by decide)) (fun _ => ?_)
  refine og_aloadN (pc' := 6) X0 hx rfl rfl (hb hby d2_5) rfl ?_
  refine og_iloadN (pc' := 7) X0 hx rfl (hb hby d2_6) rfl ?_
  refine og_caload (pc' := 8) (v := (.int d5)) X0 hx hZ e0 V_ca ⟨by decide, by decide⟩ rfl (hb hby d2_7) rfl ?_
  refine og_iloadN (pc' := 9) X0 hx rfl (hb hby d2_8) rfl ?_
  refine og_icmp_ne (pc1 := 27) (pc2 := 12) X0 hx (hb hby d2_9) (by decide) (by decide) rfl (fun hc9 => ?_) (fun hc9 => ?_)
  · -- pc 27
    refine og_iconst (pc' := 28) (v := (0 : Int32)) X0 hx rfl (hb hby d2_27) rfl ?_
    refine og_retN X0 hx hlk hret (by simp) (hb hby d2_28) (by decide) (by decide) ?_
    rw [e0]; refine ⟨?_, N, rfl⟩
    show some (Value.int (0 : Int32)) = _
    rw [hr]; simp [hc9]
  · -- pc 12
    refine og_aloadN (pc' := 13) X0 hx rfl rfl (hb hby d2_12) rfl ?_
    refine og_iloadN (pc' := 14) X0 hx rfl (hb hby d2_13) rfl ?_
    refine og_iloadN (pc' := 15) X0 hx rfl (hb hby d2_14) rfl ?_
    refine og_static (pc' := 18) (cells' := 0) (slots' := 0) (W := 0) X0 hx hZ (rm_run15 l Z a0 hw ca kc d0 d1 d2 d3 d4 d5 _ rfl h0 n0 O V_ca) hown (ow95 hw) (ow96 hw) (ow3 hw) (ow97 hw) (by decide) (by rw [hml]; rfl) e0 opd_10 [(.ref ca), (.int (1 : Int32)), (.int (5 : Int32))] [] rfl rfl rfl rfl (by decide) (by decide) rfl rfl (by decide) (by decide) (hb hby d2_15) rfl (fun v11 T11 h11 L11 X11 e11 z11 => ?_)
    obtain ⟨rfl, Nq11, hq11⟩ := z11; replace e11 := e11.trans hq11; have N := Fr.app N Nq11
    show OG p e below _ (T11.setTop (mkF m 18 #[.val (.ref ca), .val (.int (1 : Int32)), .val (.int q), .val (.int (5 : Int32))] [(.int (own_cnt [d4, d3, d2]))]))
    refine og_iconst (pc' := 19) (v := (2 : Int32)) X11 hx rfl (hb hby d2_18) rfl ?_
    refine og_irem (pc' := 20) X11 hx (by decide) (hb hby d2_19) rfl ?_
    refine og_if_ne (pc1 := 27) (pc2 := 23) X11 hx (hb hby d2_20) (by decide) (by decide) rfl (fun hc20 => ?_) (fun hc20 => ?_)
    · -- pc 27
      refine og_iconst (pc' := 28) (v := (0 : Int32)) X11 hx rfl (hb hby d2_27) rfl ?_
      refine og_retN X11 hx hlk hret (by simp) (hb hby d2_28) (by decide) (by decide) ?_
      rw [e11]; refine ⟨?_, N, rfl⟩
      show some (Value.int (0 : Int32)) = _
      rw [hr]; simp [hc9, hc20]
    · -- pc 23
      refine og_iconst (pc' := 24) (v := (1 : Int32)) X11 hx rfl (hb hby d2_23) rfl ?_
      refine og_goto (pc' := 28) X11 hx (hb hby d2_24) (by decide) (by decide) ?_
      refine og_retN X11 hx hlk hret (by simp) (hb hby d2_28) (by decide) (by decide) ?_
      rw [e11]; refine ⟨?_, N, rfl⟩
      show some (Value.int (1 : Int32)) = _
      rw [hr]; simp [hc9, hc20]
theorem rm_run23 (l : Launch) (Z : State) (a0 : Array Value) (hw : HW a0 Z) (ca : Addr) (kc : ClassId) (d0 d1 d2 d3 d4 d5 : Int32) (rr : Int32) (hr : rr = own_cnt []) (h0 : Heap) (n0 : Nat) (O : Old Z n0 h0) (V_ca : Arv Z h0 ca kc .char (6 : Int32) [(.int d0), (.int d1), (.int d2), (.int d3), (.int d4), (.int d5)] (.int (0 : Int32))) :
    Con l Z (⟨"com/example/nitpick/nitpick/internal/interpolation/ExpressionLiteralsStringEndPinLaw", "run", "([CII)I"⟩ : MethodName) method_5_code 4 (some .int) ({ frames := 0, cells := 0, slots := 0, locals := 0 } : Room) #[(.ref ca), (.int (2 : Int32)), (.int (3 : Int32))] h0 (fun v h L => v = some (.int rr) ∧ Fr n0 L ∧ h = h0) := by
  refine own_startC opn_19 ?_
  intro p e s m below meth c T0 X0 hx hby hml hZ hown hnm hret hlk e0
  have N := Fr.nil n0; have K := Keep.refl h0 []
  refine OG.cast (oef9 m ca (2 : Int32) (3 : Int32)) ?_
  refine og_iconst (pc' := 1) (v := (0 : Int32)) X0 hx rfl (hb hby d19_0) rfl ?_
  refine og_istoreN (pc' := 2) (L' := #[.val (.ref ca), .val (.int (2 : Int32)), .val (.int (3 : Int32)), .val (.int (0 : Int32))]) X0 hx rfl (hb hby d19_1) rfl ?_
  refine og_iloadN (pc' := 3) X0 hx rfl (hb hby d19_2) rfl ?_
  refine og_iconst (pc' := 4) (v := (1 : Int32)) X0 hx rfl (hb hby d19_3) rfl ?_
  refine og_isub (pc' := 5) X0 hx (hb hby d19_4) rfl ?_
  show OG p e below _ (T0.setTop (mkF m 5 #[.val (.ref ca), .val (.int (2 : Int32)), .val (.int (3 : Int32)), .val (.int (0 : Int32))] [(.int (2 : Int32))]))
  refine og_iloadN (pc' := 6) X0 hx rfl (hb hby d19_5) rfl ?_
  refine og_icmp_le (pc1 := 78) (pc2 := 9) X0 hx (hb hby d19_6) (by decide) (by decide) rfl (fun _ => ?_) (fun q => absurd q (by decide))
  refine og_iloadN (pc' := 79) X0 hx rfl (hb hby d19_78) rfl ?_
  refine og_retI X0 hx hlk hret (hb hby d19_79) (by decide) (by decide) ?_
  rw [e0]; refine ⟨?_, N, rfl⟩
  rw [hr]; simp [own_cnt]
theorem rm_cl23 (l : Launch) (Z : State) (a0 : Array Value) (hw : HW a0 Z) (ca : Addr) (kc : ClassId) (d0 d1 d2 d3 d4 d5 : Int32) (q rr : Int32) (hr : rr = if d3 = q ∧ own_cnt [] % 2 = 0 then 1 else 0) (h0 : Heap) (n0 : Nat) (O : Old Z n0 h0) (V_ca : Arv Z h0 ca kc .char (6 : Int32) [(.int d0), (.int d1), (.int d2), (.int d3), (.int d4), (.int d5)] (.int (0 : Int32))) :
    Con l Z (⟨"com/example/nitpick/nitpick/internal/interpolation/ExpressionLiteralsStringEndPinLaw", "closes", "([CICI)Z"⟩ : MethodName) method_4_code 4 (some .boolean) ({ frames := 1, cells := 0, slots := 0, locals := 15 } : Room) #[(.ref ca), (.int (2 : Int32)), (.int q), (.int (3 : Int32))] h0 (fun v h L => v = some (.int rr) ∧ Fr n0 L ∧ h = h0) := by
  refine own_startC opn_2 ?_
  intro p e s m below meth c T0 X0 hx hby hml hZ hown hnm hret hlk e0
  have N := Fr.nil n0; have K := Keep.refl h0 []
  refine OG.cast (oef10 m ca (2 : Int32) q (3 : Int32)) ?_
  refine og_iloadN (pc' := 1) X0 hx rfl (hb hby d2_0) rfl ?_
  refine og_iloadN (pc' := 2) X0 hx rfl (hb hby d2_1) rfl ?_
  refine og_icmp_le (pc1 := 27) (pc2 := 5) X0 hx (hb hby d2_2) (by decide) (by decide) rfl (fun q => absurd q (by decide)) (fun _ => ?_)
  refine og_aloadN (pc' := 6) X0 hx rfl rfl (hb hby d2_5) rfl ?_
  refine og_iloadN (pc' := 7) X0 hx rfl (hb hby d2_6) rfl ?_
  refine og_caload (pc' := 8) (v := (.int d3)) X0 hx hZ e0 V_ca ⟨by decide, by decide⟩ rfl (hb hby d2_7) rfl ?_
  refine og_iloadN (pc' := 9) X0 hx rfl (hb hby d2_8) rfl ?_
  refine og_icmp_ne (pc1 := 27) (pc2 := 12) X0 hx (hb hby d2_9) (by decide) (by decide) rfl (fun hc9 => ?_) (fun hc9 => ?_)
  · -- pc 27
    refine og_iconst (pc' := 28) (v := (0 : Int32)) X0 hx rfl (hb hby d2_27) rfl ?_
    refine og_retN X0 hx hlk hret (by simp) (hb hby d2_28) (by decide) (by decide) ?_
    rw [e0]; refine ⟨?_, N, rfl⟩
    show some (Value.int (0 : Int32)) = _
    rw [hr]; simp [hc9]
  · -- pc 12
    refine og_aloadN (pc' := 13) X0 hx rfl rfl (hb hby d2_12) rfl ?_
    refine og_iloadN (pc' := 14) X0 hx rfl (hb hby d2_13) rfl ?_
    refine og_iloadN (pc' := 15) X0 hx rfl (hb hby d2_14) rfl ?_
    refine og_static (pc' := 18) (cells' := 0) (slots' := 0) (W := 0) X0 hx hZ (rm_run23 l Z a0 hw ca kc d0 d1 d2 d3 d4 d5 _ rfl h0 n0 O V_ca) hown (ow95 hw) (ow96 hw) (ow3 hw) (ow97 hw) (by decide) (by rw [hml]; rfl) e0 opd_10 [(.ref ca), (.int (2 : Int32)), (.int (3 : Int32))] [] rfl rfl rfl rfl (by decide) (by decide) rfl rfl (by decide) (by decide) (hb hby d2_15) rfl (fun v11 T11 h11 L11 X11 e11 z11 => ?_)
    obtain ⟨rfl, Nq11, hq11⟩ := z11; replace e11 := e11.trans hq11; have N := Fr.app N Nq11
    show OG p e below _ (T11.setTop (mkF m 18 #[.val (.ref ca), .val (.int (2 : Int32)), .val (.int q), .val (.int (3 : Int32))] [(.int (own_cnt []))]))
    refine og_iconst (pc' := 19) (v := (2 : Int32)) X11 hx rfl (hb hby d2_18) rfl ?_
    refine og_irem (pc' := 20) X11 hx (by decide) (hb hby d2_19) rfl ?_
    refine og_if_ne (pc1 := 27) (pc2 := 23) X11 hx (hb hby d2_20) (by decide) (by decide) rfl (fun hc20 => ?_) (fun hc20 => ?_)
    · -- pc 27
      refine og_iconst (pc' := 28) (v := (0 : Int32)) X11 hx rfl (hb hby d2_27) rfl ?_
      refine og_retN X11 hx hlk hret (by simp) (hb hby d2_28) (by decide) (by decide) ?_
      rw [e11]; refine ⟨?_, N, rfl⟩
      show some (Value.int (0 : Int32)) = _
      rw [hr]; simp [hc9, hc20]
    · -- pc 23
      refine og_iconst (pc' := 24) (v := (1 : Int32)) X11 hx rfl (hb hby d2_23) rfl ?_
      refine og_goto (pc' := 28) X11 hx (hb hby d2_24) (by decide) (by decide) ?_
      refine og_retN X11 hx hlk hret (by simp) (hb hby d2_28) (by decide) (by decide) ?_
      rw [e11]; refine ⟨?_, N, rfl⟩
      show some (Value.int (1 : Int32)) = _
      rw [hr]; simp [hc9, hc20]
theorem rm_run24 (l : Launch) (Z : State) (a0 : Array Value) (hw : HW a0 Z) (ca : Addr) (kc : ClassId) (d0 d1 d2 d3 d4 d5 : Int32) (rr : Int32) (hr : rr = own_cnt [d3]) (h0 : Heap) (n0 : Nat) (O : Old Z n0 h0) (V_ca : Arv Z h0 ca kc .char (6 : Int32) [(.int d0), (.int d1), (.int d2), (.int d3), (.int d4), (.int d5)] (.int (0 : Int32))) :
    Con l Z (⟨"com/example/nitpick/nitpick/internal/interpolation/ExpressionLiteralsStringEndPinLaw", "run", "([CII)I"⟩ : MethodName) method_5_code 4 (some .int) ({ frames := 0, cells := 0, slots := 0, locals := 0 } : Room) #[(.ref ca), (.int (2 : Int32)), (.int (4 : Int32))] h0 (fun v h L => v = some (.int rr) ∧ Fr n0 L ∧ h = h0) := by
  refine own_startC opn_19 ?_
  intro p e s m below meth c T0 X0 hx hby hml hZ hown hnm hret hlk e0
  have N := Fr.nil n0; have K := Keep.refl h0 []
  refine OG.cast (oef9 m ca (2 : Int32) (4 : Int32)) ?_
  refine og_iconst (pc' := 1) (v := (0 : Int32)) X0 hx rfl (hb hby d19_0) rfl ?_
  refine og_istoreN (pc' := 2) (L' := #[.val (.ref ca), .val (.int (2 : Int32)), .val (.int (4 : Int32)), .val (.int (0 : Int32))]) X0 hx rfl (hb hby d19_1) rfl ?_
  refine og_iloadN (pc' := 3) X0 hx rfl (hb hby d19_2) rfl ?_
  refine og_iconst (pc' := 4) (v := (1 : Int32)) X0 hx rfl (hb hby d19_3) rfl ?_
  refine og_isub (pc' := 5) X0 hx (hb hby d19_4) rfl ?_
  show OG p e below _ (T0.setTop (mkF m 5 #[.val (.ref ca), .val (.int (2 : Int32)), .val (.int (4 : Int32)), .val (.int (0 : Int32))] [(.int (3 : Int32))]))
  refine og_iloadN (pc' := 6) X0 hx rfl (hb hby d19_5) rfl ?_
  refine og_icmp_le (pc1 := 78) (pc2 := 9) X0 hx (hb hby d19_6) (by decide) (by decide) rfl (fun q => absurd q (by decide)) (fun _ => ?_)
  refine og_aloadN (pc' := 10) X0 hx rfl rfl (hb hby d19_9) rfl ?_
  refine og_iloadN (pc' := 11) X0 hx rfl (hb hby d19_10) rfl ?_
  refine og_iconst (pc' := 12) (v := (1 : Int32)) X0 hx rfl (hb hby d19_11) rfl ?_
  refine og_isub (pc' := 13) X0 hx (hb hby d19_12) rfl ?_
  show OG p e below _ (T0.setTop (mkF m 13 #[.val (.ref ca), .val (.int (2 : Int32)), .val (.int (4 : Int32)), .val (.int (0 : Int32))] [(.int (3 : Int32)), (.ref ca)]))
  refine og_caload (pc' := 14) (v := (.int d3)) X0 hx hZ e0 V_ca ⟨by decide, by decide⟩ rfl (hb hby d19_13) rfl ?_
  refine og_bipush (pc' := 16) (v := (92 : Int32)) X0 hx rfl (hb hby d19_14) rfl ?_
  refine og_icmp_ne (pc1 := 78) (pc2 := 19) X0 hx (hb hby d19_16) (by decide) (by decide) rfl (fun hc16 => ?_) (fun hc16 => ?_)
  · -- pc 78
    refine og_iloadN (pc' := 79) X0 hx rfl (hb hby d19_78) rfl ?_
    refine og_retI X0 hx hlk hret (hb hby d19_79) (by decide) (by decide) ?_
    rw [e0]; refine ⟨?_, N, rfl⟩
    rw [hr]; simp [own_cnt, hc16]
  · -- pc 19
    refine og_iconst (pc' := 20) (v := (1 : Int32)) X0 hx rfl (hb hby d19_19) rfl ?_
    refine og_istoreN (pc' := 21) (L' := #[.val (.ref ca), .val (.int (2 : Int32)), .val (.int (4 : Int32)), .val (.int (1 : Int32))]) X0 hx rfl (hb hby d19_20) rfl ?_
    refine og_iloadN (pc' := 22) X0 hx rfl (hb hby d19_21) rfl ?_
    refine og_iconst (pc' := 23) (v := (2 : Int32)) X0 hx rfl (hb hby d19_22) rfl ?_
    refine og_isub (pc' := 24) X0 hx (hb hby d19_23) rfl ?_
    show OG p e below _ (T0.setTop (mkF m 24 #[.val (.ref ca), .val (.int (2 : Int32)), .val (.int (4 : Int32)), .val (.int (1 : Int32))] [(.int (2 : Int32))]))
    refine og_iloadN (pc' := 25) X0 hx rfl (hb hby d19_24) rfl ?_
    refine og_icmp_le (pc1 := 78) (pc2 := 28) X0 hx (hb hby d19_25) (by decide) (by decide) rfl (fun _ => ?_) (fun q => absurd q (by decide))
    refine og_iloadN (pc' := 79) X0 hx rfl (hb hby d19_78) rfl ?_
    refine og_retI X0 hx hlk hret (hb hby d19_79) (by decide) (by decide) ?_
    rw [e0]; refine ⟨?_, N, rfl⟩
    rw [hr]; simp [own_cnt, hc16]
theorem rm_cl24 (l : Launch) (Z : State) (a0 : Array Value) (hw : HW a0 Z) (ca : Addr) (kc : ClassId) (d0 d1 d2 d3 d4 d5 : Int32) (q rr : Int32) (hr : rr = if d4 = q ∧ own_cnt [d3] % 2 = 0 then 1 else 0) (h0 : Heap) (n0 : Nat) (O : Old Z n0 h0) (V_ca : Arv Z h0 ca kc .char (6 : Int32) [(.int d0), (.int d1), (.int d2), (.int d3), (.int d4), (.int d5)] (.int (0 : Int32))) :
    Con l Z (⟨"com/example/nitpick/nitpick/internal/interpolation/ExpressionLiteralsStringEndPinLaw", "closes", "([CICI)Z"⟩ : MethodName) method_4_code 4 (some .boolean) ({ frames := 1, cells := 0, slots := 0, locals := 15 } : Room) #[(.ref ca), (.int (2 : Int32)), (.int q), (.int (4 : Int32))] h0 (fun v h L => v = some (.int rr) ∧ Fr n0 L ∧ h = h0) := by
  refine own_startC opn_2 ?_
  intro p e s m below meth c T0 X0 hx hby hml hZ hown hnm hret hlk e0
  have N := Fr.nil n0; have K := Keep.refl h0 []
  refine OG.cast (oef10 m ca (2 : Int32) q (4 : Int32)) ?_
  refine og_iloadN (pc' := 1) X0 hx rfl (hb hby d2_0) rfl ?_
  refine og_iloadN (pc' := 2) X0 hx rfl (hb hby d2_1) rfl ?_
  refine og_icmp_le (pc1 := 27) (pc2 := 5) X0 hx (hb hby d2_2) (by decide) (by decide) rfl (fun q => absurd q (by decide)) (fun _ => ?_)
  refine og_aloadN (pc' := 6) X0 hx rfl rfl (hb hby d2_5) rfl ?_
  refine og_iloadN (pc' := 7) X0 hx rfl (hb hby d2_6) rfl ?_
  refine og_caload (pc' := 8) (v := (.int d4)) X0 hx hZ e0 V_ca ⟨by decide, by decide⟩ rfl (hb hby d2_7) rfl ?_
  refine og_iloadN (pc' := 9) X0 hx rfl (hb hby d2_8) rfl ?_
  refine og_icmp_ne (pc1 := 27) (pc2 := 12) X0 hx (hb hby d2_9) (by decide) (by decide) rfl (fun hc9 => ?_) (fun hc9 => ?_)
  · -- pc 27
    refine og_iconst (pc' := 28) (v := (0 : Int32)) X0 hx rfl (hb hby d2_27) rfl ?_
    refine og_retN X0 hx hlk hret (by simp) (hb hby d2_28) (by decide) (by decide) ?_
    rw [e0]; refine ⟨?_, N, rfl⟩
    show some (Value.int (0 : Int32)) = _
    rw [hr]; simp [hc9]
  · -- pc 12
    refine og_aloadN (pc' := 13) X0 hx rfl rfl (hb hby d2_12) rfl ?_
    refine og_iloadN (pc' := 14) X0 hx rfl (hb hby d2_13) rfl ?_
    refine og_iloadN (pc' := 15) X0 hx rfl (hb hby d2_14) rfl ?_
    refine og_static (pc' := 18) (cells' := 0) (slots' := 0) (W := 0) X0 hx hZ (rm_run24 l Z a0 hw ca kc d0 d1 d2 d3 d4 d5 _ rfl h0 n0 O V_ca) hown (ow95 hw) (ow96 hw) (ow3 hw) (ow97 hw) (by decide) (by rw [hml]; rfl) e0 opd_10 [(.ref ca), (.int (2 : Int32)), (.int (4 : Int32))] [] rfl rfl rfl rfl (by decide) (by decide) rfl rfl (by decide) (by decide) (hb hby d2_15) rfl (fun v11 T11 h11 L11 X11 e11 z11 => ?_)
    obtain ⟨rfl, Nq11, hq11⟩ := z11; replace e11 := e11.trans hq11; have N := Fr.app N Nq11
    show OG p e below _ (T11.setTop (mkF m 18 #[.val (.ref ca), .val (.int (2 : Int32)), .val (.int q), .val (.int (4 : Int32))] [(.int (own_cnt [d3]))]))
    refine og_iconst (pc' := 19) (v := (2 : Int32)) X11 hx rfl (hb hby d2_18) rfl ?_
    refine og_irem (pc' := 20) X11 hx (by decide) (hb hby d2_19) rfl ?_
    refine og_if_ne (pc1 := 27) (pc2 := 23) X11 hx (hb hby d2_20) (by decide) (by decide) rfl (fun hc20 => ?_) (fun hc20 => ?_)
    · -- pc 27
      refine og_iconst (pc' := 28) (v := (0 : Int32)) X11 hx rfl (hb hby d2_27) rfl ?_
      refine og_retN X11 hx hlk hret (by simp) (hb hby d2_28) (by decide) (by decide) ?_
      rw [e11]; refine ⟨?_, N, rfl⟩
      show some (Value.int (0 : Int32)) = _
      rw [hr]; simp [hc9, hc20]
    · -- pc 23
      refine og_iconst (pc' := 24) (v := (1 : Int32)) X11 hx rfl (hb hby d2_23) rfl ?_
      refine og_goto (pc' := 28) X11 hx (hb hby d2_24) (by decide) (by decide) ?_
      refine og_retN X11 hx hlk hret (by simp) (hb hby d2_28) (by decide) (by decide) ?_
      rw [e11]; refine ⟨?_, N, rfl⟩
      show some (Value.int (1 : Int32)) = _
      rw [hr]; simp [hc9, hc20]
theorem rm_run25 (l : Launch) (Z : State) (a0 : Array Value) (hw : HW a0 Z) (ca : Addr) (kc : ClassId) (d0 d1 d2 d3 d4 d5 : Int32) (rr : Int32) (hr : rr = own_cnt [d4, d3]) (h0 : Heap) (n0 : Nat) (O : Old Z n0 h0) (V_ca : Arv Z h0 ca kc .char (6 : Int32) [(.int d0), (.int d1), (.int d2), (.int d3), (.int d4), (.int d5)] (.int (0 : Int32))) :
    Con l Z (⟨"com/example/nitpick/nitpick/internal/interpolation/ExpressionLiteralsStringEndPinLaw", "run", "([CII)I"⟩ : MethodName) method_5_code 4 (some .int) ({ frames := 0, cells := 0, slots := 0, locals := 0 } : Room) #[(.ref ca), (.int (2 : Int32)), (.int (5 : Int32))] h0 (fun v h L => v = some (.int rr) ∧ Fr n0 L ∧ h = h0) := by
  refine own_startC opn_19 ?_
  intro p e s m below meth c T0 X0 hx hby hml hZ hown hnm hret hlk e0
  have N := Fr.nil n0; have K := Keep.refl h0 []
  refine OG.cast (oef9 m ca (2 : Int32) (5 : Int32)) ?_
  refine og_iconst (pc' := 1) (v := (0 : Int32)) X0 hx rfl (hb hby d19_0) rfl ?_
  refine og_istoreN (pc' := 2) (L' := #[.val (.ref ca), .val (.int (2 : Int32)), .val (.int (5 : Int32)), .val (.int (0 : Int32))]) X0 hx rfl (hb hby d19_1) rfl ?_
  refine og_iloadN (pc' := 3) X0 hx rfl (hb hby d19_2) rfl ?_
  refine og_iconst (pc' := 4) (v := (1 : Int32)) X0 hx rfl (hb hby d19_3) rfl ?_
  refine og_isub (pc' := 5) X0 hx (hb hby d19_4) rfl ?_
  show OG p e below _ (T0.setTop (mkF m 5 #[.val (.ref ca), .val (.int (2 : Int32)), .val (.int (5 : Int32)), .val (.int (0 : Int32))] [(.int (4 : Int32))]))
  refine og_iloadN (pc' := 6) X0 hx rfl (hb hby d19_5) rfl ?_
  refine og_icmp_le (pc1 := 78) (pc2 := 9) X0 hx (hb hby d19_6) (by decide) (by decide) rfl (fun q => absurd q (by decide)) (fun _ => ?_)
  refine og_aloadN (pc' := 10) X0 hx rfl rfl (hb hby d19_9) rfl ?_
  refine og_iloadN (pc' := 11) X0 hx rfl (hb hby d19_10) rfl ?_
  refine og_iconst (pc' := 12) (v := (1 : Int32)) X0 hx rfl (hb hby d19_11) rfl ?_
  refine og_isub (pc' := 13) X0 hx (hb hby d19_12) rfl ?_
  show OG p e below _ (T0.setTop (mkF m 13 #[.val (.ref ca), .val (.int (2 : Int32)), .val (.int (5 : Int32)), .val (.int (0 : Int32))] [(.int (4 : Int32)), (.ref ca)]))
  refine og_caload (pc' := 14) (v := (.int d4)) X0 hx hZ e0 V_ca ⟨by decide, by decide⟩ rfl (hb hby d19_13) rfl ?_
  refine og_bipush (pc' := 16) (v := (92 : Int32)) X0 hx rfl (hb hby d19_14) rfl ?_
  refine og_icmp_ne (pc1 := 78) (pc2 := 19) X0 hx (hb hby d19_16) (by decide) (by decide) rfl (fun hc16 => ?_) (fun hc16 => ?_)
  · -- pc 78
    refine og_iloadN (pc' := 79) X0 hx rfl (hb hby d19_78) rfl ?_
    refine og_retI X0 hx hlk hret (hb hby d19_79) (by decide) (by decide) ?_
    rw [e0]; refine ⟨?_, N, rfl⟩
    rw [hr]; simp [own_cnt, hc16]
  · -- pc 19
    refine og_iconst (pc' := 20) (v := (1 : Int32)) X0 hx rfl (hb hby d19_19) rfl ?_
    refine og_istoreN (pc' := 21) (L' := #[.val (.ref ca), .val (.int (2 : Int32)), .val (.int (5 : Int32)), .val (.int (1 : Int32))]) X0 hx rfl (hb hby d19_20) rfl ?_
    refine og_iloadN (pc' := 22) X0 hx rfl (hb hby d19_21) rfl ?_
    refine og_iconst (pc' := 23) (v := (2 : Int32)) X0 hx rfl (hb hby d19_22) rfl ?_
    refine og_isub (pc' := 24) X0 hx (hb hby d19_23) rfl ?_
    show OG p e below _ (T0.setTop (mkF m 24 #[.val (.ref ca), .val (.int (2 : Int32)), .val (.int (5 : Int32)), .val (.int (1 : Int32))] [(.int (3 : Int32))]))
    refine og_iloadN (pc' := 25) X0 hx rfl (hb hby d19_24) rfl ?_
    refine og_icmp_le (pc1 := 78) (pc2 := 28) X0 hx (hb hby d19_25) (by decide) (by decide) rfl (fun q => absurd q (by decide)) (fun _ => ?_)
    refine og_aloadN (pc' := 29) X0 hx rfl rfl (hb hby d19_28) rfl ?_
    refine og_iloadN (pc' := 30) X0 hx rfl (hb hby d19_29) rfl ?_
    refine og_iconst (pc' := 31) (v := (2 : Int32)) X0 hx rfl (hb hby d19_30) rfl ?_
    refine og_isub (pc' := 32) X0 hx (hb hby d19_31) rfl ?_
    show OG p e below _ (T0.setTop (mkF m 32 #[.val (.ref ca), .val (.int (2 : Int32)), .val (.int (5 : Int32)), .val (.int (1 : Int32))] [(.int (3 : Int32)), (.ref ca)]))
    refine og_caload (pc' := 33) (v := (.int d3)) X0 hx hZ e0 V_ca ⟨by decide, by decide⟩ rfl (hb hby d19_32) rfl ?_
    refine og_bipush (pc' := 35) (v := (92 : Int32)) X0 hx rfl (hb hby d19_33) rfl ?_
    refine og_icmp_ne (pc1 := 78) (pc2 := 38) X0 hx (hb hby d19_35) (by decide) (by decide) rfl (fun hc35 => ?_) (fun hc35 => ?_)
    · -- pc 78
      refine og_iloadN (pc' := 79) X0 hx rfl (hb hby d19_78) rfl ?_
      refine og_retI X0 hx hlk hret (hb hby d19_79) (by decide) (by decide) ?_
      rw [e0]; refine ⟨?_, N, rfl⟩
      rw [hr]; simp [own_cnt, hc16, hc35]
    · -- pc 38
      refine og_iconst (pc' := 39) (v := (2 : Int32)) X0 hx rfl (hb hby d19_38) rfl ?_
      refine og_istoreN (pc' := 40) (L' := #[.val (.ref ca), .val (.int (2 : Int32)), .val (.int (5 : Int32)), .val (.int (2 : Int32))]) X0 hx rfl (hb hby d19_39) rfl ?_
      refine og_iloadN (pc' := 41) X0 hx rfl (hb hby d19_40) rfl ?_
      refine og_iconst (pc' := 42) (v := (3 : Int32)) X0 hx rfl (hb hby d19_41) rfl ?_
      refine og_isub (pc' := 43) X0 hx (hb hby d19_42) rfl ?_
      show OG p e below _ (T0.setTop (mkF m 43 #[.val (.ref ca), .val (.int (2 : Int32)), .val (.int (5 : Int32)), .val (.int (2 : Int32))] [(.int (2 : Int32))]))
      refine og_iloadN (pc' := 44) X0 hx rfl (hb hby d19_43) rfl ?_
      refine og_icmp_le (pc1 := 78) (pc2 := 47) X0 hx (hb hby d19_44) (by decide) (by decide) rfl (fun _ => ?_) (fun q => absurd q (by decide))
      refine og_iloadN (pc' := 79) X0 hx rfl (hb hby d19_78) rfl ?_
      refine og_retI X0 hx hlk hret (hb hby d19_79) (by decide) (by decide) ?_
      rw [e0]; refine ⟨?_, N, rfl⟩
      rw [hr]; simp [own_cnt, hc16, hc35]
theorem rm_cl25 (l : Launch) (Z : State) (a0 : Array Value) (hw : HW a0 Z) (ca : Addr) (kc : ClassId) (d0 d1 d2 d3 d4 d5 : Int32) (q rr : Int32) (hr : rr = if d5 = q ∧ own_cnt [d4, d3] % 2 = 0 then 1 else 0) (h0 : Heap) (n0 : Nat) (O : Old Z n0 h0) (V_ca : Arv Z h0 ca kc .char (6 : Int32) [(.int d0), (.int d1), (.int d2), (.int d3), (.int d4), (.int d5)] (.int (0 : Int32))) :
    Con l Z (⟨"com/example/nitpick/nitpick/internal/interpolation/ExpressionLiteralsStringEndPinLaw", "closes", "([CICI)Z"⟩ : MethodName) method_4_code 4 (some .boolean) ({ frames := 1, cells := 0, slots := 0, locals := 15 } : Room) #[(.ref ca), (.int (2 : Int32)), (.int q), (.int (5 : Int32))] h0 (fun v h L => v = some (.int rr) ∧ Fr n0 L ∧ h = h0) := by
  refine own_startC opn_2 ?_
  intro p e s m below meth c T0 X0 hx hby hml hZ hown hnm hret hlk e0
  have N := Fr.nil n0; have K := Keep.refl h0 []
  refine OG.cast (oef10 m ca (2 : Int32) q (5 : Int32)) ?_
  refine og_iloadN (pc' := 1) X0 hx rfl (hb hby d2_0) rfl ?_
  refine og_iloadN (pc' := 2) X0 hx rfl (hb hby d2_1) rfl ?_
  refine og_icmp_le (pc1 := 27) (pc2 := 5) X0 hx (hb hby d2_2) (by decide) (by decide) rfl (fun q => absurd q (by decide)) (fun _ => ?_)
  refine og_aloadN (pc' := 6) X0 hx rfl rfl (hb hby d2_5) rfl ?_
  refine og_iloadN (pc' := 7) X0 hx rfl (hb hby d2_6) rfl ?_
  refine og_caload (pc' := 8) (v := (.int d5)) X0 hx hZ e0 V_ca ⟨by decide, by decide⟩ rfl (hb hby d2_7) rfl ?_
  refine og_iloadN (pc' := 9) X0 hx rfl (hb hby d2_8) rfl ?_
  refine og_icmp_ne (pc1 := 27) (pc2 := 12) X0 hx (hb hby d2_9) (by decide) (by decide) rfl (fun hc9 => ?_) (fun hc9 => ?_)
  · -- pc 27
    refine og_iconst (pc' := 28) (v := (0 : Int32)) X0 hx rfl (hb hby d2_27) rfl ?_
    refine og_retN X0 hx hlk hret (by simp) (hb hby d2_28) (by decide) (by decide) ?_
    rw [e0]; refine ⟨?_, N, rfl⟩
    show some (Value.int (0 : Int32)) = _
    rw [hr]; simp [hc9]
  · -- pc 12
    refine og_aloadN (pc' := 13) X0 hx rfl rfl (hb hby d2_12) rfl ?_
    refine og_iloadN (pc' := 14) X0 hx rfl (hb hby d2_13) rfl ?_
    refine og_iloadN (pc' := 15) X0 hx rfl (hb hby d2_14) rfl ?_
    refine og_static (pc' := 18) (cells' := 0) (slots' := 0) (W := 0) X0 hx hZ (rm_run25 l Z a0 hw ca kc d0 d1 d2 d3 d4 d5 _ rfl h0 n0 O V_ca) hown (ow95 hw) (ow96 hw) (ow3 hw) (ow97 hw) (by decide) (by rw [hml]; rfl) e0 opd_10 [(.ref ca), (.int (2 : Int32)), (.int (5 : Int32))] [] rfl rfl rfl rfl (by decide) (by decide) rfl rfl (by decide) (by decide) (hb hby d2_15) rfl (fun v11 T11 h11 L11 X11 e11 z11 => ?_)
    obtain ⟨rfl, Nq11, hq11⟩ := z11; replace e11 := e11.trans hq11; have N := Fr.app N Nq11
    show OG p e below _ (T11.setTop (mkF m 18 #[.val (.ref ca), .val (.int (2 : Int32)), .val (.int q), .val (.int (5 : Int32))] [(.int (own_cnt [d4, d3]))]))
    refine og_iconst (pc' := 19) (v := (2 : Int32)) X11 hx rfl (hb hby d2_18) rfl ?_
    refine og_irem (pc' := 20) X11 hx (by decide) (hb hby d2_19) rfl ?_
    refine og_if_ne (pc1 := 27) (pc2 := 23) X11 hx (hb hby d2_20) (by decide) (by decide) rfl (fun hc20 => ?_) (fun hc20 => ?_)
    · -- pc 27
      refine og_iconst (pc' := 28) (v := (0 : Int32)) X11 hx rfl (hb hby d2_27) rfl ?_
      refine og_retN X11 hx hlk hret (by simp) (hb hby d2_28) (by decide) (by decide) ?_
      rw [e11]; refine ⟨?_, N, rfl⟩
      show some (Value.int (0 : Int32)) = _
      rw [hr]; simp [hc9, hc20]
    · -- pc 23
      refine og_iconst (pc' := 24) (v := (1 : Int32)) X11 hx rfl (hb hby d2_23) rfl ?_
      refine og_goto (pc' := 28) X11 hx (hb hby d2_24) (by decide) (by decide) ?_
      refine og_retN X11 hx hlk hret (by simp) (hb hby d2_28) (by decide) (by decide) ?_
      rw [e11]; refine ⟨?_, N, rfl⟩
      show some (Value.int (1 : Int32)) = _
      rw [hr]; simp [hc9, hc20]
theorem rm_run34 (l : Launch) (Z : State) (a0 : Array Value) (hw : HW a0 Z) (ca : Addr) (kc : ClassId) (d0 d1 d2 d3 d4 d5 : Int32) (rr : Int32) (hr : rr = own_cnt []) (h0 : Heap) (n0 : Nat) (O : Old Z n0 h0) (V_ca : Arv Z h0 ca kc .char (6 : Int32) [(.int d0), (.int d1), (.int d2), (.int d3), (.int d4), (.int d5)] (.int (0 : Int32))) :
    Con l Z (⟨"com/example/nitpick/nitpick/internal/interpolation/ExpressionLiteralsStringEndPinLaw", "run", "([CII)I"⟩ : MethodName) method_5_code 4 (some .int) ({ frames := 0, cells := 0, slots := 0, locals := 0 } : Room) #[(.ref ca), (.int (3 : Int32)), (.int (4 : Int32))] h0 (fun v h L => v = some (.int rr) ∧ Fr n0 L ∧ h = h0) := by
  refine own_startC opn_19 ?_
  intro p e s m below meth c T0 X0 hx hby hml hZ hown hnm hret hlk e0
  have N := Fr.nil n0; have K := Keep.refl h0 []
  refine OG.cast (oef9 m ca (3 : Int32) (4 : Int32)) ?_
  refine og_iconst (pc' := 1) (v := (0 : Int32)) X0 hx rfl (hb hby d19_0) rfl ?_
  refine og_istoreN (pc' := 2) (L' := #[.val (.ref ca), .val (.int (3 : Int32)), .val (.int (4 : Int32)), .val (.int (0 : Int32))]) X0 hx rfl (hb hby d19_1) rfl ?_
  refine og_iloadN (pc' := 3) X0 hx rfl (hb hby d19_2) rfl ?_
  refine og_iconst (pc' := 4) (v := (1 : Int32)) X0 hx rfl (hb hby d19_3) rfl ?_
  refine og_isub (pc' := 5) X0 hx (hb hby d19_4) rfl ?_
  show OG p e below _ (T0.setTop (mkF m 5 #[.val (.ref ca), .val (.int (3 : Int32)), .val (.int (4 : Int32)), .val (.int (0 : Int32))] [(.int (3 : Int32))]))
  refine og_iloadN (pc' := 6) X0 hx rfl (hb hby d19_5) rfl ?_
  refine og_icmp_le (pc1 := 78) (pc2 := 9) X0 hx (hb hby d19_6) (by decide) (by decide) rfl (fun _ => ?_) (fun q => absurd q (by decide))
  refine og_iloadN (pc' := 79) X0 hx rfl (hb hby d19_78) rfl ?_
  refine og_retI X0 hx hlk hret (hb hby d19_79) (by decide) (by decide) ?_
  rw [e0]; refine ⟨?_, N, rfl⟩
  rw [hr]; simp [own_cnt]
theorem rm_cl34 (l : Launch) (Z : State) (a0 : Array Value) (hw : HW a0 Z) (ca : Addr) (kc : ClassId) (d0 d1 d2 d3 d4 d5 : Int32) (q rr : Int32) (hr : rr = if d4 = q ∧ own_cnt [] % 2 = 0 then 1 else 0) (h0 : Heap) (n0 : Nat) (O : Old Z n0 h0) (V_ca : Arv Z h0 ca kc .char (6 : Int32) [(.int d0), (.int d1), (.int d2), (.int d3), (.int d4), (.int d5)] (.int (0 : Int32))) :
    Con l Z (⟨"com/example/nitpick/nitpick/internal/interpolation/ExpressionLiteralsStringEndPinLaw", "closes", "([CICI)Z"⟩ : MethodName) method_4_code 4 (some .boolean) ({ frames := 1, cells := 0, slots := 0, locals := 15 } : Room) #[(.ref ca), (.int (3 : Int32)), (.int q), (.int (4 : Int32))] h0 (fun v h L => v = some (.int rr) ∧ Fr n0 L ∧ h = h0) := by
  refine own_startC opn_2 ?_
  intro p e s m below meth c T0 X0 hx hby hml hZ hown hnm hret hlk e0
  have N := Fr.nil n0; have K := Keep.refl h0 []
  refine OG.cast (oef10 m ca (3 : Int32) q (4 : Int32)) ?_
  refine og_iloadN (pc' := 1) X0 hx rfl (hb hby d2_0) rfl ?_
  refine og_iloadN (pc' := 2) X0 hx rfl (hb hby d2_1) rfl ?_
  refine og_icmp_le (pc1 := 27) (pc2 := 5) X0 hx (hb hby d2_2) (by decide) (by decide) rfl (fun q => absurd q (by decide)) (fun _ => ?_)
  refine og_aloadN (pc' := 6) X0 hx rfl rfl (hb hby d2_5) rfl ?_
  refine og_iloadN (pc' := 7) X0 hx rfl (hb hby d2_6) rfl ?_
  refine og_caload (pc' := 8) (v := (.int d4)) X0 hx hZ e0 V_ca ⟨by decide, by decide⟩ rfl (hb hby d2_7) rfl ?_
  refine og_iloadN (pc' := 9) X0 hx rfl (hb hby d2_8) rfl ?_
  refine og_icmp_ne (pc1 := 27) (pc2 := 12) X0 hx (hb hby d2_9) (by decide) (by decide) rfl (fun hc9 => ?_) (fun hc9 => ?_)
  · -- pc 27
    refine og_iconst (pc' := 28) (v := (0 : Int32)) X0 hx rfl (hb hby d2_27) rfl ?_
    refine og_retN X0 hx hlk hret (by simp) (hb hby d2_28) (by decide) (by decide) ?_
    rw [e0]; refine ⟨?_, N, rfl⟩
    show some (Value.int (0 : Int32)) = _
    rw [hr]; simp [hc9]
  · -- pc 12
    refine og_aloadN (pc' := 13) X0 hx rfl rfl (hb hby d2_12) rfl ?_
    refine og_iloadN (pc' := 14) X0 hx rfl (hb hby d2_13) rfl ?_
    refine og_iloadN (pc' := 15) X0 hx rfl (hb hby d2_14) rfl ?_
    refine og_static (pc' := 18) (cells' := 0) (slots' := 0) (W := 0) X0 hx hZ (rm_run34 l Z a0 hw ca kc d0 d1 d2 d3 d4 d5 _ rfl h0 n0 O V_ca) hown (ow95 hw) (ow96 hw) (ow3 hw) (ow97 hw) (by decide) (by rw [hml]; rfl) e0 opd_10 [(.ref ca), (.int (3 : Int32)), (.int (4 : Int32))] [] rfl rfl rfl rfl (by decide) (by decide) rfl rfl (by decide) (by decide) (hb hby d2_15) rfl (fun v11 T11 h11 L11 X11 e11 z11 => ?_)
    obtain ⟨rfl, Nq11, hq11⟩ := z11; replace e11 := e11.trans hq11; have N := Fr.app N Nq11
    show OG p e below _ (T11.setTop (mkF m 18 #[.val (.ref ca), .val (.int (3 : Int32)), .val (.int q), .val (.int (4 : Int32))] [(.int (own_cnt []))]))
    refine og_iconst (pc' := 19) (v := (2 : Int32)) X11 hx rfl (hb hby d2_18) rfl ?_
    refine og_irem (pc' := 20) X11 hx (by decide) (hb hby d2_19) rfl ?_
    refine og_if_ne (pc1 := 27) (pc2 := 23) X11 hx (hb hby d2_20) (by decide) (by decide) rfl (fun hc20 => ?_) (fun hc20 => ?_)
    · -- pc 27
      refine og_iconst (pc' := 28) (v := (0 : Int32)) X11 hx rfl (hb hby d2_27) rfl ?_
      refine og_retN X11 hx hlk hret (by simp) (hb hby d2_28) (by decide) (by decide) ?_
      rw [e11]; refine ⟨?_, N, rfl⟩
      show some (Value.int (0 : Int32)) = _
      rw [hr]; simp [hc9, hc20]
    · -- pc 23
      refine og_iconst (pc' := 24) (v := (1 : Int32)) X11 hx rfl (hb hby d2_23) rfl ?_
      refine og_goto (pc' := 28) X11 hx (hb hby d2_24) (by decide) (by decide) ?_
      refine og_retN X11 hx hlk hret (by simp) (hb hby d2_28) (by decide) (by decide) ?_
      rw [e11]; refine ⟨?_, N, rfl⟩
      show some (Value.int (1 : Int32)) = _
      rw [hr]; simp [hc9, hc20]
theorem rm_run35 (l : Launch) (Z : State) (a0 : Array Value) (hw : HW a0 Z) (ca : Addr) (kc : ClassId) (d0 d1 d2 d3 d4 d5 : Int32) (rr : Int32) (hr : rr = own_cnt [d4]) (h0 : Heap) (n0 : Nat) (O : Old Z n0 h0) (V_ca : Arv Z h0 ca kc .char (6 : Int32) [(.int d0), (.int d1), (.int d2), (.int d3), (.int d4), (.int d5)] (.int (0 : Int32))) :
    Con l Z (⟨"com/example/nitpick/nitpick/internal/interpolation/ExpressionLiteralsStringEndPinLaw", "run", "([CII)I"⟩ : MethodName) method_5_code 4 (some .int) ({ frames := 0, cells := 0, slots := 0, locals := 0 } : Room) #[(.ref ca), (.int (3 : Int32)), (.int (5 : Int32))] h0 (fun v h L => v = some (.int rr) ∧ Fr n0 L ∧ h = h0) := by
  refine own_startC opn_19 ?_
  intro p e s m below meth c T0 X0 hx hby hml hZ hown hnm hret hlk e0
  have N := Fr.nil n0; have K := Keep.refl h0 []
  refine OG.cast (oef9 m ca (3 : Int32) (5 : Int32)) ?_
  refine og_iconst (pc' := 1) (v := (0 : Int32)) X0 hx rfl (hb hby d19_0) rfl ?_
  refine og_istoreN (pc' := 2) (L' := #[.val (.ref ca), .val (.int (3 : Int32)), .val (.int (5 : Int32)), .val (.int (0 : Int32))]) X0 hx rfl (hb hby d19_1) rfl ?_
  refine og_iloadN (pc' := 3) X0 hx rfl (hb hby d19_2) rfl ?_
  refine og_iconst (pc' := 4) (v := (1 : Int32)) X0 hx rfl (hb hby d19_3) rfl ?_
  refine og_isub (pc' := 5) X0 hx (hb hby d19_4) rfl ?_
  show OG p e below _ (T0.setTop (mkF m 5 #[.val (.ref ca), .val (.int (3 : Int32)), .val (.int (5 : Int32)), .val (.int (0 : Int32))] [(.int (4 : Int32))]))
  refine og_iloadN (pc' := 6) X0 hx rfl (hb hby d19_5) rfl ?_
  refine og_icmp_le (pc1 := 78) (pc2 := 9) X0 hx (hb hby d19_6) (by decide) (by decide) rfl (fun q => absurd q (by decide)) (fun _ => ?_)
  refine og_aloadN (pc' := 10) X0 hx rfl rfl (hb hby d19_9) rfl ?_
  refine og_iloadN (pc' := 11) X0 hx rfl (hb hby d19_10) rfl ?_
  refine og_iconst (pc' := 12) (v := (1 : Int32)) X0 hx rfl (hb hby d19_11) rfl ?_
  refine og_isub (pc' := 13) X0 hx (hb hby d19_12) rfl ?_
  show OG p e below _ (T0.setTop (mkF m 13 #[.val (.ref ca), .val (.int (3 : Int32)), .val (.int (5 : Int32)), .val (.int (0 : Int32))] [(.int (4 : Int32)), (.ref ca)]))
  refine og_caload (pc' := 14) (v := (.int d4)) X0 hx hZ e0 V_ca ⟨by decide, by decide⟩ rfl (hb hby d19_13) rfl ?_
  refine og_bipush (pc' := 16) (v := (92 : Int32)) X0 hx rfl (hb hby d19_14) rfl ?_
  refine og_icmp_ne (pc1 := 78) (pc2 := 19) X0 hx (hb hby d19_16) (by decide) (by decide) rfl (fun hc16 => ?_) (fun hc16 => ?_)
  · -- pc 78
    refine og_iloadN (pc' := 79) X0 hx rfl (hb hby d19_78) rfl ?_
    refine og_retI X0 hx hlk hret (hb hby d19_79) (by decide) (by decide) ?_
    rw [e0]; refine ⟨?_, N, rfl⟩
    rw [hr]; simp [own_cnt, hc16]
  · -- pc 19
    refine og_iconst (pc' := 20) (v := (1 : Int32)) X0 hx rfl (hb hby d19_19) rfl ?_
    refine og_istoreN (pc' := 21) (L' := #[.val (.ref ca), .val (.int (3 : Int32)), .val (.int (5 : Int32)), .val (.int (1 : Int32))]) X0 hx rfl (hb hby d19_20) rfl ?_
    refine og_iloadN (pc' := 22) X0 hx rfl (hb hby d19_21) rfl ?_
    refine og_iconst (pc' := 23) (v := (2 : Int32)) X0 hx rfl (hb hby d19_22) rfl ?_
    refine og_isub (pc' := 24) X0 hx (hb hby d19_23) rfl ?_
    show OG p e below _ (T0.setTop (mkF m 24 #[.val (.ref ca), .val (.int (3 : Int32)), .val (.int (5 : Int32)), .val (.int (1 : Int32))] [(.int (3 : Int32))]))
    refine og_iloadN (pc' := 25) X0 hx rfl (hb hby d19_24) rfl ?_
    refine og_icmp_le (pc1 := 78) (pc2 := 28) X0 hx (hb hby d19_25) (by decide) (by decide) rfl (fun _ => ?_) (fun q => absurd q (by decide))
    refine og_iloadN (pc' := 79) X0 hx rfl (hb hby d19_78) rfl ?_
    refine og_retI X0 hx hlk hret (hb hby d19_79) (by decide) (by decide) ?_
    rw [e0]; refine ⟨?_, N, rfl⟩
    rw [hr]; simp [own_cnt, hc16]
theorem rm_cl35 (l : Launch) (Z : State) (a0 : Array Value) (hw : HW a0 Z) (ca : Addr) (kc : ClassId) (d0 d1 d2 d3 d4 d5 : Int32) (q rr : Int32) (hr : rr = if d5 = q ∧ own_cnt [d4] % 2 = 0 then 1 else 0) (h0 : Heap) (n0 : Nat) (O : Old Z n0 h0) (V_ca : Arv Z h0 ca kc .char (6 : Int32) [(.int d0), (.int d1), (.int d2), (.int d3), (.int d4), (.int d5)] (.int (0 : Int32))) :
    Con l Z (⟨"com/example/nitpick/nitpick/internal/interpolation/ExpressionLiteralsStringEndPinLaw", "closes", "([CICI)Z"⟩ : MethodName) method_4_code 4 (some .boolean) ({ frames := 1, cells := 0, slots := 0, locals := 15 } : Room) #[(.ref ca), (.int (3 : Int32)), (.int q), (.int (5 : Int32))] h0 (fun v h L => v = some (.int rr) ∧ Fr n0 L ∧ h = h0) := by
  refine own_startC opn_2 ?_
  intro p e s m below meth c T0 X0 hx hby hml hZ hown hnm hret hlk e0
  have N := Fr.nil n0; have K := Keep.refl h0 []
  refine OG.cast (oef10 m ca (3 : Int32) q (5 : Int32)) ?_
  refine og_iloadN (pc' := 1) X0 hx rfl (hb hby d2_0) rfl ?_
  refine og_iloadN (pc' := 2) X0 hx rfl (hb hby d2_1) rfl ?_
  refine og_icmp_le (pc1 := 27) (pc2 := 5) X0 hx (hb hby d2_2) (by decide) (by decide) rfl (fun q => absurd q (by decide)) (fun _ => ?_)
  refine og_aloadN (pc' := 6) X0 hx rfl rfl (hb hby d2_5) rfl ?_
  refine og_iloadN (pc' := 7) X0 hx rfl (hb hby d2_6) rfl ?_
  refine og_caload (pc' := 8) (v := (.int d5)) X0 hx hZ e0 V_ca ⟨by decide, by decide⟩ rfl (hb hby d2_7) rfl ?_
  refine og_iloadN (pc' := 9) X0 hx rfl (hb hby d2_8) rfl ?_
  refine og_icmp_ne (pc1 := 27) (pc2 := 12) X0 hx (hb hby d2_9) (by decide) (by decide) rfl (fun hc9 => ?_) (fun hc9 => ?_)
  · -- pc 27
    refine og_iconst (pc' := 28) (v := (0 : Int32)) X0 hx rfl (hb hby d2_27) rfl ?_
    refine og_retN X0 hx hlk hret (by simp) (hb hby d2_28) (by decide) (by decide) ?_
    rw [e0]; refine ⟨?_, N, rfl⟩
    show some (Value.int (0 : Int32)) = _
    rw [hr]; simp [hc9]
  · -- pc 12
    refine og_aloadN (pc' := 13) X0 hx rfl rfl (hb hby d2_12) rfl ?_
    refine og_iloadN (pc' := 14) X0 hx rfl (hb hby d2_13) rfl ?_
    refine og_iloadN (pc' := 15) X0 hx rfl (hb hby d2_14) rfl ?_
    refine og_static (pc' := 18) (cells' := 0) (slots' := 0) (W := 0) X0 hx hZ (rm_run35 l Z a0 hw ca kc d0 d1 d2 d3 d4 d5 _ rfl h0 n0 O V_ca) hown (ow95 hw) (ow96 hw) (ow3 hw) (ow97 hw) (by decide) (by rw [hml]; rfl) e0 opd_10 [(.ref ca), (.int (3 : Int32)), (.int (5 : Int32))] [] rfl rfl rfl rfl (by decide) (by decide) rfl rfl (by decide) (by decide) (hb hby d2_15) rfl (fun v11 T11 h11 L11 X11 e11 z11 => ?_)
    obtain ⟨rfl, Nq11, hq11⟩ := z11; replace e11 := e11.trans hq11; have N := Fr.app N Nq11
    show OG p e below _ (T11.setTop (mkF m 18 #[.val (.ref ca), .val (.int (3 : Int32)), .val (.int q), .val (.int (5 : Int32))] [(.int (own_cnt [d4]))]))
    refine og_iconst (pc' := 19) (v := (2 : Int32)) X11 hx rfl (hb hby d2_18) rfl ?_
    refine og_irem (pc' := 20) X11 hx (by decide) (hb hby d2_19) rfl ?_
    refine og_if_ne (pc1 := 27) (pc2 := 23) X11 hx (hb hby d2_20) (by decide) (by decide) rfl (fun hc20 => ?_) (fun hc20 => ?_)
    · -- pc 27
      refine og_iconst (pc' := 28) (v := (0 : Int32)) X11 hx rfl (hb hby d2_27) rfl ?_
      refine og_retN X11 hx hlk hret (by simp) (hb hby d2_28) (by decide) (by decide) ?_
      rw [e11]; refine ⟨?_, N, rfl⟩
      show some (Value.int (0 : Int32)) = _
      rw [hr]; simp [hc9, hc20]
    · -- pc 23
      refine og_iconst (pc' := 24) (v := (1 : Int32)) X11 hx rfl (hb hby d2_23) rfl ?_
      refine og_goto (pc' := 28) X11 hx (hb hby d2_24) (by decide) (by decide) ?_
      refine og_retN X11 hx hlk hret (by simp) (hb hby d2_28) (by decide) (by decide) ?_
      rw [e11]; refine ⟨?_, N, rfl⟩
      show some (Value.int (1 : Int32)) = _
      rw [hr]; simp [hc9, hc20]
theorem rm_run45 (l : Launch) (Z : State) (a0 : Array Value) (hw : HW a0 Z) (ca : Addr) (kc : ClassId) (d0 d1 d2 d3 d4 d5 : Int32) (rr : Int32) (hr : rr = own_cnt []) (h0 : Heap) (n0 : Nat) (O : Old Z n0 h0) (V_ca : Arv Z h0 ca kc .char (6 : Int32) [(.int d0), (.int d1), (.int d2), (.int d3), (.int d4), (.int d5)] (.int (0 : Int32))) :
    Con l Z (⟨"com/example/nitpick/nitpick/internal/interpolation/ExpressionLiteralsStringEndPinLaw", "run", "([CII)I"⟩ : MethodName) method_5_code 4 (some .int) ({ frames := 0, cells := 0, slots := 0, locals := 0 } : Room) #[(.ref ca), (.int (4 : Int32)), (.int (5 : Int32))] h0 (fun v h L => v = some (.int rr) ∧ Fr n0 L ∧ h = h0) := by
  refine own_startC opn_19 ?_
  intro p e s m below meth c T0 X0 hx hby hml hZ hown hnm hret hlk e0
  have N := Fr.nil n0; have K := Keep.refl h0 []
  refine OG.cast (oef9 m ca (4 : Int32) (5 : Int32)) ?_
  refine og_iconst (pc' := 1) (v := (0 : Int32)) X0 hx rfl (hb hby d19_0) rfl ?_
  refine og_istoreN (pc' := 2) (L' := #[.val (.ref ca), .val (.int (4 : Int32)), .val (.int (5 : Int32)), .val (.int (0 : Int32))]) X0 hx rfl (hb hby d19_1) rfl ?_
  refine og_iloadN (pc' := 3) X0 hx rfl (hb hby d19_2) rfl ?_
  refine og_iconst (pc' := 4) (v := (1 : Int32)) X0 hx rfl (hb hby d19_3) rfl ?_
  refine og_isub (pc' := 5) X0 hx (hb hby d19_4) rfl ?_
  show OG p e below _ (T0.setTop (mkF m 5 #[.val (.ref ca), .val (.int (4 : Int32)), .val (.int (5 : Int32)), .val (.int (0 : Int32))] [(.int (4 : Int32))]))
  refine og_iloadN (pc' := 6) X0 hx rfl (hb hby d19_5) rfl ?_
  refine og_icmp_le (pc1 := 78) (pc2 := 9) X0 hx (hb hby d19_6) (by decide) (by decide) rfl (fun _ => ?_) (fun q => absurd q (by decide))
  refine og_iloadN (pc' := 79) X0 hx rfl (hb hby d19_78) rfl ?_
  refine og_retI X0 hx hlk hret (hb hby d19_79) (by decide) (by decide) ?_
  rw [e0]; refine ⟨?_, N, rfl⟩
  rw [hr]; simp [own_cnt]
theorem rm_cl45 (l : Launch) (Z : State) (a0 : Array Value) (hw : HW a0 Z) (ca : Addr) (kc : ClassId) (d0 d1 d2 d3 d4 d5 : Int32) (q rr : Int32) (hr : rr = if d5 = q ∧ own_cnt [] % 2 = 0 then 1 else 0) (h0 : Heap) (n0 : Nat) (O : Old Z n0 h0) (V_ca : Arv Z h0 ca kc .char (6 : Int32) [(.int d0), (.int d1), (.int d2), (.int d3), (.int d4), (.int d5)] (.int (0 : Int32))) :
    Con l Z (⟨"com/example/nitpick/nitpick/internal/interpolation/ExpressionLiteralsStringEndPinLaw", "closes", "([CICI)Z"⟩ : MethodName) method_4_code 4 (some .boolean) ({ frames := 1, cells := 0, slots := 0, locals := 15 } : Room) #[(.ref ca), (.int (4 : Int32)), (.int q), (.int (5 : Int32))] h0 (fun v h L => v = some (.int rr) ∧ Fr n0 L ∧ h = h0) := by
  refine own_startC opn_2 ?_
  intro p e s m below meth c T0 X0 hx hby hml hZ hown hnm hret hlk e0
  have N := Fr.nil n0; have K := Keep.refl h0 []
  refine OG.cast (oef10 m ca (4 : Int32) q (5 : Int32)) ?_
  refine og_iloadN (pc' := 1) X0 hx rfl (hb hby d2_0) rfl ?_
  refine og_iloadN (pc' := 2) X0 hx rfl (hb hby d2_1) rfl ?_
  refine og_icmp_le (pc1 := 27) (pc2 := 5) X0 hx (hb hby d2_2) (by decide) (by decide) rfl (fun q => absurd q (by decide)) (fun _ => ?_)
  refine og_aloadN (pc' := 6) X0 hx rfl rfl (hb hby d2_5) rfl ?_
  refine og_iloadN (pc' := 7) X0 hx rfl (hb hby d2_6) rfl ?_
  refine og_caload (pc' := 8) (v := (.int d5)) X0 hx hZ e0 V_ca ⟨by decide, by decide⟩ rfl (hb hby d2_7) rfl ?_
  refine og_iloadN (pc' := 9) X0 hx rfl (hb hby d2_8) rfl ?_
  refine og_icmp_ne (pc1 := 27) (pc2 := 12) X0 hx (hb hby d2_9) (by decide) (by decide) rfl (fun hc9 => ?_) (fun hc9 => ?_)
  · -- pc 27
    refine og_iconst (pc' := 28) (v := (0 : Int32)) X0 hx rfl (hb hby d2_27) rfl ?_
    refine og_retN X0 hx hlk hret (by simp) (hb hby d2_28) (by decide) (by decide) ?_
    rw [e0]; refine ⟨?_, N, rfl⟩
    show some (Value.int (0 : Int32)) = _
    rw [hr]; simp [hc9]
  · -- pc 12
    refine og_aloadN (pc' := 13) X0 hx rfl rfl (hb hby d2_12) rfl ?_
    refine og_iloadN (pc' := 14) X0 hx rfl (hb hby d2_13) rfl ?_
    refine og_iloadN (pc' := 15) X0 hx rfl (hb hby d2_14) rfl ?_
    refine og_static (pc' := 18) (cells' := 0) (slots' := 0) (W := 0) X0 hx hZ (rm_run45 l Z a0 hw ca kc d0 d1 d2 d3 d4 d5 _ rfl h0 n0 O V_ca) hown (ow95 hw) (ow96 hw) (ow3 hw) (ow97 hw) (by decide) (by rw [hml]; rfl) e0 opd_10 [(.ref ca), (.int (4 : Int32)), (.int (5 : Int32))] [] rfl rfl rfl rfl (by decide) (by decide) rfl rfl (by decide) (by decide) (hb hby d2_15) rfl (fun v11 T11 h11 L11 X11 e11 z11 => ?_)
    obtain ⟨rfl, Nq11, hq11⟩ := z11; replace e11 := e11.trans hq11; have N := Fr.app N Nq11
    show OG p e below _ (T11.setTop (mkF m 18 #[.val (.ref ca), .val (.int (4 : Int32)), .val (.int q), .val (.int (5 : Int32))] [(.int (own_cnt []))]))
    refine og_iconst (pc' := 19) (v := (2 : Int32)) X11 hx rfl (hb hby d2_18) rfl ?_
    refine og_irem (pc' := 20) X11 hx (by decide) (hb hby d2_19) rfl ?_
    refine og_if_ne (pc1 := 27) (pc2 := 23) X11 hx (hb hby d2_20) (by decide) (by decide) rfl (fun hc20 => ?_) (fun hc20 => ?_)
    · -- pc 27
      refine og_iconst (pc' := 28) (v := (0 : Int32)) X11 hx rfl (hb hby d2_27) rfl ?_
      refine og_retN X11 hx hlk hret (by simp) (hb hby d2_28) (by decide) (by decide) ?_
      rw [e11]; refine ⟨?_, N, rfl⟩
      show some (Value.int (0 : Int32)) = _
      rw [hr]; simp [hc9, hc20]
    · -- pc 23
      refine og_iconst (pc' := 24) (v := (1 : Int32)) X11 hx rfl (hb hby d2_23) rfl ?_
      refine og_goto (pc' := 28) X11 hx (hb hby d2_24) (by decide) (by decide) ?_
      refine og_retN X11 hx hlk hret (by simp) (hb hby d2_28) (by decide) (by decide) ?_
      rw [e11]; refine ⟨?_, N, rfl⟩
      show some (Value.int (1 : Int32)) = _
      rw [hr]; simp [hc9, hc20]
theorem rm_cl (l : Launch) (Z : State) (a0 : Array Value) (hw : HW a0 Z) (ca : Addr) (op q jj : Int32) (hj : ¬ op < jj) (h0 : Heap) (n0 : Nat) (O : Old Z n0 h0) :
    Con l Z (⟨"com/example/nitpick/nitpick/internal/interpolation/ExpressionLiteralsStringEndPinLaw", "closes", "([CICI)Z"⟩ : MethodName) method_4_code 4 (some .boolean) ({ frames := 0, cells := 0, slots := 0, locals := 0 } : Room) #[(.ref ca), (.int op), (.int q), (.int jj)] h0 (fun v h L => v = some (.int (0 : Int32)) ∧ Fr n0 L ∧ h = h0) := by
  refine own_startC opn_2 ?_
  intro p e s m below meth c T0 X0 hx hby hml hZ hown hnm hret hlk e0
  have N := Fr.nil n0; have K := Keep.refl h0 []
  refine OG.cast (oef10 m ca op q jj) ?_
  refine og_iloadN (pc' := 1) X0 hx rfl (hb hby d2_0) rfl ?_
  refine og_iloadN (pc' := 2) X0 hx rfl (hb hby d2_1) rfl ?_
  refine og_icmp_le (pc1 := 27) (pc2 := 5) X0 hx (hb hby d2_2) (by decide) (by decide) rfl (fun _ => ?_) (fun q => absurd q hj)
  refine og_iconst (pc' := 28) (v := (0 : Int32)) X0 hx rfl (hb hby d2_27) rfl ?_
  refine og_retN X0 hx hlk hret (by simp) (hb hby d2_28) (by decide) (by decide) ?_
  rw [e0]; exact ⟨rfl, N, rfl⟩
theorem rm_nxS (l : Launch) (Z : State) (a0 : Array Value) (hw : ∀ d ∈ tables_1, d.before a0 Z = true) (w0 w1 w2 w3 w4 wS wE : Addr) (q cc : Int32) (r : Addr) (hq : (q = 39 ∧ wS = w1 ∧ wE = w2) ∨ (q = 34 ∧ wS = w3 ∧ wE = w4)) (hr : (if cc = 92 then wE else if cc = q then w0 else wS) = r) (h0 : Heap) (n0 : Nat) (O : Old Z n0 h0) (S_CODE : Sta Z Z.heap "com/example/nitpick/nitpick/internal/interpolation/ExpressionLiterals$Quoting" "CODE" "Lcom/example/nitpick/nitpick/internal/interpolation/ExpressionLiterals$Quoting;" (.ref w0)) (S_SINGLE : Sta Z Z.heap "com/example/nitpick/nitpick/internal/interpolation/ExpressionLiterals$Quoting" "SINGLE" "Lcom/example/nitpick/nitpick/internal/interpolation/ExpressionLiterals$Quoting;" (.ref w1)) (S_SINGLE_ESCAPED : Sta Z Z.heap "com/example/nitpick/nitpick/internal/interpolation/ExpressionLiterals$Quoting" "SINGLE_ESCAPED" "Lcom/example/nitpick/nitpick/internal/interpolation/ExpressionLiterals$Quoting;" (.ref w2)) (S_DOUBLE : Sta Z Z.heap "com/example/nitpick/nitpick/internal/interpolation/ExpressionLiterals$Quoting" "DOUBLE" "Lcom/example/nitpick/nitpick/internal/interpolation/ExpressionLiterals$Quoting;" (.ref w3)) (S_DOUBLE_ESCAPED : Sta Z Z.heap "com/example/nitpick/nitpick/internal/interpolation/ExpressionLiterals$Quoting" "DOUBLE_ESCAPED" "Lcom/example/nitpick/nitpick/internal/interpolation/ExpressionLiterals$Quoting;" (.ref w4)) (E_w0 : Exa Z Z.heap w0 "com/example/nitpick/nitpick/internal/interpolation/ExpressionLiterals$Quoting") (E_w1 : Exa Z Z.heap w1 "com/example/nitpick/nitpick/internal/interpolation/ExpressionLiterals$Quoting") (E_w2 : Exa Z Z.heap w2 "com/example/nitpick/nitpick/internal/interpolation/ExpressionLiterals$Quoting") (E_w3 : Exa Z Z.heap w3 "com/example/nitpick/nitpick/internal/interpolation/ExpressionLiterals$Quoting") (E_w4 : Exa Z Z.heap w4 "com/example/nitpick/nitpick/internal/interpolation/ExpressionLiterals$Quoting") (F_w0 : Fld Z Z.heap w0 "java/lang/Enum" "ordinal" "I" (.int (0 : Int32))) (F_w1 : Fld Z Z.heap w1 "java/lang/Enum" "ordinal" "I" (.int (1 : Int32))) (F_w2 : Fld Z Z.heap w2 "java/lang/Enum" "ordinal" "I" (.int (2 : Int32))) (F_w3 : Fld Z Z.heap w3 "java/lang/Enum" "ordinal" "I" (.int (3 : Int32))) (F_w4 : Fld Z Z.heap w4 "java/lang/Enum" "ordinal" "I" (.int (4 : Int32))) :
    Con l Z (⟨"com/example/nitpick/nitpick/internal/interpolation/ExpressionLiterals$Quoting", "next", "(C)Lcom/example/nitpick/nitpick/internal/interpolation/ExpressionLiterals$Quoting;"⟩ : MethodName) prog_60_method_4_code 2 (some (.object "com/example/nitpick/nitpick/internal/interpolation/ExpressionLiterals$Quoting")) ({ frames := 1, cells := 0, slots := 0, locals := 12 } : Room) #[(.ref wS), (.int cc)] h0 (fun v h L => v = some (.ref r) ∧ Fr n0 L ∧ h = h0) := by
  rcases hq with ⟨rfl, rfl, rfl⟩ | ⟨rfl, rfl, rfl⟩
  · exact rm_nx1 l Z a0 hw _ _ _ _ _ cc r hr h0 n0 O S_CODE S_SINGLE S_SINGLE_ESCAPED S_DOUBLE S_DOUBLE_ESCAPED E_w0 E_w1 E_w2 E_w3 E_w4 F_w0 F_w1 F_w2 F_w3 F_w4
  · exact rm_nx3 l Z a0 hw _ _ _ _ _ cc r hr h0 n0 O S_CODE S_SINGLE S_SINGLE_ESCAPED S_DOUBLE S_DOUBLE_ESCAPED E_w0 E_w1 E_w2 E_w3 E_w4 F_w0 F_w1 F_w2 F_w3 F_w4
theorem rm_nxE (l : Launch) (Z : State) (a0 : Array Value) (hw : ∀ d ∈ tables_1, d.before a0 Z = true) (w0 w1 w2 w3 w4 wS wE : Addr) (q cc : Int32) (hq : (q = 39 ∧ wS = w1 ∧ wE = w2) ∨ (q = 34 ∧ wS = w3 ∧ wE = w4)) (h0 : Heap) (n0 : Nat) (O : Old Z n0 h0) (S_CODE : Sta Z Z.heap "com/example/nitpick/nitpick/internal/interpolation/ExpressionLiterals$Quoting" "CODE" "Lcom/example/nitpick/nitpick/internal/interpolation/ExpressionLiterals$Quoting;" (.ref w0)) (S_SINGLE : Sta Z Z.heap "com/example/nitpick/nitpick/internal/interpolation/ExpressionLiterals$Quoting" "SINGLE" "Lcom/example/nitpick/nitpick/internal/interpolation/ExpressionLiterals$Quoting;" (.ref w1)) (S_SINGLE_ESCAPED : Sta Z Z.heap "com/example/nitpick/nitpick/internal/interpolation/ExpressionLiterals$Quoting" "SINGLE_ESCAPED" "Lcom/example/nitpick/nitpick/internal/interpolation/ExpressionLiterals$Quoting;" (.ref w2)) (S_DOUBLE : Sta Z Z.heap "com/example/nitpick/nitpick/internal/interpolation/ExpressionLiterals$Quoting" "DOUBLE" "Lcom/example/nitpick/nitpick/internal/interpolation/ExpressionLiterals$Quoting;" (.ref w3)) (S_DOUBLE_ESCAPED : Sta Z Z.heap "com/example/nitpick/nitpick/internal/interpolation/ExpressionLiterals$Quoting" "DOUBLE_ESCAPED" "Lcom/example/nitpick/nitpick/internal/interpolation/ExpressionLiterals$Quoting;" (.ref w4)) (E_w0 : Exa Z Z.heap w0 "com/example/nitpick/nitpick/internal/interpolation/ExpressionLiterals$Quoting") (E_w1 : Exa Z Z.heap w1 "com/example/nitpick/nitpick/internal/interpolation/ExpressionLiterals$Quoting") (E_w2 : Exa Z Z.heap w2 "com/example/nitpick/nitpick/internal/interpolation/ExpressionLiterals$Quoting") (E_w3 : Exa Z Z.heap w3 "com/example/nitpick/nitpick/internal/interpolation/ExpressionLiterals$Quoting") (E_w4 : Exa Z Z.heap w4 "com/example/nitpick/nitpick/internal/interpolation/ExpressionLiterals$Quoting") (F_w0 : Fld Z Z.heap w0 "java/lang/Enum" "ordinal" "I" (.int (0 : Int32))) (F_w1 : Fld Z Z.heap w1 "java/lang/Enum" "ordinal" "I" (.int (1 : Int32))) (F_w2 : Fld Z Z.heap w2 "java/lang/Enum" "ordinal" "I" (.int (2 : Int32))) (F_w3 : Fld Z Z.heap w3 "java/lang/Enum" "ordinal" "I" (.int (3 : Int32))) (F_w4 : Fld Z Z.heap w4 "java/lang/Enum" "ordinal" "I" (.int (4 : Int32))) :
    Con l Z (⟨"com/example/nitpick/nitpick/internal/interpolation/ExpressionLiterals$Quoting", "next", "(C)Lcom/example/nitpick/nitpick/internal/interpolation/ExpressionLiterals$Quoting;"⟩ : MethodName) prog_60_method_4_code 2 (some (.object "com/example/nitpick/nitpick/internal/interpolation/ExpressionLiterals$Quoting")) ({ frames := 1, cells := 0, slots := 0, locals := 12 } : Room) #[(.ref wE), (.int cc)] h0 (fun v h L => v = some (.ref wS) ∧ Fr n0 L ∧ h = h0) := by
  rcases hq with ⟨rfl, rfl, rfl⟩ | ⟨rfl, rfl, rfl⟩
  · exact rm_nx2 l Z a0 hw _ _ _ _ _ cc _ rfl h0 n0 O S_CODE S_SINGLE S_SINGLE_ESCAPED S_DOUBLE S_DOUBLE_ESCAPED E_w0 E_w1 E_w2 E_w3 E_w4 F_w0 F_w1 F_w2 F_w3 F_w4
  · exact rm_nx4 l Z a0 hw _ _ _ _ _ cc _ rfl h0 n0 O S_CODE S_SINGLE S_SINGLE_ESCAPED S_DOUBLE S_DOUBLE_ESCAPED E_w0 E_w1 E_w2 E_w3 E_w4 F_w0 F_w1 F_w2 F_w3 F_w4
theorem oef11 (m : MethodId) (x0 : Addr) (x1 : Int32) : entryFrame m #[(.ref x0), (.int x1)] 4 = mkF m 0 #[.val (.ref x0), .val (.int x1), .unset, .unset] [] := by first | (simp [entryFrame, mkF, argsToLocals, Value.category]; done) | rfl
theorem rm_se0 (l : Launch) (Z : State) (a0 : Array Value) (hw : HW a0 Z) (a1 ba : Addr) (kb : ClassId) (d0 d1 d2 d3 d4 d5 : Int32) (hd0 : 0 ≤ d0.toInt ∧ d0.toInt ≤ 255) (hd1 : 0 ≤ d1.toInt ∧ d1.toInt ≤ 255) (hd2 : 0 ≤ d2.toInt ∧ d2.toInt ≤ 255) (hd3 : 0 ≤ d3.toInt ∧ d3.toInt ≤ 255) (hd4 : 0 ≤ d4.toInt ∧ d4.toInt ≤ 255) (hd5 : 0 ≤ d5.toInt ∧ d5.toInt ≤ 255) (cs : Int32) (hcs : ¬ cs = 0) (fm : Value) (hfm : fm.isRef = true) (w0 w1 w2 w3 w4 wS wE : Addr) (hq : (d0 = 39 ∧ wS = w1 ∧ wE = w2) ∨ (d0 = 34 ∧ wS = w3 ∧ wE = w4)) (r : Int32) (hr : own_end d0 false [d1, d2, d3, d4, d5] 1 = r) (h0 : Heap) (n0 : Nat) (O : Old Z n0 h0) (E_a1 : Exa Z h0 a1 "java/lang/String") (F_value_a1 : Fld Z h0 a1 "java/lang/String" "value" "[B" (.ref ba)) (F_coder_a1 : Fld Z h0 a1 "java/lang/String" "coder" "B" (.int (0 : Int32))) (V_ba : Arv Z h0 ba kb .byte (6 : Int32) [(.int d0.toInt8.toInt32), (.int d1.toInt8.toInt32), (.int d2.toInt8.toInt32), (.int d3.toInt8.toInt32), (.int d4.toInt8.toInt32), (.int d5.toInt8.toInt32)] (.int (0 : Int32))) (S_CS : Sta Z Z.heap "java/lang/String" "COMPACT_STRINGS" "Z" (.int cs)) (S_FM : Sta Z Z.heap "jdk/internal/util/Preconditions" "SIOOBE_FORMATTER" "Ljava/util/function/BiFunction;" fm) (S_CODE : Sta Z Z.heap "com/example/nitpick/nitpick/internal/interpolation/ExpressionLiterals$Quoting" "CODE" "Lcom/example/nitpick/nitpick/internal/interpolation/ExpressionLiterals$Quoting;" (.ref w0)) (S_SINGLE : Sta Z Z.heap "com/example/nitpick/nitpick/internal/interpolation/ExpressionLiterals$Quoting" "SINGLE" "Lcom/example/nitpick/nitpick/internal/interpolation/ExpressionLiterals$Quoting;" (.ref w1)) (S_SINGLE_ESCAPED : Sta Z Z.heap "com/example/nitpick/nitpick/internal/interpolation/ExpressionLiterals$Quoting" "SINGLE_ESCAPED" "Lcom/example/nitpick/nitpick/internal/interpolation/ExpressionLiterals$Quoting;" (.ref w2)) (S_DOUBLE : Sta Z Z.heap "com/example/nitpick/nitpick/internal/interpolation/ExpressionLiterals$Quoting" "DOUBLE" "Lcom/example/nitpick/nitpick/internal/interpolation/ExpressionLiterals$Quoting;" (.ref w3)) (S_DOUBLE_ESCAPED : Sta Z Z.heap "com/example/nitpick/nitpick/internal/interpolation/ExpressionLiterals$Quoting" "DOUBLE_ESCAPED" "Lcom/example/nitpick/nitpick/internal/interpolation/ExpressionLiterals$Quoting;" (.ref w4)) (E_w0 : Exa Z Z.heap w0 "com/example/nitpick/nitpick/internal/interpolation/ExpressionLiterals$Quoting") (E_w1 : Exa Z Z.heap w1 "com/example/nitpick/nitpick/internal/interpolation/ExpressionLiterals$Quoting") (E_w2 : Exa Z Z.heap w2 "com/example/nitpick/nitpick/internal/interpolation/ExpressionLiterals$Quoting") (E_w3 : Exa Z Z.heap w3 "com/example/nitpick/nitpick/internal/interpolation/ExpressionLiterals$Quoting") (E_w4 : Exa Z Z.heap w4 "com/example/nitpick/nitpick/internal/interpolation/ExpressionLiterals$Quoting") (F_w0 : Fld Z Z.heap w0 "java/lang/Enum" "ordinal" "I" (.int (0 : Int32))) (F_w1 : Fld Z Z.heap w1 "java/lang/Enum" "ordinal" "I" (.int (1 : Int32))) (F_w2 : Fld Z Z.heap w2 "java/lang/Enum" "ordinal" "I" (.int (2 : Int32))) (F_w3 : Fld Z Z.heap w3 "java/lang/Enum" "ordinal" "I" (.int (3 : Int32))) (F_w4 : Fld Z Z.heap w4 "java/lang/Enum" "ordinal" "I" (.int (4 : Int32))) (E_wS : Exa Z Z.heap wS "com/example/nitpick/nitpick/internal/interpolation/ExpressionLiterals$Quoting") (E_wE : Exa Z Z.heap wE "com/example/nitpick/nitpick/internal/interpolation/ExpressionLiterals$Quoting") (ne_wS_w0 : wS ≠ w0) (ne_wE_w0 : wE ≠ w0) :
    Con l Z (⟨"com/example/nitpick/nitpick/internal/interpolation/ExpressionLiterals", "stringEnd", "(Ljava/lang/String;I)I"⟩ : MethodName) prog_59_method_6_code 4 (some .int) ({ frames := 4, cells := 0, slots := 0, locals := 54 } : Room) #[(.ref a1), (.int (0 : Int32))] h0 (fun v h L => v = some (.int r) ∧ Fr n0 L ∧ h = h0) := by
  refine own_startC opn_9 ?_
  intro p e s m below meth c T0 X0 hx hby hml hZ hown hnm hret hlk e0
  have N := Fr.nil n0; have K := Keep.refl h0 []
  refine OG.cast (oef11 m a1 (0 : Int32)) ?_
  refine og_getstatic (pc' := 3) X0 hx hZ (host := "") hown (Or.inl (ow44 hw)) Via.refl e0 (S_CODE.ext O.2) (hb hby d9_0) rfl (fun T11 X11 e11 => ?_)
  refine og_aloadN (pc' := 4) X11 hx rfl rfl (hb hby d9_3) rfl ?_
  refine og_iloadN (pc' := 5) X11 hx rfl (hb hby d9_4) rfl ?_
  refine og_virtual (pc' := 8) (cells' := 0) (slots' := 0) (W := 1) X11 hx hZ (rm_ch l Z a0 hw a1 ba kb (6 : Int32) (0 : Int32) ⟨by decide, by decide⟩ _ d0 rfl hd0 cs hcs fm hfm h0 n0 O E_a1 F_value_a1 F_coder_a1 V_ba S_CS S_FM) hown (ow47 hw) (ow48 hw) (own_nf hZ (ow50 hw)) (ow50 hw) (ow49 hw) (ow13 hw) (ow51 hw) (by decide) (by rw [hml]; rfl) e11 opd_11 [(.int (0 : Int32))] [(.ref w0)] rfl rfl rfl rfl (by decide) (by decide) rfl rfl (by decide) (by decide) E_a1 (hb hby d9_5) rfl (fun v12 T12 h12 L12 X12 e12 z12 => ?_)
  obtain ⟨rfl, Nq12, hq12⟩ := z12; replace e12 := e12.trans hq12; have N := Fr.app N Nq12
  show OG p e below _ (T12.setTop (mkF m 8 #[.val (.ref a1), .val (.int (0 : Int32)), .unset, .unset] [(.int d0), (.ref w0)]))
  refine og_virtual (pc' := 11) (cells' := 0) (slots' := 0) (W := 0) X12 hx hZ (rm_nx0 l Z a0 hw w0 w1 w2 w3 w4 d0 wS (own_nx0 hq) h0 n0 O S_CODE S_SINGLE S_SINGLE_ESCAPED S_DOUBLE S_DOUBLE_ESCAPED E_w0 E_w1 E_w2 E_w3 E_w4 F_w0 F_w1 F_w2 F_w3 F_w4) hown (ow69 hw) (ow70 hw) (own_nf hZ (ow72 hw)) (ow72 hw) (ow71 hw) (ow45 hw) (ow73 hw) (by decide) (by rw [hml]; rfl) e12 opd_12 [(.int d0)] [] rfl rfl rfl rfl (by decide) (by decide) rfl rfl (by decide) (by decide) (E_w0.ext O.2) (hb hby d9_8) rfl (fun v13 T13 h13 L13 X13 e13 z13 => ?_)
  obtain ⟨rfl, Nq13, hq13⟩ := z13; replace e13 := e13.trans hq13; have N := Fr.app N Nq13
  show OG p e below _ (T13.setTop (mkF m 11 #[.val (.ref a1), .val (.int (0 : Int32)), .unset, .unset] [(.ref wS)]))
  refine og_astoreN (pc' := 12) (L' := #[.val (.ref a1), .val (.int (0 : Int32)), .val (.ref wS), .unset]) X13 hx rfl rfl (hb hby d9_11) rfl ?_
  refine og_iloadN (pc' := 13) X13 hx rfl (hb hby d9_12) rfl ?_
  refine og_iconst (pc' := 14) (v := (1 : Int32)) X13 hx rfl (hb hby d9_13) rfl ?_
  refine og_iadd (pc' := 15) X13 hx (hb hby d9_14) rfl ?_
  show OG p e below _ (T13.setTop (mkF m 15 #[.val (.ref a1), .val (.int (0 : Int32)), .val (.ref wS), .unset] [(.int (1 : Int32))]))
  refine og_istoreN (pc' := 16) (L' := #[.val (.ref a1), .val (.int (0 : Int32)), .val (.ref wS), .val (.int (1 : Int32))]) X13 hx rfl (hb hby d9_15) rfl ?_
  have J6_wS : ∀ (T14 : State) (l14 : List Loc) (X14 : Stand p l e ({ frames := 4, cells := 0, slots := 0, locals := 54 } : Room) s m #[(.ref a1), (.int (0 : Int32))] below meth c T14 l14 0 0) (e14 : T14.heap = h0) (N : Fr n0 l14) (hr : own_end d0 false [] 6 = r), OG p e below (OFin s (fun v h L => v = some (.int r) ∧ Fr n0 L ∧ h = h0) 0 0) (T14.setTop (mkF m 16 #[.val (.ref a1), .val (.int (0 : Int32)), .val (.ref wS), .val (.int (6 : Int32))] [])) := by
    intro T14 l14 X14 e14 N hr
    refine og_iloadN (pc' := 17) X14 hx rfl (hb hby d9_16) rfl ?_
    refine og_aloadN (pc' := 18) X14 hx rfl rfl (hb hby d9_17) rfl ?_
    refine og_virtual (pc' := 21) (cells' := 0) (slots' := 0) (W := 1) X14 hx hZ (rm_len l Z a0 hw a1 ba kb (6 : Int32) _ cs hcs h0 n0 O E_a1 F_value_a1 F_coder_a1 V_ba S_CS) hown (ow85 hw) (ow86 hw) (own_nf hZ (ow88 hw)) (ow88 hw) (ow87 hw) (ow13 hw) (ow89 hw) (by decide) (by rw [hml]; rfl) e14 opd_0 [] [(.int (6 : Int32))] rfl rfl rfl rfl (by decide) (by decide) rfl rfl (by decide) (by decide) E_a1 (hb hby d9_18) rfl (fun v15 T15 h15 L15 X15 e15 z15 => ?_)
    obtain ⟨rfl, Nq15, hq15⟩ := z15; replace e15 := e15.trans hq15; have N := Fr.app N Nq15
    show OG p e below _ (T15.setTop (mkF m 21 #[.val (.ref a1), .val (.int (0 : Int32)), .val (.ref wS), .val (.int (6 : Int32))] [(.int (6 : Int32)), (.int (6 : Int32))]))
    refine og_icmp_ge (pc1 := 49) (pc2 := 24) X15 hx (hb hby d9_21) (by decide) (by decide) rfl (fun _ => ?_) (fun q => absurd q (by decide))
    refine og_iconst (pc' := 50) (v := (-1 : Int32)) X15 hx rfl (hb hby d9_49) rfl ?_
    refine og_retI X15 hx hlk hret (hb hby d9_50) (by decide) (by decide) ?_
    rw [e15]; exact ⟨by rw [← hr]; rfl, N, rfl⟩
  have J6_wE : ∀ (T16 : State) (l16 : List Loc) (X16 : Stand p l e ({ frames := 4, cells := 0, slots := 0, locals := 54 } : Room) s m #[(.ref a1), (.int (0 : Int32))] below meth c T16 l16 0 0) (e16 : T16.heap = h0) (N : Fr n0 l16) (hr : own_end d0 true [] 6 = r), OG p e below (OFin s (fun v h L => v = some (.int r) ∧ Fr n0 L ∧ h = h0) 0 0) (T16.setTop (mkF m 16 #[.val (.ref a1), .val (.int (0 : Int32)), .val (.ref wE), .val (.int (6 : Int32))] [])) := by
    intro T16 l16 X16 e16 N hr
    refine og_iloadN (pc' := 17) X16 hx rfl (hb hby d9_16) rfl ?_
    refine og_aloadN (pc' := 18) X16 hx rfl rfl (hb hby d9_17) rfl ?_
    refine og_virtual (pc' := 21) (cells' := 0) (slots' := 0) (W := 1) X16 hx hZ (rm_len l Z a0 hw a1 ba kb (6 : Int32) _ cs hcs h0 n0 O E_a1 F_value_a1 F_coder_a1 V_ba S_CS) hown (ow85 hw) (ow86 hw) (own_nf hZ (ow88 hw)) (ow88 hw) (ow87 hw) (ow13 hw) (ow89 hw) (by decide) (by rw [hml]; rfl) e16 opd_0 [] [(.int (6 : Int32))] rfl rfl rfl rfl (by decide) (by decide) rfl rfl (by decide) (by decide) E_a1 (hb hby d9_18) rfl (fun v17 T17 h17 L17 X17 e17 z17 => ?_)
    obtain ⟨rfl, Nq17, hq17⟩ := z17; replace e17 := e17.trans hq17; have N := Fr.app N Nq17
    show OG p e below _ (T17.setTop (mkF m 21 #[.val (.ref a1), .val (.int (0 : Int32)), .val (.ref wE), .val (.int (6 : Int32))] [(.int (6 : Int32)), (.int (6 : Int32))]))
    refine og_icmp_ge (pc1 := 49) (pc2 := 24) X17 hx (hb hby d9_21) (by decide) (by decide) rfl (fun _ => ?_) (fun q => absurd q (by decide))
    refine og_iconst (pc' := 50) (v := (-1 : Int32)) X17 hx rfl (hb hby d9_49) rfl ?_
    refine og_retI X17 hx hlk hret (hb hby d9_50) (by decide) (by decide) ?_
    rw [e17]; exact ⟨by rw [← hr]; rfl, N, rfl⟩
  have J5_wS : ∀ (T18 : State) (l18 : List Loc) (X18 : Stand p l e ({ frames := 4, cells := 0, slots := 0, locals := 54 } : Room) s m #[(.ref a1), (.int (0 : Int32))] below meth c T18 l18 0 0) (e18 : T18.heap = h0) (N : Fr n0 l18) (hr : own_end d0 false [d5] 5 = r), OG p e below (OFin s (fun v h L => v = some (.int r) ∧ Fr n0 L ∧ h = h0) 0 0) (T18.setTop (mkF m 16 #[.val (.ref a1), .val (.int (0 : Int32)), .val (.ref wS), .val (.int (5 : Int32))] [])) := by
    intro T18 l18 X18 e18 N hr
    refine og_iloadN (pc' := 17) X18 hx rfl (hb hby d9_16) rfl ?_
    refine og_aloadN (pc' := 18) X18 hx rfl rfl (hb hby d9_17) rfl ?_
    refine og_virtual (pc' := 21) (cells' := 0) (slots' := 0) (W := 1) X18 hx hZ (rm_len l Z a0 hw a1 ba kb (6 : Int32) _ cs hcs h0 n0 O E_a1 F_value_a1 F_coder_a1 V_ba S_CS) hown (ow85 hw) (ow86 hw) (own_nf hZ (ow88 hw)) (ow88 hw) (ow87 hw) (ow13 hw) (ow89 hw) (by decide) (by rw [hml]; rfl) e18 opd_0 [] [(.int (5 : Int32))] rfl rfl rfl rfl (by decide) (by decide) rfl rfl (by decide) (by decide) E_a1 (hb hby d9_18) rfl (fun v19 T19 h19 L19 X19 e19 z19 => ?_)
    obtain ⟨rfl, Nq19, hq19⟩ := z19; replace e19 := e19.trans hq19; have N := Fr.app N Nq19
    show OG p e below _ (T19.setTop (mkF m 21 #[.val (.ref a1), .val (.int (0 : Int32)), .val (.ref wS), .val (.int (5 : Int32))] [(.int (6 : Int32)), (.int (5 : Int32))]))
    refine og_icmp_ge (pc1 := 49) (pc2 := 24) X19 hx (hb hby d9_21) (by decide) (by decide) rfl (fun q => absurd q (by decide)) (fun _ => ?_)
    refine og_aloadN (pc' := 25) X19 hx rfl rfl (hb hby d9_24) rfl ?_
    refine og_aloadN (pc' := 26) X19 hx rfl rfl (hb hby d9_25) rfl ?_
    refine og_iloadN (pc' := 27) X19 hx rfl (hb hby d9_26) rfl ?_
    refine og_virtual (pc' := 30) (cells' := 0) (slots' := 0) (W := 1) X19 hx hZ (rm_ch l Z a0 hw a1 ba kb (6 : Int32) (5 : Int32) ⟨by decide, by decide⟩ _ d5 rfl hd5 cs hcs fm hfm h0 n0 O E_a1 F_value_a1 F_coder_a1 V_ba S_CS S_FM) hown (ow47 hw) (ow48 hw) (own_nf hZ (ow50 hw)) (ow50 hw) (ow49 hw) (ow13 hw) (ow51 hw) (by decide) (by rw [hml]; rfl) e19 opd_11 [(.int (5 : Int32))] [(.ref wS)] rfl rfl rfl rfl (by decide) (by decide) rfl rfl (by decide) (by decide) E_a1 (hb hby d9_27) rfl (fun v20 T20 h20 L20 X20 e20 z20 => ?_)
    obtain ⟨rfl, Nq20, hq20⟩ := z20; replace e20 := e20.trans hq20; have N := Fr.app N Nq20
    show OG p e below _ (T20.setTop (mkF m 30 #[.val (.ref a1), .val (.int (0 : Int32)), .val (.ref wS), .val (.int (5 : Int32))] [(.int d5), (.ref wS)]))
    by_cases ha : d5 = 92
    ·
      refine og_virtual (pc' := 33) (cells' := 0) (slots' := 0) (W := 0) X20 hx hZ (rm_nxS l Z a0 hw w0 w1 w2 w3 w4 wS wE d0 d5 wE hq (if_pos ha) h0 n0 O S_CODE S_SINGLE S_SINGLE_ESCAPED S_DOUBLE S_DOUBLE_ESCAPED E_w0 E_w1 E_w2 E_w3 E_w4 F_w0 F_w1 F_w2 F_w3 F_w4) hown (ow69 hw) (ow70 hw) (own_nf hZ (ow72 hw)) (ow72 hw) (ow71 hw) (ow45 hw) (ow73 hw) (by decide) (by rw [hml]; rfl) e20 opd_12 [(.int d5)] [] rfl rfl rfl rfl (by decide) (by decide) rfl rfl (by decide) (by decide) (E_wS.ext O.2) (hb hby d9_30) rfl (fun v21 T21 h21 L21 X21 e21 z21 => ?_)
      obtain ⟨rfl, Nq21, hq21⟩ := z21; replace e21 := e21.trans hq21; have N := Fr.app N Nq21
      show OG p e below _ (T21.setTop (mkF m 33 #[.val (.ref a1), .val (.int (0 : Int32)), .val (.ref wS), .val (.int (5 : Int32))] [(.ref wE)]))
      refine og_astoreN (pc' := 34) (L' := #[.val (.ref a1), .val (.int (0 : Int32)), .val (.ref wE), .val (.int (5 : Int32))]) X21 hx rfl rfl (hb hby d9_33) rfl ?_
      refine og_aloadN (pc' := 35) X21 hx rfl rfl (hb hby d9_34) rfl ?_
      refine og_getstatic (pc' := 38) X21 hx hZ (host := "") hown (Or.inl (ow44 hw)) Via.refl e21 (S_CODE.ext O.2) (hb hby d9_35) rfl (fun T22 X22 e22 => ?_)
      refine og_acmp_ne (pc1 := 43) (pc2 := 41) X22 hx rfl rfl (hb hby d9_38) (by decide) (by decide) rfl (fun _ => ?_) (fun q => absurd q (fun q => ne_wE_w0 (Value.ref.inj q)))
      refine og_iinc (pc' := 46) (L' := #[.val (.ref a1), .val (.int (0 : Int32)), .val (.ref wE), .val (.int (6 : Int32))]) (w := (1 : Int32)) X22 hx rfl rfl rfl (hb hby d9_43) rfl ?_
      refine og_goto (pc' := 16) X22 hx (hb hby d9_46) (by decide) (by decide) ?_
      exact J6_wE T22 _ X22 e22 N ((own_e92 ha).symm.trans hr)
    ·
      by_cases hbq : d5 = d0
      ·
        refine og_virtual (pc' := 33) (cells' := 0) (slots' := 0) (W := 0) X20 hx hZ (rm_nxS l Z a0 hw w0 w1 w2 w3 w4 wS wE d0 d5 w0 hq ((if_neg ha).trans (if_pos hbq)) h0 n0 O S_CODE S_SINGLE S_SINGLE_ESCAPED S_DOUBLE S_DOUBLE_ESCAPED E_w0 E_w1 E_w2 E_w3 E_w4 F_w0 F_w1 F_w2 F_w3 F_w4) hown (ow69 hw) (ow70 hw) (own_nf hZ (ow72 hw)) (ow72 hw) (ow71 hw) (ow45 hw) (ow73 hw) (by decide) (by rw [hml]; rfl) e20 opd_12 [(.int d5)] [] rfl rfl rfl rfl (by decide) (by decide) rfl rfl (by decide) (by decide) (E_wS.ext O.2) (hb hby d9_30) rfl (fun v23 T23 h23 L23 X23 e23 z23 => ?_)
        obtain ⟨rfl, Nq23, hq23⟩ := z23; replace e23 := e23.trans hq23; have N := Fr.app N Nq23
        show OG p e below _ (T23.setTop (mkF m 33 #[.val (.ref a1), .val (.int (0 : Int32)), .val (.ref wS), .val (.int (5 : Int32))] [(.ref w0)]))
        refine og_astoreN (pc' := 34) (L' := #[.val (.ref a1), .val (.int (0 : Int32)), .val (.ref w0), .val (.int (5 : Int32))]) X23 hx rfl rfl (hb hby d9_33) rfl ?_
        refine og_aloadN (pc' := 35) X23 hx rfl rfl (hb hby d9_34) rfl ?_
        refine og_getstatic (pc' := 38) X23 hx hZ (host := "") hown (Or.inl (ow44 hw)) Via.refl e23 (S_CODE.ext O.2) (hb hby d9_35) rfl (fun T24 X24 e24 => ?_)
        refine og_acmp_ne (pc1 := 43) (pc2 := 41) X24 hx rfl rfl (hb hby d9_38) (by decide) (by decide) rfl (fun q => absurd rfl q) (fun _ => ?_)
        refine og_iloadN (pc' := 42) X24 hx rfl (hb hby d9_41) rfl ?_
        refine og_retI X24 hx hlk hret (hb hby d9_42) (by decide) (by decide) ?_
        rw [e24]; exact ⟨by rw [← hr, own_eq ha hbq], N, rfl⟩
      ·
        refine og_virtual (pc' := 33) (cells' := 0) (slots' := 0) (W := 0) X20 hx hZ (rm_nxS l Z a0 hw w0 w1 w2 w3 w4 wS wE d0 d5 wS hq ((if_neg ha).trans (if_neg hbq)) h0 n0 O S_CODE S_SINGLE S_SINGLE_ESCAPED S_DOUBLE S_DOUBLE_ESCAPED E_w0 E_w1 E_w2 E_w3 E_w4 F_w0 F_w1 F_w2 F_w3 F_w4) hown (ow69 hw) (ow70 hw) (own_nf hZ (ow72 hw)) (ow72 hw) (ow71 hw) (ow45 hw) (ow73 hw) (by decide) (by rw [hml]; rfl) e20 opd_12 [(.int d5)] [] rfl rfl rfl rfl (by decide) (by decide) rfl rfl (by decide) (by decide) (E_wS.ext O.2) (hb hby d9_30) rfl (fun v25 T25 h25 L25 X25 e25 z25 => ?_)
        obtain ⟨rfl, Nq25, hq25⟩ := z25; replace e25 := e25.trans hq25; have N := Fr.app N Nq25
        show OG p e below _ (T25.setTop (mkF m 33 #[.val (.ref a1), .val (.int (0 : Int32)), .val (.ref wS), .val (.int (5 : Int32))] [(.ref wS)]))
        refine og_astoreN (pc' := 34) (L' := #[.val (.ref a1), .val (.int (0 : Int32)), .val (.ref wS), .val (.int (5 : Int32))]) X25 hx rfl rfl (hb hby d9_33) rfl ?_
        refine og_aloadN (pc' := 35) X25 hx rfl rfl (hb hby d9_34) rfl ?_
        refine og_getstatic (pc' := 38) X25 hx hZ (host := "") hown (Or.inl (ow44 hw)) Via.refl e25 (S_CODE.ext O.2) (hb hby d9_35) rfl (fun T26 X26 e26 => ?_)
        refine og_acmp_ne (pc1 := 43) (pc2 := 41) X26 hx rfl rfl (hb hby d9_38) (by decide) (by decide) rfl (fun _ => ?_) (fun q => absurd q (fun q => ne_wS_w0 (Value.ref.inj q)))
        refine og_iinc (pc' := 46) (L' := #[.val (.ref a1), .val (.int (0 : Int32)), .val (.ref wS), .val (.int (6 : Int32))]) (w := (1 : Int32)) X26 hx rfl rfl rfl (hb hby d9_43) rfl ?_
        refine og_goto (pc' := 16) X26 hx (hb hby d9_46) (by decide) (by decide) ?_
        exact J6_wS T26 _ X26 e26 N ((own_eo ha hbq).symm.trans hr)
  have J5_wE : ∀ (T27 : State) (l27 : List Loc) (X27 : Stand p l e ({ frames := 4, cells := 0, slots := 0, locals := 54 } : Room) s m #[(.ref a1), (.int (0 : Int32))] below meth c T27 l27 0 0) (e27 : T27.heap = h0) (N : Fr n0 l27) (hr : own_end d0 true [d5] 5 = r), OG p e below (OFin s (fun v h L => v = some (.int r) ∧ Fr n0 L ∧ h = h0) 0 0) (T27.setTop (mkF m 16 #[.val (.ref a1), .val (.int (0 : Int32)), .val (.ref wE), .val (.int (5 : Int32))] [])) := by
    intro T27 l27 X27 e27 N hr
    refine og_iloadN (pc' := 17) X27 hx rfl (hb hby d9_16) rfl ?_
    refine og_aloadN (pc' := 18) X27 hx rfl rfl (hb hby d9_17) rfl ?_
    refine og_virtual (pc' := 21) (cells' := 0) (slots' := 0) (W := 1) X27 hx hZ (rm_len l Z a0 hw a1 ba kb (6 : Int32) _ cs hcs h0 n0 O E_a1 F_value_a1 F_coder_a1 V_ba S_CS) hown (ow85 hw) (ow86 hw) (own_nf hZ (ow88 hw)) (ow88 hw) (ow87 hw) (ow13 hw) (ow89 hw) (by decide) (by rw [hml]; rfl) e27 opd_0 [] [(.int (5 : Int32))] rfl rfl rfl rfl (by decide) (by decide) rfl rfl (by decide) (by decide) E_a1 (hb hby d9_18) rfl (fun v28 T28 h28 L28 X28 e28 z28 => ?_)
    obtain ⟨rfl, Nq28, hq28⟩ := z28; replace e28 := e28.trans hq28; have N := Fr.app N Nq28
    show OG p e below _ (T28.setTop (mkF m 21 #[.val (.ref a1), .val (.int (0 : Int32)), .val (.ref wE), .val (.int (5 : Int32))] [(.int (6 : Int32)), (.int (5 : Int32))]))
    refine og_icmp_ge (pc1 := 49) (pc2 := 24) X28 hx (hb hby d9_21) (by decide) (by decide) rfl (fun q => absurd q (by decide)) (fun _ => ?_)
    refine og_aloadN (pc' := 25) X28 hx rfl rfl (hb hby d9_24) rfl ?_
    refine og_aloadN (pc' := 26) X28 hx rfl rfl (hb hby d9_25) rfl ?_
    refine og_iloadN (pc' := 27) X28 hx rfl (hb hby d9_26) rfl ?_
    refine og_virtual (pc' := 30) (cells' := 0) (slots' := 0) (W := 1) X28 hx hZ (rm_ch l Z a0 hw a1 ba kb (6 : Int32) (5 : Int32) ⟨by decide, by decide⟩ _ d5 rfl hd5 cs hcs fm hfm h0 n0 O E_a1 F_value_a1 F_coder_a1 V_ba S_CS S_FM) hown (ow47 hw) (ow48 hw) (own_nf hZ (ow50 hw)) (ow50 hw) (ow49 hw) (ow13 hw) (ow51 hw) (by decide) (by rw [hml]; rfl) e28 opd_11 [(.int (5 : Int32))] [(.ref wE)] rfl rfl rfl rfl (by decide) (by decide) rfl rfl (by decide) (by decide) E_a1 (hb hby d9_27) rfl (fun v29 T29 h29 L29 X29 e29 z29 => ?_)
    obtain ⟨rfl, Nq29, hq29⟩ := z29; replace e29 := e29.trans hq29; have N := Fr.app N Nq29
    show OG p e below _ (T29.setTop (mkF m 30 #[.val (.ref a1), .val (.int (0 : Int32)), .val (.ref wE), .val (.int (5 : Int32))] [(.int d5), (.ref wE)]))
    refine og_virtual (pc' := 33) (cells' := 0) (slots' := 0) (W := 0) X29 hx hZ (rm_nxE l Z a0 hw w0 w1 w2 w3 w4 wS wE d0 d5 hq h0 n0 O S_CODE S_SINGLE S_SINGLE_ESCAPED S_DOUBLE S_DOUBLE_ESCAPED E_w0 E_w1 E_w2 E_w3 E_w4 F_w0 F_w1 F_w2 F_w3 F_w4) hown (ow69 hw) (ow70 hw) (own_nf hZ (ow72 hw)) (ow72 hw) (ow71 hw) (ow45 hw) (ow73 hw) (by decide) (by rw [hml]; rfl) e29 opd_12 [(.int d5)] [] rfl rfl rfl rfl (by decide) (by decide) rfl rfl (by decide) (by decide) (E_wE.ext O.2) (hb hby d9_30) rfl (fun v30 T30 h30 L30 X30 e30 z30 => ?_)
    obtain ⟨rfl, Nq30, hq30⟩ := z30; replace e30 := e30.trans hq30; have N := Fr.app N Nq30
    show OG p e below _ (T30.setTop (mkF m 33 #[.val (.ref a1), .val (.int (0 : Int32)), .val (.ref wE), .val (.int (5 : Int32))] [(.ref wS)]))
    refine og_astoreN (pc' := 34) (L' := #[.val (.ref a1), .val (.int (0 : Int32)), .val (.ref wS), .val (.int (5 : Int32))]) X30 hx rfl rfl (hb hby d9_33) rfl ?_
    refine og_aloadN (pc' := 35) X30 hx rfl rfl (hb hby d9_34) rfl ?_
    refine og_getstatic (pc' := 38) X30 hx hZ (host := "") hown (Or.inl (ow44 hw)) Via.refl e30 (S_CODE.ext O.2) (hb hby d9_35) rfl (fun T31 X31 e31 => ?_)
    refine og_acmp_ne (pc1 := 43) (pc2 := 41) X31 hx rfl rfl (hb hby d9_38) (by decide) (by decide) rfl (fun _ => ?_) (fun q => absurd q (fun q => ne_wS_w0 (Value.ref.inj q)))
    refine og_iinc (pc' := 46) (L' := #[.val (.ref a1), .val (.int (0 : Int32)), .val (.ref wS), .val (.int (6 : Int32))]) (w := (1 : Int32)) X31 hx rfl rfl rfl (hb hby d9_43) rfl ?_
    refine og_goto (pc' := 16) X31 hx (hb hby d9_46) (by decide) (by decide) ?_
    exact J6_wS T31 _ X31 e31 N (own_ee.symm.trans hr)
  have J4_wS : ∀ (T32 : State) (l32 : List Loc) (X32 : Stand p l e ({ frames := 4, cells := 0, slots := 0, locals := 54 } : Room) s m #[(.ref a1), (.int (0 : Int32))] below meth c T32 l32 0 0) (e32 : T32.heap = h0) (N : Fr n0 l32) (hr : own_end d0 false [d4, d5] 4 = r), OG p e below (OFin s (fun v h L => v = some (.int r) ∧ Fr n0 L ∧ h = h0) 0 0) (T32.setTop (mkF m 16 #[.val (.ref a1), .val (.int (0 : Int32)), .val (.ref wS), .val (.int (4 : Int32))] [])) := by
    intro T32 l32 X32 e32 N hr
    refine og_iloadN (pc' := 17) X32 hx rfl (hb hby d9_16) rfl ?_
    refine og_aloadN (pc' := 18) X32 hx rfl rfl (hb hby d9_17) rfl ?_
    refine og_virtual (pc' := 21) (cells' := 0) (slots' := 0) (W := 1) X32 hx hZ (rm_len l Z a0 hw a1 ba kb (6 : Int32) _ cs hcs h0 n0 O E_a1 F_value_a1 F_coder_a1 V_ba S_CS) hown (ow85 hw) (ow86 hw) (own_nf hZ (ow88 hw)) (ow88 hw) (ow87 hw) (ow13 hw) (ow89 hw) (by decide) (by rw [hml]; rfl) e32 opd_0 [] [(.int (4 : Int32))] rfl rfl rfl rfl (by decide) (by decide) rfl rfl (by decide) (by decide) E_a1 (hb hby d9_18) rfl (fun v33 T33 h33 L33 X33 e33 z33 => ?_)
    obtain ⟨rfl, Nq33, hq33⟩ := z33; replace e33 := e33.trans hq33; have N := Fr.app N Nq33
    show OG p e below _ (T33.setTop (mkF m 21 #[.val (.ref a1), .val (.int (0 : Int32)), .val (.ref wS), .val (.int (4 : Int32))] [(.int (6 : Int32)), (.int (4 : Int32))]))
    refine og_icmp_ge (pc1 := 49) (pc2 := 24) X33 hx (hb hby d9_21) (by decide) (by decide) rfl (fun q => absurd q (by decide)) (fun _ => ?_)
    refine og_aloadN (pc' := 25) X33 hx rfl rfl (hb hby d9_24) rfl ?_
    refine og_aloadN (pc' := 26) X33 hx rfl rfl (hb hby d9_25) rfl ?_
    refine og_iloadN (pc' := 27) X33 hx rfl (hb hby d9_26) rfl ?_
    refine og_virtual (pc' := 30) (cells' := 0) (slots' := 0) (W := 1) X33 hx hZ (rm_ch l Z a0 hw a1 ba kb (6 : Int32) (4 : Int32) ⟨by decide, by decide⟩ _ d4 rfl hd4 cs hcs fm hfm h0 n0 O E_a1 F_value_a1 F_coder_a1 V_ba S_CS S_FM) hown (ow47 hw) (ow48 hw) (own_nf hZ (ow50 hw)) (ow50 hw) (ow49 hw) (ow13 hw) (ow51 hw) (by decide) (by rw [hml]; rfl) e33 opd_11 [(.int (4 : Int32))] [(.ref wS)] rfl rfl rfl rfl (by decide) (by decide) rfl rfl (by decide) (by decide) E_a1 (hb hby d9_27) rfl (fun v34 T34 h34 L34 X34 e34 z34 => ?_)
    obtain ⟨rfl, Nq34, hq34⟩ := z34; replace e34 := e34.trans hq34; have N := Fr.app N Nq34
    show OG p e below _ (T34.setTop (mkF m 30 #[.val (.ref a1), .val (.int (0 : Int32)), .val (.ref wS), .val (.int (4 : Int32))] [(.int d4), (.ref wS)]))
    by_cases ha : d4 = 92
    ·
      refine og_virtual (pc' := 33) (cells' := 0) (slots' := 0) (W := 0) X34 hx hZ (rm_nxS l Z a0 hw w0 w1 w2 w3 w4 wS wE d0 d4 wE hq (if_pos ha) h0 n0 O S_CODE S_SINGLE S_SINGLE_ESCAPED S_DOUBLE S_DOUBLE_ESCAPED E_w0 E_w1 E_w2 E_w3 E_w4 F_w0 F_w1 F_w2 F_w3 F_w4) hown (ow69 hw) (ow70 hw) (own_nf hZ (ow72 hw)) (ow72 hw) (ow71 hw) (ow45 hw) (ow73 hw) (by decide) (by rw [hml]; rfl) e34 opd_12 [(.int d4)] [] rfl rfl rfl rfl (by decide) (by decide) rfl rfl (by decide) (by decide) (E_wS.ext O.2) (hb hby d9_30) rfl (fun v35 T35 h35 L35 X35 e35 z35 => ?_)
      obtain ⟨rfl, Nq35, hq35⟩ := z35; replace e35 := e35.trans hq35; have N := Fr.app N Nq35
      show OG p e below _ (T35.setTop (mkF m 33 #[.val (.ref a1), .val (.int (0 : Int32)), .val (.ref wS), .val (.int (4 : Int32))] [(.ref wE)]))
      refine og_astoreN (pc' := 34) (L' := #[.val (.ref a1), .val (.int (0 : Int32)), .val (.ref wE), .val (.int (4 : Int32))]) X35 hx rfl rfl (hb hby d9_33) rfl ?_
      refine og_aloadN (pc' := 35) X35 hx rfl rfl (hb hby d9_34) rfl ?_
      refine og_getstatic (pc' := 38) X35 hx hZ (host := "") hown (Or.inl (ow44 hw)) Via.refl e35 (S_CODE.ext O.2) (hb hby d9_35) rfl (fun T36 X36 e36 => ?_)
      refine og_acmp_ne (pc1 := 43) (pc2 := 41) X36 hx rfl rfl (hb hby d9_38) (by decide) (by decide) rfl (fun _ => ?_) (fun q => absurd q (fun q => ne_wE_w0 (Value.ref.inj q)))
      refine og_iinc (pc' := 46) (L' := #[.val (.ref a1), .val (.int (0 : Int32)), .val (.ref wE), .val (.int (5 : Int32))]) (w := (1 : Int32)) X36 hx rfl rfl rfl (hb hby d9_43) rfl ?_
      refine og_goto (pc' := 16) X36 hx (hb hby d9_46) (by decide) (by decide) ?_
      exact J5_wE T36 _ X36 e36 N ((own_e92 ha).symm.trans hr)
    ·
      by_cases hbq : d4 = d0
      ·
        refine og_virtual (pc' := 33) (cells' := 0) (slots' := 0) (W := 0) X34 hx hZ (rm_nxS l Z a0 hw w0 w1 w2 w3 w4 wS wE d0 d4 w0 hq ((if_neg ha).trans (if_pos hbq)) h0 n0 O S_CODE S_SINGLE S_SINGLE_ESCAPED S_DOUBLE S_DOUBLE_ESCAPED E_w0 E_w1 E_w2 E_w3 E_w4 F_w0 F_w1 F_w2 F_w3 F_w4) hown (ow69 hw) (ow70 hw) (own_nf hZ (ow72 hw)) (ow72 hw) (ow71 hw) (ow45 hw) (ow73 hw) (by decide) (by rw [hml]; rfl) e34 opd_12 [(.int d4)] [] rfl rfl rfl rfl (by decide) (by decide) rfl rfl (by decide) (by decide) (E_wS.ext O.2) (hb hby d9_30) rfl (fun v37 T37 h37 L37 X37 e37 z37 => ?_)
        obtain ⟨rfl, Nq37, hq37⟩ := z37; replace e37 := e37.trans hq37; have N := Fr.app N Nq37
        show OG p e below _ (T37.setTop (mkF m 33 #[.val (.ref a1), .val (.int (0 : Int32)), .val (.ref wS), .val (.int (4 : Int32))] [(.ref w0)]))
        refine og_astoreN (pc' := 34) (L' := #[.val (.ref a1), .val (.int (0 : Int32)), .val (.ref w0), .val (.int (4 : Int32))]) X37 hx rfl rfl (hb hby d9_33) rfl ?_
        refine og_aloadN (pc' := 35) X37 hx rfl rfl (hb hby d9_34) rfl ?_
        refine og_getstatic (pc' := 38) X37 hx hZ (host := "") hown (Or.inl (ow44 hw)) Via.refl e37 (S_CODE.ext O.2) (hb hby d9_35) rfl (fun T38 X38 e38 => ?_)
        refine og_acmp_ne (pc1 := 43) (pc2 := 41) X38 hx rfl rfl (hb hby d9_38) (by decide) (by decide) rfl (fun q => absurd rfl q) (fun _ => ?_)
        refine og_iloadN (pc' := 42) X38 hx rfl (hb hby d9_41) rfl ?_
        refine og_retI X38 hx hlk hret (hb hby d9_42) (by decide) (by decide) ?_
        rw [e38]; exact ⟨by rw [← hr, own_eq ha hbq], N, rfl⟩
      ·
        refine og_virtual (pc' := 33) (cells' := 0) (slots' := 0) (W := 0) X34 hx hZ (rm_nxS l Z a0 hw w0 w1 w2 w3 w4 wS wE d0 d4 wS hq ((if_neg ha).trans (if_neg hbq)) h0 n0 O S_CODE S_SINGLE S_SINGLE_ESCAPED S_DOUBLE S_DOUBLE_ESCAPED E_w0 E_w1 E_w2 E_w3 E_w4 F_w0 F_w1 F_w2 F_w3 F_w4) hown (ow69 hw) (ow70 hw) (own_nf hZ (ow72 hw)) (ow72 hw) (ow71 hw) (ow45 hw) (ow73 hw) (by decide) (by rw [hml]; rfl) e34 opd_12 [(.int d4)] [] rfl rfl rfl rfl (by decide) (by decide) rfl rfl (by decide) (by decide) (E_wS.ext O.2) (hb hby d9_30) rfl (fun v39 T39 h39 L39 X39 e39 z39 => ?_)
        obtain ⟨rfl, Nq39, hq39⟩ := z39; replace e39 := e39.trans hq39; have N := Fr.app N Nq39
        show OG p e below _ (T39.setTop (mkF m 33 #[.val (.ref a1), .val (.int (0 : Int32)), .val (.ref wS), .val (.int (4 : Int32))] [(.ref wS)]))
        refine og_astoreN (pc' := 34) (L' := #[.val (.ref a1), .val (.int (0 : Int32)), .val (.ref wS), .val (.int (4 : Int32))]) X39 hx rfl rfl (hb hby d9_33) rfl ?_
        refine og_aloadN (pc' := 35) X39 hx rfl rfl (hb hby d9_34) rfl ?_
        refine og_getstatic (pc' := 38) X39 hx hZ (host := "") hown (Or.inl (ow44 hw)) Via.refl e39 (S_CODE.ext O.2) (hb hby d9_35) rfl (fun T40 X40 e40 => ?_)
        refine og_acmp_ne (pc1 := 43) (pc2 := 41) X40 hx rfl rfl (hb hby d9_38) (by decide) (by decide) rfl (fun _ => ?_) (fun q => absurd q (fun q => ne_wS_w0 (Value.ref.inj q)))
        refine og_iinc (pc' := 46) (L' := #[.val (.ref a1), .val (.int (0 : Int32)), .val (.ref wS), .val (.int (5 : Int32))]) (w := (1 : Int32)) X40 hx rfl rfl rfl (hb hby d9_43) rfl ?_
        refine og_goto (pc' := 16) X40 hx (hb hby d9_46) (by decide) (by decide) ?_
        exact J5_wS T40 _ X40 e40 N ((own_eo ha hbq).symm.trans hr)
  have J4_wE : ∀ (T41 : State) (l41 : List Loc) (X41 : Stand p l e ({ frames := 4, cells := 0, slots := 0, locals := 54 } : Room) s m #[(.ref a1), (.int (0 : Int32))] below meth c T41 l41 0 0) (e41 : T41.heap = h0) (N : Fr n0 l41) (hr : own_end d0 true [d4, d5] 4 = r), OG p e below (OFin s (fun v h L => v = some (.int r) ∧ Fr n0 L ∧ h = h0) 0 0) (T41.setTop (mkF m 16 #[.val (.ref a1), .val (.int (0 : Int32)), .val (.ref wE), .val (.int (4 : Int32))] [])) := by
    intro T41 l41 X41 e41 N hr
    refine og_iloadN (pc' := 17) X41 hx rfl (hb hby d9_16) rfl ?_
    refine og_aloadN (pc' := 18) X41 hx rfl rfl (hb hby d9_17) rfl ?_
    refine og_virtual (pc' := 21) (cells' := 0) (slots' := 0) (W := 1) X41 hx hZ (rm_len l Z a0 hw a1 ba kb (6 : Int32) _ cs hcs h0 n0 O E_a1 F_value_a1 F_coder_a1 V_ba S_CS) hown (ow85 hw) (ow86 hw) (own_nf hZ (ow88 hw)) (ow88 hw) (ow87 hw) (ow13 hw) (ow89 hw) (by decide) (by rw [hml]; rfl) e41 opd_0 [] [(.int (4 : Int32))] rfl rfl rfl rfl (by decide) (by decide) rfl rfl (by decide) (by decide) E_a1 (hb hby d9_18) rfl (fun v42 T42 h42 L42 X42 e42 z42 => ?_)
    obtain ⟨rfl, Nq42, hq42⟩ := z42; replace e42 := e42.trans hq42; have N := Fr.app N Nq42
    show OG p e below _ (T42.setTop (mkF m 21 #[.val (.ref a1), .val (.int (0 : Int32)), .val (.ref wE), .val (.int (4 : Int32))] [(.int (6 : Int32)), (.int (4 : Int32))]))
    refine og_icmp_ge (pc1 := 49) (pc2 := 24) X42 hx (hb hby d9_21) (by decide) (by decide) rfl (fun q => absurd q (by decide)) (fun _ => ?_)
    refine og_aloadN (pc' := 25) X42 hx rfl rfl (hb hby d9_24) rfl ?_
    refine og_aloadN (pc' := 26) X42 hx rfl rfl (hb hby d9_25) rfl ?_
    refine og_iloadN (pc' := 27) X42 hx rfl (hb hby d9_26) rfl ?_
    refine og_virtual (pc' := 30) (cells' := 0) (slots' := 0) (W := 1) X42 hx hZ (rm_ch l Z a0 hw a1 ba kb (6 : Int32) (4 : Int32) ⟨by decide, by decide⟩ _ d4 rfl hd4 cs hcs fm hfm h0 n0 O E_a1 F_value_a1 F_coder_a1 V_ba S_CS S_FM) hown (ow47 hw) (ow48 hw) (own_nf hZ (ow50 hw)) (ow50 hw) (ow49 hw) (ow13 hw) (ow51 hw) (by decide) (by rw [hml]; rfl) e42 opd_11 [(.int (4 : Int32))] [(.ref wE)] rfl rfl rfl rfl (by decide) (by decide) rfl rfl (by decide) (by decide) E_a1 (hb hby d9_27) rfl (fun v43 T43 h43 L43 X43 e43 z43 => ?_)
    obtain ⟨rfl, Nq43, hq43⟩ := z43; replace e43 := e43.trans hq43; have N := Fr.app N Nq43
    show OG p e below _ (T43.setTop (mkF m 30 #[.val (.ref a1), .val (.int (0 : Int32)), .val (.ref wE), .val (.int (4 : Int32))] [(.int d4), (.ref wE)]))
    refine og_virtual (pc' := 33) (cells' := 0) (slots' := 0) (W := 0) X43 hx hZ (rm_nxE l Z a0 hw w0 w1 w2 w3 w4 wS wE d0 d4 hq h0 n0 O S_CODE S_SINGLE S_SINGLE_ESCAPED S_DOUBLE S_DOUBLE_ESCAPED E_w0 E_w1 E_w2 E_w3 E_w4 F_w0 F_w1 F_w2 F_w3 F_w4) hown (ow69 hw) (ow70 hw) (own_nf hZ (ow72 hw)) (ow72 hw) (ow71 hw) (ow45 hw) (ow73 hw) (by decide) (by rw [hml]; rfl) e43 opd_12 [(.int d4)] [] rfl rfl rfl rfl (by decide) (by decide) rfl rfl (by decide) (by decide) (E_wE.ext O.2) (hb hby d9_30) rfl (fun v44 T44 h44 L44 X44 e44 z44 => ?_)
    obtain ⟨rfl, Nq44, hq44⟩ := z44; replace e44 := e44.trans hq44; have N := Fr.app N Nq44
    show OG p e below _ (T44.setTop (mkF m 33 #[.val (.ref a1), .val (.int (0 : Int32)), .val (.ref wE), .val (.int (4 : Int32))] [(.ref wS)]))
    refine og_astoreN (pc' := 34) (L' := #[.val (.ref a1), .val (.int (0 : Int32)), .val (.ref wS), .val (.int (4 : Int32))]) X44 hx rfl rfl (hb hby d9_33) rfl ?_
    refine og_aloadN (pc' := 35) X44 hx rfl rfl (hb hby d9_34) rfl ?_
    refine og_getstatic (pc' := 38) X44 hx hZ (host := "") hown (Or.inl (ow44 hw)) Via.refl e44 (S_CODE.ext O.2) (hb hby d9_35) rfl (fun T45 X45 e45 => ?_)
    refine og_acmp_ne (pc1 := 43) (pc2 := 41) X45 hx rfl rfl (hb hby d9_38) (by decide) (by decide) rfl (fun _ => ?_) (fun q => absurd q (fun q => ne_wS_w0 (Value.ref.inj q)))
    refine og_iinc (pc' := 46) (L' := #[.val (.ref a1), .val (.int (0 : Int32)), .val (.ref wS), .val (.int (5 : Int32))]) (w := (1 : Int32)) X45 hx rfl rfl rfl (hb hby d9_43) rfl ?_
    refine og_goto (pc' := 16) X45 hx (hb hby d9_46) (by decide) (by decide) ?_
    exact J5_wS T45 _ X45 e45 N (own_ee.symm.trans hr)
  have J3_wS : ∀ (T46 : State) (l46 : List Loc) (X46 : Stand p l e ({ frames := 4, cells := 0, slots := 0, locals := 54 } : Room) s m #[(.ref a1), (.int (0 : Int32))] below meth c T46 l46 0 0) (e46 : T46.heap = h0) (N : Fr n0 l46) (hr : own_end d0 false [d3, d4, d5] 3 = r), OG p e below (OFin s (fun v h L => v = some (.int r) ∧ Fr n0 L ∧ h = h0) 0 0) (T46.setTop (mkF m 16 #[.val (.ref a1), .val (.int (0 : Int32)), .val (.ref wS), .val (.int (3 : Int32))] [])) := by
    intro T46 l46 X46 e46 N hr
    refine og_iloadN (pc' := 17) X46 hx rfl (hb hby d9_16) rfl ?_
    refine og_aloadN (pc' := 18) X46 hx rfl rfl (hb hby d9_17) rfl ?_
    refine og_virtual (pc' := 21) (cells' := 0) (slots' := 0) (W := 1) X46 hx hZ (rm_len l Z a0 hw a1 ba kb (6 : Int32) _ cs hcs h0 n0 O E_a1 F_value_a1 F_coder_a1 V_ba S_CS) hown (ow85 hw) (ow86 hw) (own_nf hZ (ow88 hw)) (ow88 hw) (ow87 hw) (ow13 hw) (ow89 hw) (by decide) (by rw [hml]; rfl) e46 opd_0 [] [(.int (3 : Int32))] rfl rfl rfl rfl (by decide) (by decide) rfl rfl (by decide) (by decide) E_a1 (hb hby d9_18) rfl (fun v47 T47 h47 L47 X47 e47 z47 => ?_)
    obtain ⟨rfl, Nq47, hq47⟩ := z47; replace e47 := e47.trans hq47; have N := Fr.app N Nq47
    show OG p e below _ (T47.setTop (mkF m 21 #[.val (.ref a1), .val (.int (0 : Int32)), .val (.ref wS), .val (.int (3 : Int32))] [(.int (6 : Int32)), (.int (3 : Int32))]))
    refine og_icmp_ge (pc1 := 49) (pc2 := 24) X47 hx (hb hby d9_21) (by decide) (by decide) rfl (fun q => absurd q (by decide)) (fun _ => ?_)
    refine og_aloadN (pc' := 25) X47 hx rfl rfl (hb hby d9_24) rfl ?_
    refine og_aloadN (pc' := 26) X47 hx rfl rfl (hb hby d9_25) rfl ?_
    refine og_iloadN (pc' := 27) X47 hx rfl (hb hby d9_26) rfl ?_
    refine og_virtual (pc' := 30) (cells' := 0) (slots' := 0) (W := 1) X47 hx hZ (rm_ch l Z a0 hw a1 ba kb (6 : Int32) (3 : Int32) ⟨by decide, by decide⟩ _ d3 rfl hd3 cs hcs fm hfm h0 n0 O E_a1 F_value_a1 F_coder_a1 V_ba S_CS S_FM) hown (ow47 hw) (ow48 hw) (own_nf hZ (ow50 hw)) (ow50 hw) (ow49 hw) (ow13 hw) (ow51 hw) (by decide) (by rw [hml]; rfl) e47 opd_11 [(.int (3 : Int32))] [(.ref wS)] rfl rfl rfl rfl (by decide) (by decide) rfl rfl (by decide) (by decide) E_a1 (hb hby d9_27) rfl (fun v48 T48 h48 L48 X48 e48 z48 => ?_)
    obtain ⟨rfl, Nq48, hq48⟩ := z48; replace e48 := e48.trans hq48; have N := Fr.app N Nq48
    show OG p e below _ (T48.setTop (mkF m 30 #[.val (.ref a1), .val (.int (0 : Int32)), .val (.ref wS), .val (.int (3 : Int32))] [(.int d3), (.ref wS)]))
    by_cases ha : d3 = 92
    ·
      refine og_virtual (pc' := 33) (cells' := 0) (slots' := 0) (W := 0) X48 hx hZ (rm_nxS l Z a0 hw w0 w1 w2 w3 w4 wS wE d0 d3 wE hq (if_pos ha) h0 n0 O S_CODE S_SINGLE S_SINGLE_ESCAPED S_DOUBLE S_DOUBLE_ESCAPED E_w0 E_w1 E_w2 E_w3 E_w4 F_w0 F_w1 F_w2 F_w3 F_w4) hown (ow69 hw) (ow70 hw) (own_nf hZ (ow72 hw)) (ow72 hw) (ow71 hw) (ow45 hw) (ow73 hw) (by decide) (by rw [hml]; rfl) e48 opd_12 [(.int d3)] [] rfl rfl rfl rfl (by decide) (by decide) rfl rfl (by decide) (by decide) (E_wS.ext O.2) (hb hby d9_30) rfl (fun v49 T49 h49 L49 X49 e49 z49 => ?_)
      obtain ⟨rfl, Nq49, hq49⟩ := z49; replace e49 := e49.trans hq49; have N := Fr.app N Nq49
      show OG p e below _ (T49.setTop (mkF m 33 #[.val (.ref a1), .val (.int (0 : Int32)), .val (.ref wS), .val (.int (3 : Int32))] [(.ref wE)]))
      refine og_astoreN (pc' := 34) (L' := #[.val (.ref a1), .val (.int (0 : Int32)), .val (.ref wE), .val (.int (3 : Int32))]) X49 hx rfl rfl (hb hby d9_33) rfl ?_
      refine og_aloadN (pc' := 35) X49 hx rfl rfl (hb hby d9_34) rfl ?_
      refine og_getstatic (pc' := 38) X49 hx hZ (host := "") hown (Or.inl (ow44 hw)) Via.refl e49 (S_CODE.ext O.2) (hb hby d9_35) rfl (fun T50 X50 e50 => ?_)
      refine og_acmp_ne (pc1 := 43) (pc2 := 41) X50 hx rfl rfl (hb hby d9_38) (by decide) (by decide) rfl (fun _ => ?_) (fun q => absurd q (fun q => ne_wE_w0 (Value.ref.inj q)))
      refine og_iinc (pc' := 46) (L' := #[.val (.ref a1), .val (.int (0 : Int32)), .val (.ref wE), .val (.int (4 : Int32))]) (w := (1 : Int32)) X50 hx rfl rfl rfl (hb hby d9_43) rfl ?_
      refine og_goto (pc' := 16) X50 hx (hb hby d9_46) (by decide) (by decide) ?_
      exact J4_wE T50 _ X50 e50 N ((own_e92 ha).symm.trans hr)
    ·
      by_cases hbq : d3 = d0
      ·
        refine og_virtual (pc' := 33) (cells' := 0) (slots' := 0) (W := 0) X48 hx hZ (rm_nxS l Z a0 hw w0 w1 w2 w3 w4 wS wE d0 d3 w0 hq ((if_neg ha).trans (if_pos hbq)) h0 n0 O S_CODE S_SINGLE S_SINGLE_ESCAPED S_DOUBLE S_DOUBLE_ESCAPED E_w0 E_w1 E_w2 E_w3 E_w4 F_w0 F_w1 F_w2 F_w3 F_w4) hown (ow69 hw) (ow70 hw) (own_nf hZ (ow72 hw)) (ow72 hw) (ow71 hw) (ow45 hw) (ow73 hw) (by decide) (by rw [hml]; rfl) e48 opd_12 [(.int d3)] [] rfl rfl rfl rfl (by decide) (by decide) rfl rfl (by decide) (by decide) (E_wS.ext O.2) (hb hby d9_30) rfl (fun v51 T51 h51 L51 X51 e51 z51 => ?_)
        obtain ⟨rfl, Nq51, hq51⟩ := z51; replace e51 := e51.trans hq51; have N := Fr.app N Nq51
        show OG p e below _ (T51.setTop (mkF m 33 #[.val (.ref a1), .val (.int (0 : Int32)), .val (.ref wS), .val (.int (3 : Int32))] [(.ref w0)]))
        refine og_astoreN (pc' := 34) (L' := #[.val (.ref a1), .val (.int (0 : Int32)), .val (.ref w0), .val (.int (3 : Int32))]) X51 hx rfl rfl (hb hby d9_33) rfl ?_
        refine og_aloadN (pc' := 35) X51 hx rfl rfl (hb hby d9_34) rfl ?_
        refine og_getstatic (pc' := 38) X51 hx hZ (host := "") hown (Or.inl (ow44 hw)) Via.refl e51 (S_CODE.ext O.2) (hb hby d9_35) rfl (fun T52 X52 e52 => ?_)
        refine og_acmp_ne (pc1 := 43) (pc2 := 41) X52 hx rfl rfl (hb hby d9_38) (by decide) (by decide) rfl (fun q => absurd rfl q) (fun _ => ?_)
        refine og_iloadN (pc' := 42) X52 hx rfl (hb hby d9_41) rfl ?_
        refine og_retI X52 hx hlk hret (hb hby d9_42) (by decide) (by decide) ?_
        rw [e52]; exact ⟨by rw [← hr, own_eq ha hbq], N, rfl⟩
      ·
        refine og_virtual (pc' := 33) (cells' := 0) (slots' := 0) (W := 0) X48 hx hZ (rm_nxS l Z a0 hw w0 w1 w2 w3 w4 wS wE d0 d3 wS hq ((if_neg ha).trans (if_neg hbq)) h0 n0 O S_CODE S_SINGLE S_SINGLE_ESCAPED S_DOUBLE S_DOUBLE_ESCAPED E_w0 E_w1 E_w2 E_w3 E_w4 F_w0 F_w1 F_w2 F_w3 F_w4) hown (ow69 hw) (ow70 hw) (own_nf hZ (ow72 hw)) (ow72 hw) (ow71 hw) (ow45 hw) (ow73 hw) (by decide) (by rw [hml]; rfl) e48 opd_12 [(.int d3)] [] rfl rfl rfl rfl (by decide) (by decide) rfl rfl (by decide) (by decide) (E_wS.ext O.2) (hb hby d9_30) rfl (fun v53 T53 h53 L53 X53 e53 z53 => ?_)
        obtain ⟨rfl, Nq53, hq53⟩ := z53; replace e53 := e53.trans hq53; have N := Fr.app N Nq53
        show OG p e below _ (T53.setTop (mkF m 33 #[.val (.ref a1), .val (.int (0 : Int32)), .val (.ref wS), .val (.int (3 : Int32))] [(.ref wS)]))
        refine og_astoreN (pc' := 34) (L' := #[.val (.ref a1), .val (.int (0 : Int32)), .val (.ref wS), .val (.int (3 : Int32))]) X53 hx rfl rfl (hb hby d9_33) rfl ?_
        refine og_aloadN (pc' := 35) X53 hx rfl rfl (hb hby d9_34) rfl ?_
        refine og_getstatic (pc' := 38) X53 hx hZ (host := "") hown (Or.inl (ow44 hw)) Via.refl e53 (S_CODE.ext O.2) (hb hby d9_35) rfl (fun T54 X54 e54 => ?_)
        refine og_acmp_ne (pc1 := 43) (pc2 := 41) X54 hx rfl rfl (hb hby d9_38) (by decide) (by decide) rfl (fun _ => ?_) (fun q => absurd q (fun q => ne_wS_w0 (Value.ref.inj q)))
        refine og_iinc (pc' := 46) (L' := #[.val (.ref a1), .val (.int (0 : Int32)), .val (.ref wS), .val (.int (4 : Int32))]) (w := (1 : Int32)) X54 hx rfl rfl rfl (hb hby d9_43) rfl ?_
        refine og_goto (pc' := 16) X54 hx (hb hby d9_46) (by decide) (by decide) ?_
        exact J4_wS T54 _ X54 e54 N ((own_eo ha hbq).symm.trans hr)
  have J3_wE : ∀ (T55 : State) (l55 : List Loc) (X55 : Stand p l e ({ frames := 4, cells := 0, slots := 0, locals := 54 } : Room) s m #[(.ref a1), (.int (0 : Int32))] below meth c T55 l55 0 0) (e55 : T55.heap = h0) (N : Fr n0 l55) (hr : own_end d0 true [d3, d4, d5] 3 = r), OG p e below (OFin s (fun v h L => v = some (.int r) ∧ Fr n0 L ∧ h = h0) 0 0) (T55.setTop (mkF m 16 #[.val (.ref a1), .val (.int (0 : Int32)), .val (.ref wE), .val (.int (3 : Int32))] [])) := by
    intro T55 l55 X55 e55 N hr
    refine og_iloadN (pc' := 17) X55 hx rfl (hb hby d9_16) rfl ?_
    refine og_aloadN (pc' := 18) X55 hx rfl rfl (hb hby d9_17) rfl ?_
    refine og_virtual (pc' := 21) (cells' := 0) (slots' := 0) (W := 1) X55 hx hZ (rm_len l Z a0 hw a1 ba kb (6 : Int32) _ cs hcs h0 n0 O E_a1 F_value_a1 F_coder_a1 V_ba S_CS) hown (ow85 hw) (ow86 hw) (own_nf hZ (ow88 hw)) (ow88 hw) (ow87 hw) (ow13 hw) (ow89 hw) (by decide) (by rw [hml]; rfl) e55 opd_0 [] [(.int (3 : Int32))] rfl rfl rfl rfl (by decide) (by decide) rfl rfl (by decide) (by decide) E_a1 (hb hby d9_18) rfl (fun v56 T56 h56 L56 X56 e56 z56 => ?_)
    obtain ⟨rfl, Nq56, hq56⟩ := z56; replace e56 := e56.trans hq56; have N := Fr.app N Nq56
    show OG p e below _ (T56.setTop (mkF m 21 #[.val (.ref a1), .val (.int (0 : Int32)), .val (.ref wE), .val (.int (3 : Int32))] [(.int (6 : Int32)), (.int (3 : Int32))]))
    refine og_icmp_ge (pc1 := 49) (pc2 := 24) X56 hx (hb hby d9_21) (by decide) (by decide) rfl (fun q => absurd q (by decide)) (fun _ => ?_)
    refine og_aloadN (pc' := 25) X56 hx rfl rfl (hb hby d9_24) rfl ?_
    refine og_aloadN (pc' := 26) X56 hx rfl rfl (hb hby d9_25) rfl ?_
    refine og_iloadN (pc' := 27) X56 hx rfl (hb hby d9_26) rfl ?_
    refine og_virtual (pc' := 30) (cells' := 0) (slots' := 0) (W := 1) X56 hx hZ (rm_ch l Z a0 hw a1 ba kb (6 : Int32) (3 : Int32) ⟨by decide, by decide⟩ _ d3 rfl hd3 cs hcs fm hfm h0 n0 O E_a1 F_value_a1 F_coder_a1 V_ba S_CS S_FM) hown (ow47 hw) (ow48 hw) (own_nf hZ (ow50 hw)) (ow50 hw) (ow49 hw) (ow13 hw) (ow51 hw) (by decide) (by rw [hml]; rfl) e56 opd_11 [(.int (3 : Int32))] [(.ref wE)] rfl rfl rfl rfl (by decide) (by decide) rfl rfl (by decide) (by decide) E_a1 (hb hby d9_27) rfl (fun v57 T57 h57 L57 X57 e57 z57 => ?_)
    obtain ⟨rfl, Nq57, hq57⟩ := z57; replace e57 := e57.trans hq57; have N := Fr.app N Nq57
    show OG p e below _ (T57.setTop (mkF m 30 #[.val (.ref a1), .val (.int (0 : Int32)), .val (.ref wE), .val (.int (3 : Int32))] [(.int d3), (.ref wE)]))
    refine og_virtual (pc' := 33) (cells' := 0) (slots' := 0) (W := 0) X57 hx hZ (rm_nxE l Z a0 hw w0 w1 w2 w3 w4 wS wE d0 d3 hq h0 n0 O S_CODE S_SINGLE S_SINGLE_ESCAPED S_DOUBLE S_DOUBLE_ESCAPED E_w0 E_w1 E_w2 E_w3 E_w4 F_w0 F_w1 F_w2 F_w3 F_w4) hown (ow69 hw) (ow70 hw) (own_nf hZ (ow72 hw)) (ow72 hw) (ow71 hw) (ow45 hw) (ow73 hw) (by decide) (by rw [hml]; rfl) e57 opd_12 [(.int d3)] [] rfl rfl rfl rfl (by decide) (by decide) rfl rfl (by decide) (by decide) (E_wE.ext O.2) (hb hby d9_30) rfl (fun v58 T58 h58 L58 X58 e58 z58 => ?_)
    obtain ⟨rfl, Nq58, hq58⟩ := z58; replace e58 := e58.trans hq58; have N := Fr.app N Nq58
    show OG p e below _ (T58.setTop (mkF m 33 #[.val (.ref a1), .val (.int (0 : Int32)), .val (.ref wE), .val (.int (3 : Int32))] [(.ref wS)]))
    refine og_astoreN (pc' := 34) (L' := #[.val (.ref a1), .val (.int (0 : Int32)), .val (.ref wS), .val (.int (3 : Int32))]) X58 hx rfl rfl (hb hby d9_33) rfl ?_
    refine og_aloadN (pc' := 35) X58 hx rfl rfl (hb hby d9_34) rfl ?_
    refine og_getstatic (pc' := 38) X58 hx hZ (host := "") hown (Or.inl (ow44 hw)) Via.refl e58 (S_CODE.ext O.2) (hb hby d9_35) rfl (fun T59 X59 e59 => ?_)
    refine og_acmp_ne (pc1 := 43) (pc2 := 41) X59 hx rfl rfl (hb hby d9_38) (by decide) (by decide) rfl (fun _ => ?_) (fun q => absurd q (fun q => ne_wS_w0 (Value.ref.inj q)))
    refine og_iinc (pc' := 46) (L' := #[.val (.ref a1), .val (.int (0 : Int32)), .val (.ref wS), .val (.int (4 : Int32))]) (w := (1 : Int32)) X59 hx rfl rfl rfl (hb hby d9_43) rfl ?_
    refine og_goto (pc' := 16) X59 hx (hb hby d9_46) (by decide) (by decide) ?_
    exact J4_wS T59 _ X59 e59 N (own_ee.symm.trans hr)
  have J2_wS : ∀ (T60 : State) (l60 : List Loc) (X60 : Stand p l e ({ frames := 4, cells := 0, slots := 0, locals := 54 } : Room) s m #[(.ref a1), (.int (0 : Int32))] below meth c T60 l60 0 0) (e60 : T60.heap = h0) (N : Fr n0 l60) (hr : own_end d0 false [d2, d3, d4, d5] 2 = r), OG p e below (OFin s (fun v h L => v = some (.int r) ∧ Fr n0 L ∧ h = h0) 0 0) (T60.setTop (mkF m 16 #[.val (.ref a1), .val (.int (0 : Int32)), .val (.ref wS), .val (.int (2 : Int32))] [])) := by
    intro T60 l60 X60 e60 N hr
    refine og_iloadN (pc' := 17) X60 hx rfl (hb hby d9_16) rfl ?_
    refine og_aloadN (pc' := 18) X60 hx rfl rfl (hb hby d9_17) rfl ?_
    refine og_virtual (pc' := 21) (cells' := 0) (slots' := 0) (W := 1) X60 hx hZ (rm_len l Z a0 hw a1 ba kb (6 : Int32) _ cs hcs h0 n0 O E_a1 F_value_a1 F_coder_a1 V_ba S_CS) hown (ow85 hw) (ow86 hw) (own_nf hZ (ow88 hw)) (ow88 hw) (ow87 hw) (ow13 hw) (ow89 hw) (by decide) (by rw [hml]; rfl) e60 opd_0 [] [(.int (2 : Int32))] rfl rfl rfl rfl (by decide) (by decide) rfl rfl (by decide) (by decide) E_a1 (hb hby d9_18) rfl (fun v61 T61 h61 L61 X61 e61 z61 => ?_)
    obtain ⟨rfl, Nq61, hq61⟩ := z61; replace e61 := e61.trans hq61; have N := Fr.app N Nq61
    show OG p e below _ (T61.setTop (mkF m 21 #[.val (.ref a1), .val (.int (0 : Int32)), .val (.ref wS), .val (.int (2 : Int32))] [(.int (6 : Int32)), (.int (2 : Int32))]))
    refine og_icmp_ge (pc1 := 49) (pc2 := 24) X61 hx (hb hby d9_21) (by decide) (by decide) rfl (fun q => absurd q (by decide)) (fun _ => ?_)
    refine og_aloadN (pc' := 25) X61 hx rfl rfl (hb hby d9_24) rfl ?_
    refine og_aloadN (pc' := 26) X61 hx rfl rfl (hb hby d9_25) rfl ?_
    refine og_iloadN (pc' := 27) X61 hx rfl (hb hby d9_26) rfl ?_
    refine og_virtual (pc' := 30) (cells' := 0) (slots' := 0) (W := 1) X61 hx hZ (rm_ch l Z a0 hw a1 ba kb (6 : Int32) (2 : Int32) ⟨by decide, by decide⟩ _ d2 rfl hd2 cs hcs fm hfm h0 n0 O E_a1 F_value_a1 F_coder_a1 V_ba S_CS S_FM) hown (ow47 hw) (ow48 hw) (own_nf hZ (ow50 hw)) (ow50 hw) (ow49 hw) (ow13 hw) (ow51 hw) (by decide) (by rw [hml]; rfl) e61 opd_11 [(.int (2 : Int32))] [(.ref wS)] rfl rfl rfl rfl (by decide) (by decide) rfl rfl (by decide) (by decide) E_a1 (hb hby d9_27) rfl (fun v62 T62 h62 L62 X62 e62 z62 => ?_)
    obtain ⟨rfl, Nq62, hq62⟩ := z62; replace e62 := e62.trans hq62; have N := Fr.app N Nq62
    show OG p e below _ (T62.setTop (mkF m 30 #[.val (.ref a1), .val (.int (0 : Int32)), .val (.ref wS), .val (.int (2 : Int32))] [(.int d2), (.ref wS)]))
    by_cases ha : d2 = 92
    ·
      refine og_virtual (pc' := 33) (cells' := 0) (slots' := 0) (W := 0) X62 hx hZ (rm_nxS l Z a0 hw w0 w1 w2 w3 w4 wS wE d0 d2 wE hq (if_pos ha) h0 n0 O S_CODE S_SINGLE S_SINGLE_ESCAPED S_DOUBLE S_DOUBLE_ESCAPED E_w0 E_w1 E_w2 E_w3 E_w4 F_w0 F_w1 F_w2 F_w3 F_w4) hown (ow69 hw) (ow70 hw) (own_nf hZ (ow72 hw)) (ow72 hw) (ow71 hw) (ow45 hw) (ow73 hw) (by decide) (by rw [hml]; rfl) e62 opd_12 [(.int d2)] [] rfl rfl rfl rfl (by decide) (by decide) rfl rfl (by decide) (by decide) (E_wS.ext O.2) (hb hby d9_30) rfl (fun v63 T63 h63 L63 X63 e63 z63 => ?_)
      obtain ⟨rfl, Nq63, hq63⟩ := z63; replace e63 := e63.trans hq63; have N := Fr.app N Nq63
      show OG p e below _ (T63.setTop (mkF m 33 #[.val (.ref a1), .val (.int (0 : Int32)), .val (.ref wS), .val (.int (2 : Int32))] [(.ref wE)]))
      refine og_astoreN (pc' := 34) (L' := #[.val (.ref a1), .val (.int (0 : Int32)), .val (.ref wE), .val (.int (2 : Int32))]) X63 hx rfl rfl (hb hby d9_33) rfl ?_
      refine og_aloadN (pc' := 35) X63 hx rfl rfl (hb hby d9_34) rfl ?_
      refine og_getstatic (pc' := 38) X63 hx hZ (host := "") hown (Or.inl (ow44 hw)) Via.refl e63 (S_CODE.ext O.2) (hb hby d9_35) rfl (fun T64 X64 e64 => ?_)
      refine og_acmp_ne (pc1 := 43) (pc2 := 41) X64 hx rfl rfl (hb hby d9_38) (by decide) (by decide) rfl (fun _ => ?_) (fun q => absurd q (fun q => ne_wE_w0 (Value.ref.inj q)))
      refine og_iinc (pc' := 46) (L' := #[.val (.ref a1), .val (.int (0 : Int32)), .val (.ref wE), .val (.int (3 : Int32))]) (w := (1 : Int32)) X64 hx rfl rfl rfl (hb hby d9_43) rfl ?_
      refine og_goto (pc' := 16) X64 hx (hb hby d9_46) (by decide) (by decide) ?_
      exact J3_wE T64 _ X64 e64 N ((own_e92 ha).symm.trans hr)
    ·
      by_cases hbq : d2 = d0
      ·
        refine og_virtual (pc' := 33) (cells' := 0) (slots' := 0) (W := 0) X62 hx hZ (rm_nxS l Z a0 hw w0 w1 w2 w3 w4 wS wE d0 d2 w0 hq ((if_neg ha).trans (if_pos hbq)) h0 n0 O S_CODE S_SINGLE S_SINGLE_ESCAPED S_DOUBLE S_DOUBLE_ESCAPED E_w0 E_w1 E_w2 E_w3 E_w4 F_w0 F_w1 F_w2 F_w3 F_w4) hown (ow69 hw) (ow70 hw) (own_nf hZ (ow72 hw)) (ow72 hw) (ow71 hw) (ow45 hw) (ow73 hw) (by decide) (by rw [hml]; rfl) e62 opd_12 [(.int d2)] [] rfl rfl rfl rfl (by decide) (by decide) rfl rfl (by decide) (by decide) (E_wS.ext O.2) (hb hby d9_30) rfl (fun v65 T65 h65 L65 X65 e65 z65 => ?_)
        obtain ⟨rfl, Nq65, hq65⟩ := z65; replace e65 := e65.trans hq65; have N := Fr.app N Nq65
        show OG p e below _ (T65.setTop (mkF m 33 #[.val (.ref a1), .val (.int (0 : Int32)), .val (.ref wS), .val (.int (2 : Int32))] [(.ref w0)]))
        refine og_astoreN (pc' := 34) (L' := #[.val (.ref a1), .val (.int (0 : Int32)), .val (.ref w0), .val (.int (2 : Int32))]) X65 hx rfl rfl (hb hby d9_33) rfl ?_
        refine og_aloadN (pc' := 35) X65 hx rfl rfl (hb hby d9_34) rfl ?_
        refine og_getstatic (pc' := 38) X65 hx hZ (host := "") hown (Or.inl (ow44 hw)) Via.refl e65 (S_CODE.ext O.2) (hb hby d9_35) rfl (fun T66 X66 e66 => ?_)
        refine og_acmp_ne (pc1 := 43) (pc2 := 41) X66 hx rfl rfl (hb hby d9_38) (by decide) (by decide) rfl (fun q => absurd rfl q) (fun _ => ?_)
        refine og_iloadN (pc' := 42) X66 hx rfl (hb hby d9_41) rfl ?_
        refine og_retI X66 hx hlk hret (hb hby d9_42) (by decide) (by decide) ?_
        rw [e66]; exact ⟨by rw [← hr, own_eq ha hbq], N, rfl⟩
      ·
        refine og_virtual (pc' := 33) (cells' := 0) (slots' := 0) (W := 0) X62 hx hZ (rm_nxS l Z a0 hw w0 w1 w2 w3 w4 wS wE d0 d2 wS hq ((if_neg ha).trans (if_neg hbq)) h0 n0 O S_CODE S_SINGLE S_SINGLE_ESCAPED S_DOUBLE S_DOUBLE_ESCAPED E_w0 E_w1 E_w2 E_w3 E_w4 F_w0 F_w1 F_w2 F_w3 F_w4) hown (ow69 hw) (ow70 hw) (own_nf hZ (ow72 hw)) (ow72 hw) (ow71 hw) (ow45 hw) (ow73 hw) (by decide) (by rw [hml]; rfl) e62 opd_12 [(.int d2)] [] rfl rfl rfl rfl (by decide) (by decide) rfl rfl (by decide) (by decide) (E_wS.ext O.2) (hb hby d9_30) rfl (fun v67 T67 h67 L67 X67 e67 z67 => ?_)
        obtain ⟨rfl, Nq67, hq67⟩ := z67; replace e67 := e67.trans hq67; have N := Fr.app N Nq67
        show OG p e below _ (T67.setTop (mkF m 33 #[.val (.ref a1), .val (.int (0 : Int32)), .val (.ref wS), .val (.int (2 : Int32))] [(.ref wS)]))
        refine og_astoreN (pc' := 34) (L' := #[.val (.ref a1), .val (.int (0 : Int32)), .val (.ref wS), .val (.int (2 : Int32))]) X67 hx rfl rfl (hb hby d9_33) rfl ?_
        refine og_aloadN (pc' := 35) X67 hx rfl rfl (hb hby d9_34) rfl ?_
        refine og_getstatic (pc' := 38) X67 hx hZ (host := "") hown (Or.inl (ow44 hw)) Via.refl e67 (S_CODE.ext O.2) (hb hby d9_35) rfl (fun T68 X68 e68 => ?_)
        refine og_acmp_ne (pc1 := 43) (pc2 := 41) X68 hx rfl rfl (hb hby d9_38) (by decide) (by decide) rfl (fun _ => ?_) (fun q => absurd q (fun q => ne_wS_w0 (Value.ref.inj q)))
        refine og_iinc (pc' := 46) (L' := #[.val (.ref a1), .val (.int (0 : Int32)), .val (.ref wS), .val (.int (3 : Int32))]) (w := (1 : Int32)) X68 hx rfl rfl rfl (hb hby d9_43) rfl ?_
        refine og_goto (pc' := 16) X68 hx (hb hby d9_46) (by decide) (by decide) ?_
        exact J3_wS T68 _ X68 e68 N ((own_eo ha hbq).symm.trans hr)
  have J2_wE : ∀ (T69 : State) (l69 : List Loc) (X69 : Stand p l e ({ frames := 4, cells := 0, slots := 0, locals := 54 } : Room) s m #[(.ref a1), (.int (0 : Int32))] below meth c T69 l69 0 0) (e69 : T69.heap = h0) (N : Fr n0 l69) (hr : own_end d0 true [d2, d3, d4, d5] 2 = r), OG p e below (OFin s (fun v h L => v = some (.int r) ∧ Fr n0 L ∧ h = h0) 0 0) (T69.setTop (mkF m 16 #[.val (.ref a1), .val (.int (0 : Int32)), .val (.ref wE), .val (.int (2 : Int32))] [])) := by
    intro T69 l69 X69 e69 N hr
    refine og_iloadN (pc' := 17) X69 hx rfl (hb hby d9_16) rfl ?_
    refine og_aloadN (pc' := 18) X69 hx rfl rfl (hb hby d9_17) rfl ?_
    refine og_virtual (pc' := 21) (cells' := 0) (slots' := 0) (W := 1) X69 hx hZ (rm_len l Z a0 hw a1 ba kb (6 : Int32) _ cs hcs h0 n0 O E_a1 F_value_a1 F_coder_a1 V_ba S_CS) hown (ow85 hw) (ow86 hw) (own_nf hZ (ow88 hw)) (ow88 hw) (ow87 hw) (ow13 hw) (ow89 hw) (by decide) (by rw [hml]; rfl) e69 opd_0 [] [(.int (2 : Int32))] rfl rfl rfl rfl (by decide) (by decide) rfl rfl (by decide) (by decide) E_a1 (hb hby d9_18) rfl (fun v70 T70 h70 L70 X70 e70 z70 => ?_)
    obtain ⟨rfl, Nq70, hq70⟩ := z70; replace e70 := e70.trans hq70; have N := Fr.app N Nq70
    show OG p e below _ (T70.setTop (mkF m 21 #[.val (.ref a1), .val (.int (0 : Int32)), .val (.ref wE), .val (.int (2 : Int32))] [(.int (6 : Int32)), (.int (2 : Int32))]))
    refine og_icmp_ge (pc1 := 49) (pc2 := 24) X70 hx (hb hby d9_21) (by decide) (by decide) rfl (fun q => absurd q (by decide)) (fun _ => ?_)
    refine og_aloadN (pc' := 25) X70 hx rfl rfl (hb hby d9_24) rfl ?_
    refine og_aloadN (pc' := 26) X70 hx rfl rfl (hb hby d9_25) rfl ?_
    refine og_iloadN (pc' := 27) X70 hx rfl (hb hby d9_26) rfl ?_
    refine og_virtual (pc' := 30) (cells' := 0) (slots' := 0) (W := 1) X70 hx hZ (rm_ch l Z a0 hw a1 ba kb (6 : Int32) (2 : Int32) ⟨by decide, by decide⟩ _ d2 rfl hd2 cs hcs fm hfm h0 n0 O E_a1 F_value_a1 F_coder_a1 V_ba S_CS S_FM) hown (ow47 hw) (ow48 hw) (own_nf hZ (ow50 hw)) (ow50 hw) (ow49 hw) (ow13 hw) (ow51 hw) (by decide) (by rw [hml]; rfl) e70 opd_11 [(.int (2 : Int32))] [(.ref wE)] rfl rfl rfl rfl (by decide) (by decide) rfl rfl (by decide) (by decide) E_a1 (hb hby d9_27) rfl (fun v71 T71 h71 L71 X71 e71 z71 => ?_)
    obtain ⟨rfl, Nq71, hq71⟩ := z71; replace e71 := e71.trans hq71; have N := Fr.app N Nq71
    show OG p e below _ (T71.setTop (mkF m 30 #[.val (.ref a1), .val (.int (0 : Int32)), .val (.ref wE), .val (.int (2 : Int32))] [(.int d2), (.ref wE)]))
    refine og_virtual (pc' := 33) (cells' := 0) (slots' := 0) (W := 0) X71 hx hZ (rm_nxE l Z a0 hw w0 w1 w2 w3 w4 wS wE d0 d2 hq h0 n0 O S_CODE S_SINGLE S_SINGLE_ESCAPED S_DOUBLE S_DOUBLE_ESCAPED E_w0 E_w1 E_w2 E_w3 E_w4 F_w0 F_w1 F_w2 F_w3 F_w4) hown (ow69 hw) (ow70 hw) (own_nf hZ (ow72 hw)) (ow72 hw) (ow71 hw) (ow45 hw) (ow73 hw) (by decide) (by rw [hml]; rfl) e71 opd_12 [(.int d2)] [] rfl rfl rfl rfl (by decide) (by decide) rfl rfl (by decide) (by decide) (E_wE.ext O.2) (hb hby d9_30) rfl (fun v72 T72 h72 L72 X72 e72 z72 => ?_)
    obtain ⟨rfl, Nq72, hq72⟩ := z72; replace e72 := e72.trans hq72; have N := Fr.app N Nq72
    show OG p e below _ (T72.setTop (mkF m 33 #[.val (.ref a1), .val (.int (0 : Int32)), .val (.ref wE), .val (.int (2 : Int32))] [(.ref wS)]))
    refine og_astoreN (pc' := 34) (L' := #[.val (.ref a1), .val (.int (0 : Int32)), .val (.ref wS), .val (.int (2 : Int32))]) X72 hx rfl rfl (hb hby d9_33) rfl ?_
    refine og_aloadN (pc' := 35) X72 hx rfl rfl (hb hby d9_34) rfl ?_
    refine og_getstatic (pc' := 38) X72 hx hZ (host := "") hown (Or.inl (ow44 hw)) Via.refl e72 (S_CODE.ext O.2) (hb hby d9_35) rfl (fun T73 X73 e73 => ?_)
    refine og_acmp_ne (pc1 := 43) (pc2 := 41) X73 hx rfl rfl (hb hby d9_38) (by decide) (by decide) rfl (fun _ => ?_) (fun q => absurd q (fun q => ne_wS_w0 (Value.ref.inj q)))
    refine og_iinc (pc' := 46) (L' := #[.val (.ref a1), .val (.int (0 : Int32)), .val (.ref wS), .val (.int (3 : Int32))]) (w := (1 : Int32)) X73 hx rfl rfl rfl (hb hby d9_43) rfl ?_
    refine og_goto (pc' := 16) X73 hx (hb hby d9_46) (by decide) (by decide) ?_
    exact J3_wS T73 _ X73 e73 N (own_ee.symm.trans hr)
  have J1_wS : ∀ (T74 : State) (l74 : List Loc) (X74 : Stand p l e ({ frames := 4, cells := 0, slots := 0, locals := 54 } : Room) s m #[(.ref a1), (.int (0 : Int32))] below meth c T74 l74 0 0) (e74 : T74.heap = h0) (N : Fr n0 l74) (hr : own_end d0 false [d1, d2, d3, d4, d5] 1 = r), OG p e below (OFin s (fun v h L => v = some (.int r) ∧ Fr n0 L ∧ h = h0) 0 0) (T74.setTop (mkF m 16 #[.val (.ref a1), .val (.int (0 : Int32)), .val (.ref wS), .val (.int (1 : Int32))] [])) := by
    intro T74 l74 X74 e74 N hr
    refine og_iloadN (pc' := 17) X74 hx rfl (hb hby d9_16) rfl ?_
    refine og_aloadN (pc' := 18) X74 hx rfl rfl (hb hby d9_17) rfl ?_
    refine og_virtual (pc' := 21) (cells' := 0) (slots' := 0) (W := 1) X74 hx hZ (rm_len l Z a0 hw a1 ba kb (6 : Int32) _ cs hcs h0 n0 O E_a1 F_value_a1 F_coder_a1 V_ba S_CS) hown (ow85 hw) (ow86 hw) (own_nf hZ (ow88 hw)) (ow88 hw) (ow87 hw) (ow13 hw) (ow89 hw) (by decide) (by rw [hml]; rfl) e74 opd_0 [] [(.int (1 : Int32))] rfl rfl rfl rfl (by decide) (by decide) rfl rfl (by decide) (by decide) E_a1 (hb hby d9_18) rfl (fun v75 T75 h75 L75 X75 e75 z75 => ?_)
    obtain ⟨rfl, Nq75, hq75⟩ := z75; replace e75 := e75.trans hq75; have N := Fr.app N Nq75
    show OG p e below _ (T75.setTop (mkF m 21 #[.val (.ref a1), .val (.int (0 : Int32)), .val (.ref wS), .val (.int (1 : Int32))] [(.int (6 : Int32)), (.int (1 : Int32))]))
    refine og_icmp_ge (pc1 := 49) (pc2 := 24) X75 hx (hb hby d9_21) (by decide) (by decide) rfl (fun q => absurd q (by decide)) (fun _ => ?_)
    refine og_aloadN (pc' := 25) X75 hx rfl rfl (hb hby d9_24) rfl ?_
    refine og_aloadN (pc' := 26) X75 hx rfl rfl (hb hby d9_25) rfl ?_
    refine og_iloadN (pc' := 27) X75 hx rfl (hb hby d9_26) rfl ?_
    refine og_virtual (pc' := 30) (cells' := 0) (slots' := 0) (W := 1) X75 hx hZ (rm_ch l Z a0 hw a1 ba kb (6 : Int32) (1 : Int32) ⟨by decide, by decide⟩ _ d1 rfl hd1 cs hcs fm hfm h0 n0 O E_a1 F_value_a1 F_coder_a1 V_ba S_CS S_FM) hown (ow47 hw) (ow48 hw) (own_nf hZ (ow50 hw)) (ow50 hw) (ow49 hw) (ow13 hw) (ow51 hw) (by decide) (by rw [hml]; rfl) e75 opd_11 [(.int (1 : Int32))] [(.ref wS)] rfl rfl rfl rfl (by decide) (by decide) rfl rfl (by decide) (by decide) E_a1 (hb hby d9_27) rfl (fun v76 T76 h76 L76 X76 e76 z76 => ?_)
    obtain ⟨rfl, Nq76, hq76⟩ := z76; replace e76 := e76.trans hq76; have N := Fr.app N Nq76
    show OG p e below _ (T76.setTop (mkF m 30 #[.val (.ref a1), .val (.int (0 : Int32)), .val (.ref wS), .val (.int (1 : Int32))] [(.int d1), (.ref wS)]))
    by_cases ha : d1 = 92
    ·
      refine og_virtual (pc' := 33) (cells' := 0) (slots' := 0) (W := 0) X76 hx hZ (rm_nxS l Z a0 hw w0 w1 w2 w3 w4 wS wE d0 d1 wE hq (if_pos ha) h0 n0 O S_CODE S_SINGLE S_SINGLE_ESCAPED S_DOUBLE S_DOUBLE_ESCAPED E_w0 E_w1 E_w2 E_w3 E_w4 F_w0 F_w1 F_w2 F_w3 F_w4) hown (ow69 hw) (ow70 hw) (own_nf hZ (ow72 hw)) (ow72 hw) (ow71 hw) (ow45 hw) (ow73 hw) (by decide) (by rw [hml]; rfl) e76 opd_12 [(.int d1)] [] rfl rfl rfl rfl (by decide) (by decide) rfl rfl (by decide) (by decide) (E_wS.ext O.2) (hb hby d9_30) rfl (fun v77 T77 h77 L77 X77 e77 z77 => ?_)
      obtain ⟨rfl, Nq77, hq77⟩ := z77; replace e77 := e77.trans hq77; have N := Fr.app N Nq77
      show OG p e below _ (T77.setTop (mkF m 33 #[.val (.ref a1), .val (.int (0 : Int32)), .val (.ref wS), .val (.int (1 : Int32))] [(.ref wE)]))
      refine og_astoreN (pc' := 34) (L' := #[.val (.ref a1), .val (.int (0 : Int32)), .val (.ref wE), .val (.int (1 : Int32))]) X77 hx rfl rfl (hb hby d9_33) rfl ?_
      refine og_aloadN (pc' := 35) X77 hx rfl rfl (hb hby d9_34) rfl ?_
      refine og_getstatic (pc' := 38) X77 hx hZ (host := "") hown (Or.inl (ow44 hw)) Via.refl e77 (S_CODE.ext O.2) (hb hby d9_35) rfl (fun T78 X78 e78 => ?_)
      refine og_acmp_ne (pc1 := 43) (pc2 := 41) X78 hx rfl rfl (hb hby d9_38) (by decide) (by decide) rfl (fun _ => ?_) (fun q => absurd q (fun q => ne_wE_w0 (Value.ref.inj q)))
      refine og_iinc (pc' := 46) (L' := #[.val (.ref a1), .val (.int (0 : Int32)), .val (.ref wE), .val (.int (2 : Int32))]) (w := (1 : Int32)) X78 hx rfl rfl rfl (hb hby d9_43) rfl ?_
      refine og_goto (pc' := 16) X78 hx (hb hby d9_46) (by decide) (by decide) ?_
      exact J2_wE T78 _ X78 e78 N ((own_e92 ha).symm.trans hr)
    ·
      by_cases hbq : d1 = d0
      ·
        refine og_virtual (pc' := 33) (cells' := 0) (slots' := 0) (W := 0) X76 hx hZ (rm_nxS l Z a0 hw w0 w1 w2 w3 w4 wS wE d0 d1 w0 hq ((if_neg ha).trans (if_pos hbq)) h0 n0 O S_CODE S_SINGLE S_SINGLE_ESCAPED S_DOUBLE S_DOUBLE_ESCAPED E_w0 E_w1 E_w2 E_w3 E_w4 F_w0 F_w1 F_w2 F_w3 F_w4) hown (ow69 hw) (ow70 hw) (own_nf hZ (ow72 hw)) (ow72 hw) (ow71 hw) (ow45 hw) (ow73 hw) (by decide) (by rw [hml]; rfl) e76 opd_12 [(.int d1)] [] rfl rfl rfl rfl (by decide) (by decide) rfl rfl (by decide) (by decide) (E_wS.ext O.2) (hb hby d9_30) rfl (fun v79 T79 h79 L79 X79 e79 z79 => ?_)
        obtain ⟨rfl, Nq79, hq79⟩ := z79; replace e79 := e79.trans hq79; have N := Fr.app N Nq79
        show OG p e below _ (T79.setTop (mkF m 33 #[.val (.ref a1), .val (.int (0 : Int32)), .val (.ref wS), .val (.int (1 : Int32))] [(.ref w0)]))
        refine og_astoreN (pc' := 34) (L' := #[.val (.ref a1), .val (.int (0 : Int32)), .val (.ref w0), .val (.int (1 : Int32))]) X79 hx rfl rfl (hb hby d9_33) rfl ?_
        refine og_aloadN (pc' := 35) X79 hx rfl rfl (hb hby d9_34) rfl ?_
        refine og_getstatic (pc' := 38) X79 hx hZ (host := "") hown (Or.inl (ow44 hw)) Via.refl e79 (S_CODE.ext O.2) (hb hby d9_35) rfl (fun T80 X80 e80 => ?_)
        refine og_acmp_ne (pc1 := 43) (pc2 := 41) X80 hx rfl rfl (hb hby d9_38) (by decide) (by decide) rfl (fun q => absurd rfl q) (fun _ => ?_)
        refine og_iloadN (pc' := 42) X80 hx rfl (hb hby d9_41) rfl ?_
        refine og_retI X80 hx hlk hret (hb hby d9_42) (by decide) (by decide) ?_
        rw [e80]; exact ⟨by rw [← hr, own_eq ha hbq], N, rfl⟩
      ·
        refine og_virtual (pc' := 33) (cells' := 0) (slots' := 0) (W := 0) X76 hx hZ (rm_nxS l Z a0 hw w0 w1 w2 w3 w4 wS wE d0 d1 wS hq ((if_neg ha).trans (if_neg hbq)) h0 n0 O S_CODE S_SINGLE S_SINGLE_ESCAPED S_DOUBLE S_DOUBLE_ESCAPED E_w0 E_w1 E_w2 E_w3 E_w4 F_w0 F_w1 F_w2 F_w3 F_w4) hown (ow69 hw) (ow70 hw) (own_nf hZ (ow72 hw)) (ow72 hw) (ow71 hw) (ow45 hw) (ow73 hw) (by decide) (by rw [hml]; rfl) e76 opd_12 [(.int d1)] [] rfl rfl rfl rfl (by decide) (by decide) rfl rfl (by decide) (by decide) (E_wS.ext O.2) (hb hby d9_30) rfl (fun v81 T81 h81 L81 X81 e81 z81 => ?_)
        obtain ⟨rfl, Nq81, hq81⟩ := z81; replace e81 := e81.trans hq81; have N := Fr.app N Nq81
        show OG p e below _ (T81.setTop (mkF m 33 #[.val (.ref a1), .val (.int (0 : Int32)), .val (.ref wS), .val (.int (1 : Int32))] [(.ref wS)]))
        refine og_astoreN (pc' := 34) (L' := #[.val (.ref a1), .val (.int (0 : Int32)), .val (.ref wS), .val (.int (1 : Int32))]) X81 hx rfl rfl (hb hby d9_33) rfl ?_
        refine og_aloadN (pc' := 35) X81 hx rfl rfl (hb hby d9_34) rfl ?_
        refine og_getstatic (pc' := 38) X81 hx hZ (host := "") hown (Or.inl (ow44 hw)) Via.refl e81 (S_CODE.ext O.2) (hb hby d9_35) rfl (fun T82 X82 e82 => ?_)
        refine og_acmp_ne (pc1 := 43) (pc2 := 41) X82 hx rfl rfl (hb hby d9_38) (by decide) (by decide) rfl (fun _ => ?_) (fun q => absurd q (fun q => ne_wS_w0 (Value.ref.inj q)))
        refine og_iinc (pc' := 46) (L' := #[.val (.ref a1), .val (.int (0 : Int32)), .val (.ref wS), .val (.int (2 : Int32))]) (w := (1 : Int32)) X82 hx rfl rfl rfl (hb hby d9_43) rfl ?_
        refine og_goto (pc' := 16) X82 hx (hb hby d9_46) (by decide) (by decide) ?_
        exact J2_wS T82 _ X82 e82 N ((own_eo ha hbq).symm.trans hr)
  exact J1_wS T13 _ X13 e13 N hr
theorem rm_se1 (l : Launch) (Z : State) (a0 : Array Value) (hw : HW a0 Z) (a1 ba : Addr) (kb : ClassId) (d0 d1 d2 d3 d4 d5 : Int32) (hd0 : 0 ≤ d0.toInt ∧ d0.toInt ≤ 255) (hd1 : 0 ≤ d1.toInt ∧ d1.toInt ≤ 255) (hd2 : 0 ≤ d2.toInt ∧ d2.toInt ≤ 255) (hd3 : 0 ≤ d3.toInt ∧ d3.toInt ≤ 255) (hd4 : 0 ≤ d4.toInt ∧ d4.toInt ≤ 255) (hd5 : 0 ≤ d5.toInt ∧ d5.toInt ≤ 255) (cs : Int32) (hcs : ¬ cs = 0) (fm : Value) (hfm : fm.isRef = true) (w0 w1 w2 w3 w4 wS wE : Addr) (hq : (d1 = 39 ∧ wS = w1 ∧ wE = w2) ∨ (d1 = 34 ∧ wS = w3 ∧ wE = w4)) (r : Int32) (hr : own_end d1 false [d2, d3, d4, d5] 2 = r) (h0 : Heap) (n0 : Nat) (O : Old Z n0 h0) (E_a1 : Exa Z h0 a1 "java/lang/String") (F_value_a1 : Fld Z h0 a1 "java/lang/String" "value" "[B" (.ref ba)) (F_coder_a1 : Fld Z h0 a1 "java/lang/String" "coder" "B" (.int (0 : Int32))) (V_ba : Arv Z h0 ba kb .byte (6 : Int32) [(.int d0.toInt8.toInt32), (.int d1.toInt8.toInt32), (.int d2.toInt8.toInt32), (.int d3.toInt8.toInt32), (.int d4.toInt8.toInt32), (.int d5.toInt8.toInt32)] (.int (0 : Int32))) (S_CS : Sta Z Z.heap "java/lang/String" "COMPACT_STRINGS" "Z" (.int cs)) (S_FM : Sta Z Z.heap "jdk/internal/util/Preconditions" "SIOOBE_FORMATTER" "Ljava/util/function/BiFunction;" fm) (S_CODE : Sta Z Z.heap "com/example/nitpick/nitpick/internal/interpolation/ExpressionLiterals$Quoting" "CODE" "Lcom/example/nitpick/nitpick/internal/interpolation/ExpressionLiterals$Quoting;" (.ref w0)) (S_SINGLE : Sta Z Z.heap "com/example/nitpick/nitpick/internal/interpolation/ExpressionLiterals$Quoting" "SINGLE" "Lcom/example/nitpick/nitpick/internal/interpolation/ExpressionLiterals$Quoting;" (.ref w1)) (S_SINGLE_ESCAPED : Sta Z Z.heap "com/example/nitpick/nitpick/internal/interpolation/ExpressionLiterals$Quoting" "SINGLE_ESCAPED" "Lcom/example/nitpick/nitpick/internal/interpolation/ExpressionLiterals$Quoting;" (.ref w2)) (S_DOUBLE : Sta Z Z.heap "com/example/nitpick/nitpick/internal/interpolation/ExpressionLiterals$Quoting" "DOUBLE" "Lcom/example/nitpick/nitpick/internal/interpolation/ExpressionLiterals$Quoting;" (.ref w3)) (S_DOUBLE_ESCAPED : Sta Z Z.heap "com/example/nitpick/nitpick/internal/interpolation/ExpressionLiterals$Quoting" "DOUBLE_ESCAPED" "Lcom/example/nitpick/nitpick/internal/interpolation/ExpressionLiterals$Quoting;" (.ref w4)) (E_w0 : Exa Z Z.heap w0 "com/example/nitpick/nitpick/internal/interpolation/ExpressionLiterals$Quoting") (E_w1 : Exa Z Z.heap w1 "com/example/nitpick/nitpick/internal/interpolation/ExpressionLiterals$Quoting") (E_w2 : Exa Z Z.heap w2 "com/example/nitpick/nitpick/internal/interpolation/ExpressionLiterals$Quoting") (E_w3 : Exa Z Z.heap w3 "com/example/nitpick/nitpick/internal/interpolation/ExpressionLiterals$Quoting") (E_w4 : Exa Z Z.heap w4 "com/example/nitpick/nitpick/internal/interpolation/ExpressionLiterals$Quoting") (F_w0 : Fld Z Z.heap w0 "java/lang/Enum" "ordinal" "I" (.int (0 : Int32))) (F_w1 : Fld Z Z.heap w1 "java/lang/Enum" "ordinal" "I" (.int (1 : Int32))) (F_w2 : Fld Z Z.heap w2 "java/lang/Enum" "ordinal" "I" (.int (2 : Int32))) (F_w3 : Fld Z Z.heap w3 "java/lang/Enum" "ordinal" "I" (.int (3 : Int32))) (F_w4 : Fld Z Z.heap w4 "java/lang/Enum" "ordinal" "I" (.int (4 : Int32))) (E_wS : Exa Z Z.heap wS "com/example/nitpick/nitpick/internal/interpolation/ExpressionLiterals$Quoting") (E_wE : Exa Z Z.heap wE "com/example/nitpick/nitpick/internal/interpolation/ExpressionLiterals$Quoting") (ne_wS_w0 : wS ≠ w0) (ne_wE_w0 : wE ≠ w0) :
    Con l Z (⟨"com/example/nitpick/nitpick/internal/interpolation/ExpressionLiterals", "stringEnd", "(Ljava/lang/String;I)I"⟩ : MethodName) prog_59_method_6_code 4 (some .int) ({ frames := 4, cells := 0, slots := 0, locals := 54 } : Room) #[(.ref a1), (.int (1 : Int32))] h0 (fun v h L => v = some (.int r) ∧ Fr n0 L ∧ h = h0) := by
  refine own_startC opn_9 ?_
  intro p e s m below meth c T0 X0 hx hby hml hZ hown hnm hret hlk e0
  have N := Fr.nil n0; have K := Keep.refl h0 []
  refine OG.cast (oef11 m a1 (1 : Int32)) ?_
  refine og_getstatic (pc' := 3) X0 hx hZ (host := "") hown (Or.inl (ow44 hw)) Via.refl e0 (S_CODE.ext O.2) (hb hby d9_0) rfl (fun T11 X11 e11 => ?_)
  refine og_aloadN (pc' := 4) X11 hx rfl rfl (hb hby d9_3) rfl ?_
  refine og_iloadN (pc' := 5) X11 hx rfl (hb hby d9_4) rfl ?_
  refine og_virtual (pc' := 8) (cells' := 0) (slots' := 0) (W := 1) X11 hx hZ (rm_ch l Z a0 hw a1 ba kb (6 : Int32) (1 : Int32) ⟨by decide, by decide⟩ _ d1 rfl hd1 cs hcs fm hfm h0 n0 O E_a1 F_value_a1 F_coder_a1 V_ba S_CS S_FM) hown (ow47 hw) (ow48 hw) (own_nf hZ (ow50 hw)) (ow50 hw) (ow49 hw) (ow13 hw) (ow51 hw) (by decide) (by rw [hml]; rfl) e11 opd_11 [(.int (1 : Int32))] [(.ref w0)] rfl rfl rfl rfl (by decide) (by decide) rfl rfl (by decide) (by decide) E_a1 (hb hby d9_5) rfl (fun v12 T12 h12 L12 X12 e12 z12 => ?_)
  obtain ⟨rfl, Nq12, hq12⟩ := z12; replace e12 := e12.trans hq12; have N := Fr.app N Nq12
  show OG p e below _ (T12.setTop (mkF m 8 #[.val (.ref a1), .val (.int (1 : Int32)), .unset, .unset] [(.int d1), (.ref w0)]))
  refine og_virtual (pc' := 11) (cells' := 0) (slots' := 0) (W := 0) X12 hx hZ (rm_nx0 l Z a0 hw w0 w1 w2 w3 w4 d1 wS (own_nx0 hq) h0 n0 O S_CODE S_SINGLE S_SINGLE_ESCAPED S_DOUBLE S_DOUBLE_ESCAPED E_w0 E_w1 E_w2 E_w3 E_w4 F_w0 F_w1 F_w2 F_w3 F_w4) hown (ow69 hw) (ow70 hw) (own_nf hZ (ow72 hw)) (ow72 hw) (ow71 hw) (ow45 hw) (ow73 hw) (by decide) (by rw [hml]; rfl) e12 opd_12 [(.int d1)] [] rfl rfl rfl rfl (by decide) (by decide) rfl rfl (by decide) (by decide) (E_w0.ext O.2) (hb hby d9_8) rfl (fun v13 T13 h13 L13 X13 e13 z13 => ?_)
  obtain ⟨rfl, Nq13, hq13⟩ := z13; replace e13 := e13.trans hq13; have N := Fr.app N Nq13
  show OG p e below _ (T13.setTop (mkF m 11 #[.val (.ref a1), .val (.int (1 : Int32)), .unset, .unset] [(.ref wS)]))
  refine og_astoreN (pc' := 12) (L' := #[.val (.ref a1), .val (.int (1 : Int32)), .val (.ref wS), .unset]) X13 hx rfl rfl (hb hby d9_11) rfl ?_
  refine og_iloadN (pc' := 13) X13 hx rfl (hb hby d9_12) rfl ?_
  refine og_iconst (pc' := 14) (v := (1 : Int32)) X13 hx rfl (hb hby d9_13) rfl ?_
  refine og_iadd (pc' := 15) X13 hx (hb hby d9_14) rfl ?_
  show OG p e below _ (T13.setTop (mkF m 15 #[.val (.ref a1), .val (.int (1 : Int32)), .val (.ref wS), .unset] [(.int (2 : Int32))]))
  refine og_istoreN (pc' := 16) (L' := #[.val (.ref a1), .val (.int (1 : Int32)), .val (.ref wS), .val (.int (2 : Int32))]) X13 hx rfl (hb hby d9_15) rfl ?_
  have J6_wS : ∀ (T14 : State) (l14 : List Loc) (X14 : Stand p l e ({ frames := 4, cells := 0, slots := 0, locals := 54 } : Room) s m #[(.ref a1), (.int (1 : Int32))] below meth c T14 l14 0 0) (e14 : T14.heap = h0) (N : Fr n0 l14) (hr : own_end d1 false [] 6 = r), OG p e below (OFin s (fun v h L => v = some (.int r) ∧ Fr n0 L ∧ h = h0) 0 0) (T14.setTop (mkF m 16 #[.val (.ref a1), .val (.int (1 : Int32)), .val (.ref wS), .val (.int (6 : Int32))] [])) := by
    intro T14 l14 X14 e14 N hr
    refine og_iloadN (pc' := 17) X14 hx rfl (hb hby d9_16) rfl ?_
    refine og_aloadN (pc' := 18) X14 hx rfl rfl (hb hby d9_17) rfl ?_
    refine og_virtual (pc' := 21) (cells' := 0) (slots' := 0) (W := 1) X14 hx hZ (rm_len l Z a0 hw a1 ba kb (6 : Int32) _ cs hcs h0 n0 O E_a1 F_value_a1 F_coder_a1 V_ba S_CS) hown (ow85 hw) (ow86 hw) (own_nf hZ (ow88 hw)) (ow88 hw) (ow87 hw) (ow13 hw) (ow89 hw) (by decide) (by rw [hml]; rfl) e14 opd_0 [] [(.int (6 : Int32))] rfl rfl rfl rfl (by decide) (by decide) rfl rfl (by decide) (by decide) E_a1 (hb hby d9_18) rfl (fun v15 T15 h15 L15 X15 e15 z15 => ?_)
    obtain ⟨rfl, Nq15, hq15⟩ := z15; replace e15 := e15.trans hq15; have N := Fr.app N Nq15
    show OG p e below _ (T15.setTop (mkF m 21 #[.val (.ref a1), .val (.int (1 : Int32)), .val (.ref wS), .val (.int (6 : Int32))] [(.int (6 : Int32)), (.int (6 : Int32))]))
    refine og_icmp_ge (pc1 := 49) (pc2 := 24) X15 hx (hb hby d9_21) (by decide) (by decide) rfl (fun _ => ?_) (fun q => absurd q (by decide))
    refine og_iconst (pc' := 50) (v := (-1 : Int32)) X15 hx rfl (hb hby d9_49) rfl ?_
    refine og_retI X15 hx hlk hret (hb hby d9_50) (by decide) (by decide) ?_
    rw [e15]; exact ⟨by rw [← hr]; rfl, N, rfl⟩
  have J6_wE : ∀ (T16 : State) (l16 : List Loc) (X16 : Stand p l e ({ frames := 4, cells := 0, slots := 0, locals := 54 } : Room) s m #[(.ref a1), (.int (1 : Int32))] below meth c T16 l16 0 0) (e16 : T16.heap = h0) (N : Fr n0 l16) (hr : own_end d1 true [] 6 = r), OG p e below (OFin s (fun v h L => v = some (.int r) ∧ Fr n0 L ∧ h = h0) 0 0) (T16.setTop (mkF m 16 #[.val (.ref a1), .val (.int (1 : Int32)), .val (.ref wE), .val (.int (6 : Int32))] [])) := by
    intro T16 l16 X16 e16 N hr
    refine og_iloadN (pc' := 17) X16 hx rfl (hb hby d9_16) rfl ?_
    refine og_aloadN (pc' := 18) X16 hx rfl rfl (hb hby d9_17) rfl ?_
    refine og_virtual (pc' := 21) (cells' := 0) (slots' := 0) (W := 1) X16 hx hZ (rm_len l Z a0 hw a1 ba kb (6 : Int32) _ cs hcs h0 n0 O E_a1 F_value_a1 F_coder_a1 V_ba S_CS) hown (ow85 hw) (ow86 hw) (own_nf hZ (ow88 hw)) (ow88 hw) (ow87 hw) (ow13 hw) (ow89 hw) (by decide) (by rw [hml]; rfl) e16 opd_0 [] [(.int (6 : Int32))] rfl rfl rfl rfl (by decide) (by decide) rfl rfl (by decide) (by decide) E_a1 (hb hby d9_18) rfl (fun v17 T17 h17 L17 X17 e17 z17 => ?_)
    obtain ⟨rfl, Nq17, hq17⟩ := z17; replace e17 := e17.trans hq17; have N := Fr.app N Nq17
    show OG p e below _ (T17.setTop (mkF m 21 #[.val (.ref a1), .val (.int (1 : Int32)), .val (.ref wE), .val (.int (6 : Int32))] [(.int (6 : Int32)), (.int (6 : Int32))]))
    refine og_icmp_ge (pc1 := 49) (pc2 := 24) X17 hx (hb hby d9_21) (by decide) (by decide) rfl (fun _ => ?_) (fun q => absurd q (by decide))
    refine og_iconst (pc' := 50) (v := (-1 : Int32)) X17 hx rfl (hb hby d9_49) rfl ?_
    refine og_retI X17 hx hlk hret (hb hby d9_50) (by decide) (by decide) ?_
    rw [e17]; exact ⟨by rw [← hr]; rfl, N, rfl⟩
  have J5_wS : ∀ (T18 : State) (l18 : List Loc) (X18 : Stand p l e ({ frames := 4, cells := 0, slots := 0, locals := 54 } : Room) s m #[(.ref a1), (.int (1 : Int32))] below meth c T18 l18 0 0) (e18 : T18.heap = h0) (N : Fr n0 l18) (hr : own_end d1 false [d5] 5 = r), OG p e below (OFin s (fun v h L => v = some (.int r) ∧ Fr n0 L ∧ h = h0) 0 0) (T18.setTop (mkF m 16 #[.val (.ref a1), .val (.int (1 : Int32)), .val (.ref wS), .val (.int (5 : Int32))] [])) := by
    intro T18 l18 X18 e18 N hr
    refine og_iloadN (pc' := 17) X18 hx rfl (hb hby d9_16) rfl ?_
    refine og_aloadN (pc' := 18) X18 hx rfl rfl (hb hby d9_17) rfl ?_
    refine og_virtual (pc' := 21) (cells' := 0) (slots' := 0) (W := 1) X18 hx hZ (rm_len l Z a0 hw a1 ba kb (6 : Int32) _ cs hcs h0 n0 O E_a1 F_value_a1 F_coder_a1 V_ba S_CS) hown (ow85 hw) (ow86 hw) (own_nf hZ (ow88 hw)) (ow88 hw) (ow87 hw) (ow13 hw) (ow89 hw) (by decide) (by rw [hml]; rfl) e18 opd_0 [] [(.int (5 : Int32))] rfl rfl rfl rfl (by decide) (by decide) rfl rfl (by decide) (by decide) E_a1 (hb hby d9_18) rfl (fun v19 T19 h19 L19 X19 e19 z19 => ?_)
    obtain ⟨rfl, Nq19, hq19⟩ := z19; replace e19 := e19.trans hq19; have N := Fr.app N Nq19
    show OG p e below _ (T19.setTop (mkF m 21 #[.val (.ref a1), .val (.int (1 : Int32)), .val (.ref wS), .val (.int (5 : Int32))] [(.int (6 : Int32)), (.int (5 : Int32))]))
    refine og_icmp_ge (pc1 := 49) (pc2 := 24) X19 hx (hb hby d9_21) (by decide) (by decide) rfl (fun q => absurd q (by decide)) (fun _ => ?_)
    refine og_aloadN (pc' := 25) X19 hx rfl rfl (hb hby d9_24) rfl ?_
    refine og_aloadN (pc' := 26) X19 hx rfl rfl (hb hby d9_25) rfl ?_
    refine og_iloadN (pc' := 27) X19 hx rfl (hb hby d9_26) rfl ?_
    refine og_virtual (pc' := 30) (cells' := 0) (slots' := 0) (W := 1) X19 hx hZ (rm_ch l Z a0 hw a1 ba kb (6 : Int32) (5 : Int32) ⟨by decide, by decide⟩ _ d5 rfl hd5 cs hcs fm hfm h0 n0 O E_a1 F_value_a1 F_coder_a1 V_ba S_CS S_FM) hown (ow47 hw) (ow48 hw) (own_nf hZ (ow50 hw)) (ow50 hw) (ow49 hw) (ow13 hw) (ow51 hw) (by decide) (by rw [hml]; rfl) e19 opd_11 [(.int (5 : Int32))] [(.ref wS)] rfl rfl rfl rfl (by decide) (by decide) rfl rfl (by decide) (by decide) E_a1 (hb hby d9_27) rfl (fun v20 T20 h20 L20 X20 e20 z20 => ?_)
    obtain ⟨rfl, Nq20, hq20⟩ := z20; replace e20 := e20.trans hq20; have N := Fr.app N Nq20
    show OG p e below _ (T20.setTop (mkF m 30 #[.val (.ref a1), .val (.int (1 : Int32)), .val (.ref wS), .val (.int (5 : Int32))] [(.int d5), (.ref wS)]))
    by_cases ha : d5 = 92
    ·
      refine og_virtual (pc' := 33) (cells' := 0) (slots' := 0) (W := 0) X20 hx hZ (rm_nxS l Z a0 hw w0 w1 w2 w3 w4 wS wE d1 d5 wE hq (if_pos ha) h0 n0 O S_CODE S_SINGLE S_SINGLE_ESCAPED S_DOUBLE S_DOUBLE_ESCAPED E_w0 E_w1 E_w2 E_w3 E_w4 F_w0 F_w1 F_w2 F_w3 F_w4) hown (ow69 hw) (ow70 hw) (own_nf hZ (ow72 hw)) (ow72 hw) (ow71 hw) (ow45 hw) (ow73 hw) (by decide) (by rw [hml]; rfl) e20 opd_12 [(.int d5)] [] rfl rfl rfl rfl (by decide) (by decide) rfl rfl (by decide) (by decide) (E_wS.ext O.2) (hb hby d9_30) rfl (fun v21 T21 h21 L21 X21 e21 z21 => ?_)
      obtain ⟨rfl, Nq21, hq21⟩ := z21; replace e21 := e21.trans hq21; have N := Fr.app N Nq21
      show OG p e below _ (T21.setTop (mkF m 33 #[.val (.ref a1), .val (.int (1 : Int32)), .val (.ref wS), .val (.int (5 : Int32))] [(.ref wE)]))
      refine og_astoreN (pc' := 34) (L' := #[.val (.ref a1), .val (.int (1 : Int32)), .val (.ref wE), .val (.int (5 : Int32))]) X21 hx rfl rfl (hb hby d9_33) rfl ?_
      refine og_aloadN (pc' := 35) X21 hx rfl rfl (hb hby d9_34) rfl ?_
      refine og_getstatic (pc' := 38) X21 hx hZ (host := "") hown (Or.inl (ow44 hw)) Via.refl e21 (S_CODE.ext O.2) (hb hby d9_35) rfl (fun T22 X22 e22 => ?_)
      refine og_acmp_ne (pc1 := 43) (pc2 := 41) X22 hx rfl rfl (hb hby d9_38) (by decide) (by decide) rfl (fun _ => ?_) (fun q => absurd q (fun q => ne_wE_w0 (Value.ref.inj q)))
      refine og_iinc (pc' := 46) (L' := #[.val (.ref a1), .val (.int (1 : Int32)), .val (.ref wE), .val (.int (6 : Int32))]) (w := (1 : Int32)) X22 hx rfl rfl rfl (hb hby d9_43) rfl ?_
      refine og_goto (pc' := 16) X22 hx (hb hby d9_46) (by decide) (by decide) ?_
      exact J6_wE T22 _ X22 e22 N ((own_e92 ha).symm.trans hr)
    ·
      by_cases hbq : d5 = d1
      ·
        refine og_virtual (pc' := 33) (cells' := 0) (slots' := 0) (W := 0) X20 hx hZ (rm_nxS l Z a0 hw w0 w1 w2 w3 w4 wS wE d1 d5 w0 hq ((if_neg ha).trans (if_pos hbq)) h0 n0 O S_CODE S_SINGLE S_SINGLE_ESCAPED S_DOUBLE S_DOUBLE_ESCAPED E_w0 E_w1 E_w2 E_w3 E_w4 F_w0 F_w1 F_w2 F_w3 F_w4) hown (ow69 hw) (ow70 hw) (own_nf hZ (ow72 hw)) (ow72 hw) (ow71 hw) (ow45 hw) (ow73 hw) (by decide) (by rw [hml]; rfl) e20 opd_12 [(.int d5)] [] rfl rfl rfl rfl (by decide) (by decide) rfl rfl (by decide) (by decide) (E_wS.ext O.2) (hb hby d9_30) rfl (fun v23 T23 h23 L23 X23 e23 z23 => ?_)
        obtain ⟨rfl, Nq23, hq23⟩ := z23; replace e23 := e23.trans hq23; have N := Fr.app N Nq23
        show OG p e below _ (T23.setTop (mkF m 33 #[.val (.ref a1), .val (.int (1 : Int32)), .val (.ref wS), .val (.int (5 : Int32))] [(.ref w0)]))
        refine og_astoreN (pc' := 34) (L' := #[.val (.ref a1), .val (.int (1 : Int32)), .val (.ref w0), .val (.int (5 : Int32))]) X23 hx rfl rfl (hb hby d9_33) rfl ?_
        refine og_aloadN (pc' := 35) X23 hx rfl rfl (hb hby d9_34) rfl ?_
        refine og_getstatic (pc' := 38) X23 hx hZ (host := "") hown (Or.inl (ow44 hw)) Via.refl e23 (S_CODE.ext O.2) (hb hby d9_35) rfl (fun T24 X24 e24 => ?_)
        refine og_acmp_ne (pc1 := 43) (pc2 := 41) X24 hx rfl rfl (hb hby d9_38) (by decide) (by decide) rfl (fun q => absurd rfl q) (fun _ => ?_)
        refine og_iloadN (pc' := 42) X24 hx rfl (hb hby d9_41) rfl ?_
        refine og_retI X24 hx hlk hret (hb hby d9_42) (by decide) (by decide) ?_
        rw [e24]; exact ⟨by rw [← hr, own_eq ha hbq], N, rfl⟩
      ·
        refine og_virtual (pc' := 33) (cells' := 0) (slots' := 0) (W := 0) X20 hx hZ (rm_nxS l Z a0 hw w0 w1 w2 w3 w4 wS wE d1 d5 wS hq ((if_neg ha).trans (if_neg hbq)) h0 n0 O S_CODE S_SINGLE S_SINGLE_ESCAPED S_DOUBLE S_DOUBLE_ESCAPED E_w0 E_w1 E_w2 E_w3 E_w4 F_w0 F_w1 F_w2 F_w3 F_w4) hown (ow69 hw) (ow70 hw) (own_nf hZ (ow72 hw)) (ow72 hw) (ow71 hw) (ow45 hw) (ow73 hw) (by decide) (by rw [hml]; rfl) e20 opd_12 [(.int d5)] [] rfl rfl rfl rfl (by decide) (by decide) rfl rfl (by decide) (by decide) (E_wS.ext O.2) (hb hby d9_30) rfl (fun v25 T25 h25 L25 X25 e25 z25 => ?_)
        obtain ⟨rfl, Nq25, hq25⟩ := z25; replace e25 := e25.trans hq25; have N := Fr.app N Nq25
        show OG p e below _ (T25.setTop (mkF m 33 #[.val (.ref a1), .val (.int (1 : Int32)), .val (.ref wS), .val (.int (5 : Int32))] [(.ref wS)]))
        refine og_astoreN (pc' := 34) (L' := #[.val (.ref a1), .val (.int (1 : Int32)), .val (.ref wS), .val (.int (5 : Int32))]) X25 hx rfl rfl (hb hby d9_33) rfl ?_
        refine og_aloadN (pc' := 35) X25 hx rfl rfl (hb hby d9_34) rfl ?_
        refine og_getstatic (pc' := 38) X25 hx hZ (host := "") hown (Or.inl (ow44 hw)) Via.refl e25 (S_CODE.ext O.2) (hb hby d9_35) rfl (fun T26 X26 e26 => ?_)
        refine og_acmp_ne (pc1 := 43) (pc2 := 41) X26 hx rfl rfl (hb hby d9_38) (by decide) (by decide) rfl (fun _ => ?_) (fun q => absurd q (fun q => ne_wS_w0 (Value.ref.inj q)))
        refine og_iinc (pc' := 46) (L' := #[.val (.ref a1), .val (.int (1 : Int32)), .val (.ref wS), .val (.int (6 : Int32))]) (w := (1 : Int32)) X26 hx rfl rfl rfl (hb hby d9_43) rfl ?_
        refine og_goto (pc' := 16) X26 hx (hb hby d9_46) (by decide) (by decide) ?_
        exact J6_wS T26 _ X26 e26 N ((own_eo ha hbq).symm.trans hr)
  have J5_wE : ∀ (T27 : State) (l27 : List Loc) (X27 : Stand p l e ({ frames := 4, cells := 0, slots := 0, locals := 54 } : Room) s m #[(.ref a1), (.int (1 : Int32))] below meth c T27 l27 0 0) (e27 : T27.heap = h0) (N : Fr n0 l27) (hr : own_end d1 true [d5] 5 = r), OG p e below (OFin s (fun v h L => v = some (.int r) ∧ Fr n0 L ∧ h = h0) 0 0) (T27.setTop (mkF m 16 #[.val (.ref a1), .val (.int (1 : Int32)), .val (.ref wE), .val (.int (5 : Int32))] [])) := by
    intro T27 l27 X27 e27 N hr
    refine og_iloadN (pc' := 17) X27 hx rfl (hb hby d9_16) rfl ?_
    refine og_aloadN (pc' := 18) X27 hx rfl rfl (hb hby d9_17) rfl ?_
    refine og_virtual (pc' := 21) (cells' := 0) (slots' := 0) (W := 1) X27 hx hZ (rm_len l Z a0 hw a1 ba kb (6 : Int32) _ cs hcs h0 n0 O E_a1 F_value_a1 F_coder_a1 V_ba S_CS) hown (ow85 hw) (ow86 hw) (own_nf hZ (ow88 hw)) (ow88 hw) (ow87 hw) (ow13 hw) (ow89 hw) (by decide) (by rw [hml]; rfl) e27 opd_0 [] [(.int (5 : Int32))] rfl rfl rfl rfl (by decide) (by decide) rfl rfl (by decide) (by decide) E_a1 (hb hby d9_18) rfl (fun v28 T28 h28 L28 X28 e28 z28 => ?_)
    obtain ⟨rfl, Nq28, hq28⟩ := z28; replace e28 := e28.trans hq28; have N := Fr.app N Nq28
    show OG p e below _ (T28.setTop (mkF m 21 #[.val (.ref a1), .val (.int (1 : Int32)), .val (.ref wE), .val (.int (5 : Int32))] [(.int (6 : Int32)), (.int (5 : Int32))]))
    refine og_icmp_ge (pc1 := 49) (pc2 := 24) X28 hx (hb hby d9_21) (by decide) (by decide) rfl (fun q => absurd q (by decide)) (fun _ => ?_)
    refine og_aloadN (pc' := 25) X28 hx rfl rfl (hb hby d9_24) rfl ?_
    refine og_aloadN (pc' := 26) X28 hx rfl rfl (hb hby d9_25) rfl ?_
    refine og_iloadN (pc' := 27) X28 hx rfl (hb hby d9_26) rfl ?_
    refine og_virtual (pc' := 30) (cells' := 0) (slots' := 0) (W := 1) X28 hx hZ (rm_ch l Z a0 hw a1 ba kb (6 : Int32) (5 : Int32) ⟨by decide, by decide⟩ _ d5 rfl hd5 cs hcs fm hfm h0 n0 O E_a1 F_value_a1 F_coder_a1 V_ba S_CS S_FM) hown (ow47 hw) (ow48 hw) (own_nf hZ (ow50 hw)) (ow50 hw) (ow49 hw) (ow13 hw) (ow51 hw) (by decide) (by rw [hml]; rfl) e28 opd_11 [(.int (5 : Int32))] [(.ref wE)] rfl rfl rfl rfl (by decide) (by decide) rfl rfl (by decide) (by decide) E_a1 (hb hby d9_27) rfl (fun v29 T29 h29 L29 X29 e29 z29 => ?_)
    obtain ⟨rfl, Nq29, hq29⟩ := z29; replace e29 := e29.trans hq29; have N := Fr.app N Nq29
    show OG p e below _ (T29.setTop (mkF m 30 #[.val (.ref a1), .val (.int (1 : Int32)), .val (.ref wE), .val (.int (5 : Int32))] [(.int d5), (.ref wE)]))
    refine og_virtual (pc' := 33) (cells' := 0) (slots' := 0) (W := 0) X29 hx hZ (rm_nxE l Z a0 hw w0 w1 w2 w3 w4 wS wE d1 d5 hq h0 n0 O S_CODE S_SINGLE S_SINGLE_ESCAPED S_DOUBLE S_DOUBLE_ESCAPED E_w0 E_w1 E_w2 E_w3 E_w4 F_w0 F_w1 F_w2 F_w3 F_w4) hown (ow69 hw) (ow70 hw) (own_nf hZ (ow72 hw)) (ow72 hw) (ow71 hw) (ow45 hw) (ow73 hw) (by decide) (by rw [hml]; rfl) e29 opd_12 [(.int d5)] [] rfl rfl rfl rfl (by decide) (by decide) rfl rfl (by decide) (by decide) (E_wE.ext O.2) (hb hby d9_30) rfl (fun v30 T30 h30 L30 X30 e30 z30 => ?_)
    obtain ⟨rfl, Nq30, hq30⟩ := z30; replace e30 := e30.trans hq30; have N := Fr.app N Nq30
    show OG p e below _ (T30.setTop (mkF m 33 #[.val (.ref a1), .val (.int (1 : Int32)), .val (.ref wE), .val (.int (5 : Int32))] [(.ref wS)]))
    refine og_astoreN (pc' := 34) (L' := #[.val (.ref a1), .val (.int (1 : Int32)), .val (.ref wS), .val (.int (5 : Int32))]) X30 hx rfl rfl (hb hby d9_33) rfl ?_
    refine og_aloadN (pc' := 35) X30 hx rfl rfl (hb hby d9_34) rfl ?_
    refine og_getstatic (pc' := 38) X30 hx hZ (host := "") hown (Or.inl (ow44 hw)) Via.refl e30 (S_CODE.ext O.2) (hb hby d9_35) rfl (fun T31 X31 e31 => ?_)
    refine og_acmp_ne (pc1 := 43) (pc2 := 41) X31 hx rfl rfl (hb hby d9_38) (by decide) (by decide) rfl (fun _ => ?_) (fun q => absurd q (fun q => ne_wS_w0 (Value.ref.inj q)))
    refine og_iinc (pc' := 46) (L' := #[.val (.ref a1), .val (.int (1 : Int32)), .val (.ref wS), .val (.int (6 : Int32))]) (w := (1 : Int32)) X31 hx rfl rfl rfl (hb hby d9_43) rfl ?_
    refine og_goto (pc' := 16) X31 hx (hb hby d9_46) (by decide) (by decide) ?_
    exact J6_wS T31 _ X31 e31 N (own_ee.symm.trans hr)
  have J4_wS : ∀ (T32 : State) (l32 : List Loc) (X32 : Stand p l e ({ frames := 4, cells := 0, slots := 0, locals := 54 } : Room) s m #[(.ref a1), (.int (1 : Int32))] below meth c T32 l32 0 0) (e32 : T32.heap = h0) (N : Fr n0 l32) (hr : own_end d1 false [d4, d5] 4 = r), OG p e below (OFin s (fun v h L => v = some (.int r) ∧ Fr n0 L ∧ h = h0) 0 0) (T32.setTop (mkF m 16 #[.val (.ref a1), .val (.int (1 : Int32)), .val (.ref wS), .val (.int (4 : Int32))] [])) := by
    intro T32 l32 X32 e32 N hr
    refine og_iloadN (pc' := 17) X32 hx rfl (hb hby d9_16) rfl ?_
    refine og_aloadN (pc' := 18) X32 hx rfl rfl (hb hby d9_17) rfl ?_
    refine og_virtual (pc' := 21) (cells' := 0) (slots' := 0) (W := 1) X32 hx hZ (rm_len l Z a0 hw a1 ba kb (6 : Int32) _ cs hcs h0 n0 O E_a1 F_value_a1 F_coder_a1 V_ba S_CS) hown (ow85 hw) (ow86 hw) (own_nf hZ (ow88 hw)) (ow88 hw) (ow87 hw) (ow13 hw) (ow89 hw) (by decide) (by rw [hml]; rfl) e32 opd_0 [] [(.int (4 : Int32))] rfl rfl rfl rfl (by decide) (by decide) rfl rfl (by decide) (by decide) E_a1 (hb hby d9_18) rfl (fun v33 T33 h33 L33 X33 e33 z33 => ?_)
    obtain ⟨rfl, Nq33, hq33⟩ := z33; replace e33 := e33.trans hq33; have N := Fr.app N Nq33
    show OG p e below _ (T33.setTop (mkF m 21 #[.val (.ref a1), .val (.int (1 : Int32)), .val (.ref wS), .val (.int (4 : Int32))] [(.int (6 : Int32)), (.int (4 : Int32))]))
    refine og_icmp_ge (pc1 := 49) (pc2 := 24) X33 hx (hb hby d9_21) (by decide) (by decide) rfl (fun q => absurd q (by decide)) (fun _ => ?_)
    refine og_aloadN (pc' := 25) X33 hx rfl rfl (hb hby d9_24) rfl ?_
    refine og_aloadN (pc' := 26) X33 hx rfl rfl (hb hby d9_25) rfl ?_
    refine og_iloadN (pc' := 27) X33 hx rfl (hb hby d9_26) rfl ?_
    refine og_virtual (pc' := 30) (cells' := 0) (slots' := 0) (W := 1) X33 hx hZ (rm_ch l Z a0 hw a1 ba kb (6 : Int32) (4 : Int32) ⟨by decide, by decide⟩ _ d4 rfl hd4 cs hcs fm hfm h0 n0 O E_a1 F_value_a1 F_coder_a1 V_ba S_CS S_FM) hown (ow47 hw) (ow48 hw) (own_nf hZ (ow50 hw)) (ow50 hw) (ow49 hw) (ow13 hw) (ow51 hw) (by decide) (by rw [hml]; rfl) e33 opd_11 [(.int (4 : Int32))] [(.ref wS)] rfl rfl rfl rfl (by decide) (by decide) rfl rfl (by decide) (by decide) E_a1 (hb hby d9_27) rfl (fun v34 T34 h34 L34 X34 e34 z34 => ?_)
    obtain ⟨rfl, Nq34, hq34⟩ := z34; replace e34 := e34.trans hq34; have N := Fr.app N Nq34
    show OG p e below _ (T34.setTop (mkF m 30 #[.val (.ref a1), .val (.int (1 : Int32)), .val (.ref wS), .val (.int (4 : Int32))] [(.int d4), (.ref wS)]))
    by_cases ha : d4 = 92
    ·
      refine og_virtual (pc' := 33) (cells' := 0) (slots' := 0) (W := 0) X34 hx hZ (rm_nxS l Z a0 hw w0 w1 w2 w3 w4 wS wE d1 d4 wE hq (if_pos ha) h0 n0 O S_CODE S_SINGLE S_SINGLE_ESCAPED S_DOUBLE S_DOUBLE_ESCAPED E_w0 E_w1 E_w2 E_w3 E_w4 F_w0 F_w1 F_w2 F_w3 F_w4) hown (ow69 hw) (ow70 hw) (own_nf hZ (ow72 hw)) (ow72 hw) (ow71 hw) (ow45 hw) (ow73 hw) (by decide) (by rw [hml]; rfl) e34 opd_12 [(.int d4)] [] rfl rfl rfl rfl (by decide) (by decide) rfl rfl (by decide) (by decide) (E_wS.ext O.2) (hb hby d9_30) rfl (fun v35 T35 h35 L35 X35 e35 z35 => ?_)
      obtain ⟨rfl, Nq35, hq35⟩ := z35; replace e35 := e35.trans hq35; have N := Fr.app N Nq35
      show OG p e below _ (T35.setTop (mkF m 33 #[.val (.ref a1), .val (.int (1 : Int32)), .val (.ref wS), .val (.int (4 : Int32))] [(.ref wE)]))
      refine og_astoreN (pc' := 34) (L' := #[.val (.ref a1), .val (.int (1 : Int32)), .val (.ref wE), .val (.int (4 : Int32))]) X35 hx rfl rfl (hb hby d9_33) rfl ?_
      refine og_aloadN (pc' := 35) X35 hx rfl rfl (hb hby d9_34) rfl ?_
      refine og_getstatic (pc' := 38) X35 hx hZ (host := "") hown (Or.inl (ow44 hw)) Via.refl e35 (S_CODE.ext O.2) (hb hby d9_35) rfl (fun T36 X36 e36 => ?_)
      refine og_acmp_ne (pc1 := 43) (pc2 := 41) X36 hx rfl rfl (hb hby d9_38) (by decide) (by decide) rfl (fun _ => ?_) (fun q => absurd q (fun q => ne_wE_w0 (Value.ref.inj q)))
      refine og_iinc (pc' := 46) (L' := #[.val (.ref a1), .val (.int (1 : Int32)), .val (.ref wE), .val (.int (5 : Int32))]) (w := (1 : Int32)) X36 hx rfl rfl rfl (hb hby d9_43) rfl ?_
      refine og_goto (pc' := 16) X36 hx (hb hby d9_46) (by decide) (by decide) ?_
      exact J5_wE T36 _ X36 e36 N ((own_e92 ha).symm.trans hr)
    ·
      by_cases hbq : d4 = d1
      ·
        refine og_virtual (pc' := 33) (cells' := 0) (slots' := 0) (W := 0) X34 hx hZ (rm_nxS l Z a0 hw w0 w1 w2 w3 w4 wS wE d1 d4 w0 hq ((if_neg ha).trans (if_pos hbq)) h0 n0 O S_CODE S_SINGLE S_SINGLE_ESCAPED S_DOUBLE S_DOUBLE_ESCAPED E_w0 E_w1 E_w2 E_w3 E_w4 F_w0 F_w1 F_w2 F_w3 F_w4) hown (ow69 hw) (ow70 hw) (own_nf hZ (ow72 hw)) (ow72 hw) (ow71 hw) (ow45 hw) (ow73 hw) (by decide) (by rw [hml]; rfl) e34 opd_12 [(.int d4)] [] rfl rfl rfl rfl (by decide) (by decide) rfl rfl (by decide) (by decide) (E_wS.ext O.2) (hb hby d9_30) rfl (fun v37 T37 h37 L37 X37 e37 z37 => ?_)
        obtain ⟨rfl, Nq37, hq37⟩ := z37; replace e37 := e37.trans hq37; have N := Fr.app N Nq37
        show OG p e below _ (T37.setTop (mkF m 33 #[.val (.ref a1), .val (.int (1 : Int32)), .val (.ref wS), .val (.int (4 : Int32))] [(.ref w0)]))
        refine og_astoreN (pc' := 34) (L' := #[.val (.ref a1), .val (.int (1 : Int32)), .val (.ref w0), .val (.int (4 : Int32))]) X37 hx rfl rfl (hb hby d9_33) rfl ?_
        refine og_aloadN (pc' := 35) X37 hx rfl rfl (hb hby d9_34) rfl ?_
        refine og_getstatic (pc' := 38) X37 hx hZ (host := "") hown (Or.inl (ow44 hw)) Via.refl e37 (S_CODE.ext O.2) (hb hby d9_35) rfl (fun T38 X38 e38 => ?_)
        refine og_acmp_ne (pc1 := 43) (pc2 := 41) X38 hx rfl rfl (hb hby d9_38) (by decide) (by decide) rfl (fun q => absurd rfl q) (fun _ => ?_)
        refine og_iloadN (pc' := 42) X38 hx rfl (hb hby d9_41) rfl ?_
        refine og_retI X38 hx hlk hret (hb hby d9_42) (by decide) (by decide) ?_
        rw [e38]; exact ⟨by rw [← hr, own_eq ha hbq], N, rfl⟩
      ·
        refine og_virtual (pc' := 33) (cells' := 0) (slots' := 0) (W := 0) X34 hx hZ (rm_nxS l Z a0 hw w0 w1 w2 w3 w4 wS wE d1 d4 wS hq ((if_neg ha).trans (if_neg hbq)) h0 n0 O S_CODE S_SINGLE S_SINGLE_ESCAPED S_DOUBLE S_DOUBLE_ESCAPED E_w0 E_w1 E_w2 E_w3 E_w4 F_w0 F_w1 F_w2 F_w3 F_w4) hown (ow69 hw) (ow70 hw) (own_nf hZ (ow72 hw)) (ow72 hw) (ow71 hw) (ow45 hw) (ow73 hw) (by decide) (by rw [hml]; rfl) e34 opd_12 [(.int d4)] [] rfl rfl rfl rfl (by decide) (by decide) rfl rfl (by decide) (by decide) (E_wS.ext O.2) (hb hby d9_30) rfl (fun v39 T39 h39 L39 X39 e39 z39 => ?_)
        obtain ⟨rfl, Nq39, hq39⟩ := z39; replace e39 := e39.trans hq39; have N := Fr.app N Nq39
        show OG p e below _ (T39.setTop (mkF m 33 #[.val (.ref a1), .val (.int (1 : Int32)), .val (.ref wS), .val (.int (4 : Int32))] [(.ref wS)]))
        refine og_astoreN (pc' := 34) (L' := #[.val (.ref a1), .val (.int (1 : Int32)), .val (.ref wS), .val (.int (4 : Int32))]) X39 hx rfl rfl (hb hby d9_33) rfl ?_
        refine og_aloadN (pc' := 35) X39 hx rfl rfl (hb hby d9_34) rfl ?_
        refine og_getstatic (pc' := 38) X39 hx hZ (host := "") hown (Or.inl (ow44 hw)) Via.refl e39 (S_CODE.ext O.2) (hb hby d9_35) rfl (fun T40 X40 e40 => ?_)
        refine og_acmp_ne (pc1 := 43) (pc2 := 41) X40 hx rfl rfl (hb hby d9_38) (by decide) (by decide) rfl (fun _ => ?_) (fun q => absurd q (fun q => ne_wS_w0 (Value.ref.inj q)))
        refine og_iinc (pc' := 46) (L' := #[.val (.ref a1), .val (.int (1 : Int32)), .val (.ref wS), .val (.int (5 : Int32))]) (w := (1 : Int32)) X40 hx rfl rfl rfl (hb hby d9_43) rfl ?_
        refine og_goto (pc' := 16) X40 hx (hb hby d9_46) (by decide) (by decide) ?_
        exact J5_wS T40 _ X40 e40 N ((own_eo ha hbq).symm.trans hr)
  have J4_wE : ∀ (T41 : State) (l41 : List Loc) (X41 : Stand p l e ({ frames := 4, cells := 0, slots := 0, locals := 54 } : Room) s m #[(.ref a1), (.int (1 : Int32))] below meth c T41 l41 0 0) (e41 : T41.heap = h0) (N : Fr n0 l41) (hr : own_end d1 true [d4, d5] 4 = r), OG p e below (OFin s (fun v h L => v = some (.int r) ∧ Fr n0 L ∧ h = h0) 0 0) (T41.setTop (mkF m 16 #[.val (.ref a1), .val (.int (1 : Int32)), .val (.ref wE), .val (.int (4 : Int32))] [])) := by
    intro T41 l41 X41 e41 N hr
    refine og_iloadN (pc' := 17) X41 hx rfl (hb hby d9_16) rfl ?_
    refine og_aloadN (pc' := 18) X41 hx rfl rfl (hb hby d9_17) rfl ?_
    refine og_virtual (pc' := 21) (cells' := 0) (slots' := 0) (W := 1) X41 hx hZ (rm_len l Z a0 hw a1 ba kb (6 : Int32) _ cs hcs h0 n0 O E_a1 F_value_a1 F_coder_a1 V_ba S_CS) hown (ow85 hw) (ow86 hw) (own_nf hZ (ow88 hw)) (ow88 hw) (ow87 hw) (ow13 hw) (ow89 hw) (by decide) (by rw [hml]; rfl) e41 opd_0 [] [(.int (4 : Int32))] rfl rfl rfl rfl (by decide) (by decide) rfl rfl (by decide) (by decide) E_a1 (hb hby d9_18) rfl (fun v42 T42 h42 L42 X42 e42 z42 => ?_)
    obtain ⟨rfl, Nq42, hq42⟩ := z42; replace e42 := e42.trans hq42; have N := Fr.app N Nq42
    show OG p e below _ (T42.setTop (mkF m 21 #[.val (.ref a1), .val (.int (1 : Int32)), .val (.ref wE), .val (.int (4 : Int32))] [(.int (6 : Int32)), (.int (4 : Int32))]))
    refine og_icmp_ge (pc1 := 49) (pc2 := 24) X42 hx (hb hby d9_21) (by decide) (by decide) rfl (fun q => absurd q (by decide)) (fun _ => ?_)
    refine og_aloadN (pc' := 25) X42 hx rfl rfl (hb hby d9_24) rfl ?_
    refine og_aloadN (pc' := 26) X42 hx rfl rfl (hb hby d9_25) rfl ?_
    refine og_iloadN (pc' := 27) X42 hx rfl (hb hby d9_26) rfl ?_
    refine og_virtual (pc' := 30) (cells' := 0) (slots' := 0) (W := 1) X42 hx hZ (rm_ch l Z a0 hw a1 ba kb (6 : Int32) (4 : Int32) ⟨by decide, by decide⟩ _ d4 rfl hd4 cs hcs fm hfm h0 n0 O E_a1 F_value_a1 F_coder_a1 V_ba S_CS S_FM) hown (ow47 hw) (ow48 hw) (own_nf hZ (ow50 hw)) (ow50 hw) (ow49 hw) (ow13 hw) (ow51 hw) (by decide) (by rw [hml]; rfl) e42 opd_11 [(.int (4 : Int32))] [(.ref wE)] rfl rfl rfl rfl (by decide) (by decide) rfl rfl (by decide) (by decide) E_a1 (hb hby d9_27) rfl (fun v43 T43 h43 L43 X43 e43 z43 => ?_)
    obtain ⟨rfl, Nq43, hq43⟩ := z43; replace e43 := e43.trans hq43; have N := Fr.app N Nq43
    show OG p e below _ (T43.setTop (mkF m 30 #[.val (.ref a1), .val (.int (1 : Int32)), .val (.ref wE), .val (.int (4 : Int32))] [(.int d4), (.ref wE)]))
    refine og_virtual (pc' := 33) (cells' := 0) (slots' := 0) (W := 0) X43 hx hZ (rm_nxE l Z a0 hw w0 w1 w2 w3 w4 wS wE d1 d4 hq h0 n0 O S_CODE S_SINGLE S_SINGLE_ESCAPED S_DOUBLE S_DOUBLE_ESCAPED E_w0 E_w1 E_w2 E_w3 E_w4 F_w0 F_w1 F_w2 F_w3 F_w4) hown (ow69 hw) (ow70 hw) (own_nf hZ (ow72 hw)) (ow72 hw) (ow71 hw) (ow45 hw) (ow73 hw) (by decide) (by rw [hml]; rfl) e43 opd_12 [(.int d4)] [] rfl rfl rfl rfl (by decide) (by decide) rfl rfl (by decide) (by decide) (E_wE.ext O.2) (hb hby d9_30) rfl (fun v44 T44 h44 L44 X44 e44 z44 => ?_)
    obtain ⟨rfl, Nq44, hq44⟩ := z44; replace e44 := e44.trans hq44; have N := Fr.app N Nq44
    show OG p e below _ (T44.setTop (mkF m 33 #[.val (.ref a1), .val (.int (1 : Int32)), .val (.ref wE), .val (.int (4 : Int32))] [(.ref wS)]))
    refine og_astoreN (pc' := 34) (L' := #[.val (.ref a1), .val (.int (1 : Int32)), .val (.ref wS), .val (.int (4 : Int32))]) X44 hx rfl rfl (hb hby d9_33) rfl ?_
    refine og_aloadN (pc' := 35) X44 hx rfl rfl (hb hby d9_34) rfl ?_
    refine og_getstatic (pc' := 38) X44 hx hZ (host := "") hown (Or.inl (ow44 hw)) Via.refl e44 (S_CODE.ext O.2) (hb hby d9_35) rfl (fun T45 X45 e45 => ?_)
    refine og_acmp_ne (pc1 := 43) (pc2 := 41) X45 hx rfl rfl (hb hby d9_38) (by decide) (by decide) rfl (fun _ => ?_) (fun q => absurd q (fun q => ne_wS_w0 (Value.ref.inj q)))
    refine og_iinc (pc' := 46) (L' := #[.val (.ref a1), .val (.int (1 : Int32)), .val (.ref wS), .val (.int (5 : Int32))]) (w := (1 : Int32)) X45 hx rfl rfl rfl (hb hby d9_43) rfl ?_
    refine og_goto (pc' := 16) X45 hx (hb hby d9_46) (by decide) (by decide) ?_
    exact J5_wS T45 _ X45 e45 N (own_ee.symm.trans hr)
  have J3_wS : ∀ (T46 : State) (l46 : List Loc) (X46 : Stand p l e ({ frames := 4, cells := 0, slots := 0, locals := 54 } : Room) s m #[(.ref a1), (.int (1 : Int32))] below meth c T46 l46 0 0) (e46 : T46.heap = h0) (N : Fr n0 l46) (hr : own_end d1 false [d3, d4, d5] 3 = r), OG p e below (OFin s (fun v h L => v = some (.int r) ∧ Fr n0 L ∧ h = h0) 0 0) (T46.setTop (mkF m 16 #[.val (.ref a1), .val (.int (1 : Int32)), .val (.ref wS), .val (.int (3 : Int32))] [])) := by
    intro T46 l46 X46 e46 N hr
    refine og_iloadN (pc' := 17) X46 hx rfl (hb hby d9_16) rfl ?_
    refine og_aloadN (pc' := 18) X46 hx rfl rfl (hb hby d9_17) rfl ?_
    refine og_virtual (pc' := 21) (cells' := 0) (slots' := 0) (W := 1) X46 hx hZ (rm_len l Z a0 hw a1 ba kb (6 : Int32) _ cs hcs h0 n0 O E_a1 F_value_a1 F_coder_a1 V_ba S_CS) hown (ow85 hw) (ow86 hw) (own_nf hZ (ow88 hw)) (ow88 hw) (ow87 hw) (ow13 hw) (ow89 hw) (by decide) (by rw [hml]; rfl) e46 opd_0 [] [(.int (3 : Int32))] rfl rfl rfl rfl (by decide) (by decide) rfl rfl (by decide) (by decide) E_a1 (hb hby d9_18) rfl (fun v47 T47 h47 L47 X47 e47 z47 => ?_)
    obtain ⟨rfl, Nq47, hq47⟩ := z47; replace e47 := e47.trans hq47; have N := Fr.app N Nq47
    show OG p e below _ (T47.setTop (mkF m 21 #[.val (.ref a1), .val (.int (1 : Int32)), .val (.ref wS), .val (.int (3 : Int32))] [(.int (6 : Int32)), (.int (3 : Int32))]))
    refine og_icmp_ge (pc1 := 49) (pc2 := 24) X47 hx (hb hby d9_21) (by decide) (by decide) rfl (fun q => absurd q (by decide)) (fun _ => ?_)
    refine og_aloadN (pc' := 25) X47 hx rfl rfl (hb hby d9_24) rfl ?_
    refine og_aloadN (pc' := 26) X47 hx rfl rfl (hb hby d9_25) rfl ?_
    refine og_iloadN (pc' := 27) X47 hx rfl (hb hby d9_26) rfl ?_
    refine og_virtual (pc' := 30) (cells' := 0) (slots' := 0) (W := 1) X47 hx hZ (rm_ch l Z a0 hw a1 ba kb (6 : Int32) (3 : Int32) ⟨by decide, by decide⟩ _ d3 rfl hd3 cs hcs fm hfm h0 n0 O E_a1 F_value_a1 F_coder_a1 V_ba S_CS S_FM) hown (ow47 hw) (ow48 hw) (own_nf hZ (ow50 hw)) (ow50 hw) (ow49 hw) (ow13 hw) (ow51 hw) (by decide) (by rw [hml]; rfl) e47 opd_11 [(.int (3 : Int32))] [(.ref wS)] rfl rfl rfl rfl (by decide) (by decide) rfl rfl (by decide) (by decide) E_a1 (hb hby d9_27) rfl (fun v48 T48 h48 L48 X48 e48 z48 => ?_)
    obtain ⟨rfl, Nq48, hq48⟩ := z48; replace e48 := e48.trans hq48; have N := Fr.app N Nq48
    show OG p e below _ (T48.setTop (mkF m 30 #[.val (.ref a1), .val (.int (1 : Int32)), .val (.ref wS), .val (.int (3 : Int32))] [(.int d3), (.ref wS)]))
    by_cases ha : d3 = 92
    ·
      refine og_virtual (pc' := 33) (cells' := 0) (slots' := 0) (W := 0) X48 hx hZ (rm_nxS l Z a0 hw w0 w1 w2 w3 w4 wS wE d1 d3 wE hq (if_pos ha) h0 n0 O S_CODE S_SINGLE S_SINGLE_ESCAPED S_DOUBLE S_DOUBLE_ESCAPED E_w0 E_w1 E_w2 E_w3 E_w4 F_w0 F_w1 F_w2 F_w3 F_w4) hown (ow69 hw) (ow70 hw) (own_nf hZ (ow72 hw)) (ow72 hw) (ow71 hw) (ow45 hw) (ow73 hw) (by decide) (by rw [hml]; rfl) e48 opd_12 [(.int d3)] [] rfl rfl rfl rfl (by decide) (by decide) rfl rfl (by decide) (by decide) (E_wS.ext O.2) (hb hby d9_30) rfl (fun v49 T49 h49 L49 X49 e49 z49 => ?_)
      obtain ⟨rfl, Nq49, hq49⟩ := z49; replace e49 := e49.trans hq49; have N := Fr.app N Nq49
      show OG p e below _ (T49.setTop (mkF m 33 #[.val (.ref a1), .val (.int (1 : Int32)), .val (.ref wS), .val (.int (3 : Int32))] [(.ref wE)]))
      refine og_astoreN (pc' := 34) (L' := #[.val (.ref a1), .val (.int (1 : Int32)), .val (.ref wE), .val (.int (3 : Int32))]) X49 hx rfl rfl (hb hby d9_33) rfl ?_
      refine og_aloadN (pc' := 35) X49 hx rfl rfl (hb hby d9_34) rfl ?_
      refine og_getstatic (pc' := 38) X49 hx hZ (host := "") hown (Or.inl (ow44 hw)) Via.refl e49 (S_CODE.ext O.2) (hb hby d9_35) rfl (fun T50 X50 e50 => ?_)
      refine og_acmp_ne (pc1 := 43) (pc2 := 41) X50 hx rfl rfl (hb hby d9_38) (by decide) (by decide) rfl (fun _ => ?_) (fun q => absurd q (fun q => ne_wE_w0 (Value.ref.inj q)))
      refine og_iinc (pc' := 46) (L' := #[.val (.ref a1), .val (.int (1 : Int32)), .val (.ref wE), .val (.int (4 : Int32))]) (w := (1 : Int32)) X50 hx rfl rfl rfl (hb hby d9_43) rfl ?_
      refine og_goto (pc' := 16) X50 hx (hb hby d9_46) (by decide) (by decide) ?_
      exact J4_wE T50 _ X50 e50 N ((own_e92 ha).symm.trans hr)
    ·
      by_cases hbq : d3 = d1
      ·
        refine og_virtual (pc' := 33) (cells' := 0) (slots' := 0) (W := 0) X48 hx hZ (rm_nxS l Z a0 hw w0 w1 w2 w3 w4 wS wE d1 d3 w0 hq ((if_neg ha).trans (if_pos hbq)) h0 n0 O S_CODE S_SINGLE S_SINGLE_ESCAPED S_DOUBLE S_DOUBLE_ESCAPED E_w0 E_w1 E_w2 E_w3 E_w4 F_w0 F_w1 F_w2 F_w3 F_w4) hown (ow69 hw) (ow70 hw) (own_nf hZ (ow72 hw)) (ow72 hw) (ow71 hw) (ow45 hw) (ow73 hw) (by decide) (by rw [hml]; rfl) e48 opd_12 [(.int d3)] [] rfl rfl rfl rfl (by decide) (by decide) rfl rfl (by decide) (by decide) (E_wS.ext O.2) (hb hby d9_30) rfl (fun v51 T51 h51 L51 X51 e51 z51 => ?_)
        obtain ⟨rfl, Nq51, hq51⟩ := z51; replace e51 := e51.trans hq51; have N := Fr.app N Nq51
        show OG p e below _ (T51.setTop (mkF m 33 #[.val (.ref a1), .val (.int (1 : Int32)), .val (.ref wS), .val (.int (3 : Int32))] [(.ref w0)]))
        refine og_astoreN (pc' := 34) (L' := #[.val (.ref a1), .val (.int (1 : Int32)), .val (.ref w0), .val (.int (3 : Int32))]) X51 hx rfl rfl (hb hby d9_33) rfl ?_
        refine og_aloadN (pc' := 35) X51 hx rfl rfl (hb hby d9_34) rfl ?_
        refine og_getstatic (pc' := 38) X51 hx hZ (host := "") hown (Or.inl (ow44 hw)) Via.refl e51 (S_CODE.ext O.2) (hb hby d9_35) rfl (fun T52 X52 e52 => ?_)
        refine og_acmp_ne (pc1 := 43) (pc2 := 41) X52 hx rfl rfl (hb hby d9_38) (by decide) (by decide) rfl (fun q => absurd rfl q) (fun _ => ?_)
        refine og_iloadN (pc' := 42) X52 hx rfl (hb hby d9_41) rfl ?_
        refine og_retI X52 hx hlk hret (hb hby d9_42) (by decide) (by decide) ?_
        rw [e52]; exact ⟨by rw [← hr, own_eq ha hbq], N, rfl⟩
      ·
        refine og_virtual (pc' := 33) (cells' := 0) (slots' := 0) (W := 0) X48 hx hZ (rm_nxS l Z a0 hw w0 w1 w2 w3 w4 wS wE d1 d3 wS hq ((if_neg ha).trans (if_neg hbq)) h0 n0 O S_CODE S_SINGLE S_SINGLE_ESCAPED S_DOUBLE S_DOUBLE_ESCAPED E_w0 E_w1 E_w2 E_w3 E_w4 F_w0 F_w1 F_w2 F_w3 F_w4) hown (ow69 hw) (ow70 hw) (own_nf hZ (ow72 hw)) (ow72 hw) (ow71 hw) (ow45 hw) (ow73 hw) (by decide) (by rw [hml]; rfl) e48 opd_12 [(.int d3)] [] rfl rfl rfl rfl (by decide) (by decide) rfl rfl (by decide) (by decide) (E_wS.ext O.2) (hb hby d9_30) rfl (fun v53 T53 h53 L53 X53 e53 z53 => ?_)
        obtain ⟨rfl, Nq53, hq53⟩ := z53; replace e53 := e53.trans hq53; have N := Fr.app N Nq53
        show OG p e below _ (T53.setTop (mkF m 33 #[.val (.ref a1), .val (.int (1 : Int32)), .val (.ref wS), .val (.int (3 : Int32))] [(.ref wS)]))
        refine og_astoreN (pc' := 34) (L' := #[.val (.ref a1), .val (.int (1 : Int32)), .val (.ref wS), .val (.int (3 : Int32))]) X53 hx rfl rfl (hb hby d9_33) rfl ?_
        refine og_aloadN (pc' := 35) X53 hx rfl rfl (hb hby d9_34) rfl ?_
        refine og_getstatic (pc' := 38) X53 hx hZ (host := "") hown (Or.inl (ow44 hw)) Via.refl e53 (S_CODE.ext O.2) (hb hby d9_35) rfl (fun T54 X54 e54 => ?_)
        refine og_acmp_ne (pc1 := 43) (pc2 := 41) X54 hx rfl rfl (hb hby d9_38) (by decide) (by decide) rfl (fun _ => ?_) (fun q => absurd q (fun q => ne_wS_w0 (Value.ref.inj q)))
        refine og_iinc (pc' := 46) (L' := #[.val (.ref a1), .val (.int (1 : Int32)), .val (.ref wS), .val (.int (4 : Int32))]) (w := (1 : Int32)) X54 hx rfl rfl rfl (hb hby d9_43) rfl ?_
        refine og_goto (pc' := 16) X54 hx (hb hby d9_46) (by decide) (by decide) ?_
        exact J4_wS T54 _ X54 e54 N ((own_eo ha hbq).symm.trans hr)
  have J3_wE : ∀ (T55 : State) (l55 : List Loc) (X55 : Stand p l e ({ frames := 4, cells := 0, slots := 0, locals := 54 } : Room) s m #[(.ref a1), (.int (1 : Int32))] below meth c T55 l55 0 0) (e55 : T55.heap = h0) (N : Fr n0 l55) (hr : own_end d1 true [d3, d4, d5] 3 = r), OG p e below (OFin s (fun v h L => v = some (.int r) ∧ Fr n0 L ∧ h = h0) 0 0) (T55.setTop (mkF m 16 #[.val (.ref a1), .val (.int (1 : Int32)), .val (.ref wE), .val (.int (3 : Int32))] [])) := by
    intro T55 l55 X55 e55 N hr
    refine og_iloadN (pc' := 17) X55 hx rfl (hb hby d9_16) rfl ?_
    refine og_aloadN (pc' := 18) X55 hx rfl rfl (hb hby d9_17) rfl ?_
    refine og_virtual (pc' := 21) (cells' := 0) (slots' := 0) (W := 1) X55 hx hZ (rm_len l Z a0 hw a1 ba kb (6 : Int32) _ cs hcs h0 n0 O E_a1 F_value_a1 F_coder_a1 V_ba S_CS) hown (ow85 hw) (ow86 hw) (own_nf hZ (ow88 hw)) (ow88 hw) (ow87 hw) (ow13 hw) (ow89 hw) (by decide) (by rw [hml]; rfl) e55 opd_0 [] [(.int (3 : Int32))] rfl rfl rfl rfl (by decide) (by decide) rfl rfl (by decide) (by decide) E_a1 (hb hby d9_18) rfl (fun v56 T56 h56 L56 X56 e56 z56 => ?_)
    obtain ⟨rfl, Nq56, hq56⟩ := z56; replace e56 := e56.trans hq56; have N := Fr.app N Nq56
    show OG p e below _ (T56.setTop (mkF m 21 #[.val (.ref a1), .val (.int (1 : Int32)), .val (.ref wE), .val (.int (3 : Int32))] [(.int (6 : Int32)), (.int (3 : Int32))]))
    refine og_icmp_ge (pc1 := 49) (pc2 := 24) X56 hx (hb hby d9_21) (by decide) (by decide) rfl (fun q => absurd q (by decide)) (fun _ => ?_)
    refine og_aloadN (pc' := 25) X56 hx rfl rfl (hb hby d9_24) rfl ?_
    refine og_aloadN (pc' := 26) X56 hx rfl rfl (hb hby d9_25) rfl ?_
    refine og_iloadN (pc' := 27) X56 hx rfl (hb hby d9_26) rfl ?_
    refine og_virtual (pc' := 30) (cells' := 0) (slots' := 0) (W := 1) X56 hx hZ (rm_ch l Z a0 hw a1 ba kb (6 : Int32) (3 : Int32) ⟨by decide, by decide⟩ _ d3 rfl hd3 cs hcs fm hfm h0 n0 O E_a1 F_value_a1 F_coder_a1 V_ba S_CS S_FM) hown (ow47 hw) (ow48 hw) (own_nf hZ (ow50 hw)) (ow50 hw) (ow49 hw) (ow13 hw) (ow51 hw) (by decide) (by rw [hml]; rfl) e56 opd_11 [(.int (3 : Int32))] [(.ref wE)] rfl rfl rfl rfl (by decide) (by decide) rfl rfl (by decide) (by decide) E_a1 (hb hby d9_27) rfl (fun v57 T57 h57 L57 X57 e57 z57 => ?_)
    obtain ⟨rfl, Nq57, hq57⟩ := z57; replace e57 := e57.trans hq57; have N := Fr.app N Nq57
    show OG p e below _ (T57.setTop (mkF m 30 #[.val (.ref a1), .val (.int (1 : Int32)), .val (.ref wE), .val (.int (3 : Int32))] [(.int d3), (.ref wE)]))
    refine og_virtual (pc' := 33) (cells' := 0) (slots' := 0) (W := 0) X57 hx hZ (rm_nxE l Z a0 hw w0 w1 w2 w3 w4 wS wE d1 d3 hq h0 n0 O S_CODE S_SINGLE S_SINGLE_ESCAPED S_DOUBLE S_DOUBLE_ESCAPED E_w0 E_w1 E_w2 E_w3 E_w4 F_w0 F_w1 F_w2 F_w3 F_w4) hown (ow69 hw) (ow70 hw) (own_nf hZ (ow72 hw)) (ow72 hw) (ow71 hw) (ow45 hw) (ow73 hw) (by decide) (by rw [hml]; rfl) e57 opd_12 [(.int d3)] [] rfl rfl rfl rfl (by decide) (by decide) rfl rfl (by decide) (by decide) (E_wE.ext O.2) (hb hby d9_30) rfl (fun v58 T58 h58 L58 X58 e58 z58 => ?_)
    obtain ⟨rfl, Nq58, hq58⟩ := z58; replace e58 := e58.trans hq58; have N := Fr.app N Nq58
    show OG p e below _ (T58.setTop (mkF m 33 #[.val (.ref a1), .val (.int (1 : Int32)), .val (.ref wE), .val (.int (3 : Int32))] [(.ref wS)]))
    refine og_astoreN (pc' := 34) (L' := #[.val (.ref a1), .val (.int (1 : Int32)), .val (.ref wS), .val (.int (3 : Int32))]) X58 hx rfl rfl (hb hby d9_33) rfl ?_
    refine og_aloadN (pc' := 35) X58 hx rfl rfl (hb hby d9_34) rfl ?_
    refine og_getstatic (pc' := 38) X58 hx hZ (host := "") hown (Or.inl (ow44 hw)) Via.refl e58 (S_CODE.ext O.2) (hb hby d9_35) rfl (fun T59 X59 e59 => ?_)
    refine og_acmp_ne (pc1 := 43) (pc2 := 41) X59 hx rfl rfl (hb hby d9_38) (by decide) (by decide) rfl (fun _ => ?_) (fun q => absurd q (fun q => ne_wS_w0 (Value.ref.inj q)))
    refine og_iinc (pc' := 46) (L' := #[.val (.ref a1), .val (.int (1 : Int32)), .val (.ref wS), .val (.int (4 : Int32))]) (w := (1 : Int32)) X59 hx rfl rfl rfl (hb hby d9_43) rfl ?_
    refine og_goto (pc' := 16) X59 hx (hb hby d9_46) (by decide) (by decide) ?_
    exact J4_wS T59 _ X59 e59 N (own_ee.symm.trans hr)
  have J2_wS : ∀ (T60 : State) (l60 : List Loc) (X60 : Stand p l e ({ frames := 4, cells := 0, slots := 0, locals := 54 } : Room) s m #[(.ref a1), (.int (1 : Int32))] below meth c T60 l60 0 0) (e60 : T60.heap = h0) (N : Fr n0 l60) (hr : own_end d1 false [d2, d3, d4, d5] 2 = r), OG p e below (OFin s (fun v h L => v = some (.int r) ∧ Fr n0 L ∧ h = h0) 0 0) (T60.setTop (mkF m 16 #[.val (.ref a1), .val (.int (1 : Int32)), .val (.ref wS), .val (.int (2 : Int32))] [])) := by
    intro T60 l60 X60 e60 N hr
    refine og_iloadN (pc' := 17) X60 hx rfl (hb hby d9_16) rfl ?_
    refine og_aloadN (pc' := 18) X60 hx rfl rfl (hb hby d9_17) rfl ?_
    refine og_virtual (pc' := 21) (cells' := 0) (slots' := 0) (W := 1) X60 hx hZ (rm_len l Z a0 hw a1 ba kb (6 : Int32) _ cs hcs h0 n0 O E_a1 F_value_a1 F_coder_a1 V_ba S_CS) hown (ow85 hw) (ow86 hw) (own_nf hZ (ow88 hw)) (ow88 hw) (ow87 hw) (ow13 hw) (ow89 hw) (by decide) (by rw [hml]; rfl) e60 opd_0 [] [(.int (2 : Int32))] rfl rfl rfl rfl (by decide) (by decide) rfl rfl (by decide) (by decide) E_a1 (hb hby d9_18) rfl (fun v61 T61 h61 L61 X61 e61 z61 => ?_)
    obtain ⟨rfl, Nq61, hq61⟩ := z61; replace e61 := e61.trans hq61; have N := Fr.app N Nq61
    show OG p e below _ (T61.setTop (mkF m 21 #[.val (.ref a1), .val (.int (1 : Int32)), .val (.ref wS), .val (.int (2 : Int32))] [(.int (6 : Int32)), (.int (2 : Int32))]))
    refine og_icmp_ge (pc1 := 49) (pc2 := 24) X61 hx (hb hby d9_21) (by decide) (by decide) rfl (fun q => absurd q (by decide)) (fun _ => ?_)
    refine og_aloadN (pc' := 25) X61 hx rfl rfl (hb hby d9_24) rfl ?_
    refine og_aloadN (pc' := 26) X61 hx rfl rfl (hb hby d9_25) rfl ?_
    refine og_iloadN (pc' := 27) X61 hx rfl (hb hby d9_26) rfl ?_
    refine og_virtual (pc' := 30) (cells' := 0) (slots' := 0) (W := 1) X61 hx hZ (rm_ch l Z a0 hw a1 ba kb (6 : Int32) (2 : Int32) ⟨by decide, by decide⟩ _ d2 rfl hd2 cs hcs fm hfm h0 n0 O E_a1 F_value_a1 F_coder_a1 V_ba S_CS S_FM) hown (ow47 hw) (ow48 hw) (own_nf hZ (ow50 hw)) (ow50 hw) (ow49 hw) (ow13 hw) (ow51 hw) (by decide) (by rw [hml]; rfl) e61 opd_11 [(.int (2 : Int32))] [(.ref wS)] rfl rfl rfl rfl (by decide) (by decide) rfl rfl (by decide) (by decide) E_a1 (hb hby d9_27) rfl (fun v62 T62 h62 L62 X62 e62 z62 => ?_)
    obtain ⟨rfl, Nq62, hq62⟩ := z62; replace e62 := e62.trans hq62; have N := Fr.app N Nq62
    show OG p e below _ (T62.setTop (mkF m 30 #[.val (.ref a1), .val (.int (1 : Int32)), .val (.ref wS), .val (.int (2 : Int32))] [(.int d2), (.ref wS)]))
    by_cases ha : d2 = 92
    ·
      refine og_virtual (pc' := 33) (cells' := 0) (slots' := 0) (W := 0) X62 hx hZ (rm_nxS l Z a0 hw w0 w1 w2 w3 w4 wS wE d1 d2 wE hq (if_pos ha) h0 n0 O S_CODE S_SINGLE S_SINGLE_ESCAPED S_DOUBLE S_DOUBLE_ESCAPED E_w0 E_w1 E_w2 E_w3 E_w4 F_w0 F_w1 F_w2 F_w3 F_w4) hown (ow69 hw) (ow70 hw) (own_nf hZ (ow72 hw)) (ow72 hw) (ow71 hw) (ow45 hw) (ow73 hw) (by decide) (by rw [hml]; rfl) e62 opd_12 [(.int d2)] [] rfl rfl rfl rfl (by decide) (by decide) rfl rfl (by decide) (by decide) (E_wS.ext O.2) (hb hby d9_30) rfl (fun v63 T63 h63 L63 X63 e63 z63 => ?_)
      obtain ⟨rfl, Nq63, hq63⟩ := z63; replace e63 := e63.trans hq63; have N := Fr.app N Nq63
      show OG p e below _ (T63.setTop (mkF m 33 #[.val (.ref a1), .val (.int (1 : Int32)), .val (.ref wS), .val (.int (2 : Int32))] [(.ref wE)]))
      refine og_astoreN (pc' := 34) (L' := #[.val (.ref a1), .val (.int (1 : Int32)), .val (.ref wE), .val (.int (2 : Int32))]) X63 hx rfl rfl (hb hby d9_33) rfl ?_
      refine og_aloadN (pc' := 35) X63 hx rfl rfl (hb hby d9_34) rfl ?_
      refine og_getstatic (pc' := 38) X63 hx hZ (host := "") hown (Or.inl (ow44 hw)) Via.refl e63 (S_CODE.ext O.2) (hb hby d9_35) rfl (fun T64 X64 e64 => ?_)
      refine og_acmp_ne (pc1 := 43) (pc2 := 41) X64 hx rfl rfl (hb hby d9_38) (by decide) (by decide) rfl (fun _ => ?_) (fun q => absurd q (fun q => ne_wE_w0 (Value.ref.inj q)))
      refine og_iinc (pc' := 46) (L' := #[.val (.ref a1), .val (.int (1 : Int32)), .val (.ref wE), .val (.int (3 : Int32))]) (w := (1 : Int32)) X64 hx rfl rfl rfl (hb hby d9_43) rfl ?_
      refine og_goto (pc' := 16) X64 hx (hb hby d9_46) (by decide) (by decide) ?_
      exact J3_wE T64 _ X64 e64 N ((own_e92 ha).symm.trans hr)
    ·
      by_cases hbq : d2 = d1
      ·
        refine og_virtual (pc' := 33) (cells' := 0) (slots' := 0) (W := 0) X62 hx hZ (rm_nxS l Z a0 hw w0 w1 w2 w3 w4 wS wE d1 d2 w0 hq ((if_neg ha).trans (if_pos hbq)) h0 n0 O S_CODE S_SINGLE S_SINGLE_ESCAPED S_DOUBLE S_DOUBLE_ESCAPED E_w0 E_w1 E_w2 E_w3 E_w4 F_w0 F_w1 F_w2 F_w3 F_w4) hown (ow69 hw) (ow70 hw) (own_nf hZ (ow72 hw)) (ow72 hw) (ow71 hw) (ow45 hw) (ow73 hw) (by decide) (by rw [hml]; rfl) e62 opd_12 [(.int d2)] [] rfl rfl rfl rfl (by decide) (by decide) rfl rfl (by decide) (by decide) (E_wS.ext O.2) (hb hby d9_30) rfl (fun v65 T65 h65 L65 X65 e65 z65 => ?_)
        obtain ⟨rfl, Nq65, hq65⟩ := z65; replace e65 := e65.trans hq65; have N := Fr.app N Nq65
        show OG p e below _ (T65.setTop (mkF m 33 #[.val (.ref a1), .val (.int (1 : Int32)), .val (.ref wS), .val (.int (2 : Int32))] [(.ref w0)]))
        refine og_astoreN (pc' := 34) (L' := #[.val (.ref a1), .val (.int (1 : Int32)), .val (.ref w0), .val (.int (2 : Int32))]) X65 hx rfl rfl (hb hby d9_33) rfl ?_
        refine og_aloadN (pc' := 35) X65 hx rfl rfl (hb hby d9_34) rfl ?_
        refine og_getstatic (pc' := 38) X65 hx hZ (host := "") hown (Or.inl (ow44 hw)) Via.refl e65 (S_CODE.ext O.2) (hb hby d9_35) rfl (fun T66 X66 e66 => ?_)
        refine og_acmp_ne (pc1 := 43) (pc2 := 41) X66 hx rfl rfl (hb hby d9_38) (by decide) (by decide) rfl (fun q => absurd rfl q) (fun _ => ?_)
        refine og_iloadN (pc' := 42) X66 hx rfl (hb hby d9_41) rfl ?_
        refine og_retI X66 hx hlk hret (hb hby d9_42) (by decide) (by decide) ?_
        rw [e66]; exact ⟨by rw [← hr, own_eq ha hbq], N, rfl⟩
      ·
        refine og_virtual (pc' := 33) (cells' := 0) (slots' := 0) (W := 0) X62 hx hZ (rm_nxS l Z a0 hw w0 w1 w2 w3 w4 wS wE d1 d2 wS hq ((if_neg ha).trans (if_neg hbq)) h0 n0 O S_CODE S_SINGLE S_SINGLE_ESCAPED S_DOUBLE S_DOUBLE_ESCAPED E_w0 E_w1 E_w2 E_w3 E_w4 F_w0 F_w1 F_w2 F_w3 F_w4) hown (ow69 hw) (ow70 hw) (own_nf hZ (ow72 hw)) (ow72 hw) (ow71 hw) (ow45 hw) (ow73 hw) (by decide) (by rw [hml]; rfl) e62 opd_12 [(.int d2)] [] rfl rfl rfl rfl (by decide) (by decide) rfl rfl (by decide) (by decide) (E_wS.ext O.2) (hb hby d9_30) rfl (fun v67 T67 h67 L67 X67 e67 z67 => ?_)
        obtain ⟨rfl, Nq67, hq67⟩ := z67; replace e67 := e67.trans hq67; have N := Fr.app N Nq67
        show OG p e below _ (T67.setTop (mkF m 33 #[.val (.ref a1), .val (.int (1 : Int32)), .val (.ref wS), .val (.int (2 : Int32))] [(.ref wS)]))
        refine og_astoreN (pc' := 34) (L' := #[.val (.ref a1), .val (.int (1 : Int32)), .val (.ref wS), .val (.int (2 : Int32))]) X67 hx rfl rfl (hb hby d9_33) rfl ?_
        refine og_aloadN (pc' := 35) X67 hx rfl rfl (hb hby d9_34) rfl ?_
        refine og_getstatic (pc' := 38) X67 hx hZ (host := "") hown (Or.inl (ow44 hw)) Via.refl e67 (S_CODE.ext O.2) (hb hby d9_35) rfl (fun T68 X68 e68 => ?_)
        refine og_acmp_ne (pc1 := 43) (pc2 := 41) X68 hx rfl rfl (hb hby d9_38) (by decide) (by decide) rfl (fun _ => ?_) (fun q => absurd q (fun q => ne_wS_w0 (Value.ref.inj q)))
        refine og_iinc (pc' := 46) (L' := #[.val (.ref a1), .val (.int (1 : Int32)), .val (.ref wS), .val (.int (3 : Int32))]) (w := (1 : Int32)) X68 hx rfl rfl rfl (hb hby d9_43) rfl ?_
        refine og_goto (pc' := 16) X68 hx (hb hby d9_46) (by decide) (by decide) ?_
        exact J3_wS T68 _ X68 e68 N ((own_eo ha hbq).symm.trans hr)
  exact J2_wS T13 _ X13 e13 N hr
theorem rm_se2 (l : Launch) (Z : State) (a0 : Array Value) (hw : HW a0 Z) (a1 ba : Addr) (kb : ClassId) (d0 d1 d2 d3 d4 d5 : Int32) (hd0 : 0 ≤ d0.toInt ∧ d0.toInt ≤ 255) (hd1 : 0 ≤ d1.toInt ∧ d1.toInt ≤ 255) (hd2 : 0 ≤ d2.toInt ∧ d2.toInt ≤ 255) (hd3 : 0 ≤ d3.toInt ∧ d3.toInt ≤ 255) (hd4 : 0 ≤ d4.toInt ∧ d4.toInt ≤ 255) (hd5 : 0 ≤ d5.toInt ∧ d5.toInt ≤ 255) (cs : Int32) (hcs : ¬ cs = 0) (fm : Value) (hfm : fm.isRef = true) (w0 w1 w2 w3 w4 wS wE : Addr) (hq : (d2 = 39 ∧ wS = w1 ∧ wE = w2) ∨ (d2 = 34 ∧ wS = w3 ∧ wE = w4)) (r : Int32) (hr : own_end d2 false [d3, d4, d5] 3 = r) (h0 : Heap) (n0 : Nat) (O : Old Z n0 h0) (E_a1 : Exa Z h0 a1 "java/lang/String") (F_value_a1 : Fld Z h0 a1 "java/lang/String" "value" "[B" (.ref ba)) (F_coder_a1 : Fld Z h0 a1 "java/lang/String" "coder" "B" (.int (0 : Int32))) (V_ba : Arv Z h0 ba kb .byte (6 : Int32) [(.int d0.toInt8.toInt32), (.int d1.toInt8.toInt32), (.int d2.toInt8.toInt32), (.int d3.toInt8.toInt32), (.int d4.toInt8.toInt32), (.int d5.toInt8.toInt32)] (.int (0 : Int32))) (S_CS : Sta Z Z.heap "java/lang/String" "COMPACT_STRINGS" "Z" (.int cs)) (S_FM : Sta Z Z.heap "jdk/internal/util/Preconditions" "SIOOBE_FORMATTER" "Ljava/util/function/BiFunction;" fm) (S_CODE : Sta Z Z.heap "com/example/nitpick/nitpick/internal/interpolation/ExpressionLiterals$Quoting" "CODE" "Lcom/example/nitpick/nitpick/internal/interpolation/ExpressionLiterals$Quoting;" (.ref w0)) (S_SINGLE : Sta Z Z.heap "com/example/nitpick/nitpick/internal/interpolation/ExpressionLiterals$Quoting" "SINGLE" "Lcom/example/nitpick/nitpick/internal/interpolation/ExpressionLiterals$Quoting;" (.ref w1)) (S_SINGLE_ESCAPED : Sta Z Z.heap "com/example/nitpick/nitpick/internal/interpolation/ExpressionLiterals$Quoting" "SINGLE_ESCAPED" "Lcom/example/nitpick/nitpick/internal/interpolation/ExpressionLiterals$Quoting;" (.ref w2)) (S_DOUBLE : Sta Z Z.heap "com/example/nitpick/nitpick/internal/interpolation/ExpressionLiterals$Quoting" "DOUBLE" "Lcom/example/nitpick/nitpick/internal/interpolation/ExpressionLiterals$Quoting;" (.ref w3)) (S_DOUBLE_ESCAPED : Sta Z Z.heap "com/example/nitpick/nitpick/internal/interpolation/ExpressionLiterals$Quoting" "DOUBLE_ESCAPED" "Lcom/example/nitpick/nitpick/internal/interpolation/ExpressionLiterals$Quoting;" (.ref w4)) (E_w0 : Exa Z Z.heap w0 "com/example/nitpick/nitpick/internal/interpolation/ExpressionLiterals$Quoting") (E_w1 : Exa Z Z.heap w1 "com/example/nitpick/nitpick/internal/interpolation/ExpressionLiterals$Quoting") (E_w2 : Exa Z Z.heap w2 "com/example/nitpick/nitpick/internal/interpolation/ExpressionLiterals$Quoting") (E_w3 : Exa Z Z.heap w3 "com/example/nitpick/nitpick/internal/interpolation/ExpressionLiterals$Quoting") (E_w4 : Exa Z Z.heap w4 "com/example/nitpick/nitpick/internal/interpolation/ExpressionLiterals$Quoting") (F_w0 : Fld Z Z.heap w0 "java/lang/Enum" "ordinal" "I" (.int (0 : Int32))) (F_w1 : Fld Z Z.heap w1 "java/lang/Enum" "ordinal" "I" (.int (1 : Int32))) (F_w2 : Fld Z Z.heap w2 "java/lang/Enum" "ordinal" "I" (.int (2 : Int32))) (F_w3 : Fld Z Z.heap w3 "java/lang/Enum" "ordinal" "I" (.int (3 : Int32))) (F_w4 : Fld Z Z.heap w4 "java/lang/Enum" "ordinal" "I" (.int (4 : Int32))) (E_wS : Exa Z Z.heap wS "com/example/nitpick/nitpick/internal/interpolation/ExpressionLiterals$Quoting") (E_wE : Exa Z Z.heap wE "com/example/nitpick/nitpick/internal/interpolation/ExpressionLiterals$Quoting") (ne_wS_w0 : wS ≠ w0) (ne_wE_w0 : wE ≠ w0) :
    Con l Z (⟨"com/example/nitpick/nitpick/internal/interpolation/ExpressionLiterals", "stringEnd", "(Ljava/lang/String;I)I"⟩ : MethodName) prog_59_method_6_code 4 (some .int) ({ frames := 4, cells := 0, slots := 0, locals := 54 } : Room) #[(.ref a1), (.int (2 : Int32))] h0 (fun v h L => v = some (.int r) ∧ Fr n0 L ∧ h = h0) := by
  refine own_startC opn_9 ?_
  intro p e s m below meth c T0 X0 hx hby hml hZ hown hnm hret hlk e0
  have N := Fr.nil n0; have K := Keep.refl h0 []
  refine OG.cast (oef11 m a1 (2 : Int32)) ?_
  refine og_getstatic (pc' := 3) X0 hx hZ (host := "") hown (Or.inl (ow44 hw)) Via.refl e0 (S_CODE.ext O.2) (hb hby d9_0) rfl (fun T11 X11 e11 => ?_)
  refine og_aloadN (pc' := 4) X11 hx rfl rfl (hb hby d9_3) rfl ?_
  refine og_iloadN (pc' := 5) X11 hx rfl (hb hby d9_4) rfl ?_
  refine og_virtual (pc' := 8) (cells' := 0) (slots' := 0) (W := 1) X11 hx hZ (rm_ch l Z a0 hw a1 ba kb (6 : Int32) (2 : Int32) ⟨by decide, by decide⟩ _ d2 rfl hd2 cs hcs fm hfm h0 n0 O E_a1 F_value_a1 F_coder_a1 V_ba S_CS S_FM) hown (ow47 hw) (ow48 hw) (own_nf hZ (ow50 hw)) (ow50 hw) (ow49 hw) (ow13 hw) (ow51 hw) (by decide) (by rw [hml]; rfl) e11 opd_11 [(.int (2 : Int32))] [(.ref w0)] rfl rfl rfl rfl (by decide) (by decide) rfl rfl (by decide) (by decide) E_a1 (hb hby d9_5) rfl (fun v12 T12 h12 L12 X12 e12 z12 => ?_)
  obtain ⟨rfl, Nq12, hq12⟩ := z12; replace e12 := e12.trans hq12; have N := Fr.app N Nq12
  show OG p e below _ (T12.setTop (mkF m 8 #[.val (.ref a1), .val (.int (2 : Int32)), .unset, .unset] [(.int d2), (.ref w0)]))
  refine og_virtual (pc' := 11) (cells' := 0) (slots' := 0) (W := 0) X12 hx hZ (rm_nx0 l Z a0 hw w0 w1 w2 w3 w4 d2 wS (own_nx0 hq) h0 n0 O S_CODE S_SINGLE S_SINGLE_ESCAPED S_DOUBLE S_DOUBLE_ESCAPED E_w0 E_w1 E_w2 E_w3 E_w4 F_w0 F_w1 F_w2 F_w3 F_w4) hown (ow69 hw) (ow70 hw) (own_nf hZ (ow72 hw)) (ow72 hw) (ow71 hw) (ow45 hw) (ow73 hw) (by decide) (by rw [hml]; rfl) e12 opd_12 [(.int d2)] [] rfl rfl rfl rfl (by decide) (by decide) rfl rfl (by decide) (by decide) (E_w0.ext O.2) (hb hby d9_8) rfl (fun v13 T13 h13 L13 X13 e13 z13 => ?_)
  obtain ⟨rfl, Nq13, hq13⟩ := z13; replace e13 := e13.trans hq13; have N := Fr.app N Nq13
  show OG p e below _ (T13.setTop (mkF m 11 #[.val (.ref a1), .val (.int (2 : Int32)), .unset, .unset] [(.ref wS)]))
  refine og_astoreN (pc' := 12) (L' := #[.val (.ref a1), .val (.int (2 : Int32)), .val (.ref wS), .unset]) X13 hx rfl rfl (hb hby d9_11) rfl ?_
  refine og_iloadN (pc' := 13) X13 hx rfl (hb hby d9_12) rfl ?_
  refine og_iconst (pc' := 14) (v := (1 : Int32)) X13 hx rfl (hb hby d9_13) rfl ?_
  refine og_iadd (pc' := 15) X13 hx (hb hby d9_14) rfl ?_
  show OG p e below _ (T13.setTop (mkF m 15 #[.val (.ref a1), .val (.int (2 : Int32)), .val (.ref wS), .unset] [(.int (3 : Int32))]))
  refine og_istoreN (pc' := 16) (L' := #[.val (.ref a1), .val (.int (2 : Int32)), .val (.ref wS), .val (.int (3 : Int32))]) X13 hx rfl (hb hby d9_15) rfl ?_
  have J6_wS : ∀ (T14 : State) (l14 : List Loc) (X14 : Stand p l e ({ frames := 4, cells := 0, slots := 0, locals := 54 } : Room) s m #[(.ref a1), (.int (2 : Int32))] below meth c T14 l14 0 0) (e14 : T14.heap = h0) (N : Fr n0 l14) (hr : own_end d2 false [] 6 = r), OG p e below (OFin s (fun v h L => v = some (.int r) ∧ Fr n0 L ∧ h = h0) 0 0) (T14.setTop (mkF m 16 #[.val (.ref a1), .val (.int (2 : Int32)), .val (.ref wS), .val (.int (6 : Int32))] [])) := by
    intro T14 l14 X14 e14 N hr
    refine og_iloadN (pc' := 17) X14 hx rfl (hb hby d9_16) rfl ?_
    refine og_aloadN (pc' := 18) X14 hx rfl rfl (hb hby d9_17) rfl ?_
    refine og_virtual (pc' := 21) (cells' := 0) (slots' := 0) (W := 1) X14 hx hZ (rm_len l Z a0 hw a1 ba kb (6 : Int32) _ cs hcs h0 n0 O E_a1 F_value_a1 F_coder_a1 V_ba S_CS) hown (ow85 hw) (ow86 hw) (own_nf hZ (ow88 hw)) (ow88 hw) (ow87 hw) (ow13 hw) (ow89 hw) (by decide) (by rw [hml]; rfl) e14 opd_0 [] [(.int (6 : Int32))] rfl rfl rfl rfl (by decide) (by decide) rfl rfl (by decide) (by decide) E_a1 (hb hby d9_18) rfl (fun v15 T15 h15 L15 X15 e15 z15 => ?_)
    obtain ⟨rfl, Nq15, hq15⟩ := z15; replace e15 := e15.trans hq15; have N := Fr.app N Nq15
    show OG p e below _ (T15.setTop (mkF m 21 #[.val (.ref a1), .val (.int (2 : Int32)), .val (.ref wS), .val (.int (6 : Int32))] [(.int (6 : Int32)), (.int (6 : Int32))]))
    refine og_icmp_ge (pc1 := 49) (pc2 := 24) X15 hx (hb hby d9_21) (by decide) (by decide) rfl (fun _ => ?_) (fun q => absurd q (by decide))
    refine og_iconst (pc' := 50) (v := (-1 : Int32)) X15 hx rfl (hb hby d9_49) rfl ?_
    refine og_retI X15 hx hlk hret (hb hby d9_50) (by decide) (by decide) ?_
    rw [e15]; exact ⟨by rw [← hr]; rfl, N, rfl⟩
  have J6_wE : ∀ (T16 : State) (l16 : List Loc) (X16 : Stand p l e ({ frames := 4, cells := 0, slots := 0, locals := 54 } : Room) s m #[(.ref a1), (.int (2 : Int32))] below meth c T16 l16 0 0) (e16 : T16.heap = h0) (N : Fr n0 l16) (hr : own_end d2 true [] 6 = r), OG p e below (OFin s (fun v h L => v = some (.int r) ∧ Fr n0 L ∧ h = h0) 0 0) (T16.setTop (mkF m 16 #[.val (.ref a1), .val (.int (2 : Int32)), .val (.ref wE), .val (.int (6 : Int32))] [])) := by
    intro T16 l16 X16 e16 N hr
    refine og_iloadN (pc' := 17) X16 hx rfl (hb hby d9_16) rfl ?_
    refine og_aloadN (pc' := 18) X16 hx rfl rfl (hb hby d9_17) rfl ?_
    refine og_virtual (pc' := 21) (cells' := 0) (slots' := 0) (W := 1) X16 hx hZ (rm_len l Z a0 hw a1 ba kb (6 : Int32) _ cs hcs h0 n0 O E_a1 F_value_a1 F_coder_a1 V_ba S_CS) hown (ow85 hw) (ow86 hw) (own_nf hZ (ow88 hw)) (ow88 hw) (ow87 hw) (ow13 hw) (ow89 hw) (by decide) (by rw [hml]; rfl) e16 opd_0 [] [(.int (6 : Int32))] rfl rfl rfl rfl (by decide) (by decide) rfl rfl (by decide) (by decide) E_a1 (hb hby d9_18) rfl (fun v17 T17 h17 L17 X17 e17 z17 => ?_)
    obtain ⟨rfl, Nq17, hq17⟩ := z17; replace e17 := e17.trans hq17; have N := Fr.app N Nq17
    show OG p e below _ (T17.setTop (mkF m 21 #[.val (.ref a1), .val (.int (2 : Int32)), .val (.ref wE), .val (.int (6 : Int32))] [(.int (6 : Int32)), (.int (6 : Int32))]))
    refine og_icmp_ge (pc1 := 49) (pc2 := 24) X17 hx (hb hby d9_21) (by decide) (by decide) rfl (fun _ => ?_) (fun q => absurd q (by decide))
    refine og_iconst (pc' := 50) (v := (-1 : Int32)) X17 hx rfl (hb hby d9_49) rfl ?_
    refine og_retI X17 hx hlk hret (hb hby d9_50) (by decide) (by decide) ?_
    rw [e17]; exact ⟨by rw [← hr]; rfl, N, rfl⟩
  have J5_wS : ∀ (T18 : State) (l18 : List Loc) (X18 : Stand p l e ({ frames := 4, cells := 0, slots := 0, locals := 54 } : Room) s m #[(.ref a1), (.int (2 : Int32))] below meth c T18 l18 0 0) (e18 : T18.heap = h0) (N : Fr n0 l18) (hr : own_end d2 false [d5] 5 = r), OG p e below (OFin s (fun v h L => v = some (.int r) ∧ Fr n0 L ∧ h = h0) 0 0) (T18.setTop (mkF m 16 #[.val (.ref a1), .val (.int (2 : Int32)), .val (.ref wS), .val (.int (5 : Int32))] [])) := by
    intro T18 l18 X18 e18 N hr
    refine og_iloadN (pc' := 17) X18 hx rfl (hb hby d9_16) rfl ?_
    refine og_aloadN (pc' := 18) X18 hx rfl rfl (hb hby d9_17) rfl ?_
    refine og_virtual (pc' := 21) (cells' := 0) (slots' := 0) (W := 1) X18 hx hZ (rm_len l Z a0 hw a1 ba kb (6 : Int32) _ cs hcs h0 n0 O E_a1 F_value_a1 F_coder_a1 V_ba S_CS) hown (ow85 hw) (ow86 hw) (own_nf hZ (ow88 hw)) (ow88 hw) (ow87 hw) (ow13 hw) (ow89 hw) (by decide) (by rw [hml]; rfl) e18 opd_0 [] [(.int (5 : Int32))] rfl rfl rfl rfl (by decide) (by decide) rfl rfl (by decide) (by decide) E_a1 (hb hby d9_18) rfl (fun v19 T19 h19 L19 X19 e19 z19 => ?_)
    obtain ⟨rfl, Nq19, hq19⟩ := z19; replace e19 := e19.trans hq19; have N := Fr.app N Nq19
    show OG p e below _ (T19.setTop (mkF m 21 #[.val (.ref a1), .val (.int (2 : Int32)), .val (.ref wS), .val (.int (5 : Int32))] [(.int (6 : Int32)), (.int (5 : Int32))]))
    refine og_icmp_ge (pc1 := 49) (pc2 := 24) X19 hx (hb hby d9_21) (by decide) (by decide) rfl (fun q => absurd q (by decide)) (fun _ => ?_)
    refine og_aloadN (pc' := 25) X19 hx rfl rfl (hb hby d9_24) rfl ?_
    refine og_aloadN (pc' := 26) X19 hx rfl rfl (hb hby d9_25) rfl ?_
    refine og_iloadN (pc' := 27) X19 hx rfl (hb hby d9_26) rfl ?_
    refine og_virtual (pc' := 30) (cells' := 0) (slots' := 0) (W := 1) X19 hx hZ (rm_ch l Z a0 hw a1 ba kb (6 : Int32) (5 : Int32) ⟨by decide, by decide⟩ _ d5 rfl hd5 cs hcs fm hfm h0 n0 O E_a1 F_value_a1 F_coder_a1 V_ba S_CS S_FM) hown (ow47 hw) (ow48 hw) (own_nf hZ (ow50 hw)) (ow50 hw) (ow49 hw) (ow13 hw) (ow51 hw) (by decide) (by rw [hml]; rfl) e19 opd_11 [(.int (5 : Int32))] [(.ref wS)] rfl rfl rfl rfl (by decide) (by decide) rfl rfl (by decide) (by decide) E_a1 (hb hby d9_27) rfl (fun v20 T20 h20 L20 X20 e20 z20 => ?_)
    obtain ⟨rfl, Nq20, hq20⟩ := z20; replace e20 := e20.trans hq20; have N := Fr.app N Nq20
    show OG p e below _ (T20.setTop (mkF m 30 #[.val (.ref a1), .val (.int (2 : Int32)), .val (.ref wS), .val (.int (5 : Int32))] [(.int d5), (.ref wS)]))
    by_cases ha : d5 = 92
    ·
      refine og_virtual (pc' := 33) (cells' := 0) (slots' := 0) (W := 0) X20 hx hZ (rm_nxS l Z a0 hw w0 w1 w2 w3 w4 wS wE d2 d5 wE hq (if_pos ha) h0 n0 O S_CODE S_SINGLE S_SINGLE_ESCAPED S_DOUBLE S_DOUBLE_ESCAPED E_w0 E_w1 E_w2 E_w3 E_w4 F_w0 F_w1 F_w2 F_w3 F_w4) hown (ow69 hw) (ow70 hw) (own_nf hZ (ow72 hw)) (ow72 hw) (ow71 hw) (ow45 hw) (ow73 hw) (by decide) (by rw [hml]; rfl) e20 opd_12 [(.int d5)] [] rfl rfl rfl rfl (by decide) (by decide) rfl rfl (by decide) (by decide) (E_wS.ext O.2) (hb hby d9_30) rfl (fun v21 T21 h21 L21 X21 e21 z21 => ?_)
      obtain ⟨rfl, Nq21, hq21⟩ := z21; replace e21 := e21.trans hq21; have N := Fr.app N Nq21
      show OG p e below _ (T21.setTop (mkF m 33 #[.val (.ref a1), .val (.int (2 : Int32)), .val (.ref wS), .val (.int (5 : Int32))] [(.ref wE)]))
      refine og_astoreN (pc' := 34) (L' := #[.val (.ref a1), .val (.int (2 : Int32)), .val (.ref wE), .val (.int (5 : Int32))]) X21 hx rfl rfl (hb hby d9_33) rfl ?_
      refine og_aloadN (pc' := 35) X21 hx rfl rfl (hb hby d9_34) rfl ?_
      refine og_getstatic (pc' := 38) X21 hx hZ (host := "") hown (Or.inl (ow44 hw)) Via.refl e21 (S_CODE.ext O.2) (hb hby d9_35) rfl (fun T22 X22 e22 => ?_)
      refine og_acmp_ne (pc1 := 43) (pc2 := 41) X22 hx rfl rfl (hb hby d9_38) (by decide) (by decide) rfl (fun _ => ?_) (fun q => absurd q (fun q => ne_wE_w0 (Value.ref.inj q)))
      refine og_iinc (pc' := 46) (L' := #[.val (.ref a1), .val (.int (2 : Int32)), .val (.ref wE), .val (.int (6 : Int32))]) (w := (1 : Int32)) X22 hx rfl rfl rfl (hb hby d9_43) rfl ?_
      refine og_goto (pc' := 16) X22 hx (hb hby d9_46) (by decide) (by decide) ?_
      exact J6_wE T22 _ X22 e22 N ((own_e92 ha).symm.trans hr)
    ·
      by_cases hbq : d5 = d2
      ·
        refine og_virtual (pc' := 33) (cells' := 0) (slots' := 0) (W := 0) X20 hx hZ (rm_nxS l Z a0 hw w0 w1 w2 w3 w4 wS wE d2 d5 w0 hq ((if_neg ha).trans (if_pos hbq)) h0 n0 O S_CODE S_SINGLE S_SINGLE_ESCAPED S_DOUBLE S_DOUBLE_ESCAPED E_w0 E_w1 E_w2 E_w3 E_w4 F_w0 F_w1 F_w2 F_w3 F_w4) hown (ow69 hw) (ow70 hw) (own_nf hZ (ow72 hw)) (ow72 hw) (ow71 hw) (ow45 hw) (ow73 hw) (by decide) (by rw [hml]; rfl) e20 opd_12 [(.int d5)] [] rfl rfl rfl rfl (by decide) (by decide) rfl rfl (by decide) (by decide) (E_wS.ext O.2) (hb hby d9_30) rfl (fun v23 T23 h23 L23 X23 e23 z23 => ?_)
        obtain ⟨rfl, Nq23, hq23⟩ := z23; replace e23 := e23.trans hq23; have N := Fr.app N Nq23
        show OG p e below _ (T23.setTop (mkF m 33 #[.val (.ref a1), .val (.int (2 : Int32)), .val (.ref wS), .val (.int (5 : Int32))] [(.ref w0)]))
        refine og_astoreN (pc' := 34) (L' := #[.val (.ref a1), .val (.int (2 : Int32)), .val (.ref w0), .val (.int (5 : Int32))]) X23 hx rfl rfl (hb hby d9_33) rfl ?_
        refine og_aloadN (pc' := 35) X23 hx rfl rfl (hb hby d9_34) rfl ?_
        refine og_getstatic (pc' := 38) X23 hx hZ (host := "") hown (Or.inl (ow44 hw)) Via.refl e23 (S_CODE.ext O.2) (hb hby d9_35) rfl (fun T24 X24 e24 => ?_)
        refine og_acmp_ne (pc1 := 43) (pc2 := 41) X24 hx rfl rfl (hb hby d9_38) (by decide) (by decide) rfl (fun q => absurd rfl q) (fun _ => ?_)
        refine og_iloadN (pc' := 42) X24 hx rfl (hb hby d9_41) rfl ?_
        refine og_retI X24 hx hlk hret (hb hby d9_42) (by decide) (by decide) ?_
        rw [e24]; exact ⟨by rw [← hr, own_eq ha hbq], N, rfl⟩
      ·
        refine og_virtual (pc' := 33) (cells' := 0) (slots' := 0) (W := 0) X20 hx hZ (rm_nxS l Z a0 hw w0 w1 w2 w3 w4 wS wE d2 d5 wS hq ((if_neg ha).trans (if_neg hbq)) h0 n0 O S_CODE S_SINGLE S_SINGLE_ESCAPED S_DOUBLE S_DOUBLE_ESCAPED E_w0 E_w1 E_w2 E_w3 E_w4 F_w0 F_w1 F_w2 F_w3 F_w4) hown (ow69 hw) (ow70 hw) (own_nf hZ (ow72 hw)) (ow72 hw) (ow71 hw) (ow45 hw) (ow73 hw) (by decide) (by rw [hml]; rfl) e20 opd_12 [(.int d5)] [] rfl rfl rfl rfl (by decide) (by decide) rfl rfl (by decide) (by decide) (E_wS.ext O.2) (hb hby d9_30) rfl (fun v25 T25 h25 L25 X25 e25 z25 => ?_)
        obtain ⟨rfl, Nq25, hq25⟩ := z25; replace e25 := e25.trans hq25; have N := Fr.app N Nq25
        show OG p e below _ (T25.setTop (mkF m 33 #[.val (.ref a1), .val (.int (2 : Int32)), .val (.ref wS), .val (.int (5 : Int32))] [(.ref wS)]))
        refine og_astoreN (pc' := 34) (L' := #[.val (.ref a1), .val (.int (2 : Int32)), .val (.ref wS), .val (.int (5 : Int32))]) X25 hx rfl rfl (hb hby d9_33) rfl ?_
        refine og_aloadN (pc' := 35) X25 hx rfl rfl (hb hby d9_34) rfl ?_
        refine og_getstatic (pc' := 38) X25 hx hZ (host := "") hown (Or.inl (ow44 hw)) Via.refl e25 (S_CODE.ext O.2) (hb hby d9_35) rfl (fun T26 X26 e26 => ?_)
        refine og_acmp_ne (pc1 := 43) (pc2 := 41) X26 hx rfl rfl (hb hby d9_38) (by decide) (by decide) rfl (fun _ => ?_) (fun q => absurd q (fun q => ne_wS_w0 (Value.ref.inj q)))
        refine og_iinc (pc' := 46) (L' := #[.val (.ref a1), .val (.int (2 : Int32)), .val (.ref wS), .val (.int (6 : Int32))]) (w := (1 : Int32)) X26 hx rfl rfl rfl (hb hby d9_43) rfl ?_
        refine og_goto (pc' := 16) X26 hx (hb hby d9_46) (by decide) (by decide) ?_
        exact J6_wS T26 _ X26 e26 N ((own_eo ha hbq).symm.trans hr)
  have J5_wE : ∀ (T27 : State) (l27 : List Loc) (X27 : Stand p l e ({ frames := 4, cells := 0, slots := 0, locals := 54 } : Room) s m #[(.ref a1), (.int (2 : Int32))] below meth c T27 l27 0 0) (e27 : T27.heap = h0) (N : Fr n0 l27) (hr : own_end d2 true [d5] 5 = r), OG p e below (OFin s (fun v h L => v = some (.int r) ∧ Fr n0 L ∧ h = h0) 0 0) (T27.setTop (mkF m 16 #[.val (.ref a1), .val (.int (2 : Int32)), .val (.ref wE), .val (.int (5 : Int32))] [])) := by
    intro T27 l27 X27 e27 N hr
    refine og_iloadN (pc' := 17) X27 hx rfl (hb hby d9_16) rfl ?_
    refine og_aloadN (pc' := 18) X27 hx rfl rfl (hb hby d9_17) rfl ?_
    refine og_virtual (pc' := 21) (cells' := 0) (slots' := 0) (W := 1) X27 hx hZ (rm_len l Z a0 hw a1 ba kb (6 : Int32) _ cs hcs h0 n0 O E_a1 F_value_a1 F_coder_a1 V_ba S_CS) hown (ow85 hw) (ow86 hw) (own_nf hZ (ow88 hw)) (ow88 hw) (ow87 hw) (ow13 hw) (ow89 hw) (by decide) (by rw [hml]; rfl) e27 opd_0 [] [(.int (5 : Int32))] rfl rfl rfl rfl (by decide) (by decide) rfl rfl (by decide) (by decide) E_a1 (hb hby d9_18) rfl (fun v28 T28 h28 L28 X28 e28 z28 => ?_)
    obtain ⟨rfl, Nq28, hq28⟩ := z28; replace e28 := e28.trans hq28; have N := Fr.app N Nq28
    show OG p e below _ (T28.setTop (mkF m 21 #[.val (.ref a1), .val (.int (2 : Int32)), .val (.ref wE), .val (.int (5 : Int32))] [(.int (6 : Int32)), (.int (5 : Int32))]))
    refine og_icmp_ge (pc1 := 49) (pc2 := 24) X28 hx (hb hby d9_21) (by decide) (by decide) rfl (fun q => absurd q (by decide)) (fun _ => ?_)
    refine og_aloadN (pc' := 25) X28 hx rfl rfl (hb hby d9_24) rfl ?_
    refine og_aloadN (pc' := 26) X28 hx rfl rfl (hb hby d9_25) rfl ?_
    refine og_iloadN (pc' := 27) X28 hx rfl (hb hby d9_26) rfl ?_
    refine og_virtual (pc' := 30) (cells' := 0) (slots' := 0) (W := 1) X28 hx hZ (rm_ch l Z a0 hw a1 ba kb (6 : Int32) (5 : Int32) ⟨by decide, by decide⟩ _ d5 rfl hd5 cs hcs fm hfm h0 n0 O E_a1 F_value_a1 F_coder_a1 V_ba S_CS S_FM) hown (ow47 hw) (ow48 hw) (own_nf hZ (ow50 hw)) (ow50 hw) (ow49 hw) (ow13 hw) (ow51 hw) (by decide) (by rw [hml]; rfl) e28 opd_11 [(.int (5 : Int32))] [(.ref wE)] rfl rfl rfl rfl (by decide) (by decide) rfl rfl (by decide) (by decide) E_a1 (hb hby d9_27) rfl (fun v29 T29 h29 L29 X29 e29 z29 => ?_)
    obtain ⟨rfl, Nq29, hq29⟩ := z29; replace e29 := e29.trans hq29; have N := Fr.app N Nq29
    show OG p e below _ (T29.setTop (mkF m 30 #[.val (.ref a1), .val (.int (2 : Int32)), .val (.ref wE), .val (.int (5 : Int32))] [(.int d5), (.ref wE)]))
    refine og_virtual (pc' := 33) (cells' := 0) (slots' := 0) (W := 0) X29 hx hZ (rm_nxE l Z a0 hw w0 w1 w2 w3 w4 wS wE d2 d5 hq h0 n0 O S_CODE S_SINGLE S_SINGLE_ESCAPED S_DOUBLE S_DOUBLE_ESCAPED E_w0 E_w1 E_w2 E_w3 E_w4 F_w0 F_w1 F_w2 F_w3 F_w4) hown (ow69 hw) (ow70 hw) (own_nf hZ (ow72 hw)) (ow72 hw) (ow71 hw) (ow45 hw) (ow73 hw) (by decide) (by rw [hml]; rfl) e29 opd_12 [(.int d5)] [] rfl rfl rfl rfl (by decide) (by decide) rfl rfl (by decide) (by decide) (E_wE.ext O.2) (hb hby d9_30) rfl (fun v30 T30 h30 L30 X30 e30 z30 => ?_)
    obtain ⟨rfl, Nq30, hq30⟩ := z30; replace e30 := e30.trans hq30; have N := Fr.app N Nq30
    show OG p e below _ (T30.setTop (mkF m 33 #[.val (.ref a1), .val (.int (2 : Int32)), .val (.ref wE), .val (.int (5 : Int32))] [(.ref wS)]))
    refine og_astoreN (pc' := 34) (L' := #[.val (.ref a1), .val (.int (2 : Int32)), .val (.ref wS), .val (.int (5 : Int32))]) X30 hx rfl rfl (hb hby d9_33) rfl ?_
    refine og_aloadN (pc' := 35) X30 hx rfl rfl (hb hby d9_34) rfl ?_
    refine og_getstatic (pc' := 38) X30 hx hZ (host := "") hown (Or.inl (ow44 hw)) Via.refl e30 (S_CODE.ext O.2) (hb hby d9_35) rfl (fun T31 X31 e31 => ?_)
    refine og_acmp_ne (pc1 := 43) (pc2 := 41) X31 hx rfl rfl (hb hby d9_38) (by decide) (by decide) rfl (fun _ => ?_) (fun q => absurd q (fun q => ne_wS_w0 (Value.ref.inj q)))
    refine og_iinc (pc' := 46) (L' := #[.val (.ref a1), .val (.int (2 : Int32)), .val (.ref wS), .val (.int (6 : Int32))]) (w := (1 : Int32)) X31 hx rfl rfl rfl (hb hby d9_43) rfl ?_
    refine og_goto (pc' := 16) X31 hx (hb hby d9_46) (by decide) (by decide) ?_
    exact J6_wS T31 _ X31 e31 N (own_ee.symm.trans hr)
  have J4_wS : ∀ (T32 : State) (l32 : List Loc) (X32 : Stand p l e ({ frames := 4, cells := 0, slots := 0, locals := 54 } : Room) s m #[(.ref a1), (.int (2 : Int32))] below meth c T32 l32 0 0) (e32 : T32.heap = h0) (N : Fr n0 l32) (hr : own_end d2 false [d4, d5] 4 = r), OG p e below (OFin s (fun v h L => v = some (.int r) ∧ Fr n0 L ∧ h = h0) 0 0) (T32.setTop (mkF m 16 #[.val (.ref a1), .val (.int (2 : Int32)), .val (.ref wS), .val (.int (4 : Int32))] [])) := by
    intro T32 l32 X32 e32 N hr
    refine og_iloadN (pc' := 17) X32 hx rfl (hb hby d9_16) rfl ?_
    refine og_aloadN (pc' := 18) X32 hx rfl rfl (hb hby d9_17) rfl ?_
    refine og_virtual (pc' := 21) (cells' := 0) (slots' := 0) (W := 1) X32 hx hZ (rm_len l Z a0 hw a1 ba kb (6 : Int32) _ cs hcs h0 n0 O E_a1 F_value_a1 F_coder_a1 V_ba S_CS) hown (ow85 hw) (ow86 hw) (own_nf hZ (ow88 hw)) (ow88 hw) (ow87 hw) (ow13 hw) (ow89 hw) (by decide) (by rw [hml]; rfl) e32 opd_0 [] [(.int (4 : Int32))] rfl rfl rfl rfl (by decide) (by decide) rfl rfl (by decide) (by decide) E_a1 (hb hby d9_18) rfl (fun v33 T33 h33 L33 X33 e33 z33 => ?_)
    obtain ⟨rfl, Nq33, hq33⟩ := z33; replace e33 := e33.trans hq33; have N := Fr.app N Nq33
    show OG p e below _ (T33.setTop (mkF m 21 #[.val (.ref a1), .val (.int (2 : Int32)), .val (.ref wS), .val (.int (4 : Int32))] [(.int (6 : Int32)), (.int (4 : Int32))]))
    refine og_icmp_ge (pc1 := 49) (pc2 := 24) X33 hx (hb hby d9_21) (by decide) (by decide) rfl (fun q => absurd q (by decide)) (fun _ => ?_)
    refine og_aloadN (pc' := 25) X33 hx rfl rfl (hb hby d9_24) rfl ?_
    refine og_aloadN (pc' := 26) X33 hx rfl rfl (hb hby d9_25) rfl ?_
    refine og_iloadN (pc' := 27) X33 hx rfl (hb hby d9_26) rfl ?_
    refine og_virtual (pc' := 30) (cells' := 0) (slots' := 0) (W := 1) X33 hx hZ (rm_ch l Z a0 hw a1 ba kb (6 : Int32) (4 : Int32) ⟨by decide, by decide⟩ _ d4 rfl hd4 cs hcs fm hfm h0 n0 O E_a1 F_value_a1 F_coder_a1 V_ba S_CS S_FM) hown (ow47 hw) (ow48 hw) (own_nf hZ (ow50 hw)) (ow50 hw) (ow49 hw) (ow13 hw) (ow51 hw) (by decide) (by rw [hml]; rfl) e33 opd_11 [(.int (4 : Int32))] [(.ref wS)] rfl rfl rfl rfl (by decide) (by decide) rfl rfl (by decide) (by decide) E_a1 (hb hby d9_27) rfl (fun v34 T34 h34 L34 X34 e34 z34 => ?_)
    obtain ⟨rfl, Nq34, hq34⟩ := z34; replace e34 := e34.trans hq34; have N := Fr.app N Nq34
    show OG p e below _ (T34.setTop (mkF m 30 #[.val (.ref a1), .val (.int (2 : Int32)), .val (.ref wS), .val (.int (4 : Int32))] [(.int d4), (.ref wS)]))
    by_cases ha : d4 = 92
    ·
      refine og_virtual (pc' := 33) (cells' := 0) (slots' := 0) (W := 0) X34 hx hZ (rm_nxS l Z a0 hw w0 w1 w2 w3 w4 wS wE d2 d4 wE hq (if_pos ha) h0 n0 O S_CODE S_SINGLE S_SINGLE_ESCAPED S_DOUBLE S_DOUBLE_ESCAPED E_w0 E_w1 E_w2 E_w3 E_w4 F_w0 F_w1 F_w2 F_w3 F_w4) hown (ow69 hw) (ow70 hw) (own_nf hZ (ow72 hw)) (ow72 hw) (ow71 hw) (ow45 hw) (ow73 hw) (by decide) (by rw [hml]; rfl) e34 opd_12 [(.int d4)] [] rfl rfl rfl rfl (by decide) (by decide) rfl rfl (by decide) (by decide) (E_wS.ext O.2) (hb hby d9_30) rfl (fun v35 T35 h35 L35 X35 e35 z35 => ?_)
      obtain ⟨rfl, Nq35, hq35⟩ := z35; replace e35 := e35.trans hq35; have N := Fr.app N Nq35
      show OG p e below _ (T35.setTop (mkF m 33 #[.val (.ref a1), .val (.int (2 : Int32)), .val (.ref wS), .val (.int (4 : Int32))] [(.ref wE)]))
      refine og_astoreN (pc' := 34) (L' := #[.val (.ref a1), .val (.int (2 : Int32)), .val (.ref wE), .val (.int (4 : Int32))]) X35 hx rfl rfl (hb hby d9_33) rfl ?_
      refine og_aloadN (pc' := 35) X35 hx rfl rfl (hb hby d9_34) rfl ?_
      refine og_getstatic (pc' := 38) X35 hx hZ (host := "") hown (Or.inl (ow44 hw)) Via.refl e35 (S_CODE.ext O.2) (hb hby d9_35) rfl (fun T36 X36 e36 => ?_)
      refine og_acmp_ne (pc1 := 43) (pc2 := 41) X36 hx rfl rfl (hb hby d9_38) (by decide) (by decide) rfl (fun _ => ?_) (fun q => absurd q (fun q => ne_wE_w0 (Value.ref.inj q)))
      refine og_iinc (pc' := 46) (L' := #[.val (.ref a1), .val (.int (2 : Int32)), .val (.ref wE), .val (.int (5 : Int32))]) (w := (1 : Int32)) X36 hx rfl rfl rfl (hb hby d9_43) rfl ?_
      refine og_goto (pc' := 16) X36 hx (hb hby d9_46) (by decide) (by decide) ?_
      exact J5_wE T36 _ X36 e36 N ((own_e92 ha).symm.trans hr)
    ·
      by_cases hbq : d4 = d2
      ·
        refine og_virtual (pc' := 33) (cells' := 0) (slots' := 0) (W := 0) X34 hx hZ (rm_nxS l Z a0 hw w0 w1 w2 w3 w4 wS wE d2 d4 w0 hq ((if_neg ha).trans (if_pos hbq)) h0 n0 O S_CODE S_SINGLE S_SINGLE_ESCAPED S_DOUBLE S_DOUBLE_ESCAPED E_w0 E_w1 E_w2 E_w3 E_w4 F_w0 F_w1 F_w2 F_w3 F_w4) hown (ow69 hw) (ow70 hw) (own_nf hZ (ow72 hw)) (ow72 hw) (ow71 hw) (ow45 hw) (ow73 hw) (by decide) (by rw [hml]; rfl) e34 opd_12 [(.int d4)] [] rfl rfl rfl rfl (by decide) (by decide) rfl rfl (by decide) (by decide) (E_wS.ext O.2) (hb hby d9_30) rfl (fun v37 T37 h37 L37 X37 e37 z37 => ?_)
        obtain ⟨rfl, Nq37, hq37⟩ := z37; replace e37 := e37.trans hq37; have N := Fr.app N Nq37
        show OG p e below _ (T37.setTop (mkF m 33 #[.val (.ref a1), .val (.int (2 : Int32)), .val (.ref wS), .val (.int (4 : Int32))] [(.ref w0)]))
        refine og_astoreN (pc' := 34) (L' := #[.val (.ref a1), .val (.int (2 : Int32)), .val (.ref w0), .val (.int (4 : Int32))]) X37 hx rfl rfl (hb hby d9_33) rfl ?_
        refine og_aloadN (pc' := 35) X37 hx rfl rfl (hb hby d9_34) rfl ?_
        refine og_getstatic (pc' := 38) X37 hx hZ (host := "") hown (Or.inl (ow44 hw)) Via.refl e37 (S_CODE.ext O.2) (hb hby d9_35) rfl (fun T38 X38 e38 => ?_)
        refine og_acmp_ne (pc1 := 43) (pc2 := 41) X38 hx rfl rfl (hb hby d9_38) (by decide) (by decide) rfl (fun q => absurd rfl q) (fun _ => ?_)
        refine og_iloadN (pc' := 42) X38 hx rfl (hb hby d9_41) rfl ?_
        refine og_retI X38 hx hlk hret (hb hby d9_42) (by decide) (by decide) ?_
        rw [e38]; exact ⟨by rw [← hr, own_eq ha hbq], N, rfl⟩
      ·
        refine og_virtual (pc' := 33) (cells' := 0) (slots' := 0) (W := 0) X34 hx hZ (rm_nxS l Z a0 hw w0 w1 w2 w3 w4 wS wE d2 d4 wS hq ((if_neg ha).trans (if_neg hbq)) h0 n0 O S_CODE S_SINGLE S_SINGLE_ESCAPED S_DOUBLE S_DOUBLE_ESCAPED E_w0 E_w1 E_w2 E_w3 E_w4 F_w0 F_w1 F_w2 F_w3 F_w4) hown (ow69 hw) (ow70 hw) (own_nf hZ (ow72 hw)) (ow72 hw) (ow71 hw) (ow45 hw) (ow73 hw) (by decide) (by rw [hml]; rfl) e34 opd_12 [(.int d4)] [] rfl rfl rfl rfl (by decide) (by decide) rfl rfl (by decide) (by decide) (E_wS.ext O.2) (hb hby d9_30) rfl (fun v39 T39 h39 L39 X39 e39 z39 => ?_)
        obtain ⟨rfl, Nq39, hq39⟩ := z39; replace e39 := e39.trans hq39; have N := Fr.app N Nq39
        show OG p e below _ (T39.setTop (mkF m 33 #[.val (.ref a1), .val (.int (2 : Int32)), .val (.ref wS), .val (.int (4 : Int32))] [(.ref wS)]))
        refine og_astoreN (pc' := 34) (L' := #[.val (.ref a1), .val (.int (2 : Int32)), .val (.ref wS), .val (.int (4 : Int32))]) X39 hx rfl rfl (hb hby d9_33) rfl ?_
        refine og_aloadN (pc' := 35) X39 hx rfl rfl (hb hby d9_34) rfl ?_
        refine og_getstatic (pc' := 38) X39 hx hZ (host := "") hown (Or.inl (ow44 hw)) Via.refl e39 (S_CODE.ext O.2) (hb hby d9_35) rfl (fun T40 X40 e40 => ?_)
        refine og_acmp_ne (pc1 := 43) (pc2 := 41) X40 hx rfl rfl (hb hby d9_38) (by decide) (by decide) rfl (fun _ => ?_) (fun q => absurd q (fun q => ne_wS_w0 (Value.ref.inj q)))
        refine og_iinc (pc' := 46) (L' := #[.val (.ref a1), .val (.int (2 : Int32)), .val (.ref wS), .val (.int (5 : Int32))]) (w := (1 : Int32)) X40 hx rfl rfl rfl (hb hby d9_43) rfl ?_
        refine og_goto (pc' := 16) X40 hx (hb hby d9_46) (by decide) (by decide) ?_
        exact J5_wS T40 _ X40 e40 N ((own_eo ha hbq).symm.trans hr)
  have J4_wE : ∀ (T41 : State) (l41 : List Loc) (X41 : Stand p l e ({ frames := 4, cells := 0, slots := 0, locals := 54 } : Room) s m #[(.ref a1), (.int (2 : Int32))] below meth c T41 l41 0 0) (e41 : T41.heap = h0) (N : Fr n0 l41) (hr : own_end d2 true [d4, d5] 4 = r), OG p e below (OFin s (fun v h L => v = some (.int r) ∧ Fr n0 L ∧ h = h0) 0 0) (T41.setTop (mkF m 16 #[.val (.ref a1), .val (.int (2 : Int32)), .val (.ref wE), .val (.int (4 : Int32))] [])) := by
    intro T41 l41 X41 e41 N hr
    refine og_iloadN (pc' := 17) X41 hx rfl (hb hby d9_16) rfl ?_
    refine og_aloadN (pc' := 18) X41 hx rfl rfl (hb hby d9_17) rfl ?_
    refine og_virtual (pc' := 21) (cells' := 0) (slots' := 0) (W := 1) X41 hx hZ (rm_len l Z a0 hw a1 ba kb (6 : Int32) _ cs hcs h0 n0 O E_a1 F_value_a1 F_coder_a1 V_ba S_CS) hown (ow85 hw) (ow86 hw) (own_nf hZ (ow88 hw)) (ow88 hw) (ow87 hw) (ow13 hw) (ow89 hw) (by decide) (by rw [hml]; rfl) e41 opd_0 [] [(.int (4 : Int32))] rfl rfl rfl rfl (by decide) (by decide) rfl rfl (by decide) (by decide) E_a1 (hb hby d9_18) rfl (fun v42 T42 h42 L42 X42 e42 z42 => ?_)
    obtain ⟨rfl, Nq42, hq42⟩ := z42; replace e42 := e42.trans hq42; have N := Fr.app N Nq42
    show OG p e below _ (T42.setTop (mkF m 21 #[.val (.ref a1), .val (.int (2 : Int32)), .val (.ref wE), .val (.int (4 : Int32))] [(.int (6 : Int32)), (.int (4 : Int32))]))
    refine og_icmp_ge (pc1 := 49) (pc2 := 24) X42 hx (hb hby d9_21) (by decide) (by decide) rfl (fun q => absurd q (by decide)) (fun _ => ?_)
    refine og_aloadN (pc' := 25) X42 hx rfl rfl (hb hby d9_24) rfl ?_
    refine og_aloadN (pc' := 26) X42 hx rfl rfl (hb hby d9_25) rfl ?_
    refine og_iloadN (pc' := 27) X42 hx rfl (hb hby d9_26) rfl ?_
    refine og_virtual (pc' := 30) (cells' := 0) (slots' := 0) (W := 1) X42 hx hZ (rm_ch l Z a0 hw a1 ba kb (6 : Int32) (4 : Int32) ⟨by decide, by decide⟩ _ d4 rfl hd4 cs hcs fm hfm h0 n0 O E_a1 F_value_a1 F_coder_a1 V_ba S_CS S_FM) hown (ow47 hw) (ow48 hw) (own_nf hZ (ow50 hw)) (ow50 hw) (ow49 hw) (ow13 hw) (ow51 hw) (by decide) (by rw [hml]; rfl) e42 opd_11 [(.int (4 : Int32))] [(.ref wE)] rfl rfl rfl rfl (by decide) (by decide) rfl rfl (by decide) (by decide) E_a1 (hb hby d9_27) rfl (fun v43 T43 h43 L43 X43 e43 z43 => ?_)
    obtain ⟨rfl, Nq43, hq43⟩ := z43; replace e43 := e43.trans hq43; have N := Fr.app N Nq43
    show OG p e below _ (T43.setTop (mkF m 30 #[.val (.ref a1), .val (.int (2 : Int32)), .val (.ref wE), .val (.int (4 : Int32))] [(.int d4), (.ref wE)]))
    refine og_virtual (pc' := 33) (cells' := 0) (slots' := 0) (W := 0) X43 hx hZ (rm_nxE l Z a0 hw w0 w1 w2 w3 w4 wS wE d2 d4 hq h0 n0 O S_CODE S_SINGLE S_SINGLE_ESCAPED S_DOUBLE S_DOUBLE_ESCAPED E_w0 E_w1 E_w2 E_w3 E_w4 F_w0 F_w1 F_w2 F_w3 F_w4) hown (ow69 hw) (ow70 hw) (own_nf hZ (ow72 hw)) (ow72 hw) (ow71 hw) (ow45 hw) (ow73 hw) (by decide) (by rw [hml]; rfl) e43 opd_12 [(.int d4)] [] rfl rfl rfl rfl (by decide) (by decide) rfl rfl (by decide) (by decide) (E_wE.ext O.2) (hb hby d9_30) rfl (fun v44 T44 h44 L44 X44 e44 z44 => ?_)
    obtain ⟨rfl, Nq44, hq44⟩ := z44; replace e44 := e44.trans hq44; have N := Fr.app N Nq44
    show OG p e below _ (T44.setTop (mkF m 33 #[.val (.ref a1), .val (.int (2 : Int32)), .val (.ref wE), .val (.int (4 : Int32))] [(.ref wS)]))
    refine og_astoreN (pc' := 34) (L' := #[.val (.ref a1), .val (.int (2 : Int32)), .val (.ref wS), .val (.int (4 : Int32))]) X44 hx rfl rfl (hb hby d9_33) rfl ?_
    refine og_aloadN (pc' := 35) X44 hx rfl rfl (hb hby d9_34) rfl ?_
    refine og_getstatic (pc' := 38) X44 hx hZ (host := "") hown (Or.inl (ow44 hw)) Via.refl e44 (S_CODE.ext O.2) (hb hby d9_35) rfl (fun T45 X45 e45 => ?_)
    refine og_acmp_ne (pc1 := 43) (pc2 := 41) X45 hx rfl rfl (hb hby d9_38) (by decide) (by decide) rfl (fun _ => ?_) (fun q => absurd q (fun q => ne_wS_w0 (Value.ref.inj q)))
    refine og_iinc (pc' := 46) (L' := #[.val (.ref a1), .val (.int (2 : Int32)), .val (.ref wS), .val (.int (5 : Int32))]) (w := (1 : Int32)) X45 hx rfl rfl rfl (hb hby d9_43) rfl ?_
    refine og_goto (pc' := 16) X45 hx (hb hby d9_46) (by decide) (by decide) ?_
    exact J5_wS T45 _ X45 e45 N (own_ee.symm.trans hr)
  have J3_wS : ∀ (T46 : State) (l46 : List Loc) (X46 : Stand p l e ({ frames := 4, cells := 0, slots := 0, locals := 54 } : Room) s m #[(.ref a1), (.int (2 : Int32))] below meth c T46 l46 0 0) (e46 : T46.heap = h0) (N : Fr n0 l46) (hr : own_end d2 false [d3, d4, d5] 3 = r), OG p e below (OFin s (fun v h L => v = some (.int r) ∧ Fr n0 L ∧ h = h0) 0 0) (T46.setTop (mkF m 16 #[.val (.ref a1), .val (.int (2 : Int32)), .val (.ref wS), .val (.int (3 : Int32))] [])) := by
    intro T46 l46 X46 e46 N hr
    refine og_iloadN (pc' := 17) X46 hx rfl (hb hby d9_16) rfl ?_
    refine og_aloadN (pc' := 18) X46 hx rfl rfl (hb hby d9_17) rfl ?_
    refine og_virtual (pc' := 21) (cells' := 0) (slots' := 0) (W := 1) X46 hx hZ (rm_len l Z a0 hw a1 ba kb (6 : Int32) _ cs hcs h0 n0 O E_a1 F_value_a1 F_coder_a1 V_ba S_CS) hown (ow85 hw) (ow86 hw) (own_nf hZ (ow88 hw)) (ow88 hw) (ow87 hw) (ow13 hw) (ow89 hw) (by decide) (by rw [hml]; rfl) e46 opd_0 [] [(.int (3 : Int32))] rfl rfl rfl rfl (by decide) (by decide) rfl rfl (by decide) (by decide) E_a1 (hb hby d9_18) rfl (fun v47 T47 h47 L47 X47 e47 z47 => ?_)
    obtain ⟨rfl, Nq47, hq47⟩ := z47; replace e47 := e47.trans hq47; have N := Fr.app N Nq47
    show OG p e below _ (T47.setTop (mkF m 21 #[.val (.ref a1), .val (.int (2 : Int32)), .val (.ref wS), .val (.int (3 : Int32))] [(.int (6 : Int32)), (.int (3 : Int32))]))
    refine og_icmp_ge (pc1 := 49) (pc2 := 24) X47 hx (hb hby d9_21) (by decide) (by decide) rfl (fun q => absurd q (by decide)) (fun _ => ?_)
    refine og_aloadN (pc' := 25) X47 hx rfl rfl (hb hby d9_24) rfl ?_
    refine og_aloadN (pc' := 26) X47 hx rfl rfl (hb hby d9_25) rfl ?_
    refine og_iloadN (pc' := 27) X47 hx rfl (hb hby d9_26) rfl ?_
    refine og_virtual (pc' := 30) (cells' := 0) (slots' := 0) (W := 1) X47 hx hZ (rm_ch l Z a0 hw a1 ba kb (6 : Int32) (3 : Int32) ⟨by decide, by decide⟩ _ d3 rfl hd3 cs hcs fm hfm h0 n0 O E_a1 F_value_a1 F_coder_a1 V_ba S_CS S_FM) hown (ow47 hw) (ow48 hw) (own_nf hZ (ow50 hw)) (ow50 hw) (ow49 hw) (ow13 hw) (ow51 hw) (by decide) (by rw [hml]; rfl) e47 opd_11 [(.int (3 : Int32))] [(.ref wS)] rfl rfl rfl rfl (by decide) (by decide) rfl rfl (by decide) (by decide) E_a1 (hb hby d9_27) rfl (fun v48 T48 h48 L48 X48 e48 z48 => ?_)
    obtain ⟨rfl, Nq48, hq48⟩ := z48; replace e48 := e48.trans hq48; have N := Fr.app N Nq48
    show OG p e below _ (T48.setTop (mkF m 30 #[.val (.ref a1), .val (.int (2 : Int32)), .val (.ref wS), .val (.int (3 : Int32))] [(.int d3), (.ref wS)]))
    by_cases ha : d3 = 92
    ·
      refine og_virtual (pc' := 33) (cells' := 0) (slots' := 0) (W := 0) X48 hx hZ (rm_nxS l Z a0 hw w0 w1 w2 w3 w4 wS wE d2 d3 wE hq (if_pos ha) h0 n0 O S_CODE S_SINGLE S_SINGLE_ESCAPED S_DOUBLE S_DOUBLE_ESCAPED E_w0 E_w1 E_w2 E_w3 E_w4 F_w0 F_w1 F_w2 F_w3 F_w4) hown (ow69 hw) (ow70 hw) (own_nf hZ (ow72 hw)) (ow72 hw) (ow71 hw) (ow45 hw) (ow73 hw) (by decide) (by rw [hml]; rfl) e48 opd_12 [(.int d3)] [] rfl rfl rfl rfl (by decide) (by decide) rfl rfl (by decide) (by decide) (E_wS.ext O.2) (hb hby d9_30) rfl (fun v49 T49 h49 L49 X49 e49 z49 => ?_)
      obtain ⟨rfl, Nq49, hq49⟩ := z49; replace e49 := e49.trans hq49; have N := Fr.app N Nq49
      show OG p e below _ (T49.setTop (mkF m 33 #[.val (.ref a1), .val (.int (2 : Int32)), .val (.ref wS), .val (.int (3 : Int32))] [(.ref wE)]))
      refine og_astoreN (pc' := 34) (L' := #[.val (.ref a1), .val (.int (2 : Int32)), .val (.ref wE), .val (.int (3 : Int32))]) X49 hx rfl rfl (hb hby d9_33) rfl ?_
      refine og_aloadN (pc' := 35) X49 hx rfl rfl (hb hby d9_34) rfl ?_
      refine og_getstatic (pc' := 38) X49 hx hZ (host := "") hown (Or.inl (ow44 hw)) Via.refl e49 (S_CODE.ext O.2) (hb hby d9_35) rfl (fun T50 X50 e50 => ?_)
      refine og_acmp_ne (pc1 := 43) (pc2 := 41) X50 hx rfl rfl (hb hby d9_38) (by decide) (by decide) rfl (fun _ => ?_) (fun q => absurd q (fun q => ne_wE_w0 (Value.ref.inj q)))
      refine og_iinc (pc' := 46) (L' := #[.val (.ref a1), .val (.int (2 : Int32)), .val (.ref wE), .val (.int (4 : Int32))]) (w := (1 : Int32)) X50 hx rfl rfl rfl (hb hby d9_43) rfl ?_
      refine og_goto (pc' := 16) X50 hx (hb hby d9_46) (by decide) (by decide) ?_
      exact J4_wE T50 _ X50 e50 N ((own_e92 ha).symm.trans hr)
    ·
      by_cases hbq : d3 = d2
      ·
        refine og_virtual (pc' := 33) (cells' := 0) (slots' := 0) (W := 0) X48 hx hZ (rm_nxS l Z a0 hw w0 w1 w2 w3 w4 wS wE d2 d3 w0 hq ((if_neg ha).trans (if_pos hbq)) h0 n0 O S_CODE S_SINGLE S_SINGLE_ESCAPED S_DOUBLE S_DOUBLE_ESCAPED E_w0 E_w1 E_w2 E_w3 E_w4 F_w0 F_w1 F_w2 F_w3 F_w4) hown (ow69 hw) (ow70 hw) (own_nf hZ (ow72 hw)) (ow72 hw) (ow71 hw) (ow45 hw) (ow73 hw) (by decide) (by rw [hml]; rfl) e48 opd_12 [(.int d3)] [] rfl rfl rfl rfl (by decide) (by decide) rfl rfl (by decide) (by decide) (E_wS.ext O.2) (hb hby d9_30) rfl (fun v51 T51 h51 L51 X51 e51 z51 => ?_)
        obtain ⟨rfl, Nq51, hq51⟩ := z51; replace e51 := e51.trans hq51; have N := Fr.app N Nq51
        show OG p e below _ (T51.setTop (mkF m 33 #[.val (.ref a1), .val (.int (2 : Int32)), .val (.ref wS), .val (.int (3 : Int32))] [(.ref w0)]))
        refine og_astoreN (pc' := 34) (L' := #[.val (.ref a1), .val (.int (2 : Int32)), .val (.ref w0), .val (.int (3 : Int32))]) X51 hx rfl rfl (hb hby d9_33) rfl ?_
        refine og_aloadN (pc' := 35) X51 hx rfl rfl (hb hby d9_34) rfl ?_
        refine og_getstatic (pc' := 38) X51 hx hZ (host := "") hown (Or.inl (ow44 hw)) Via.refl e51 (S_CODE.ext O.2) (hb hby d9_35) rfl (fun T52 X52 e52 => ?_)
        refine og_acmp_ne (pc1 := 43) (pc2 := 41) X52 hx rfl rfl (hb hby d9_38) (by decide) (by decide) rfl (fun q => absurd rfl q) (fun _ => ?_)
        refine og_iloadN (pc' := 42) X52 hx rfl (hb hby d9_41) rfl ?_
        refine og_retI X52 hx hlk hret (hb hby d9_42) (by decide) (by decide) ?_
        rw [e52]; exact ⟨by rw [← hr, own_eq ha hbq], N, rfl⟩
      ·
        refine og_virtual (pc' := 33) (cells' := 0) (slots' := 0) (W := 0) X48 hx hZ (rm_nxS l Z a0 hw w0 w1 w2 w3 w4 wS wE d2 d3 wS hq ((if_neg ha).trans (if_neg hbq)) h0 n0 O S_CODE S_SINGLE S_SINGLE_ESCAPED S_DOUBLE S_DOUBLE_ESCAPED E_w0 E_w1 E_w2 E_w3 E_w4 F_w0 F_w1 F_w2 F_w3 F_w4) hown (ow69 hw) (ow70 hw) (own_nf hZ (ow72 hw)) (ow72 hw) (ow71 hw) (ow45 hw) (ow73 hw) (by decide) (by rw [hml]; rfl) e48 opd_12 [(.int d3)] [] rfl rfl rfl rfl (by decide) (by decide) rfl rfl (by decide) (by decide) (E_wS.ext O.2) (hb hby d9_30) rfl (fun v53 T53 h53 L53 X53 e53 z53 => ?_)
        obtain ⟨rfl, Nq53, hq53⟩ := z53; replace e53 := e53.trans hq53; have N := Fr.app N Nq53
        show OG p e below _ (T53.setTop (mkF m 33 #[.val (.ref a1), .val (.int (2 : Int32)), .val (.ref wS), .val (.int (3 : Int32))] [(.ref wS)]))
        refine og_astoreN (pc' := 34) (L' := #[.val (.ref a1), .val (.int (2 : Int32)), .val (.ref wS), .val (.int (3 : Int32))]) X53 hx rfl rfl (hb hby d9_33) rfl ?_
        refine og_aloadN (pc' := 35) X53 hx rfl rfl (hb hby d9_34) rfl ?_
        refine og_getstatic (pc' := 38) X53 hx hZ (host := "") hown (Or.inl (ow44 hw)) Via.refl e53 (S_CODE.ext O.2) (hb hby d9_35) rfl (fun T54 X54 e54 => ?_)
        refine og_acmp_ne (pc1 := 43) (pc2 := 41) X54 hx rfl rfl (hb hby d9_38) (by decide) (by decide) rfl (fun _ => ?_) (fun q => absurd q (fun q => ne_wS_w0 (Value.ref.inj q)))
        refine og_iinc (pc' := 46) (L' := #[.val (.ref a1), .val (.int (2 : Int32)), .val (.ref wS), .val (.int (4 : Int32))]) (w := (1 : Int32)) X54 hx rfl rfl rfl (hb hby d9_43) rfl ?_
        refine og_goto (pc' := 16) X54 hx (hb hby d9_46) (by decide) (by decide) ?_
        exact J4_wS T54 _ X54 e54 N ((own_eo ha hbq).symm.trans hr)
  exact J3_wS T13 _ X13 e13 N hr
theorem rm_se3 (l : Launch) (Z : State) (a0 : Array Value) (hw : HW a0 Z) (a1 ba : Addr) (kb : ClassId) (d0 d1 d2 d3 d4 d5 : Int32) (hd0 : 0 ≤ d0.toInt ∧ d0.toInt ≤ 255) (hd1 : 0 ≤ d1.toInt ∧ d1.toInt ≤ 255) (hd2 : 0 ≤ d2.toInt ∧ d2.toInt ≤ 255) (hd3 : 0 ≤ d3.toInt ∧ d3.toInt ≤ 255) (hd4 : 0 ≤ d4.toInt ∧ d4.toInt ≤ 255) (hd5 : 0 ≤ d5.toInt ∧ d5.toInt ≤ 255) (cs : Int32) (hcs : ¬ cs = 0) (fm : Value) (hfm : fm.isRef = true) (w0 w1 w2 w3 w4 wS wE : Addr) (hq : (d3 = 39 ∧ wS = w1 ∧ wE = w2) ∨ (d3 = 34 ∧ wS = w3 ∧ wE = w4)) (r : Int32) (hr : own_end d3 false [d4, d5] 4 = r) (h0 : Heap) (n0 : Nat) (O : Old Z n0 h0) (E_a1 : Exa Z h0 a1 "java/lang/String") (F_value_a1 : Fld Z h0 a1 "java/lang/String" "value" "[B" (.ref ba)) (F_coder_a1 : Fld Z h0 a1 "java/lang/String" "coder" "B" (.int (0 : Int32))) (V_ba : Arv Z h0 ba kb .byte (6 : Int32) [(.int d0.toInt8.toInt32), (.int d1.toInt8.toInt32), (.int d2.toInt8.toInt32), (.int d3.toInt8.toInt32), (.int d4.toInt8.toInt32), (.int d5.toInt8.toInt32)] (.int (0 : Int32))) (S_CS : Sta Z Z.heap "java/lang/String" "COMPACT_STRINGS" "Z" (.int cs)) (S_FM : Sta Z Z.heap "jdk/internal/util/Preconditions" "SIOOBE_FORMATTER" "Ljava/util/function/BiFunction;" fm) (S_CODE : Sta Z Z.heap "com/example/nitpick/nitpick/internal/interpolation/ExpressionLiterals$Quoting" "CODE" "Lcom/example/nitpick/nitpick/internal/interpolation/ExpressionLiterals$Quoting;" (.ref w0)) (S_SINGLE : Sta Z Z.heap "com/example/nitpick/nitpick/internal/interpolation/ExpressionLiterals$Quoting" "SINGLE" "Lcom/example/nitpick/nitpick/internal/interpolation/ExpressionLiterals$Quoting;" (.ref w1)) (S_SINGLE_ESCAPED : Sta Z Z.heap "com/example/nitpick/nitpick/internal/interpolation/ExpressionLiterals$Quoting" "SINGLE_ESCAPED" "Lcom/example/nitpick/nitpick/internal/interpolation/ExpressionLiterals$Quoting;" (.ref w2)) (S_DOUBLE : Sta Z Z.heap "com/example/nitpick/nitpick/internal/interpolation/ExpressionLiterals$Quoting" "DOUBLE" "Lcom/example/nitpick/nitpick/internal/interpolation/ExpressionLiterals$Quoting;" (.ref w3)) (S_DOUBLE_ESCAPED : Sta Z Z.heap "com/example/nitpick/nitpick/internal/interpolation/ExpressionLiterals$Quoting" "DOUBLE_ESCAPED" "Lcom/example/nitpick/nitpick/internal/interpolation/ExpressionLiterals$Quoting;" (.ref w4)) (E_w0 : Exa Z Z.heap w0 "com/example/nitpick/nitpick/internal/interpolation/ExpressionLiterals$Quoting") (E_w1 : Exa Z Z.heap w1 "com/example/nitpick/nitpick/internal/interpolation/ExpressionLiterals$Quoting") (E_w2 : Exa Z Z.heap w2 "com/example/nitpick/nitpick/internal/interpolation/ExpressionLiterals$Quoting") (E_w3 : Exa Z Z.heap w3 "com/example/nitpick/nitpick/internal/interpolation/ExpressionLiterals$Quoting") (E_w4 : Exa Z Z.heap w4 "com/example/nitpick/nitpick/internal/interpolation/ExpressionLiterals$Quoting") (F_w0 : Fld Z Z.heap w0 "java/lang/Enum" "ordinal" "I" (.int (0 : Int32))) (F_w1 : Fld Z Z.heap w1 "java/lang/Enum" "ordinal" "I" (.int (1 : Int32))) (F_w2 : Fld Z Z.heap w2 "java/lang/Enum" "ordinal" "I" (.int (2 : Int32))) (F_w3 : Fld Z Z.heap w3 "java/lang/Enum" "ordinal" "I" (.int (3 : Int32))) (F_w4 : Fld Z Z.heap w4 "java/lang/Enum" "ordinal" "I" (.int (4 : Int32))) (E_wS : Exa Z Z.heap wS "com/example/nitpick/nitpick/internal/interpolation/ExpressionLiterals$Quoting") (E_wE : Exa Z Z.heap wE "com/example/nitpick/nitpick/internal/interpolation/ExpressionLiterals$Quoting") (ne_wS_w0 : wS ≠ w0) (ne_wE_w0 : wE ≠ w0) :
    Con l Z (⟨"com/example/nitpick/nitpick/internal/interpolation/ExpressionLiterals", "stringEnd", "(Ljava/lang/String;I)I"⟩ : MethodName) prog_59_method_6_code 4 (some .int) ({ frames := 4, cells := 0, slots := 0, locals := 54 } : Room) #[(.ref a1), (.int (3 : Int32))] h0 (fun v h L => v = some (.int r) ∧ Fr n0 L ∧ h = h0) := by
  refine own_startC opn_9 ?_
  intro p e s m below meth c T0 X0 hx hby hml hZ hown hnm hret hlk e0
  have N := Fr.nil n0; have K := Keep.refl h0 []
  refine OG.cast (oef11 m a1 (3 : Int32)) ?_
  refine og_getstatic (pc' := 3) X0 hx hZ (host := "") hown (Or.inl (ow44 hw)) Via.refl e0 (S_CODE.ext O.2) (hb hby d9_0) rfl (fun T11 X11 e11 => ?_)
  refine og_aloadN (pc' := 4) X11 hx rfl rfl (hb hby d9_3) rfl ?_
  refine og_iloadN (pc' := 5) X11 hx rfl (hb hby d9_4) rfl ?_
  refine og_virtual (pc' := 8) (cells' := 0) (slots' := 0) (W := 1) X11 hx hZ (rm_ch l Z a0 hw a1 ba kb (6 : Int32) (3 : Int32) ⟨by decide, by decide⟩ _ d3 rfl hd3 cs hcs fm hfm h0 n0 O E_a1 F_value_a1 F_coder_a1 V_ba S_CS S_FM) hown (ow47 hw) (ow48 hw) (own_nf hZ (ow50 hw)) (ow50 hw) (ow49 hw) (ow13 hw) (ow51 hw) (by decide) (by rw [hml]; rfl) e11 opd_11 [(.int (3 : Int32))] [(.ref w0)] rfl rfl rfl rfl (by decide) (by decide) rfl rfl (by decide) (by decide) E_a1 (hb hby d9_5) rfl (fun v12 T12 h12 L12 X12 e12 z12 => ?_)
  obtain ⟨rfl, Nq12, hq12⟩ := z12; replace e12 := e12.trans hq12; have N := Fr.app N Nq12
  show OG p e below _ (T12.setTop (mkF m 8 #[.val (.ref a1), .val (.int (3 : Int32)), .unset, .unset] [(.int d3), (.ref w0)]))
  refine og_virtual (pc' := 11) (cells' := 0) (slots' := 0) (W := 0) X12 hx hZ (rm_nx0 l Z a0 hw w0 w1 w2 w3 w4 d3 wS (own_nx0 hq) h0 n0 O S_CODE S_SINGLE S_SINGLE_ESCAPED S_DOUBLE S_DOUBLE_ESCAPED E_w0 E_w1 E_w2 E_w3 E_w4 F_w0 F_w1 F_w2 F_w3 F_w4) hown (ow69 hw) (ow70 hw) (own_nf hZ (ow72 hw)) (ow72 hw) (ow71 hw) (ow45 hw) (ow73 hw) (by decide) (by rw [hml]; rfl) e12 opd_12 [(.int d3)] [] rfl rfl rfl rfl (by decide) (by decide) rfl rfl (by decide) (by decide) (E_w0.ext O.2) (hb hby d9_8) rfl (fun v13 T13 h13 L13 X13 e13 z13 => ?_)
  obtain ⟨rfl, Nq13, hq13⟩ := z13; replace e13 := e13.trans hq13; have N := Fr.app N Nq13
  show OG p e below _ (T13.setTop (mkF m 11 #[.val (.ref a1), .val (.int (3 : Int32)), .unset, .unset] [(.ref wS)]))
  refine og_astoreN (pc' := 12) (L' := #[.val (.ref a1), .val (.int (3 : Int32)), .val (.ref wS), .unset]) X13 hx rfl rfl (hb hby d9_11) rfl ?_
  refine og_iloadN (pc' := 13) X13 hx rfl (hb hby d9_12) rfl ?_
  refine og_iconst (pc' := 14) (v := (1 : Int32)) X13 hx rfl (hb hby d9_13) rfl ?_
  refine og_iadd (pc' := 15) X13 hx (hb hby d9_14) rfl ?_
  show OG p e below _ (T13.setTop (mkF m 15 #[.val (.ref a1), .val (.int (3 : Int32)), .val (.ref wS), .unset] [(.int (4 : Int32))]))
  refine og_istoreN (pc' := 16) (L' := #[.val (.ref a1), .val (.int (3 : Int32)), .val (.ref wS), .val (.int (4 : Int32))]) X13 hx rfl (hb hby d9_15) rfl ?_
  have J6_wS : ∀ (T14 : State) (l14 : List Loc) (X14 : Stand p l e ({ frames := 4, cells := 0, slots := 0, locals := 54 } : Room) s m #[(.ref a1), (.int (3 : Int32))] below meth c T14 l14 0 0) (e14 : T14.heap = h0) (N : Fr n0 l14) (hr : own_end d3 false [] 6 = r), OG p e below (OFin s (fun v h L => v = some (.int r) ∧ Fr n0 L ∧ h = h0) 0 0) (T14.setTop (mkF m 16 #[.val (.ref a1), .val (.int (3 : Int32)), .val (.ref wS), .val (.int (6 : Int32))] [])) := by
    intro T14 l14 X14 e14 N hr
    refine og_iloadN (pc' := 17) X14 hx rfl (hb hby d9_16) rfl ?_
    refine og_aloadN (pc' := 18) X14 hx rfl rfl (hb hby d9_17) rfl ?_
    refine og_virtual (pc' := 21) (cells' := 0) (slots' := 0) (W := 1) X14 hx hZ (rm_len l Z a0 hw a1 ba kb (6 : Int32) _ cs hcs h0 n0 O E_a1 F_value_a1 F_coder_a1 V_ba S_CS) hown (ow85 hw) (ow86 hw) (own_nf hZ (ow88 hw)) (ow88 hw) (ow87 hw) (ow13 hw) (ow89 hw) (by decide) (by rw [hml]; rfl) e14 opd_0 [] [(.int (6 : Int32))] rfl rfl rfl rfl (by decide) (by decide) rfl rfl (by decide) (by decide) E_a1 (hb hby d9_18) rfl (fun v15 T15 h15 L15 X15 e15 z15 => ?_)
    obtain ⟨rfl, Nq15, hq15⟩ := z15; replace e15 := e15.trans hq15; have N := Fr.app N Nq15
    show OG p e below _ (T15.setTop (mkF m 21 #[.val (.ref a1), .val (.int (3 : Int32)), .val (.ref wS), .val (.int (6 : Int32))] [(.int (6 : Int32)), (.int (6 : Int32))]))
    refine og_icmp_ge (pc1 := 49) (pc2 := 24) X15 hx (hb hby d9_21) (by decide) (by decide) rfl (fun _ => ?_) (fun q => absurd q (by decide))
    refine og_iconst (pc' := 50) (v := (-1 : Int32)) X15 hx rfl (hb hby d9_49) rfl ?_
    refine og_retI X15 hx hlk hret (hb hby d9_50) (by decide) (by decide) ?_
    rw [e15]; exact ⟨by rw [← hr]; rfl, N, rfl⟩
  have J6_wE : ∀ (T16 : State) (l16 : List Loc) (X16 : Stand p l e ({ frames := 4, cells := 0, slots := 0, locals := 54 } : Room) s m #[(.ref a1), (.int (3 : Int32))] below meth c T16 l16 0 0) (e16 : T16.heap = h0) (N : Fr n0 l16) (hr : own_end d3 true [] 6 = r), OG p e below (OFin s (fun v h L => v = some (.int r) ∧ Fr n0 L ∧ h = h0) 0 0) (T16.setTop (mkF m 16 #[.val (.ref a1), .val (.int (3 : Int32)), .val (.ref wE), .val (.int (6 : Int32))] [])) := by
    intro T16 l16 X16 e16 N hr
    refine og_iloadN (pc' := 17) X16 hx rfl (hb hby d9_16) rfl ?_
    refine og_aloadN (pc' := 18) X16 hx rfl rfl (hb hby d9_17) rfl ?_
    refine og_virtual (pc' := 21) (cells' := 0) (slots' := 0) (W := 1) X16 hx hZ (rm_len l Z a0 hw a1 ba kb (6 : Int32) _ cs hcs h0 n0 O E_a1 F_value_a1 F_coder_a1 V_ba S_CS) hown (ow85 hw) (ow86 hw) (own_nf hZ (ow88 hw)) (ow88 hw) (ow87 hw) (ow13 hw) (ow89 hw) (by decide) (by rw [hml]; rfl) e16 opd_0 [] [(.int (6 : Int32))] rfl rfl rfl rfl (by decide) (by decide) rfl rfl (by decide) (by decide) E_a1 (hb hby d9_18) rfl (fun v17 T17 h17 L17 X17 e17 z17 => ?_)
    obtain ⟨rfl, Nq17, hq17⟩ := z17; replace e17 := e17.trans hq17; have N := Fr.app N Nq17
    show OG p e below _ (T17.setTop (mkF m 21 #[.val (.ref a1), .val (.int (3 : Int32)), .val (.ref wE), .val (.int (6 : Int32))] [(.int (6 : Int32)), (.int (6 : Int32))]))
    refine og_icmp_ge (pc1 := 49) (pc2 := 24) X17 hx (hb hby d9_21) (by decide) (by decide) rfl (fun _ => ?_) (fun q => absurd q (by decide))
    refine og_iconst (pc' := 50) (v := (-1 : Int32)) X17 hx rfl (hb hby d9_49) rfl ?_
    refine og_retI X17 hx hlk hret (hb hby d9_50) (by decide) (by decide) ?_
    rw [e17]; exact ⟨by rw [← hr]; rfl, N, rfl⟩
  have J5_wS : ∀ (T18 : State) (l18 : List Loc) (X18 : Stand p l e ({ frames := 4, cells := 0, slots := 0, locals := 54 } : Room) s m #[(.ref a1), (.int (3 : Int32))] below meth c T18 l18 0 0) (e18 : T18.heap = h0) (N : Fr n0 l18) (hr : own_end d3 false [d5] 5 = r), OG p e below (OFin s (fun v h L => v = some (.int r) ∧ Fr n0 L ∧ h = h0) 0 0) (T18.setTop (mkF m 16 #[.val (.ref a1), .val (.int (3 : Int32)), .val (.ref wS), .val (.int (5 : Int32))] [])) := by
    intro T18 l18 X18 e18 N hr
    refine og_iloadN (pc' := 17) X18 hx rfl (hb hby d9_16) rfl ?_
    refine og_aloadN (pc' := 18) X18 hx rfl rfl (hb hby d9_17) rfl ?_
    refine og_virtual (pc' := 21) (cells' := 0) (slots' := 0) (W := 1) X18 hx hZ (rm_len l Z a0 hw a1 ba kb (6 : Int32) _ cs hcs h0 n0 O E_a1 F_value_a1 F_coder_a1 V_ba S_CS) hown (ow85 hw) (ow86 hw) (own_nf hZ (ow88 hw)) (ow88 hw) (ow87 hw) (ow13 hw) (ow89 hw) (by decide) (by rw [hml]; rfl) e18 opd_0 [] [(.int (5 : Int32))] rfl rfl rfl rfl (by decide) (by decide) rfl rfl (by decide) (by decide) E_a1 (hb hby d9_18) rfl (fun v19 T19 h19 L19 X19 e19 z19 => ?_)
    obtain ⟨rfl, Nq19, hq19⟩ := z19; replace e19 := e19.trans hq19; have N := Fr.app N Nq19
    show OG p e below _ (T19.setTop (mkF m 21 #[.val (.ref a1), .val (.int (3 : Int32)), .val (.ref wS), .val (.int (5 : Int32))] [(.int (6 : Int32)), (.int (5 : Int32))]))
    refine og_icmp_ge (pc1 := 49) (pc2 := 24) X19 hx (hb hby d9_21) (by decide) (by decide) rfl (fun q => absurd q (by decide)) (fun _ => ?_)
    refine og_aloadN (pc' := 25) X19 hx rfl rfl (hb hby d9_24) rfl ?_
    refine og_aloadN (pc' := 26) X19 hx rfl rfl (hb hby d9_25) rfl ?_
    refine og_iloadN (pc' := 27) X19 hx rfl (hb hby d9_26) rfl ?_
    refine og_virtual (pc' := 30) (cells' := 0) (slots' := 0) (W := 1) X19 hx hZ (rm_ch l Z a0 hw a1 ba kb (6 : Int32) (5 : Int32) ⟨by decide, by decide⟩ _ d5 rfl hd5 cs hcs fm hfm h0 n0 O E_a1 F_value_a1 F_coder_a1 V_ba S_CS S_FM) hown (ow47 hw) (ow48 hw) (own_nf hZ (ow50 hw)) (ow50 hw) (ow49 hw) (ow13 hw) (ow51 hw) (by decide) (by rw [hml]; rfl) e19 opd_11 [(.int (5 : Int32))] [(.ref wS)] rfl rfl rfl rfl (by decide) (by decide) rfl rfl (by decide) (by decide) E_a1 (hb hby d9_27) rfl (fun v20 T20 h20 L20 X20 e20 z20 => ?_)
    obtain ⟨rfl, Nq20, hq20⟩ := z20; replace e20 := e20.trans hq20; have N := Fr.app N Nq20
    show OG p e below _ (T20.setTop (mkF m 30 #[.val (.ref a1), .val (.int (3 : Int32)), .val (.ref wS), .val (.int (5 : Int32))] [(.int d5), (.ref wS)]))
    by_cases ha : d5 = 92
    ·
      refine og_virtual (pc' := 33) (cells' := 0) (slots' := 0) (W := 0) X20 hx hZ (rm_nxS l Z a0 hw w0 w1 w2 w3 w4 wS wE d3 d5 wE hq (if_pos ha) h0 n0 O S_CODE S_SINGLE S_SINGLE_ESCAPED S_DOUBLE S_DOUBLE_ESCAPED E_w0 E_w1 E_w2 E_w3 E_w4 F_w0 F_w1 F_w2 F_w3 F_w4) hown (ow69 hw) (ow70 hw) (own_nf hZ (ow72 hw)) (ow72 hw) (ow71 hw) (ow45 hw) (ow73 hw) (by decide) (by rw [hml]; rfl) e20 opd_12 [(.int d5)] [] rfl rfl rfl rfl (by decide) (by decide) rfl rfl (by decide) (by decide) (E_wS.ext O.2) (hb hby d9_30) rfl (fun v21 T21 h21 L21 X21 e21 z21 => ?_)
      obtain ⟨rfl, Nq21, hq21⟩ := z21; replace e21 := e21.trans hq21; have N := Fr.app N Nq21
      show OG p e below _ (T21.setTop (mkF m 33 #[.val (.ref a1), .val (.int (3 : Int32)), .val (.ref wS), .val (.int (5 : Int32))] [(.ref wE)]))
      refine og_astoreN (pc' := 34) (L' := #[.val (.ref a1), .val (.int (3 : Int32)), .val (.ref wE), .val (.int (5 : Int32))]) X21 hx rfl rfl (hb hby d9_33) rfl ?_
      refine og_aloadN (pc' := 35) X21 hx rfl rfl (hb hby d9_34) rfl ?_
      refine og_getstatic (pc' := 38) X21 hx hZ (host := "") hown (Or.inl (ow44 hw)) Via.refl e21 (S_CODE.ext O.2) (hb hby d9_35) rfl (fun T22 X22 e22 => ?_)
      refine og_acmp_ne (pc1 := 43) (pc2 := 41) X22 hx rfl rfl (hb hby d9_38) (by decide) (by decide) rfl (fun _ => ?_) (fun q => absurd q (fun q => ne_wE_w0 (Value.ref.inj q)))
      refine og_iinc (pc' := 46) (L' := #[.val (.ref a1), .val (.int (3 : Int32)), .val (.ref wE), .val (.int (6 : Int32))]) (w := (1 : Int32)) X22 hx rfl rfl rfl (hb hby d9_43) rfl ?_
      refine og_goto (pc' := 16) X22 hx (hb hby d9_46) (by decide) (by decide) ?_
      exact J6_wE T22 _ X22 e22 N ((own_e92 ha).symm.trans hr)
    ·
      by_cases hbq : d5 = d3
      ·
        refine og_virtual (pc' := 33) (cells' := 0) (slots' := 0) (W := 0) X20 hx hZ (rm_nxS l Z a0 hw w0 w1 w2 w3 w4 wS wE d3 d5 w0 hq ((if_neg ha).trans (if_pos hbq)) h0 n0 O S_CODE S_SINGLE S_SINGLE_ESCAPED S_DOUBLE S_DOUBLE_ESCAPED E_w0 E_w1 E_w2 E_w3 E_w4 F_w0 F_w1 F_w2 F_w3 F_w4) hown (ow69 hw) (ow70 hw) (own_nf hZ (ow72 hw)) (ow72 hw) (ow71 hw) (ow45 hw) (ow73 hw) (by decide) (by rw [hml]; rfl) e20 opd_12 [(.int d5)] [] rfl rfl rfl rfl (by decide) (by decide) rfl rfl (by decide) (by decide) (E_wS.ext O.2) (hb hby d9_30) rfl (fun v23 T23 h23 L23 X23 e23 z23 => ?_)
        obtain ⟨rfl, Nq23, hq23⟩ := z23; replace e23 := e23.trans hq23; have N := Fr.app N Nq23
        show OG p e below _ (T23.setTop (mkF m 33 #[.val (.ref a1), .val (.int (3 : Int32)), .val (.ref wS), .val (.int (5 : Int32))] [(.ref w0)]))
        refine og_astoreN (pc' := 34) (L' := #[.val (.ref a1), .val (.int (3 : Int32)), .val (.ref w0), .val (.int (5 : Int32))]) X23 hx rfl rfl (hb hby d9_33) rfl ?_
        refine og_aloadN (pc' := 35) X23 hx rfl rfl (hb hby d9_34) rfl ?_
        refine og_getstatic (pc' := 38) X23 hx hZ (host := "") hown (Or.inl (ow44 hw)) Via.refl e23 (S_CODE.ext O.2) (hb hby d9_35) rfl (fun T24 X24 e24 => ?_)
        refine og_acmp_ne (pc1 := 43) (pc2 := 41) X24 hx rfl rfl (hb hby d9_38) (by decide) (by decide) rfl (fun q => absurd rfl q) (fun _ => ?_)
        refine og_iloadN (pc' := 42) X24 hx rfl (hb hby d9_41) rfl ?_
        refine og_retI X24 hx hlk hret (hb hby d9_42) (by decide) (by decide) ?_
        rw [e24]; exact ⟨by rw [← hr, own_eq ha hbq], N, rfl⟩
      ·
        refine og_virtual (pc' := 33) (cells' := 0) (slots' := 0) (W := 0) X20 hx hZ (rm_nxS l Z a0 hw w0 w1 w2 w3 w4 wS wE d3 d5 wS hq ((if_neg ha).trans (if_neg hbq)) h0 n0 O S_CODE S_SINGLE S_SINGLE_ESCAPED S_DOUBLE S_DOUBLE_ESCAPED E_w0 E_w1 E_w2 E_w3 E_w4 F_w0 F_w1 F_w2 F_w3 F_w4) hown (ow69 hw) (ow70 hw) (own_nf hZ (ow72 hw)) (ow72 hw) (ow71 hw) (ow45 hw) (ow73 hw) (by decide) (by rw [hml]; rfl) e20 opd_12 [(.int d5)] [] rfl rfl rfl rfl (by decide) (by decide) rfl rfl (by decide) (by decide) (E_wS.ext O.2) (hb hby d9_30) rfl (fun v25 T25 h25 L25 X25 e25 z25 => ?_)
        obtain ⟨rfl, Nq25, hq25⟩ := z25; replace e25 := e25.trans hq25; have N := Fr.app N Nq25
        show OG p e below _ (T25.setTop (mkF m 33 #[.val (.ref a1), .val (.int (3 : Int32)), .val (.ref wS), .val (.int (5 : Int32))] [(.ref wS)]))
        refine og_astoreN (pc' := 34) (L' := #[.val (.ref a1), .val (.int (3 : Int32)), .val (.ref wS), .val (.int (5 : Int32))]) X25 hx rfl rfl (hb hby d9_33) rfl ?_
        refine og_aloadN (pc' := 35) X25 hx rfl rfl (hb hby d9_34) rfl ?_
        refine og_getstatic (pc' := 38) X25 hx hZ (host := "") hown (Or.inl (ow44 hw)) Via.refl e25 (S_CODE.ext O.2) (hb hby d9_35) rfl (fun T26 X26 e26 => ?_)
        refine og_acmp_ne (pc1 := 43) (pc2 := 41) X26 hx rfl rfl (hb hby d9_38) (by decide) (by decide) rfl (fun _ => ?_) (fun q => absurd q (fun q => ne_wS_w0 (Value.ref.inj q)))
        refine og_iinc (pc' := 46) (L' := #[.val (.ref a1), .val (.int (3 : Int32)), .val (.ref wS), .val (.int (6 : Int32))]) (w := (1 : Int32)) X26 hx rfl rfl rfl (hb hby d9_43) rfl ?_
        refine og_goto (pc' := 16) X26 hx (hb hby d9_46) (by decide) (by decide) ?_
        exact J6_wS T26 _ X26 e26 N ((own_eo ha hbq).symm.trans hr)
  have J5_wE : ∀ (T27 : State) (l27 : List Loc) (X27 : Stand p l e ({ frames := 4, cells := 0, slots := 0, locals := 54 } : Room) s m #[(.ref a1), (.int (3 : Int32))] below meth c T27 l27 0 0) (e27 : T27.heap = h0) (N : Fr n0 l27) (hr : own_end d3 true [d5] 5 = r), OG p e below (OFin s (fun v h L => v = some (.int r) ∧ Fr n0 L ∧ h = h0) 0 0) (T27.setTop (mkF m 16 #[.val (.ref a1), .val (.int (3 : Int32)), .val (.ref wE), .val (.int (5 : Int32))] [])) := by
    intro T27 l27 X27 e27 N hr
    refine og_iloadN (pc' := 17) X27 hx rfl (hb hby d9_16) rfl ?_
    refine og_aloadN (pc' := 18) X27 hx rfl rfl (hb hby d9_17) rfl ?_
    refine og_virtual (pc' := 21) (cells' := 0) (slots' := 0) (W := 1) X27 hx hZ (rm_len l Z a0 hw a1 ba kb (6 : Int32) _ cs hcs h0 n0 O E_a1 F_value_a1 F_coder_a1 V_ba S_CS) hown (ow85 hw) (ow86 hw) (own_nf hZ (ow88 hw)) (ow88 hw) (ow87 hw) (ow13 hw) (ow89 hw) (by decide) (by rw [hml]; rfl) e27 opd_0 [] [(.int (5 : Int32))] rfl rfl rfl rfl (by decide) (by decide) rfl rfl (by decide) (by decide) E_a1 (hb hby d9_18) rfl (fun v28 T28 h28 L28 X28 e28 z28 => ?_)
    obtain ⟨rfl, Nq28, hq28⟩ := z28; replace e28 := e28.trans hq28; have N := Fr.app N Nq28
    show OG p e below _ (T28.setTop (mkF m 21 #[.val (.ref a1), .val (.int (3 : Int32)), .val (.ref wE), .val (.int (5 : Int32))] [(.int (6 : Int32)), (.int (5 : Int32))]))
    refine og_icmp_ge (pc1 := 49) (pc2 := 24) X28 hx (hb hby d9_21) (by decide) (by decide) rfl (fun q => absurd q (by decide)) (fun _ => ?_)
    refine og_aloadN (pc' := 25) X28 hx rfl rfl (hb hby d9_24) rfl ?_
    refine og_aloadN (pc' := 26) X28 hx rfl rfl (hb hby d9_25) rfl ?_
    refine og_iloadN (pc' := 27) X28 hx rfl (hb hby d9_26) rfl ?_
    refine og_virtual (pc' := 30) (cells' := 0) (slots' := 0) (W := 1) X28 hx hZ (rm_ch l Z a0 hw a1 ba kb (6 : Int32) (5 : Int32) ⟨by decide, by decide⟩ _ d5 rfl hd5 cs hcs fm hfm h0 n0 O E_a1 F_value_a1 F_coder_a1 V_ba S_CS S_FM) hown (ow47 hw) (ow48 hw) (own_nf hZ (ow50 hw)) (ow50 hw) (ow49 hw) (ow13 hw) (ow51 hw) (by decide) (by rw [hml]; rfl) e28 opd_11 [(.int (5 : Int32))] [(.ref wE)] rfl rfl rfl rfl (by decide) (by decide) rfl rfl (by decide) (by decide) E_a1 (hb hby d9_27) rfl (fun v29 T29 h29 L29 X29 e29 z29 => ?_)
    obtain ⟨rfl, Nq29, hq29⟩ := z29; replace e29 := e29.trans hq29; have N := Fr.app N Nq29
    show OG p e below _ (T29.setTop (mkF m 30 #[.val (.ref a1), .val (.int (3 : Int32)), .val (.ref wE), .val (.int (5 : Int32))] [(.int d5), (.ref wE)]))
    refine og_virtual (pc' := 33) (cells' := 0) (slots' := 0) (W := 0) X29 hx hZ (rm_nxE l Z a0 hw w0 w1 w2 w3 w4 wS wE d3 d5 hq h0 n0 O S_CODE S_SINGLE S_SINGLE_ESCAPED S_DOUBLE S_DOUBLE_ESCAPED E_w0 E_w1 E_w2 E_w3 E_w4 F_w0 F_w1 F_w2 F_w3 F_w4) hown (ow69 hw) (ow70 hw) (own_nf hZ (ow72 hw)) (ow72 hw) (ow71 hw) (ow45 hw) (ow73 hw) (by decide) (by rw [hml]; rfl) e29 opd_12 [(.int d5)] [] rfl rfl rfl rfl (by decide) (by decide) rfl rfl (by decide) (by decide) (E_wE.ext O.2) (hb hby d9_30) rfl (fun v30 T30 h30 L30 X30 e30 z30 => ?_)
    obtain ⟨rfl, Nq30, hq30⟩ := z30; replace e30 := e30.trans hq30; have N := Fr.app N Nq30
    show OG p e below _ (T30.setTop (mkF m 33 #[.val (.ref a1), .val (.int (3 : Int32)), .val (.ref wE), .val (.int (5 : Int32))] [(.ref wS)]))
    refine og_astoreN (pc' := 34) (L' := #[.val (.ref a1), .val (.int (3 : Int32)), .val (.ref wS), .val (.int (5 : Int32))]) X30 hx rfl rfl (hb hby d9_33) rfl ?_
    refine og_aloadN (pc' := 35) X30 hx rfl rfl (hb hby d9_34) rfl ?_
    refine og_getstatic (pc' := 38) X30 hx hZ (host := "") hown (Or.inl (ow44 hw)) Via.refl e30 (S_CODE.ext O.2) (hb hby d9_35) rfl (fun T31 X31 e31 => ?_)
    refine og_acmp_ne (pc1 := 43) (pc2 := 41) X31 hx rfl rfl (hb hby d9_38) (by decide) (by decide) rfl (fun _ => ?_) (fun q => absurd q (fun q => ne_wS_w0 (Value.ref.inj q)))
    refine og_iinc (pc' := 46) (L' := #[.val (.ref a1), .val (.int (3 : Int32)), .val (.ref wS), .val (.int (6 : Int32))]) (w := (1 : Int32)) X31 hx rfl rfl rfl (hb hby d9_43) rfl ?_
    refine og_goto (pc' := 16) X31 hx (hb hby d9_46) (by decide) (by decide) ?_
    exact J6_wS T31 _ X31 e31 N (own_ee.symm.trans hr)
  have J4_wS : ∀ (T32 : State) (l32 : List Loc) (X32 : Stand p l e ({ frames := 4, cells := 0, slots := 0, locals := 54 } : Room) s m #[(.ref a1), (.int (3 : Int32))] below meth c T32 l32 0 0) (e32 : T32.heap = h0) (N : Fr n0 l32) (hr : own_end d3 false [d4, d5] 4 = r), OG p e below (OFin s (fun v h L => v = some (.int r) ∧ Fr n0 L ∧ h = h0) 0 0) (T32.setTop (mkF m 16 #[.val (.ref a1), .val (.int (3 : Int32)), .val (.ref wS), .val (.int (4 : Int32))] [])) := by
    intro T32 l32 X32 e32 N hr
    refine og_iloadN (pc' := 17) X32 hx rfl (hb hby d9_16) rfl ?_
    refine og_aloadN (pc' := 18) X32 hx rfl rfl (hb hby d9_17) rfl ?_
    refine og_virtual (pc' := 21) (cells' := 0) (slots' := 0) (W := 1) X32 hx hZ (rm_len l Z a0 hw a1 ba kb (6 : Int32) _ cs hcs h0 n0 O E_a1 F_value_a1 F_coder_a1 V_ba S_CS) hown (ow85 hw) (ow86 hw) (own_nf hZ (ow88 hw)) (ow88 hw) (ow87 hw) (ow13 hw) (ow89 hw) (by decide) (by rw [hml]; rfl) e32 opd_0 [] [(.int (4 : Int32))] rfl rfl rfl rfl (by decide) (by decide) rfl rfl (by decide) (by decide) E_a1 (hb hby d9_18) rfl (fun v33 T33 h33 L33 X33 e33 z33 => ?_)
    obtain ⟨rfl, Nq33, hq33⟩ := z33; replace e33 := e33.trans hq33; have N := Fr.app N Nq33
    show OG p e below _ (T33.setTop (mkF m 21 #[.val (.ref a1), .val (.int (3 : Int32)), .val (.ref wS), .val (.int (4 : Int32))] [(.int (6 : Int32)), (.int (4 : Int32))]))
    refine og_icmp_ge (pc1 := 49) (pc2 := 24) X33 hx (hb hby d9_21) (by decide) (by decide) rfl (fun q => absurd q (by decide)) (fun _ => ?_)
    refine og_aloadN (pc' := 25) X33 hx rfl rfl (hb hby d9_24) rfl ?_
    refine og_aloadN (pc' := 26) X33 hx rfl rfl (hb hby d9_25) rfl ?_
    refine og_iloadN (pc' := 27) X33 hx rfl (hb hby d9_26) rfl ?_
    refine og_virtual (pc' := 30) (cells' := 0) (slots' := 0) (W := 1) X33 hx hZ (rm_ch l Z a0 hw a1 ba kb (6 : Int32) (4 : Int32) ⟨by decide, by decide⟩ _ d4 rfl hd4 cs hcs fm hfm h0 n0 O E_a1 F_value_a1 F_coder_a1 V_ba S_CS S_FM) hown (ow47 hw) (ow48 hw) (own_nf hZ (ow50 hw)) (ow50 hw) (ow49 hw) (ow13 hw) (ow51 hw) (by decide) (by rw [hml]; rfl) e33 opd_11 [(.int (4 : Int32))] [(.ref wS)] rfl rfl rfl rfl (by decide) (by decide) rfl rfl (by decide) (by decide) E_a1 (hb hby d9_27) rfl (fun v34 T34 h34 L34 X34 e34 z34 => ?_)
    obtain ⟨rfl, Nq34, hq34⟩ := z34; replace e34 := e34.trans hq34; have N := Fr.app N Nq34
    show OG p e below _ (T34.setTop (mkF m 30 #[.val (.ref a1), .val (.int (3 : Int32)), .val (.ref wS), .val (.int (4 : Int32))] [(.int d4), (.ref wS)]))
    by_cases ha : d4 = 92
    ·
      refine og_virtual (pc' := 33) (cells' := 0) (slots' := 0) (W := 0) X34 hx hZ (rm_nxS l Z a0 hw w0 w1 w2 w3 w4 wS wE d3 d4 wE hq (if_pos ha) h0 n0 O S_CODE S_SINGLE S_SINGLE_ESCAPED S_DOUBLE S_DOUBLE_ESCAPED E_w0 E_w1 E_w2 E_w3 E_w4 F_w0 F_w1 F_w2 F_w3 F_w4) hown (ow69 hw) (ow70 hw) (own_nf hZ (ow72 hw)) (ow72 hw) (ow71 hw) (ow45 hw) (ow73 hw) (by decide) (by rw [hml]; rfl) e34 opd_12 [(.int d4)] [] rfl rfl rfl rfl (by decide) (by decide) rfl rfl (by decide) (by decide) (E_wS.ext O.2) (hb hby d9_30) rfl (fun v35 T35 h35 L35 X35 e35 z35 => ?_)
      obtain ⟨rfl, Nq35, hq35⟩ := z35; replace e35 := e35.trans hq35; have N := Fr.app N Nq35
      show OG p e below _ (T35.setTop (mkF m 33 #[.val (.ref a1), .val (.int (3 : Int32)), .val (.ref wS), .val (.int (4 : Int32))] [(.ref wE)]))
      refine og_astoreN (pc' := 34) (L' := #[.val (.ref a1), .val (.int (3 : Int32)), .val (.ref wE), .val (.int (4 : Int32))]) X35 hx rfl rfl (hb hby d9_33) rfl ?_
      refine og_aloadN (pc' := 35) X35 hx rfl rfl (hb hby d9_34) rfl ?_
      refine og_getstatic (pc' := 38) X35 hx hZ (host := "") hown (Or.inl (ow44 hw)) Via.refl e35 (S_CODE.ext O.2) (hb hby d9_35) rfl (fun T36 X36 e36 => ?_)
      refine og_acmp_ne (pc1 := 43) (pc2 := 41) X36 hx rfl rfl (hb hby d9_38) (by decide) (by decide) rfl (fun _ => ?_) (fun q => absurd q (fun q => ne_wE_w0 (Value.ref.inj q)))
      refine og_iinc (pc' := 46) (L' := #[.val (.ref a1), .val (.int (3 : Int32)), .val (.ref wE), .val (.int (5 : Int32))]) (w := (1 : Int32)) X36 hx rfl rfl rfl (hb hby d9_43) rfl ?_
      refine og_goto (pc' := 16) X36 hx (hb hby d9_46) (by decide) (by decide) ?_
      exact J5_wE T36 _ X36 e36 N ((own_e92 ha).symm.trans hr)
    ·
      by_cases hbq : d4 = d3
      ·
        refine og_virtual (pc' := 33) (cells' := 0) (slots' := 0) (W := 0) X34 hx hZ (rm_nxS l Z a0 hw w0 w1 w2 w3 w4 wS wE d3 d4 w0 hq ((if_neg ha).trans (if_pos hbq)) h0 n0 O S_CODE S_SINGLE S_SINGLE_ESCAPED S_DOUBLE S_DOUBLE_ESCAPED E_w0 E_w1 E_w2 E_w3 E_w4 F_w0 F_w1 F_w2 F_w3 F_w4) hown (ow69 hw) (ow70 hw) (own_nf hZ (ow72 hw)) (ow72 hw) (ow71 hw) (ow45 hw) (ow73 hw) (by decide) (by rw [hml]; rfl) e34 opd_12 [(.int d4)] [] rfl rfl rfl rfl (by decide) (by decide) rfl rfl (by decide) (by decide) (E_wS.ext O.2) (hb hby d9_30) rfl (fun v37 T37 h37 L37 X37 e37 z37 => ?_)
        obtain ⟨rfl, Nq37, hq37⟩ := z37; replace e37 := e37.trans hq37; have N := Fr.app N Nq37
        show OG p e below _ (T37.setTop (mkF m 33 #[.val (.ref a1), .val (.int (3 : Int32)), .val (.ref wS), .val (.int (4 : Int32))] [(.ref w0)]))
        refine og_astoreN (pc' := 34) (L' := #[.val (.ref a1), .val (.int (3 : Int32)), .val (.ref w0), .val (.int (4 : Int32))]) X37 hx rfl rfl (hb hby d9_33) rfl ?_
        refine og_aloadN (pc' := 35) X37 hx rfl rfl (hb hby d9_34) rfl ?_
        refine og_getstatic (pc' := 38) X37 hx hZ (host := "") hown (Or.inl (ow44 hw)) Via.refl e37 (S_CODE.ext O.2) (hb hby d9_35) rfl (fun T38 X38 e38 => ?_)
        refine og_acmp_ne (pc1 := 43) (pc2 := 41) X38 hx rfl rfl (hb hby d9_38) (by decide) (by decide) rfl (fun q => absurd rfl q) (fun _ => ?_)
        refine og_iloadN (pc' := 42) X38 hx rfl (hb hby d9_41) rfl ?_
        refine og_retI X38 hx hlk hret (hb hby d9_42) (by decide) (by decide) ?_
        rw [e38]; exact ⟨by rw [← hr, own_eq ha hbq], N, rfl⟩
      ·
        refine og_virtual (pc' := 33) (cells' := 0) (slots' := 0) (W := 0) X34 hx hZ (rm_nxS l Z a0 hw w0 w1 w2 w3 w4 wS wE d3 d4 wS hq ((if_neg ha).trans (if_neg hbq)) h0 n0 O S_CODE S_SINGLE S_SINGLE_ESCAPED S_DOUBLE S_DOUBLE_ESCAPED E_w0 E_w1 E_w2 E_w3 E_w4 F_w0 F_w1 F_w2 F_w3 F_w4) hown (ow69 hw) (ow70 hw) (own_nf hZ (ow72 hw)) (ow72 hw) (ow71 hw) (ow45 hw) (ow73 hw) (by decide) (by rw [hml]; rfl) e34 opd_12 [(.int d4)] [] rfl rfl rfl rfl (by decide) (by decide) rfl rfl (by decide) (by decide) (E_wS.ext O.2) (hb hby d9_30) rfl (fun v39 T39 h39 L39 X39 e39 z39 => ?_)
        obtain ⟨rfl, Nq39, hq39⟩ := z39; replace e39 := e39.trans hq39; have N := Fr.app N Nq39
        show OG p e below _ (T39.setTop (mkF m 33 #[.val (.ref a1), .val (.int (3 : Int32)), .val (.ref wS), .val (.int (4 : Int32))] [(.ref wS)]))
        refine og_astoreN (pc' := 34) (L' := #[.val (.ref a1), .val (.int (3 : Int32)), .val (.ref wS), .val (.int (4 : Int32))]) X39 hx rfl rfl (hb hby d9_33) rfl ?_
        refine og_aloadN (pc' := 35) X39 hx rfl rfl (hb hby d9_34) rfl ?_
        refine og_getstatic (pc' := 38) X39 hx hZ (host := "") hown (Or.inl (ow44 hw)) Via.refl e39 (S_CODE.ext O.2) (hb hby d9_35) rfl (fun T40 X40 e40 => ?_)
        refine og_acmp_ne (pc1 := 43) (pc2 := 41) X40 hx rfl rfl (hb hby d9_38) (by decide) (by decide) rfl (fun _ => ?_) (fun q => absurd q (fun q => ne_wS_w0 (Value.ref.inj q)))
        refine og_iinc (pc' := 46) (L' := #[.val (.ref a1), .val (.int (3 : Int32)), .val (.ref wS), .val (.int (5 : Int32))]) (w := (1 : Int32)) X40 hx rfl rfl rfl (hb hby d9_43) rfl ?_
        refine og_goto (pc' := 16) X40 hx (hb hby d9_46) (by decide) (by decide) ?_
        exact J5_wS T40 _ X40 e40 N ((own_eo ha hbq).symm.trans hr)
  exact J4_wS T13 _ X13 e13 N hr
theorem rm_se4 (l : Launch) (Z : State) (a0 : Array Value) (hw : HW a0 Z) (a1 ba : Addr) (kb : ClassId) (d0 d1 d2 d3 d4 d5 : Int32) (hd0 : 0 ≤ d0.toInt ∧ d0.toInt ≤ 255) (hd1 : 0 ≤ d1.toInt ∧ d1.toInt ≤ 255) (hd2 : 0 ≤ d2.toInt ∧ d2.toInt ≤ 255) (hd3 : 0 ≤ d3.toInt ∧ d3.toInt ≤ 255) (hd4 : 0 ≤ d4.toInt ∧ d4.toInt ≤ 255) (hd5 : 0 ≤ d5.toInt ∧ d5.toInt ≤ 255) (cs : Int32) (hcs : ¬ cs = 0) (fm : Value) (hfm : fm.isRef = true) (w0 w1 w2 w3 w4 wS wE : Addr) (hq : (d4 = 39 ∧ wS = w1 ∧ wE = w2) ∨ (d4 = 34 ∧ wS = w3 ∧ wE = w4)) (r : Int32) (hr : own_end d4 false [d5] 5 = r) (h0 : Heap) (n0 : Nat) (O : Old Z n0 h0) (E_a1 : Exa Z h0 a1 "java/lang/String") (F_value_a1 : Fld Z h0 a1 "java/lang/String" "value" "[B" (.ref ba)) (F_coder_a1 : Fld Z h0 a1 "java/lang/String" "coder" "B" (.int (0 : Int32))) (V_ba : Arv Z h0 ba kb .byte (6 : Int32) [(.int d0.toInt8.toInt32), (.int d1.toInt8.toInt32), (.int d2.toInt8.toInt32), (.int d3.toInt8.toInt32), (.int d4.toInt8.toInt32), (.int d5.toInt8.toInt32)] (.int (0 : Int32))) (S_CS : Sta Z Z.heap "java/lang/String" "COMPACT_STRINGS" "Z" (.int cs)) (S_FM : Sta Z Z.heap "jdk/internal/util/Preconditions" "SIOOBE_FORMATTER" "Ljava/util/function/BiFunction;" fm) (S_CODE : Sta Z Z.heap "com/example/nitpick/nitpick/internal/interpolation/ExpressionLiterals$Quoting" "CODE" "Lcom/example/nitpick/nitpick/internal/interpolation/ExpressionLiterals$Quoting;" (.ref w0)) (S_SINGLE : Sta Z Z.heap "com/example/nitpick/nitpick/internal/interpolation/ExpressionLiterals$Quoting" "SINGLE" "Lcom/example/nitpick/nitpick/internal/interpolation/ExpressionLiterals$Quoting;" (.ref w1)) (S_SINGLE_ESCAPED : Sta Z Z.heap "com/example/nitpick/nitpick/internal/interpolation/ExpressionLiterals$Quoting" "SINGLE_ESCAPED" "Lcom/example/nitpick/nitpick/internal/interpolation/ExpressionLiterals$Quoting;" (.ref w2)) (S_DOUBLE : Sta Z Z.heap "com/example/nitpick/nitpick/internal/interpolation/ExpressionLiterals$Quoting" "DOUBLE" "Lcom/example/nitpick/nitpick/internal/interpolation/ExpressionLiterals$Quoting;" (.ref w3)) (S_DOUBLE_ESCAPED : Sta Z Z.heap "com/example/nitpick/nitpick/internal/interpolation/ExpressionLiterals$Quoting" "DOUBLE_ESCAPED" "Lcom/example/nitpick/nitpick/internal/interpolation/ExpressionLiterals$Quoting;" (.ref w4)) (E_w0 : Exa Z Z.heap w0 "com/example/nitpick/nitpick/internal/interpolation/ExpressionLiterals$Quoting") (E_w1 : Exa Z Z.heap w1 "com/example/nitpick/nitpick/internal/interpolation/ExpressionLiterals$Quoting") (E_w2 : Exa Z Z.heap w2 "com/example/nitpick/nitpick/internal/interpolation/ExpressionLiterals$Quoting") (E_w3 : Exa Z Z.heap w3 "com/example/nitpick/nitpick/internal/interpolation/ExpressionLiterals$Quoting") (E_w4 : Exa Z Z.heap w4 "com/example/nitpick/nitpick/internal/interpolation/ExpressionLiterals$Quoting") (F_w0 : Fld Z Z.heap w0 "java/lang/Enum" "ordinal" "I" (.int (0 : Int32))) (F_w1 : Fld Z Z.heap w1 "java/lang/Enum" "ordinal" "I" (.int (1 : Int32))) (F_w2 : Fld Z Z.heap w2 "java/lang/Enum" "ordinal" "I" (.int (2 : Int32))) (F_w3 : Fld Z Z.heap w3 "java/lang/Enum" "ordinal" "I" (.int (3 : Int32))) (F_w4 : Fld Z Z.heap w4 "java/lang/Enum" "ordinal" "I" (.int (4 : Int32))) (E_wS : Exa Z Z.heap wS "com/example/nitpick/nitpick/internal/interpolation/ExpressionLiterals$Quoting") (E_wE : Exa Z Z.heap wE "com/example/nitpick/nitpick/internal/interpolation/ExpressionLiterals$Quoting") (ne_wS_w0 : wS ≠ w0) (ne_wE_w0 : wE ≠ w0) :
    Con l Z (⟨"com/example/nitpick/nitpick/internal/interpolation/ExpressionLiterals", "stringEnd", "(Ljava/lang/String;I)I"⟩ : MethodName) prog_59_method_6_code 4 (some .int) ({ frames := 4, cells := 0, slots := 0, locals := 54 } : Room) #[(.ref a1), (.int (4 : Int32))] h0 (fun v h L => v = some (.int r) ∧ Fr n0 L ∧ h = h0) := by
  refine own_startC opn_9 ?_
  intro p e s m below meth c T0 X0 hx hby hml hZ hown hnm hret hlk e0
  have N := Fr.nil n0; have K := Keep.refl h0 []
  refine OG.cast (oef11 m a1 (4 : Int32)) ?_
  refine og_getstatic (pc' := 3) X0 hx hZ (host := "") hown (Or.inl (ow44 hw)) Via.refl e0 (S_CODE.ext O.2) (hb hby d9_0) rfl (fun T11 X11 e11 => ?_)
  refine og_aloadN (pc' := 4) X11 hx rfl rfl (hb hby d9_3) rfl ?_
  refine og_iloadN (pc' := 5) X11 hx rfl (hb hby d9_4) rfl ?_
  refine og_virtual (pc' := 8) (cells' := 0) (slots' := 0) (W := 1) X11 hx hZ (rm_ch l Z a0 hw a1 ba kb (6 : Int32) (4 : Int32) ⟨by decide, by decide⟩ _ d4 rfl hd4 cs hcs fm hfm h0 n0 O E_a1 F_value_a1 F_coder_a1 V_ba S_CS S_FM) hown (ow47 hw) (ow48 hw) (own_nf hZ (ow50 hw)) (ow50 hw) (ow49 hw) (ow13 hw) (ow51 hw) (by decide) (by rw [hml]; rfl) e11 opd_11 [(.int (4 : Int32))] [(.ref w0)] rfl rfl rfl rfl (by decide) (by decide) rfl rfl (by decide) (by decide) E_a1 (hb hby d9_5) rfl (fun v12 T12 h12 L12 X12 e12 z12 => ?_)
  obtain ⟨rfl, Nq12, hq12⟩ := z12; replace e12 := e12.trans hq12; have N := Fr.app N Nq12
  show OG p e below _ (T12.setTop (mkF m 8 #[.val (.ref a1), .val (.int (4 : Int32)), .unset, .unset] [(.int d4), (.ref w0)]))
  refine og_virtual (pc' := 11) (cells' := 0) (slots' := 0) (W := 0) X12 hx hZ (rm_nx0 l Z a0 hw w0 w1 w2 w3 w4 d4 wS (own_nx0 hq) h0 n0 O S_CODE S_SINGLE S_SINGLE_ESCAPED S_DOUBLE S_DOUBLE_ESCAPED E_w0 E_w1 E_w2 E_w3 E_w4 F_w0 F_w1 F_w2 F_w3 F_w4) hown (ow69 hw) (ow70 hw) (own_nf hZ (ow72 hw)) (ow72 hw) (ow71 hw) (ow45 hw) (ow73 hw) (by decide) (by rw [hml]; rfl) e12 opd_12 [(.int d4)] [] rfl rfl rfl rfl (by decide) (by decide) rfl rfl (by decide) (by decide) (E_w0.ext O.2) (hb hby d9_8) rfl (fun v13 T13 h13 L13 X13 e13 z13 => ?_)
  obtain ⟨rfl, Nq13, hq13⟩ := z13; replace e13 := e13.trans hq13; have N := Fr.app N Nq13
  show OG p e below _ (T13.setTop (mkF m 11 #[.val (.ref a1), .val (.int (4 : Int32)), .unset, .unset] [(.ref wS)]))
  refine og_astoreN (pc' := 12) (L' := #[.val (.ref a1), .val (.int (4 : Int32)), .val (.ref wS), .unset]) X13 hx rfl rfl (hb hby d9_11) rfl ?_
  refine og_iloadN (pc' := 13) X13 hx rfl (hb hby d9_12) rfl ?_
  refine og_iconst (pc' := 14) (v := (1 : Int32)) X13 hx rfl (hb hby d9_13) rfl ?_
  refine og_iadd (pc' := 15) X13 hx (hb hby d9_14) rfl ?_
  show OG p e below _ (T13.setTop (mkF m 15 #[.val (.ref a1), .val (.int (4 : Int32)), .val (.ref wS), .unset] [(.int (5 : Int32))]))
  refine og_istoreN (pc' := 16) (L' := #[.val (.ref a1), .val (.int (4 : Int32)), .val (.ref wS), .val (.int (5 : Int32))]) X13 hx rfl (hb hby d9_15) rfl ?_
  have J6_wS : ∀ (T14 : State) (l14 : List Loc) (X14 : Stand p l e ({ frames := 4, cells := 0, slots := 0, locals := 54 } : Room) s m #[(.ref a1), (.int (4 : Int32))] below meth c T14 l14 0 0) (e14 : T14.heap = h0) (N : Fr n0 l14) (hr : own_end d4 false [] 6 = r), OG p e below (OFin s (fun v h L => v = some (.int r) ∧ Fr n0 L ∧ h = h0) 0 0) (T14.setTop (mkF m 16 #[.val (.ref a1), .val (.int (4 : Int32)), .val (.ref wS), .val (.int (6 : Int32))] [])) := by
    intro T14 l14 X14 e14 N hr
    refine og_iloadN (pc' := 17) X14 hx rfl (hb hby d9_16) rfl ?_
    refine og_aloadN (pc' := 18) X14 hx rfl rfl (hb hby d9_17) rfl ?_
    refine og_virtual (pc' := 21) (cells' := 0) (slots' := 0) (W := 1) X14 hx hZ (rm_len l Z a0 hw a1 ba kb (6 : Int32) _ cs hcs h0 n0 O E_a1 F_value_a1 F_coder_a1 V_ba S_CS) hown (ow85 hw) (ow86 hw) (own_nf hZ (ow88 hw)) (ow88 hw) (ow87 hw) (ow13 hw) (ow89 hw) (by decide) (by rw [hml]; rfl) e14 opd_0 [] [(.int (6 : Int32))] rfl rfl rfl rfl (by decide) (by decide) rfl rfl (by decide) (by decide) E_a1 (hb hby d9_18) rfl (fun v15 T15 h15 L15 X15 e15 z15 => ?_)
    obtain ⟨rfl, Nq15, hq15⟩ := z15; replace e15 := e15.trans hq15; have N := Fr.app N Nq15
    show OG p e below _ (T15.setTop (mkF m 21 #[.val (.ref a1), .val (.int (4 : Int32)), .val (.ref wS), .val (.int (6 : Int32))] [(.int (6 : Int32)), (.int (6 : Int32))]))
    refine og_icmp_ge (pc1 := 49) (pc2 := 24) X15 hx (hb hby d9_21) (by decide) (by decide) rfl (fun _ => ?_) (fun q => absurd q (by decide))
    refine og_iconst (pc' := 50) (v := (-1 : Int32)) X15 hx rfl (hb hby d9_49) rfl ?_
    refine og_retI X15 hx hlk hret (hb hby d9_50) (by decide) (by decide) ?_
    rw [e15]; exact ⟨by rw [← hr]; rfl, N, rfl⟩
  have J6_wE : ∀ (T16 : State) (l16 : List Loc) (X16 : Stand p l e ({ frames := 4, cells := 0, slots := 0, locals := 54 } : Room) s m #[(.ref a1), (.int (4 : Int32))] below meth c T16 l16 0 0) (e16 : T16.heap = h0) (N : Fr n0 l16) (hr : own_end d4 true [] 6 = r), OG p e below (OFin s (fun v h L => v = some (.int r) ∧ Fr n0 L ∧ h = h0) 0 0) (T16.setTop (mkF m 16 #[.val (.ref a1), .val (.int (4 : Int32)), .val (.ref wE), .val (.int (6 : Int32))] [])) := by
    intro T16 l16 X16 e16 N hr
    refine og_iloadN (pc' := 17) X16 hx rfl (hb hby d9_16) rfl ?_
    refine og_aloadN (pc' := 18) X16 hx rfl rfl (hb hby d9_17) rfl ?_
    refine og_virtual (pc' := 21) (cells' := 0) (slots' := 0) (W := 1) X16 hx hZ (rm_len l Z a0 hw a1 ba kb (6 : Int32) _ cs hcs h0 n0 O E_a1 F_value_a1 F_coder_a1 V_ba S_CS) hown (ow85 hw) (ow86 hw) (own_nf hZ (ow88 hw)) (ow88 hw) (ow87 hw) (ow13 hw) (ow89 hw) (by decide) (by rw [hml]; rfl) e16 opd_0 [] [(.int (6 : Int32))] rfl rfl rfl rfl (by decide) (by decide) rfl rfl (by decide) (by decide) E_a1 (hb hby d9_18) rfl (fun v17 T17 h17 L17 X17 e17 z17 => ?_)
    obtain ⟨rfl, Nq17, hq17⟩ := z17; replace e17 := e17.trans hq17; have N := Fr.app N Nq17
    show OG p e below _ (T17.setTop (mkF m 21 #[.val (.ref a1), .val (.int (4 : Int32)), .val (.ref wE), .val (.int (6 : Int32))] [(.int (6 : Int32)), (.int (6 : Int32))]))
    refine og_icmp_ge (pc1 := 49) (pc2 := 24) X17 hx (hb hby d9_21) (by decide) (by decide) rfl (fun _ => ?_) (fun q => absurd q (by decide))
    refine og_iconst (pc' := 50) (v := (-1 : Int32)) X17 hx rfl (hb hby d9_49) rfl ?_
    refine og_retI X17 hx hlk hret (hb hby d9_50) (by decide) (by decide) ?_
    rw [e17]; exact ⟨by rw [← hr]; rfl, N, rfl⟩
  have J5_wS : ∀ (T18 : State) (l18 : List Loc) (X18 : Stand p l e ({ frames := 4, cells := 0, slots := 0, locals := 54 } : Room) s m #[(.ref a1), (.int (4 : Int32))] below meth c T18 l18 0 0) (e18 : T18.heap = h0) (N : Fr n0 l18) (hr : own_end d4 false [d5] 5 = r), OG p e below (OFin s (fun v h L => v = some (.int r) ∧ Fr n0 L ∧ h = h0) 0 0) (T18.setTop (mkF m 16 #[.val (.ref a1), .val (.int (4 : Int32)), .val (.ref wS), .val (.int (5 : Int32))] [])) := by
    intro T18 l18 X18 e18 N hr
    refine og_iloadN (pc' := 17) X18 hx rfl (hb hby d9_16) rfl ?_
    refine og_aloadN (pc' := 18) X18 hx rfl rfl (hb hby d9_17) rfl ?_
    refine og_virtual (pc' := 21) (cells' := 0) (slots' := 0) (W := 1) X18 hx hZ (rm_len l Z a0 hw a1 ba kb (6 : Int32) _ cs hcs h0 n0 O E_a1 F_value_a1 F_coder_a1 V_ba S_CS) hown (ow85 hw) (ow86 hw) (own_nf hZ (ow88 hw)) (ow88 hw) (ow87 hw) (ow13 hw) (ow89 hw) (by decide) (by rw [hml]; rfl) e18 opd_0 [] [(.int (5 : Int32))] rfl rfl rfl rfl (by decide) (by decide) rfl rfl (by decide) (by decide) E_a1 (hb hby d9_18) rfl (fun v19 T19 h19 L19 X19 e19 z19 => ?_)
    obtain ⟨rfl, Nq19, hq19⟩ := z19; replace e19 := e19.trans hq19; have N := Fr.app N Nq19
    show OG p e below _ (T19.setTop (mkF m 21 #[.val (.ref a1), .val (.int (4 : Int32)), .val (.ref wS), .val (.int (5 : Int32))] [(.int (6 : Int32)), (.int (5 : Int32))]))
    refine og_icmp_ge (pc1 := 49) (pc2 := 24) X19 hx (hb hby d9_21) (by decide) (by decide) rfl (fun q => absurd q (by decide)) (fun _ => ?_)
    refine og_aloadN (pc' := 25) X19 hx rfl rfl (hb hby d9_24) rfl ?_
    refine og_aloadN (pc' := 26) X19 hx rfl rfl (hb hby d9_25) rfl ?_
    refine og_iloadN (pc' := 27) X19 hx rfl (hb hby d9_26) rfl ?_
    refine og_virtual (pc' := 30) (cells' := 0) (slots' := 0) (W := 1) X19 hx hZ (rm_ch l Z a0 hw a1 ba kb (6 : Int32) (5 : Int32) ⟨by decide, by decide⟩ _ d5 rfl hd5 cs hcs fm hfm h0 n0 O E_a1 F_value_a1 F_coder_a1 V_ba S_CS S_FM) hown (ow47 hw) (ow48 hw) (own_nf hZ (ow50 hw)) (ow50 hw) (ow49 hw) (ow13 hw) (ow51 hw) (by decide) (by rw [hml]; rfl) e19 opd_11 [(.int (5 : Int32))] [(.ref wS)] rfl rfl rfl rfl (by decide) (by decide) rfl rfl (by decide) (by decide) E_a1 (hb hby d9_27) rfl (fun v20 T20 h20 L20 X20 e20 z20 => ?_)
    obtain ⟨rfl, Nq20, hq20⟩ := z20; replace e20 := e20.trans hq20; have N := Fr.app N Nq20
    show OG p e below _ (T20.setTop (mkF m 30 #[.val (.ref a1), .val (.int (4 : Int32)), .val (.ref wS), .val (.int (5 : Int32))] [(.int d5), (.ref wS)]))
    by_cases ha : d5 = 92
    ·
      refine og_virtual (pc' := 33) (cells' := 0) (slots' := 0) (W := 0) X20 hx hZ (rm_nxS l Z a0 hw w0 w1 w2 w3 w4 wS wE d4 d5 wE hq (if_pos ha) h0 n0 O S_CODE S_SINGLE S_SINGLE_ESCAPED S_DOUBLE S_DOUBLE_ESCAPED E_w0 E_w1 E_w2 E_w3 E_w4 F_w0 F_w1 F_w2 F_w3 F_w4) hown (ow69 hw) (ow70 hw) (own_nf hZ (ow72 hw)) (ow72 hw) (ow71 hw) (ow45 hw) (ow73 hw) (by decide) (by rw [hml]; rfl) e20 opd_12 [(.int d5)] [] rfl rfl rfl rfl (by decide) (by decide) rfl rfl (by decide) (by decide) (E_wS.ext O.2) (hb hby d9_30) rfl (fun v21 T21 h21 L21 X21 e21 z21 => ?_)
      obtain ⟨rfl, Nq21, hq21⟩ := z21; replace e21 := e21.trans hq21; have N := Fr.app N Nq21
      show OG p e below _ (T21.setTop (mkF m 33 #[.val (.ref a1), .val (.int (4 : Int32)), .val (.ref wS), .val (.int (5 : Int32))] [(.ref wE)]))
      refine og_astoreN (pc' := 34) (L' := #[.val (.ref a1), .val (.int (4 : Int32)), .val (.ref wE), .val (.int (5 : Int32))]) X21 hx rfl rfl (hb hby d9_33) rfl ?_
      refine og_aloadN (pc' := 35) X21 hx rfl rfl (hb hby d9_34) rfl ?_
      refine og_getstatic (pc' := 38) X21 hx hZ (host := "") hown (Or.inl (ow44 hw)) Via.refl e21 (S_CODE.ext O.2) (hb hby d9_35) rfl (fun T22 X22 e22 => ?_)
      refine og_acmp_ne (pc1 := 43) (pc2 := 41) X22 hx rfl rfl (hb hby d9_38) (by decide) (by decide) rfl (fun _ => ?_) (fun q => absurd q (fun q => ne_wE_w0 (Value.ref.inj q)))
      refine og_iinc (pc' := 46) (L' := #[.val (.ref a1), .val (.int (4 : Int32)), .val (.ref wE), .val (.int (6 : Int32))]) (w := (1 : Int32)) X22 hx rfl rfl rfl (hb hby d9_43) rfl ?_
      refine og_goto (pc' := 16) X22 hx (hb hby d9_46) (by decide) (by decide) ?_
      exact J6_wE T22 _ X22 e22 N ((own_e92 ha).symm.trans hr)
    ·
      by_cases hbq : d5 = d4
      ·
        refine og_virtual (pc' := 33) (cells' := 0) (slots' := 0) (W := 0) X20 hx hZ (rm_nxS l Z a0 hw w0 w1 w2 w3 w4 wS wE d4 d5 w0 hq ((if_neg ha).trans (if_pos hbq)) h0 n0 O S_CODE S_SINGLE S_SINGLE_ESCAPED S_DOUBLE S_DOUBLE_ESCAPED E_w0 E_w1 E_w2 E_w3 E_w4 F_w0 F_w1 F_w2 F_w3 F_w4) hown (ow69 hw) (ow70 hw) (own_nf hZ (ow72 hw)) (ow72 hw) (ow71 hw) (ow45 hw) (ow73 hw) (by decide) (by rw [hml]; rfl) e20 opd_12 [(.int d5)] [] rfl rfl rfl rfl (by decide) (by decide) rfl rfl (by decide) (by decide) (E_wS.ext O.2) (hb hby d9_30) rfl (fun v23 T23 h23 L23 X23 e23 z23 => ?_)
        obtain ⟨rfl, Nq23, hq23⟩ := z23; replace e23 := e23.trans hq23; have N := Fr.app N Nq23
        show OG p e below _ (T23.setTop (mkF m 33 #[.val (.ref a1), .val (.int (4 : Int32)), .val (.ref wS), .val (.int (5 : Int32))] [(.ref w0)]))
        refine og_astoreN (pc' := 34) (L' := #[.val (.ref a1), .val (.int (4 : Int32)), .val (.ref w0), .val (.int (5 : Int32))]) X23 hx rfl rfl (hb hby d9_33) rfl ?_
        refine og_aloadN (pc' := 35) X23 hx rfl rfl (hb hby d9_34) rfl ?_
        refine og_getstatic (pc' := 38) X23 hx hZ (host := "") hown (Or.inl (ow44 hw)) Via.refl e23 (S_CODE.ext O.2) (hb hby d9_35) rfl (fun T24 X24 e24 => ?_)
        refine og_acmp_ne (pc1 := 43) (pc2 := 41) X24 hx rfl rfl (hb hby d9_38) (by decide) (by decide) rfl (fun q => absurd rfl q) (fun _ => ?_)
        refine og_iloadN (pc' := 42) X24 hx rfl (hb hby d9_41) rfl ?_
        refine og_retI X24 hx hlk hret (hb hby d9_42) (by decide) (by decide) ?_
        rw [e24]; exact ⟨by rw [← hr, own_eq ha hbq], N, rfl⟩
      ·
        refine og_virtual (pc' := 33) (cells' := 0) (slots' := 0) (W := 0) X20 hx hZ (rm_nxS l Z a0 hw w0 w1 w2 w3 w4 wS wE d4 d5 wS hq ((if_neg ha).trans (if_neg hbq)) h0 n0 O S_CODE S_SINGLE S_SINGLE_ESCAPED S_DOUBLE S_DOUBLE_ESCAPED E_w0 E_w1 E_w2 E_w3 E_w4 F_w0 F_w1 F_w2 F_w3 F_w4) hown (ow69 hw) (ow70 hw) (own_nf hZ (ow72 hw)) (ow72 hw) (ow71 hw) (ow45 hw) (ow73 hw) (by decide) (by rw [hml]; rfl) e20 opd_12 [(.int d5)] [] rfl rfl rfl rfl (by decide) (by decide) rfl rfl (by decide) (by decide) (E_wS.ext O.2) (hb hby d9_30) rfl (fun v25 T25 h25 L25 X25 e25 z25 => ?_)
        obtain ⟨rfl, Nq25, hq25⟩ := z25; replace e25 := e25.trans hq25; have N := Fr.app N Nq25
        show OG p e below _ (T25.setTop (mkF m 33 #[.val (.ref a1), .val (.int (4 : Int32)), .val (.ref wS), .val (.int (5 : Int32))] [(.ref wS)]))
        refine og_astoreN (pc' := 34) (L' := #[.val (.ref a1), .val (.int (4 : Int32)), .val (.ref wS), .val (.int (5 : Int32))]) X25 hx rfl rfl (hb hby d9_33) rfl ?_
        refine og_aloadN (pc' := 35) X25 hx rfl rfl (hb hby d9_34) rfl ?_
        refine og_getstatic (pc' := 38) X25 hx hZ (host := "") hown (Or.inl (ow44 hw)) Via.refl e25 (S_CODE.ext O.2) (hb hby d9_35) rfl (fun T26 X26 e26 => ?_)
        refine og_acmp_ne (pc1 := 43) (pc2 := 41) X26 hx rfl rfl (hb hby d9_38) (by decide) (by decide) rfl (fun _ => ?_) (fun q => absurd q (fun q => ne_wS_w0 (Value.ref.inj q)))
        refine og_iinc (pc' := 46) (L' := #[.val (.ref a1), .val (.int (4 : Int32)), .val (.ref wS), .val (.int (6 : Int32))]) (w := (1 : Int32)) X26 hx rfl rfl rfl (hb hby d9_43) rfl ?_
        refine og_goto (pc' := 16) X26 hx (hb hby d9_46) (by decide) (by decide) ?_
        exact J6_wS T26 _ X26 e26 N ((own_eo ha hbq).symm.trans hr)
  exact J5_wS T13 _ X13 e13 N hr
theorem rm_se5 (l : Launch) (Z : State) (a0 : Array Value) (hw : HW a0 Z) (a1 ba : Addr) (kb : ClassId) (d0 d1 d2 d3 d4 d5 : Int32) (hd0 : 0 ≤ d0.toInt ∧ d0.toInt ≤ 255) (hd1 : 0 ≤ d1.toInt ∧ d1.toInt ≤ 255) (hd2 : 0 ≤ d2.toInt ∧ d2.toInt ≤ 255) (hd3 : 0 ≤ d3.toInt ∧ d3.toInt ≤ 255) (hd4 : 0 ≤ d4.toInt ∧ d4.toInt ≤ 255) (hd5 : 0 ≤ d5.toInt ∧ d5.toInt ≤ 255) (cs : Int32) (hcs : ¬ cs = 0) (fm : Value) (hfm : fm.isRef = true) (w0 w1 w2 w3 w4 wS wE : Addr) (hq : (d5 = 39 ∧ wS = w1 ∧ wE = w2) ∨ (d5 = 34 ∧ wS = w3 ∧ wE = w4)) (r : Int32) (hr : own_end d5 false [] 6 = r) (h0 : Heap) (n0 : Nat) (O : Old Z n0 h0) (E_a1 : Exa Z h0 a1 "java/lang/String") (F_value_a1 : Fld Z h0 a1 "java/lang/String" "value" "[B" (.ref ba)) (F_coder_a1 : Fld Z h0 a1 "java/lang/String" "coder" "B" (.int (0 : Int32))) (V_ba : Arv Z h0 ba kb .byte (6 : Int32) [(.int d0.toInt8.toInt32), (.int d1.toInt8.toInt32), (.int d2.toInt8.toInt32), (.int d3.toInt8.toInt32), (.int d4.toInt8.toInt32), (.int d5.toInt8.toInt32)] (.int (0 : Int32))) (S_CS : Sta Z Z.heap "java/lang/String" "COMPACT_STRINGS" "Z" (.int cs)) (S_FM : Sta Z Z.heap "jdk/internal/util/Preconditions" "SIOOBE_FORMATTER" "Ljava/util/function/BiFunction;" fm) (S_CODE : Sta Z Z.heap "com/example/nitpick/nitpick/internal/interpolation/ExpressionLiterals$Quoting" "CODE" "Lcom/example/nitpick/nitpick/internal/interpolation/ExpressionLiterals$Quoting;" (.ref w0)) (S_SINGLE : Sta Z Z.heap "com/example/nitpick/nitpick/internal/interpolation/ExpressionLiterals$Quoting" "SINGLE" "Lcom/example/nitpick/nitpick/internal/interpolation/ExpressionLiterals$Quoting;" (.ref w1)) (S_SINGLE_ESCAPED : Sta Z Z.heap "com/example/nitpick/nitpick/internal/interpolation/ExpressionLiterals$Quoting" "SINGLE_ESCAPED" "Lcom/example/nitpick/nitpick/internal/interpolation/ExpressionLiterals$Quoting;" (.ref w2)) (S_DOUBLE : Sta Z Z.heap "com/example/nitpick/nitpick/internal/interpolation/ExpressionLiterals$Quoting" "DOUBLE" "Lcom/example/nitpick/nitpick/internal/interpolation/ExpressionLiterals$Quoting;" (.ref w3)) (S_DOUBLE_ESCAPED : Sta Z Z.heap "com/example/nitpick/nitpick/internal/interpolation/ExpressionLiterals$Quoting" "DOUBLE_ESCAPED" "Lcom/example/nitpick/nitpick/internal/interpolation/ExpressionLiterals$Quoting;" (.ref w4)) (E_w0 : Exa Z Z.heap w0 "com/example/nitpick/nitpick/internal/interpolation/ExpressionLiterals$Quoting") (E_w1 : Exa Z Z.heap w1 "com/example/nitpick/nitpick/internal/interpolation/ExpressionLiterals$Quoting") (E_w2 : Exa Z Z.heap w2 "com/example/nitpick/nitpick/internal/interpolation/ExpressionLiterals$Quoting") (E_w3 : Exa Z Z.heap w3 "com/example/nitpick/nitpick/internal/interpolation/ExpressionLiterals$Quoting") (E_w4 : Exa Z Z.heap w4 "com/example/nitpick/nitpick/internal/interpolation/ExpressionLiterals$Quoting") (F_w0 : Fld Z Z.heap w0 "java/lang/Enum" "ordinal" "I" (.int (0 : Int32))) (F_w1 : Fld Z Z.heap w1 "java/lang/Enum" "ordinal" "I" (.int (1 : Int32))) (F_w2 : Fld Z Z.heap w2 "java/lang/Enum" "ordinal" "I" (.int (2 : Int32))) (F_w3 : Fld Z Z.heap w3 "java/lang/Enum" "ordinal" "I" (.int (3 : Int32))) (F_w4 : Fld Z Z.heap w4 "java/lang/Enum" "ordinal" "I" (.int (4 : Int32))) (E_wS : Exa Z Z.heap wS "com/example/nitpick/nitpick/internal/interpolation/ExpressionLiterals$Quoting") (E_wE : Exa Z Z.heap wE "com/example/nitpick/nitpick/internal/interpolation/ExpressionLiterals$Quoting") (ne_wS_w0 : wS ≠ w0) (ne_wE_w0 : wE ≠ w0) :
    Con l Z (⟨"com/example/nitpick/nitpick/internal/interpolation/ExpressionLiterals", "stringEnd", "(Ljava/lang/String;I)I"⟩ : MethodName) prog_59_method_6_code 4 (some .int) ({ frames := 4, cells := 0, slots := 0, locals := 54 } : Room) #[(.ref a1), (.int (5 : Int32))] h0 (fun v h L => v = some (.int r) ∧ Fr n0 L ∧ h = h0) := by
  refine own_startC opn_9 ?_
  intro p e s m below meth c T0 X0 hx hby hml hZ hown hnm hret hlk e0
  have N := Fr.nil n0; have K := Keep.refl h0 []
  refine OG.cast (oef11 m a1 (5 : Int32)) ?_
  refine og_getstatic (pc' := 3) X0 hx hZ (host := "") hown (Or.inl (ow44 hw)) Via.refl e0 (S_CODE.ext O.2) (hb hby d9_0) rfl (fun T11 X11 e11 => ?_)
  refine og_aloadN (pc' := 4) X11 hx rfl rfl (hb hby d9_3) rfl ?_
  refine og_iloadN (pc' := 5) X11 hx rfl (hb hby d9_4) rfl ?_
  refine og_virtual (pc' := 8) (cells' := 0) (slots' := 0) (W := 1) X11 hx hZ (rm_ch l Z a0 hw a1 ba kb (6 : Int32) (5 : Int32) ⟨by decide, by decide⟩ _ d5 rfl hd5 cs hcs fm hfm h0 n0 O E_a1 F_value_a1 F_coder_a1 V_ba S_CS S_FM) hown (ow47 hw) (ow48 hw) (own_nf hZ (ow50 hw)) (ow50 hw) (ow49 hw) (ow13 hw) (ow51 hw) (by decide) (by rw [hml]; rfl) e11 opd_11 [(.int (5 : Int32))] [(.ref w0)] rfl rfl rfl rfl (by decide) (by decide) rfl rfl (by decide) (by decide) E_a1 (hb hby d9_5) rfl (fun v12 T12 h12 L12 X12 e12 z12 => ?_)
  obtain ⟨rfl, Nq12, hq12⟩ := z12; replace e12 := e12.trans hq12; have N := Fr.app N Nq12
  show OG p e below _ (T12.setTop (mkF m 8 #[.val (.ref a1), .val (.int (5 : Int32)), .unset, .unset] [(.int d5), (.ref w0)]))
  refine og_virtual (pc' := 11) (cells' := 0) (slots' := 0) (W := 0) X12 hx hZ (rm_nx0 l Z a0 hw w0 w1 w2 w3 w4 d5 wS (own_nx0 hq) h0 n0 O S_CODE S_SINGLE S_SINGLE_ESCAPED S_DOUBLE S_DOUBLE_ESCAPED E_w0 E_w1 E_w2 E_w3 E_w4 F_w0 F_w1 F_w2 F_w3 F_w4) hown (ow69 hw) (ow70 hw) (own_nf hZ (ow72 hw)) (ow72 hw) (ow71 hw) (ow45 hw) (ow73 hw) (by decide) (by rw [hml]; rfl) e12 opd_12 [(.int d5)] [] rfl rfl rfl rfl (by decide) (by decide) rfl rfl (by decide) (by decide) (E_w0.ext O.2) (hb hby d9_8) rfl (fun v13 T13 h13 L13 X13 e13 z13 => ?_)
  obtain ⟨rfl, Nq13, hq13⟩ := z13; replace e13 := e13.trans hq13; have N := Fr.app N Nq13
  show OG p e below _ (T13.setTop (mkF m 11 #[.val (.ref a1), .val (.int (5 : Int32)), .unset, .unset] [(.ref wS)]))
  refine og_astoreN (pc' := 12) (L' := #[.val (.ref a1), .val (.int (5 : Int32)), .val (.ref wS), .unset]) X13 hx rfl rfl (hb hby d9_11) rfl ?_
  refine og_iloadN (pc' := 13) X13 hx rfl (hb hby d9_12) rfl ?_
  refine og_iconst (pc' := 14) (v := (1 : Int32)) X13 hx rfl (hb hby d9_13) rfl ?_
  refine og_iadd (pc' := 15) X13 hx (hb hby d9_14) rfl ?_
  show OG p e below _ (T13.setTop (mkF m 15 #[.val (.ref a1), .val (.int (5 : Int32)), .val (.ref wS), .unset] [(.int (6 : Int32))]))
  refine og_istoreN (pc' := 16) (L' := #[.val (.ref a1), .val (.int (5 : Int32)), .val (.ref wS), .val (.int (6 : Int32))]) X13 hx rfl (hb hby d9_15) rfl ?_
  have J6_wS : ∀ (T14 : State) (l14 : List Loc) (X14 : Stand p l e ({ frames := 4, cells := 0, slots := 0, locals := 54 } : Room) s m #[(.ref a1), (.int (5 : Int32))] below meth c T14 l14 0 0) (e14 : T14.heap = h0) (N : Fr n0 l14) (hr : own_end d5 false [] 6 = r), OG p e below (OFin s (fun v h L => v = some (.int r) ∧ Fr n0 L ∧ h = h0) 0 0) (T14.setTop (mkF m 16 #[.val (.ref a1), .val (.int (5 : Int32)), .val (.ref wS), .val (.int (6 : Int32))] [])) := by
    intro T14 l14 X14 e14 N hr
    refine og_iloadN (pc' := 17) X14 hx rfl (hb hby d9_16) rfl ?_
    refine og_aloadN (pc' := 18) X14 hx rfl rfl (hb hby d9_17) rfl ?_
    refine og_virtual (pc' := 21) (cells' := 0) (slots' := 0) (W := 1) X14 hx hZ (rm_len l Z a0 hw a1 ba kb (6 : Int32) _ cs hcs h0 n0 O E_a1 F_value_a1 F_coder_a1 V_ba S_CS) hown (ow85 hw) (ow86 hw) (own_nf hZ (ow88 hw)) (ow88 hw) (ow87 hw) (ow13 hw) (ow89 hw) (by decide) (by rw [hml]; rfl) e14 opd_0 [] [(.int (6 : Int32))] rfl rfl rfl rfl (by decide) (by decide) rfl rfl (by decide) (by decide) E_a1 (hb hby d9_18) rfl (fun v15 T15 h15 L15 X15 e15 z15 => ?_)
    obtain ⟨rfl, Nq15, hq15⟩ := z15; replace e15 := e15.trans hq15; have N := Fr.app N Nq15
    show OG p e below _ (T15.setTop (mkF m 21 #[.val (.ref a1), .val (.int (5 : Int32)), .val (.ref wS), .val (.int (6 : Int32))] [(.int (6 : Int32)), (.int (6 : Int32))]))
    refine og_icmp_ge (pc1 := 49) (pc2 := 24) X15 hx (hb hby d9_21) (by decide) (by decide) rfl (fun _ => ?_) (fun q => absurd q (by decide))
    refine og_iconst (pc' := 50) (v := (-1 : Int32)) X15 hx rfl (hb hby d9_49) rfl ?_
    refine og_retI X15 hx hlk hret (hb hby d9_50) (by decide) (by decide) ?_
    rw [e15]; exact ⟨by rw [← hr]; rfl, N, rfl⟩
  exact J6_wS T13 _ X13 e13 N hr
theorem oef12 (m : MethodId) (x0 : Int64) (x1 : Int32) (x2 : Int32) : entryFrame m #[(.long x0), (.int x1), (.int x2)] maxLocals = mkF m 0 #[.val (.long x0), .second, .val (.int x1), .val (.int x2), .unset, .unset, .unset, .unset] [] := by first | (simp [entryFrame, mkF, argsToLocals, Value.category, maxLocals]; done) | rfl
theorem rm0 (l : Launch) (Z : State) (a0 : Array Value) (hw : HW a0 Z) (ws : List Jvm.Cond) (p1 : Int64) (p2 p3 : Int32) (w0 w1 w2 w3 w4 : Addr) (cs : Int32) (hcs : ¬ cs = 0) (fm : Value) (hfm : fm.isRef = true) (h0 : Heap) (n0 : Nat) (O : Old Z n0 h0) (S_CODE : Sta Z Z.heap "com/example/nitpick/nitpick/internal/interpolation/ExpressionLiterals$Quoting" "CODE" "Lcom/example/nitpick/nitpick/internal/interpolation/ExpressionLiterals$Quoting;" (.ref w0)) (S_SINGLE : Sta Z Z.heap "com/example/nitpick/nitpick/internal/interpolation/ExpressionLiterals$Quoting" "SINGLE" "Lcom/example/nitpick/nitpick/internal/interpolation/ExpressionLiterals$Quoting;" (.ref w1)) (S_SINGLE_ESCAPED : Sta Z Z.heap "com/example/nitpick/nitpick/internal/interpolation/ExpressionLiterals$Quoting" "SINGLE_ESCAPED" "Lcom/example/nitpick/nitpick/internal/interpolation/ExpressionLiterals$Quoting;" (.ref w2)) (S_DOUBLE : Sta Z Z.heap "com/example/nitpick/nitpick/internal/interpolation/ExpressionLiterals$Quoting" "DOUBLE" "Lcom/example/nitpick/nitpick/internal/interpolation/ExpressionLiterals$Quoting;" (.ref w3)) (S_DOUBLE_ESCAPED : Sta Z Z.heap "com/example/nitpick/nitpick/internal/interpolation/ExpressionLiterals$Quoting" "DOUBLE_ESCAPED" "Lcom/example/nitpick/nitpick/internal/interpolation/ExpressionLiterals$Quoting;" (.ref w4)) (E_w0 : Exa Z Z.heap w0 "com/example/nitpick/nitpick/internal/interpolation/ExpressionLiterals$Quoting") (E_w1 : Exa Z Z.heap w1 "com/example/nitpick/nitpick/internal/interpolation/ExpressionLiterals$Quoting") (E_w2 : Exa Z Z.heap w2 "com/example/nitpick/nitpick/internal/interpolation/ExpressionLiterals$Quoting") (E_w3 : Exa Z Z.heap w3 "com/example/nitpick/nitpick/internal/interpolation/ExpressionLiterals$Quoting") (E_w4 : Exa Z Z.heap w4 "com/example/nitpick/nitpick/internal/interpolation/ExpressionLiterals$Quoting") (F_w0 : Fld Z Z.heap w0 "java/lang/Enum" "ordinal" "I" (.int (0 : Int32))) (F_w1 : Fld Z Z.heap w1 "java/lang/Enum" "ordinal" "I" (.int (1 : Int32))) (F_w2 : Fld Z Z.heap w2 "java/lang/Enum" "ordinal" "I" (.int (2 : Int32))) (F_w3 : Fld Z Z.heap w3 "java/lang/Enum" "ordinal" "I" (.int (3 : Int32))) (F_w4 : Fld Z Z.heap w4 "java/lang/Enum" "ordinal" "I" (.int (4 : Int32))) (S_CS : Sta Z Z.heap "java/lang/String" "COMPACT_STRINGS" "Z" (.int cs)) (S_FM : Sta Z Z.heap "jdk/internal/util/Preconditions" "SIOOBE_FORMATTER" "Ljava/util/function/BiFunction;" fm) (ne_w1_w0 : w1 ≠ w0) (ne_w2_w0 : w2 ≠ w0) (ne_w3_w0 : w3 ≠ w0) (ne_w4_w0 : w4 ≠ w0) :
    MetFree l x (head1 (Jvm.Cond.code x code maxLocals ret :: ws) room_1) (fun a U => a = #[(.long p1), (.int p2), (.int p3)] ∧ Z.Warmed39 U.vm ∧ U.heap = h0) (fun _ _ _ _ _ => True) (fun _ U o U' => ∃ v L, o = .returned v ∧ (fun v h L => v = some (.int 1) ∧ Fr n0 L) v U'.heap L ∧ FrameEnd U o U' L 16 128) := by
  refine own_start (Q := fun v h L => v = some (.int 1) ∧ Fr n0 L) opn_0 ?_
  intro p e s m below meth c T0 X0 hx hby hml hZ hown hnm hret hlk e0
  have N := Fr.nil n0; have K := Keep.refl h0 []
  refine OG.cast (oef12 m p1 p2 p3) ?_
  refine og_bipush (pc' := 2) (v := (6 : Int32)) X0 hx rfl (hb hby at_0) rfl ?_
  refine og_newarray (pc' := 4) (cells' := 1) (slots' := 6) (cap := 6) (ty := .char) X0 hx hZ rfl (ow0 hw) e0 (by decide) (by decide) (by decide) (hb hby at_2) rfl rfl rfl (by decide) (by decide) (fun T11 h11 nb11 kA11 X11 e11 E11 q11 V_nb11 => ?_)
  have s_nb11 : h0.size ≤ nb11 := Nat.le_of_eq q11.symm; have g_nb11 : n0 ≤ nb11 := Nat.le_trans (own_n0 O) s_nb11; have sz_nb11 : h0.size ≤ nb11 := Nat.le_trans K.1 s_nb11; have ne_w0_nb11 : w0 ≠ nb11 := O.ne E_w0.lt g_nb11; have ne_w1_nb11 : w1 ≠ nb11 := O.ne E_w1.lt g_nb11; have ne_w2_nb11 : w2 ≠ nb11 := O.ne E_w2.lt g_nb11
  have ne_w3_nb11 : w3 ≠ nb11 := O.ne E_w3.lt g_nb11; have ne_w4_nb11 : w4 ≠ nb11 := O.ne E_w4.lt g_nb11
  have O := O.ext E11; have K := K.ext E11
  have V_nb11 : Arv Z h11 nb11 kA11 .char (6 : Int32) [(.int (0 : Int32)), (.int (0 : Int32)), (.int (0 : Int32)), (.int (0 : Int32)), (.int (0 : Int32)), (.int (0 : Int32))] (.int (0 : Int32)) := V_nb11.pad (pad_rep [] (.int (0 : Int32)) 6)
  refine og_astore (pc' := 6) (L' := #[.val (.long p1), .second, .val (.int p2), .val (.int p3), .val (.ref nb11), .unset, .unset, .unset]) X11 hx rfl rfl (hb hby at_4) rfl ?_
  refine og_aload (pc' := 8) X11 hx rfl rfl (hb hby at_6) rfl ?_
  refine og_iconst (pc' := 9) (v := (0 : Int32)) X11 hx rfl (hb hby at_8) rfl ?_
  refine og_lloadN (pc' := 10) X11 hx rfl (hb hby at_9) rfl ?_
  refine og_static (pc' := 13) (cells' := 1) (slots' := 6) (W := 2) X11 hx hZ (rm_dr l Z a0 hw p1 h11 n0 O) hown (ow1 hw) (ow2 hw) (ow3 hw) (ow4 hw) (by decide) (by rw [hml]; rfl) e11 opd_13 [(.long p1)] [(.int (0 : Int32)), (.ref nb11)] rfl rfl rfl rfl (by decide) (by decide) rfl rfl (by decide) (by decide) (hb hby at_10) rfl (fun v12 T12 h12 L12 X12 e12 z12 => ?_)
  obtain ⟨c0, rfl, Nq12, hq12, hc0⟩ := z12; replace e12 := e12.trans hq12; have N := Fr.app N Nq12
  show OG p e below _ (T12.setTop (mkF m 13 #[.val (.long p1), .second, .val (.int p2), .val (.int p3), .val (.ref nb11), .unset, .unset, .unset] [(.int c0), (.int (0 : Int32)), (.ref nb11)]))
  refine og_castore (pc' := 14) X12 hx hZ e12 V_nb11 ⟨by decide, by decide⟩ 0 (by decide) (Nat.le_of_ble_eq_true rfl) (hb hby at_13) rfl (fun T13 h13 X13 e13 W13 V13 => ?_)
  have O := O.wr W13 g_nb11; have K := K.wr W13 (Or.inr sz_nb11)
  have N := Fr.snoc X13 N g_nb11
  have V_nb11 : Arv Z h13 nb11 kA11 .char (6 : Int32) [(.int (nar .char c0)), (.int (0 : Int32)), (.int (0 : Int32)), (.int (0 : Int32)), (.int (0 : Int32)), (.int (0 : Int32))] (.int (0 : Int32)) := V13
  rw [own_nc hc0] at V_nb11
  refine og_aload (pc' := 16) X13 hx rfl rfl (hb hby at_14) rfl ?_
  refine og_iconst (pc' := 17) (v := (1 : Int32)) X13 hx rfl (hb hby at_16) rfl ?_
  refine og_lloadN (pc' := 18) X13 hx rfl (hb hby at_17) rfl ?_
  refine og_bipush (pc' := 20) (v := (10 : Int32)) X13 hx rfl (hb hby at_18) rfl ?_
  refine og_lushr (pc' := 21) X13 hx (hb hby at_20) rfl ?_
  refine og_static (pc' := 24) (cells' := 1) (slots' := 6) (W := 2) X13 hx hZ (rm_dr l Z a0 hw ((p1.toUInt64 >>> ((10 : Int32) &&& 0x3f).toInt64.toUInt64).toInt64) h13 n0 O) hown (ow1 hw) (ow2 hw) (ow3 hw) (ow4 hw) (by decide) (by rw [hml]; rfl) e13 opd_13 [(.long ((p1.toUInt64 >>> ((10 : Int32) &&& 0x3f).toInt64.toUInt64).toInt64))] [(.int (1 : Int32)), (.ref nb11)] rfl rfl rfl rfl (by decide) (by decide) rfl rfl (by decide) (by decide) (hb hby at_21) rfl (fun v14 T14 h14 L14 X14 e14 z14 => ?_)
  obtain ⟨c1, rfl, Nq14, hq14, hc1⟩ := z14; replace e14 := e14.trans hq14; have N := Fr.app N Nq14
  show OG p e below _ (T14.setTop (mkF m 24 #[.val (.long p1), .second, .val (.int p2), .val (.int p3), .val (.ref nb11), .unset, .unset, .unset] [(.int c1), (.int (1 : Int32)), (.ref nb11)]))
  refine og_castore (pc' := 25) X14 hx hZ e14 V_nb11 ⟨by decide, by decide⟩ 1 (by decide) (Nat.le_of_ble_eq_true rfl) (hb hby at_24) rfl (fun T15 h15 X15 e15 W15 V15 => ?_)
  have O := O.wr W15 g_nb11; have K := K.wr W15 (Or.inr sz_nb11)
  have N := Fr.snoc X15 N g_nb11
  have V_nb11 : Arv Z h15 nb11 kA11 .char (6 : Int32) [(.int c0), (.int (nar .char c1)), (.int (0 : Int32)), (.int (0 : Int32)), (.int (0 : Int32)), (.int (0 : Int32))] (.int (0 : Int32)) := V15
  rw [own_nc hc1] at V_nb11
  refine og_aload (pc' := 27) X15 hx rfl rfl (hb hby at_25) rfl ?_
  refine og_iconst (pc' := 28) (v := (2 : Int32)) X15 hx rfl (hb hby at_27) rfl ?_
  refine og_lloadN (pc' := 29) X15 hx rfl (hb hby at_28) rfl ?_
  refine og_bipush (pc' := 31) (v := (20 : Int32)) X15 hx rfl (hb hby at_29) rfl ?_
  refine og_lushr (pc' := 32) X15 hx (hb hby at_31) rfl ?_
  refine og_static (pc' := 35) (cells' := 1) (slots' := 6) (W := 2) X15 hx hZ (rm_dr l Z a0 hw ((p1.toUInt64 >>> ((20 : Int32) &&& 0x3f).toInt64.toUInt64).toInt64) h15 n0 O) hown (ow1 hw) (ow2 hw) (ow3 hw) (ow4 hw) (by decide) (by rw [hml]; rfl) e15 opd_13 [(.long ((p1.toUInt64 >>> ((20 : Int32) &&& 0x3f).toInt64.toUInt64).toInt64))] [(.int (2 : Int32)), (.ref nb11)] rfl rfl rfl rfl (by decide) (by decide) rfl rfl (by decide) (by decide) (hb hby at_32) rfl (fun v16 T16 h16 L16 X16 e16 z16 => ?_)
  obtain ⟨c2, rfl, Nq16, hq16, hc2⟩ := z16; replace e16 := e16.trans hq16; have N := Fr.app N Nq16
  show OG p e below _ (T16.setTop (mkF m 35 #[.val (.long p1), .second, .val (.int p2), .val (.int p3), .val (.ref nb11), .unset, .unset, .unset] [(.int c2), (.int (2 : Int32)), (.ref nb11)]))
  refine og_castore (pc' := 36) X16 hx hZ e16 V_nb11 ⟨by decide, by decide⟩ 2 (by decide) (Nat.le_of_ble_eq_true rfl) (hb hby at_35) rfl (fun T17 h17 X17 e17 W17 V17 => ?_)
  have O := O.wr W17 g_nb11; have K := K.wr W17 (Or.inr sz_nb11)
  have N := Fr.snoc X17 N g_nb11
  have V_nb11 : Arv Z h17 nb11 kA11 .char (6 : Int32) [(.int c0), (.int c1), (.int (nar .char c2)), (.int (0 : Int32)), (.int (0 : Int32)), (.int (0 : Int32))] (.int (0 : Int32)) := V17
  rw [own_nc hc2] at V_nb11
  refine og_aload (pc' := 38) X17 hx rfl rfl (hb hby at_36) rfl ?_
  refine og_iconst (pc' := 39) (v := (3 : Int32)) X17 hx rfl (hb hby at_38) rfl ?_
  refine og_lloadN (pc' := 40) X17 hx rfl (hb hby at_39) rfl ?_
  refine og_bipush (pc' := 42) (v := (30 : Int32)) X17 hx rfl (hb hby at_40) rfl ?_
  refine og_lushr (pc' := 43) X17 hx (hb hby at_42) rfl ?_
  refine og_static (pc' := 46) (cells' := 1) (slots' := 6) (W := 2) X17 hx hZ (rm_dr l Z a0 hw ((p1.toUInt64 >>> ((30 : Int32) &&& 0x3f).toInt64.toUInt64).toInt64) h17 n0 O) hown (ow1 hw) (ow2 hw) (ow3 hw) (ow4 hw) (by decide) (by rw [hml]; rfl) e17 opd_13 [(.long ((p1.toUInt64 >>> ((30 : Int32) &&& 0x3f).toInt64.toUInt64).toInt64))] [(.int (3 : Int32)), (.ref nb11)] rfl rfl rfl rfl (by decide) (by decide) rfl rfl (by decide) (by decide) (hb hby at_43) rfl (fun v18 T18 h18 L18 X18 e18 z18 => ?_)
  obtain ⟨c3, rfl, Nq18, hq18, hc3⟩ := z18; replace e18 := e18.trans hq18; have N := Fr.app N Nq18
  show OG p e below _ (T18.setTop (mkF m 46 #[.val (.long p1), .second, .val (.int p2), .val (.int p3), .val (.ref nb11), .unset, .unset, .unset] [(.int c3), (.int (3 : Int32)), (.ref nb11)]))
  refine og_castore (pc' := 47) X18 hx hZ e18 V_nb11 ⟨by decide, by decide⟩ 3 (by decide) (Nat.le_of_ble_eq_true rfl) (hb hby at_46) rfl (fun T19 h19 X19 e19 W19 V19 => ?_)
  have O := O.wr W19 g_nb11; have K := K.wr W19 (Or.inr sz_nb11)
  have N := Fr.snoc X19 N g_nb11
  have V_nb11 : Arv Z h19 nb11 kA11 .char (6 : Int32) [(.int c0), (.int c1), (.int c2), (.int (nar .char c3)), (.int (0 : Int32)), (.int (0 : Int32))] (.int (0 : Int32)) := V19
  rw [own_nc hc3] at V_nb11
  refine og_aload (pc' := 49) X19 hx rfl rfl (hb hby at_47) rfl ?_
  refine og_iconst (pc' := 50) (v := (4 : Int32)) X19 hx rfl (hb hby at_49) rfl ?_
  refine og_lloadN (pc' := 51) X19 hx rfl (hb hby at_50) rfl ?_
  refine og_bipush (pc' := 53) (v := (40 : Int32)) X19 hx rfl (hb hby at_51) rfl ?_
  refine og_lushr (pc' := 54) X19 hx (hb hby at_53) rfl ?_
  refine og_static (pc' := 57) (cells' := 1) (slots' := 6) (W := 2) X19 hx hZ (rm_dr l Z a0 hw ((p1.toUInt64 >>> ((40 : Int32) &&& 0x3f).toInt64.toUInt64).toInt64) h19 n0 O) hown (ow1 hw) (ow2 hw) (ow3 hw) (ow4 hw) (by decide) (by rw [hml]; rfl) e19 opd_13 [(.long ((p1.toUInt64 >>> ((40 : Int32) &&& 0x3f).toInt64.toUInt64).toInt64))] [(.int (4 : Int32)), (.ref nb11)] rfl rfl rfl rfl (by decide) (by decide) rfl rfl (by decide) (by decide) (hb hby at_54) rfl (fun v20 T20 h20 L20 X20 e20 z20 => ?_)
  obtain ⟨c4, rfl, Nq20, hq20, hc4⟩ := z20; replace e20 := e20.trans hq20; have N := Fr.app N Nq20
  show OG p e below _ (T20.setTop (mkF m 57 #[.val (.long p1), .second, .val (.int p2), .val (.int p3), .val (.ref nb11), .unset, .unset, .unset] [(.int c4), (.int (4 : Int32)), (.ref nb11)]))
  refine og_castore (pc' := 58) X20 hx hZ e20 V_nb11 ⟨by decide, by decide⟩ 4 (by decide) (Nat.le_of_ble_eq_true rfl) (hb hby at_57) rfl (fun T21 h21 X21 e21 W21 V21 => ?_)
  have O := O.wr W21 g_nb11; have K := K.wr W21 (Or.inr sz_nb11)
  have N := Fr.snoc X21 N g_nb11
  have V_nb11 : Arv Z h21 nb11 kA11 .char (6 : Int32) [(.int c0), (.int c1), (.int c2), (.int c3), (.int (nar .char c4)), (.int (0 : Int32))] (.int (0 : Int32)) := V21
  rw [own_nc hc4] at V_nb11
  refine og_aload (pc' := 60) X21 hx rfl rfl (hb hby at_58) rfl ?_
  refine og_iconst (pc' := 61) (v := (5 : Int32)) X21 hx rfl (hb hby at_60) rfl ?_
  refine og_lloadN (pc' := 62) X21 hx rfl (hb hby at_61) rfl ?_
  refine og_bipush (pc' := 64) (v := (50 : Int32)) X21 hx rfl (hb hby at_62) rfl ?_
  refine og_lushr (pc' := 65) X21 hx (hb hby at_64) rfl ?_
  refine og_static (pc' := 68) (cells' := 1) (slots' := 6) (W := 2) X21 hx hZ (rm_dr l Z a0 hw ((p1.toUInt64 >>> ((50 : Int32) &&& 0x3f).toInt64.toUInt64).toInt64) h21 n0 O) hown (ow1 hw) (ow2 hw) (ow3 hw) (ow4 hw) (by decide) (by rw [hml]; rfl) e21 opd_13 [(.long ((p1.toUInt64 >>> ((50 : Int32) &&& 0x3f).toInt64.toUInt64).toInt64))] [(.int (5 : Int32)), (.ref nb11)] rfl rfl rfl rfl (by decide) (by decide) rfl rfl (by decide) (by decide) (hb hby at_65) rfl (fun v22 T22 h22 L22 X22 e22 z22 => ?_)
  obtain ⟨c5, rfl, Nq22, hq22, hc5⟩ := z22; replace e22 := e22.trans hq22; have N := Fr.app N Nq22
  show OG p e below _ (T22.setTop (mkF m 68 #[.val (.long p1), .second, .val (.int p2), .val (.int p3), .val (.ref nb11), .unset, .unset, .unset] [(.int c5), (.int (5 : Int32)), (.ref nb11)]))
  refine og_castore (pc' := 69) X22 hx hZ e22 V_nb11 ⟨by decide, by decide⟩ 5 (by decide) (Nat.le_of_ble_eq_true rfl) (hb hby at_68) rfl (fun T23 h23 X23 e23 W23 V23 => ?_)
  have O := O.wr W23 g_nb11; have K := K.wr W23 (Or.inr sz_nb11)
  have N := Fr.snoc X23 N g_nb11
  have V_nb11 : Arv Z h23 nb11 kA11 .char (6 : Int32) [(.int c0), (.int c1), (.int c2), (.int c3), (.int c4), (.int (nar .char c5))] (.int (0 : Int32)) := V23
  rw [own_nc hc5] at V_nb11
  refine og_iloadN (pc' := 70) X23 hx rfl (hb hby at_69) rfl ?_
  refine og_ldc (pc' := 72) X23 hx hZ hown (ow7 hw) (hb hby at_70) rfl ?_
  refine og_iand (pc' := 73) X23 hx (hb hby at_72) rfl ?_
  refine og_bipush (pc' := 75) (v := (6 : Int32)) X23 hx rfl (hb hby at_73) rfl ?_
  refine og_irem (pc' := 76) X23 hx (by decide) (hb hby at_75) rfl ?_
  refine og_istore (pc' := 78) (L' := #[.val (.long p1), .second, .val (.int p2), .val (.int p3), .val (.ref nb11), .val (.int ((p2 &&& (2147483647 : Int32)) % (6 : Int32))), .unset, .unset]) X23 hx rfl (hb hby at_76) rfl ?_
  obtain ⟨ii, h_ii⟩ : ∃ z, z = ((p2 &&& (2147483647 : Int32)) % (6 : Int32)) := ⟨_, rfl⟩
  rw [← h_ii]
  rcases own_cases6 (h_ii ▸ own_rem p2 6 6 rfl (by decide)) with rfl | rfl | rfl | rfl | rfl | rfl
  · -- ii = 0
    refine og_iloadN (pc' := 79) X23 hx rfl (hb hby at_78) rfl ?_
    refine og_iconst (pc' := 80) (v := (1 : Int32)) X23 hx rfl (hb hby at_79) rfl ?_
    refine og_iand (pc' := 81) X23 hx (hb hby at_80) rfl ?_
    have J91 : ∀ (T24 : State) (l24 : List Loc) (X24 : Stand p l e room_1 s m #[(.long p1), (.int p2), (.int p3)] below meth c T24 l24 1 6) (e24 : T24.heap = h23) (N : Fr n0 l24) (q : Int32) (wS wE : Addr) (hq : (q = 39 ∧ wS = w1 ∧ wE = w2) ∨ (q = 34 ∧ wS = w3 ∧ wE = w4)), OG p e below (OFin s (fun v h L => v = some (.int 1) ∧ Fr n0 L) 16 128) (T24.setTop (mkF m 91 #[.val (.long p1), .second, .val (.int p2), .val (.int p3), .val (.ref nb11), .val (.int (0 : Int32)), .unset, .unset] [(.int q)])) := by
      intro T24 l24 X24 e24 N q wS wE hq
      have hqb := own_qb hq
      have E_wS : Exa Z Z.heap wS "com/example/nitpick/nitpick/internal/interpolation/ExpressionLiterals$Quoting" := by rcases hq with ⟨-, rfl, -⟩ | ⟨-, rfl, -⟩ <;> assumption
      have E_wE : Exa Z Z.heap wE "com/example/nitpick/nitpick/internal/interpolation/ExpressionLiterals$Quoting" := by rcases hq with ⟨-, -, rfl⟩ | ⟨-, -, rfl⟩ <;> assumption
      have ne_wS_w0 : wS ≠ w0 := by rcases hq with ⟨-, rfl, -⟩ | ⟨-, rfl, -⟩ <;> assumption
      have ne_wE_w0 : wE ≠ w0 := by rcases hq with ⟨-, -, rfl⟩ | ⟨-, -, rfl⟩ <;> assumption
      refine og_istore (pc' := 93) (L' := #[.val (.long p1), .second, .val (.int p2), .val (.int p3), .val (.ref nb11), .val (.int (0 : Int32)), .val (.int q), .unset]) X24 hx rfl (hb hby at_91) rfl ?_
      refine og_aload (pc' := 95) X24 hx rfl rfl (hb hby at_93) rfl ?_
      refine og_iload (pc' := 97) X24 hx rfl (hb hby at_95) rfl ?_
      refine og_iload (pc' := 99) X24 hx rfl (hb hby at_97) rfl ?_
      refine og_castore (pc' := 100) X24 hx hZ e24 V_nb11 ⟨by decide, by decide⟩ 0 (by decide) (Nat.le_of_ble_eq_true rfl) (hb hby at_99) rfl (fun T25 h25 X25 e25 W25 V25 => ?_)
      have O := O.wr W25 g_nb11; have K := K.wr W25 (Or.inr sz_nb11)
      have N := Fr.snoc X25 N g_nb11
      have V_nb11 : Arv Z h25 nb11 kA11 .char (6 : Int32) [(.int (nar .char q)), (.int c1), (.int c2), (.int c3), (.int c4), (.int c5)] (.int (0 : Int32)) := V25
      rw [own_nc hqb] at V_nb11
      have J188 : ∀ (T26 : State) (l26 : List Loc) (X26 : Stand p l e room_1 s m #[(.long p1), (.int p2), (.int p3)] below meth c T26 l26 1 6) (e26 : T26.heap = h25) (N : Fr n0 l26) (ans : Int32) (hans : ans = own_exp q [] [c1, c2, c3, c4, c5] 1), OG p e below (OFin s (fun v h L => v = some (.int 1) ∧ Fr n0 L) 16 128) (T26.setTop (mkF m 188 #[.val (.long p1), .second, .val (.int p2), .val (.int p3), .val (.ref nb11), .val (.int (0 : Int32)), .val (.int q), .val (.int ans)] [])) := by
        intro T26 l26 X26 e26 N ans hans
        refine og_new (pc' := 191) (cells' := 2) (slots' := 10) X26 hx hZ hown (ow11 hw) (ow12 hw) (ow13 hw) e26 (hb hby at_188) rfl rfl rfl (by decide) (by decide) (fun T27 h27 nb27 X27 e27 E27 q27 E_nb27 D27 B27 => ?_)
        have s_nb27 : h25.size ≤ nb27 := Nat.le_of_eq q27.symm; have g_nb27 : n0 ≤ nb27 := Nat.le_trans (own_n0 O) s_nb27; have sz_nb27 : h0.size ≤ nb27 := Nat.le_trans K.1 s_nb27; have ne_w0_nb27 : w0 ≠ nb27 := O.ne E_w0.lt g_nb27; have ne_w1_nb27 : w1 ≠ nb27 := O.ne E_w1.lt g_nb27; have ne_w2_nb27 : w2 ≠ nb27 := O.ne E_w2.lt g_nb27
        have ne_w3_nb27 : w3 ≠ nb27 := O.ne E_w3.lt g_nb27; have ne_w4_nb27 : w4 ≠ nb27 := O.ne E_w4.lt g_nb27; have ne_wS_nb27 : wS ≠ nb27 := O.ne E_wS.lt g_nb27; have ne_wE_nb27 : wE ≠ nb27 := O.ne E_wE.lt g_nb27; have ne_nb11_nb27 : nb11 ≠ nb27 := Nat.ne_of_lt (Nat.lt_of_lt_of_le V_nb11.lt s_nb27)
        have V_nb11 := V_nb11.ext E27; have O := O.ext E27; have K := K.ext E27
        have F_coder_nb27 : Fld Z h27 nb27 "java/lang/String" "coder" "B" (.int (0 : Int32)) := D27 (Or.inr (ow37 hw)) (ty := .byte) (by decide)
        have F_value_nb27 : Fld Z h27 nb27 "java/lang/String" "value" "[B" .null := D27 (Or.inr (ow39 hw)) (ty := (.array .byte)) (by decide)
        refine og_dup (pc' := 192) X27 hx rfl (hb hby at_191) rfl ?_
        refine og_aload (pc' := 194) X27 hx rfl rfl (hb hby at_192) rfl ?_
        refine og_special (pc' := 197) (cells' := 3) (slots' := 16) (W := 1) X27 hx hZ (rm_sn_6 l Z a0 hw nb27 nb11 kA11 q c1 c2 c3 c4 c5 (own_le255 hqb) (own_le255 hc1) (own_le255 hc2) (own_le255 hc3) (own_le255 hc4) (own_le255 hc5) cs hcs h27 n0 O E_nb27 F_value_nb27 F_coder_nb27 V_nb11 S_CS g_nb27 ne_nb11_nb27) rfl hown (ow14 hw) (ow15 hw) (ow13 hw) (ow16 hw) (by decide) (by rw [hml]; rfl) e27 opd_14 [(.ref nb11)] [(.ref nb27)] rfl rfl rfl rfl (by decide) (by decide) rfl rfl (by decide) (by decide) (hb hby at_194) rfl (fun v28 T28 h28 L28 X28 e28 z28 => ?_)
        obtain ⟨nb28, k28, rfl, Nq28, K28, sb28, E_nb27', F_value_nb27', F_coder_nb27', V_nb28⟩ := z28; have N := Fr.app N Nq28
        have s_nb28 : h27.size ≤ nb28 := sb28; have g_nb28 : n0 ≤ nb28 := Nat.le_trans (own_n0 O) s_nb28; have sz_nb28 : h0.size ≤ nb28 := Nat.le_trans K.1 s_nb28; have ne_w0_nb28 : w0 ≠ nb28 := O.ne E_w0.lt g_nb28; have ne_w1_nb28 : w1 ≠ nb28 := O.ne E_w1.lt g_nb28; have ne_w2_nb28 : w2 ≠ nb28 := O.ne E_w2.lt g_nb28
        have ne_w3_nb28 : w3 ≠ nb28 := O.ne E_w3.lt g_nb28; have ne_w4_nb28 : w4 ≠ nb28 := O.ne E_w4.lt g_nb28; have ne_wS_nb28 : wS ≠ nb28 := O.ne E_wS.lt g_nb28; have ne_wE_nb28 : wE ≠ nb28 := O.ne E_wE.lt g_nb28; have ne_nb11_nb28 : nb11 ≠ nb28 := Nat.ne_of_lt (Nat.lt_of_lt_of_le V_nb11.lt s_nb28); have ne_nb27_nb28 : nb27 ≠ nb28 := Nat.ne_of_lt (Nat.lt_of_lt_of_le E_nb27.lt s_nb28)
        have V_nb11 := V_nb11.keep K28 (ninS ne_nb11_nb27 nin0); have E_nb27 := E_nb27.keep K28; have O := O.keep K28 (allS g_nb27 all0); have K := K.trans K28 (allS (Or.inr sz_nb27) all0)
        have E_nb27 := E_nb27'; have F_value_nb27 := F_value_nb27'; have F_coder_nb27 := F_coder_nb27'
        show OG p e below _ (T28.setTop (mkF m 197 #[.val (.long p1), .second, .val (.int p2), .val (.int p3), .val (.ref nb11), .val (.int (0 : Int32)), .val (.int q), .val (.int ans)] [(.ref nb27)]))
        refine og_iload (pc' := 199) X28 hx rfl (hb hby at_197) rfl ?_
        refine og_static (pc' := 202) (cells' := 3) (slots' := 16) (W := 0) X28 hx hZ (rm_se0 l Z a0 hw nb27 nb28 k28 q c1 c2 c3 c4 c5 hqb hc1 hc2 hc3 hc4 hc5 cs hcs fm hfm w0 w1 w2 w3 w4 wS wE hq _ rfl h28 n0 O E_nb27 F_value_nb27 F_coder_nb27 V_nb28 S_CS S_FM S_CODE S_SINGLE S_SINGLE_ESCAPED S_DOUBLE S_DOUBLE_ESCAPED E_w0 E_w1 E_w2 E_w3 E_w4 F_w0 F_w1 F_w2 F_w3 F_w4 E_wS E_wE ne_wS_w0 ne_wE_w0) hown (ow40 hw) (ow41 hw) (ow42 hw) (ow43 hw) (by decide) (by rw [hml]; rfl) e28 opd_15 [(.ref nb27), (.int (0 : Int32))] [] rfl rfl rfl rfl (by decide) (by decide) rfl rfl (by decide) (by decide) (hb hby at_199) rfl (fun v29 T29 h29 L29 X29 e29 z29 => ?_)
        obtain ⟨rfl, Nq29, hq29⟩ := z29; replace e29 := e29.trans hq29; have N := Fr.app N Nq29
        show OG p e below _ (T29.setTop (mkF m 202 #[.val (.long p1), .second, .val (.int p2), .val (.int p3), .val (.ref nb11), .val (.int (0 : Int32)), .val (.int q), .val (.int ans)] [(.int (own_end q false [c1, c2, c3, c4, c5] 1))]))
        refine og_iload (pc' := 204) X29 hx rfl (hb hby at_202) rfl ?_
        refine og_icmp_ne (pc1 := 211) (pc2 := 207) X29 hx (hb hby at_204) (by decide) (by decide) rfl (fun q => absurd ((own_law (own_q92 hq) _ [] false _ (by simp [own_cnt])).trans hans.symm) q) (fun _ => ?_)
        refine og_iconst (pc' := 208) (v := (1 : Int32)) X29 hx rfl (hb hby at_207) rfl ?_
        refine og_goto (pc' := 212) X29 hx (hb hby at_208) (by decide) (by decide) ?_
        refine og_retN X29 hx hlk hret (by simp) (hb hby at_212) (by decide) (by decide) ?_
        exact ⟨rfl, N⟩
      refine og_aload (pc' := 102) X25 hx rfl rfl (hb hby at_100) rfl ?_
      refine og_iload (pc' := 104) X25 hx rfl (hb hby at_102) rfl ?_
      refine og_iload (pc' := 106) X25 hx rfl (hb hby at_104) rfl ?_
      refine og_iconst (pc' := 107) (v := (1 : Int32)) X25 hx rfl (hb hby at_106) rfl ?_
      by_cases hP1 : c1 = q ∧ own_cnt [] % 2 = 0
      ·
        refine og_static (pc' := 110) (cells' := 1) (slots' := 6) (W := 0) X25 hx hZ (rm_cl01 l Z a0 hw nb11 kA11 q c1 c2 c3 c4 c5 q 1 (if_pos hP1).symm h25 n0 O V_nb11) hown (ow8 hw) (ow9 hw) (ow3 hw) (ow10 hw) (by decide) (by rw [hml]; rfl) e25 opd_16 [(.ref nb11), (.int (0 : Int32)), (.int q), (.int (1 : Int32))] [] rfl rfl rfl rfl (by decide) (by decide) rfl rfl (by decide) (by decide) (hb hby at_107) rfl (fun v30 T30 h30 L30 X30 e30 z30 => ?_)
        obtain ⟨rfl, Nq30, hq30⟩ := z30; replace e30 := e30.trans hq30; have N := Fr.app N Nq30
        show OG p e below _ (T30.setTop (mkF m 110 #[.val (.long p1), .second, .val (.int p2), .val (.int p3), .val (.ref nb11), .val (.int (0 : Int32)), .val (.int q), .unset] [(.int (1 : Int32))]))
        refine og_if_eq (pc1 := 117) (pc2 := 113) X30 hx (hb hby at_110) (by decide) (by decide) rfl (fun q => absurd q (by decide)) (fun _ => ?_)
        refine og_iconst (pc' := 114) (v := (1 : Int32)) X30 hx rfl (hb hby at_113) rfl ?_
        refine og_goto (pc' := 186) X30 hx (hb hby at_114) (by decide) (by decide) ?_
        refine og_istore (pc' := 188) (L' := #[.val (.long p1), .second, .val (.int p2), .val (.int p3), .val (.ref nb11), .val (.int (0 : Int32)), .val (.int q), .val (.int (1 : Int32))]) X30 hx rfl (hb hby at_186) rfl ?_
        exact J188 T30 _ X30 e30 N _ (by simp [own_exp, hP1])
      ·
        refine og_static (pc' := 110) (cells' := 1) (slots' := 6) (W := 0) X25 hx hZ (rm_cl01 l Z a0 hw nb11 kA11 q c1 c2 c3 c4 c5 q 0 (if_neg hP1).symm h25 n0 O V_nb11) hown (ow8 hw) (ow9 hw) (ow3 hw) (ow10 hw) (by decide) (by rw [hml]; rfl) e25 opd_16 [(.ref nb11), (.int (0 : Int32)), (.int q), (.int (1 : Int32))] [] rfl rfl rfl rfl (by decide) (by decide) rfl rfl (by decide) (by decide) (hb hby at_107) rfl (fun v31 T31 h31 L31 X31 e31 z31 => ?_)
        obtain ⟨rfl, Nq31, hq31⟩ := z31; replace e31 := e31.trans hq31; have N := Fr.app N Nq31
        show OG p e below _ (T31.setTop (mkF m 110 #[.val (.long p1), .second, .val (.int p2), .val (.int p3), .val (.ref nb11), .val (.int (0 : Int32)), .val (.int q), .unset] [(.int (0 : Int32))]))
        refine og_if_eq (pc1 := 117) (pc2 := 113) X31 hx (hb hby at_110) (by decide) (by decide) rfl (fun _ => ?_) (fun q => absurd q (by decide))
        refine og_aload (pc' := 119) X31 hx rfl rfl (hb hby at_117) rfl ?_
        refine og_iload (pc' := 121) X31 hx rfl (hb hby at_119) rfl ?_
        refine og_iload (pc' := 123) X31 hx rfl (hb hby at_121) rfl ?_
        refine og_iconst (pc' := 124) (v := (2 : Int32)) X31 hx rfl (hb hby at_123) rfl ?_
        by_cases hP2 : c2 = q ∧ own_cnt [c1] % 2 = 0
        ·
          refine og_static (pc' := 127) (cells' := 1) (slots' := 6) (W := 0) X31 hx hZ (rm_cl02 l Z a0 hw nb11 kA11 q c1 c2 c3 c4 c5 q 1 (if_pos hP2).symm h25 n0 O V_nb11) hown (ow8 hw) (ow9 hw) (ow3 hw) (ow10 hw) (by decide) (by rw [hml]; rfl) e31 opd_16 [(.ref nb11), (.int (0 : Int32)), (.int q), (.int (2 : Int32))] [] rfl rfl rfl rfl (by decide) (by decide) rfl rfl (by decide) (by decide) (hb hby at_124) rfl (fun v32 T32 h32 L32 X32 e32 z32 => ?_)
          obtain ⟨rfl, Nq32, hq32⟩ := z32; replace e32 := e32.trans hq32; have N := Fr.app N Nq32
          show OG p e below _ (T32.setTop (mkF m 127 #[.val (.long p1), .second, .val (.int p2), .val (.int p3), .val (.ref nb11), .val (.int (0 : Int32)), .val (.int q), .unset] [(.int (1 : Int32))]))
          refine og_if_eq (pc1 := 134) (pc2 := 130) X32 hx (hb hby at_127) (by decide) (by decide) rfl (fun q => absurd q (by decide)) (fun _ => ?_)
          refine og_iconst (pc' := 131) (v := (2 : Int32)) X32 hx rfl (hb hby at_130) rfl ?_
          refine og_goto (pc' := 186) X32 hx (hb hby at_131) (by decide) (by decide) ?_
          refine og_istore (pc' := 188) (L' := #[.val (.long p1), .second, .val (.int p2), .val (.int p3), .val (.ref nb11), .val (.int (0 : Int32)), .val (.int q), .val (.int (2 : Int32))]) X32 hx rfl (hb hby at_186) rfl ?_
          exact J188 T32 _ X32 e32 N _ (by simp [own_exp, hP1, hP2])
        ·
          refine og_static (pc' := 127) (cells' := 1) (slots' := 6) (W := 0) X31 hx hZ (rm_cl02 l Z a0 hw nb11 kA11 q c1 c2 c3 c4 c5 q 0 (if_neg hP2).symm h25 n0 O V_nb11) hown (ow8 hw) (ow9 hw) (ow3 hw) (ow10 hw) (by decide) (by rw [hml]; rfl) e31 opd_16 [(.ref nb11), (.int (0 : Int32)), (.int q), (.int (2 : Int32))] [] rfl rfl rfl rfl (by decide) (by decide) rfl rfl (by decide) (by decide) (hb hby at_124) rfl (fun v33 T33 h33 L33 X33 e33 z33 => ?_)
          obtain ⟨rfl, Nq33, hq33⟩ := z33; replace e33 := e33.trans hq33; have N := Fr.app N Nq33
          show OG p e below _ (T33.setTop (mkF m 127 #[.val (.long p1), .second, .val (.int p2), .val (.int p3), .val (.ref nb11), .val (.int (0 : Int32)), .val (.int q), .unset] [(.int (0 : Int32))]))
          refine og_if_eq (pc1 := 134) (pc2 := 130) X33 hx (hb hby at_127) (by decide) (by decide) rfl (fun _ => ?_) (fun q => absurd q (by decide))
          refine og_aload (pc' := 136) X33 hx rfl rfl (hb hby at_134) rfl ?_
          refine og_iload (pc' := 138) X33 hx rfl (hb hby at_136) rfl ?_
          refine og_iload (pc' := 140) X33 hx rfl (hb hby at_138) rfl ?_
          refine og_iconst (pc' := 141) (v := (3 : Int32)) X33 hx rfl (hb hby at_140) rfl ?_
          by_cases hP3 : c3 = q ∧ own_cnt [c2, c1] % 2 = 0
          ·
            refine og_static (pc' := 144) (cells' := 1) (slots' := 6) (W := 0) X33 hx hZ (rm_cl03 l Z a0 hw nb11 kA11 q c1 c2 c3 c4 c5 q 1 (if_pos hP3).symm h25 n0 O V_nb11) hown (ow8 hw) (ow9 hw) (ow3 hw) (ow10 hw) (by decide) (by rw [hml]; rfl) e33 opd_16 [(.ref nb11), (.int (0 : Int32)), (.int q), (.int (3 : Int32))] [] rfl rfl rfl rfl (by decide) (by decide) rfl rfl (by decide) (by decide) (hb hby at_141) rfl (fun v34 T34 h34 L34 X34 e34 z34 => ?_)
            obtain ⟨rfl, Nq34, hq34⟩ := z34; replace e34 := e34.trans hq34; have N := Fr.app N Nq34
            show OG p e below _ (T34.setTop (mkF m 144 #[.val (.long p1), .second, .val (.int p2), .val (.int p3), .val (.ref nb11), .val (.int (0 : Int32)), .val (.int q), .unset] [(.int (1 : Int32))]))
            refine og_if_eq (pc1 := 151) (pc2 := 147) X34 hx (hb hby at_144) (by decide) (by decide) rfl (fun q => absurd q (by decide)) (fun _ => ?_)
            refine og_iconst (pc' := 148) (v := (3 : Int32)) X34 hx rfl (hb hby at_147) rfl ?_
            refine og_goto (pc' := 186) X34 hx (hb hby at_148) (by decide) (by decide) ?_
            refine og_istore (pc' := 188) (L' := #[.val (.long p1), .second, .val (.int p2), .val (.int p3), .val (.ref nb11), .val (.int (0 : Int32)), .val (.int q), .val (.int (3 : Int32))]) X34 hx rfl (hb hby at_186) rfl ?_
            exact J188 T34 _ X34 e34 N _ (by simp [own_exp, hP1, hP2, hP3])
          ·
            refine og_static (pc' := 144) (cells' := 1) (slots' := 6) (W := 0) X33 hx hZ (rm_cl03 l Z a0 hw nb11 kA11 q c1 c2 c3 c4 c5 q 0 (if_neg hP3).symm h25 n0 O V_nb11) hown (ow8 hw) (ow9 hw) (ow3 hw) (ow10 hw) (by decide) (by rw [hml]; rfl) e33 opd_16 [(.ref nb11), (.int (0 : Int32)), (.int q), (.int (3 : Int32))] [] rfl rfl rfl rfl (by decide) (by decide) rfl rfl (by decide) (by decide) (hb hby at_141) rfl (fun v35 T35 h35 L35 X35 e35 z35 => ?_)
            obtain ⟨rfl, Nq35, hq35⟩ := z35; replace e35 := e35.trans hq35; have N := Fr.app N Nq35
            show OG p e below _ (T35.setTop (mkF m 144 #[.val (.long p1), .second, .val (.int p2), .val (.int p3), .val (.ref nb11), .val (.int (0 : Int32)), .val (.int q), .unset] [(.int (0 : Int32))]))
            refine og_if_eq (pc1 := 151) (pc2 := 147) X35 hx (hb hby at_144) (by decide) (by decide) rfl (fun _ => ?_) (fun q => absurd q (by decide))
            refine og_aload (pc' := 153) X35 hx rfl rfl (hb hby at_151) rfl ?_
            refine og_iload (pc' := 155) X35 hx rfl (hb hby at_153) rfl ?_
            refine og_iload (pc' := 157) X35 hx rfl (hb hby at_155) rfl ?_
            refine og_iconst (pc' := 158) (v := (4 : Int32)) X35 hx rfl (hb hby at_157) rfl ?_
            by_cases hP4 : c4 = q ∧ own_cnt [c3, c2, c1] % 2 = 0
            ·
              refine og_static (pc' := 161) (cells' := 1) (slots' := 6) (W := 0) X35 hx hZ (rm_cl04 l Z a0 hw nb11 kA11 q c1 c2 c3 c4 c5 q 1 (if_pos hP4).symm h25 n0 O V_nb11) hown (ow8 hw) (ow9 hw) (ow3 hw) (ow10 hw) (by decide) (by rw [hml]; rfl) e35 opd_16 [(.ref nb11), (.int (0 : Int32)), (.int q), (.int (4 : Int32))] [] rfl rfl rfl rfl (by decide) (by decide) rfl rfl (by decide) (by decide) (hb hby at_158) rfl (fun v36 T36 h36 L36 X36 e36 z36 => ?_)
              obtain ⟨rfl, Nq36, hq36⟩ := z36; replace e36 := e36.trans hq36; have N := Fr.app N Nq36
              show OG p e below _ (T36.setTop (mkF m 161 #[.val (.long p1), .second, .val (.int p2), .val (.int p3), .val (.ref nb11), .val (.int (0 : Int32)), .val (.int q), .unset] [(.int (1 : Int32))]))
              refine og_if_eq (pc1 := 168) (pc2 := 164) X36 hx (hb hby at_161) (by decide) (by decide) rfl (fun q => absurd q (by decide)) (fun _ => ?_)
              refine og_iconst (pc' := 165) (v := (4 : Int32)) X36 hx rfl (hb hby at_164) rfl ?_
              refine og_goto (pc' := 186) X36 hx (hb hby at_165) (by decide) (by decide) ?_
              refine og_istore (pc' := 188) (L' := #[.val (.long p1), .second, .val (.int p2), .val (.int p3), .val (.ref nb11), .val (.int (0 : Int32)), .val (.int q), .val (.int (4 : Int32))]) X36 hx rfl (hb hby at_186) rfl ?_
              exact J188 T36 _ X36 e36 N _ (by simp [own_exp, hP1, hP2, hP3, hP4])
            ·
              refine og_static (pc' := 161) (cells' := 1) (slots' := 6) (W := 0) X35 hx hZ (rm_cl04 l Z a0 hw nb11 kA11 q c1 c2 c3 c4 c5 q 0 (if_neg hP4).symm h25 n0 O V_nb11) hown (ow8 hw) (ow9 hw) (ow3 hw) (ow10 hw) (by decide) (by rw [hml]; rfl) e35 opd_16 [(.ref nb11), (.int (0 : Int32)), (.int q), (.int (4 : Int32))] [] rfl rfl rfl rfl (by decide) (by decide) rfl rfl (by decide) (by decide) (hb hby at_158) rfl (fun v37 T37 h37 L37 X37 e37 z37 => ?_)
              obtain ⟨rfl, Nq37, hq37⟩ := z37; replace e37 := e37.trans hq37; have N := Fr.app N Nq37
              show OG p e below _ (T37.setTop (mkF m 161 #[.val (.long p1), .second, .val (.int p2), .val (.int p3), .val (.ref nb11), .val (.int (0 : Int32)), .val (.int q), .unset] [(.int (0 : Int32))]))
              refine og_if_eq (pc1 := 168) (pc2 := 164) X37 hx (hb hby at_161) (by decide) (by decide) rfl (fun _ => ?_) (fun q => absurd q (by decide))
              refine og_aload (pc' := 170) X37 hx rfl rfl (hb hby at_168) rfl ?_
              refine og_iload (pc' := 172) X37 hx rfl (hb hby at_170) rfl ?_
              refine og_iload (pc' := 174) X37 hx rfl (hb hby at_172) rfl ?_
              refine og_iconst (pc' := 175) (v := (5 : Int32)) X37 hx rfl (hb hby at_174) rfl ?_
              by_cases hP5 : c5 = q ∧ own_cnt [c4, c3, c2, c1] % 2 = 0
              ·
                refine og_static (pc' := 178) (cells' := 1) (slots' := 6) (W := 0) X37 hx hZ (rm_cl05 l Z a0 hw nb11 kA11 q c1 c2 c3 c4 c5 q 1 (if_pos hP5).symm h25 n0 O V_nb11) hown (ow8 hw) (ow9 hw) (ow3 hw) (ow10 hw) (by decide) (by rw [hml]; rfl) e37 opd_16 [(.ref nb11), (.int (0 : Int32)), (.int q), (.int (5 : Int32))] [] rfl rfl rfl rfl (by decide) (by decide) rfl rfl (by decide) (by decide) (hb hby at_175) rfl (fun v38 T38 h38 L38 X38 e38 z38 => ?_)
                obtain ⟨rfl, Nq38, hq38⟩ := z38; replace e38 := e38.trans hq38; have N := Fr.app N Nq38
                show OG p e below _ (T38.setTop (mkF m 178 #[.val (.long p1), .second, .val (.int p2), .val (.int p3), .val (.ref nb11), .val (.int (0 : Int32)), .val (.int q), .unset] [(.int (1 : Int32))]))
                refine og_if_eq (pc1 := 185) (pc2 := 181) X38 hx (hb hby at_178) (by decide) (by decide) rfl (fun q => absurd q (by decide)) (fun _ => ?_)
                refine og_iconst (pc' := 182) (v := (5 : Int32)) X38 hx rfl (hb hby at_181) rfl ?_
                refine og_goto (pc' := 186) X38 hx (hb hby at_182) (by decide) (by decide) ?_
                refine og_istore (pc' := 188) (L' := #[.val (.long p1), .second, .val (.int p2), .val (.int p3), .val (.ref nb11), .val (.int (0 : Int32)), .val (.int q), .val (.int (5 : Int32))]) X38 hx rfl (hb hby at_186) rfl ?_
                exact J188 T38 _ X38 e38 N _ (by simp [own_exp, hP1, hP2, hP3, hP4, hP5])
              ·
                refine og_static (pc' := 178) (cells' := 1) (slots' := 6) (W := 0) X37 hx hZ (rm_cl05 l Z a0 hw nb11 kA11 q c1 c2 c3 c4 c5 q 0 (if_neg hP5).symm h25 n0 O V_nb11) hown (ow8 hw) (ow9 hw) (ow3 hw) (ow10 hw) (by decide) (by rw [hml]; rfl) e37 opd_16 [(.ref nb11), (.int (0 : Int32)), (.int q), (.int (5 : Int32))] [] rfl rfl rfl rfl (by decide) (by decide) rfl rfl (by decide) (by decide) (hb hby at_175) rfl (fun v39 T39 h39 L39 X39 e39 z39 => ?_)
                obtain ⟨rfl, Nq39, hq39⟩ := z39; replace e39 := e39.trans hq39; have N := Fr.app N Nq39
                show OG p e below _ (T39.setTop (mkF m 178 #[.val (.long p1), .second, .val (.int p2), .val (.int p3), .val (.ref nb11), .val (.int (0 : Int32)), .val (.int q), .unset] [(.int (0 : Int32))]))
                refine og_if_eq (pc1 := 185) (pc2 := 181) X39 hx (hb hby at_178) (by decide) (by decide) rfl (fun _ => ?_) (fun q => absurd q (by decide))
                refine og_iconst (pc' := 186) (v := (-1 : Int32)) X39 hx rfl (hb hby at_185) rfl ?_
                refine og_istore (pc' := 188) (L' := #[.val (.long p1), .second, .val (.int p2), .val (.int p3), .val (.ref nb11), .val (.int (0 : Int32)), .val (.int q), .val (.int (-1 : Int32))]) X39 hx rfl (hb hby at_186) rfl ?_
                exact J188 T39 _ X39 e39 N _ (by simp [own_exp, hP1, hP2, hP3, hP4, hP5])
    refine og_if_ne (pc1 := 89) (pc2 := 84) X23 hx (hb hby at_81) (by decide) (by decide) rfl (fun hc81 => ?_) (fun hc81 => ?_)
    · -- pc 89
      refine og_bipush (pc' := 91) (v := (34 : Int32)) X23 hx rfl (hb hby at_89) rfl ?_
      exact J91 T23 _ X23 e23 N _ w3 w4 (Or.inr ⟨rfl, rfl, rfl⟩)
    · -- pc 84
      refine og_bipush (pc' := 86) (v := (39 : Int32)) X23 hx rfl (hb hby at_84) rfl ?_
      refine og_goto (pc' := 91) X23 hx (hb hby at_86) (by decide) (by decide) ?_
      exact J91 T23 _ X23 e23 N _ w1 w2 (Or.inl ⟨rfl, rfl, rfl⟩)
  · -- ii = 1
    refine og_iloadN (pc' := 79) X23 hx rfl (hb hby at_78) rfl ?_
    refine og_iconst (pc' := 80) (v := (1 : Int32)) X23 hx rfl (hb hby at_79) rfl ?_
    refine og_iand (pc' := 81) X23 hx (hb hby at_80) rfl ?_
    have J91 : ∀ (T40 : State) (l40 : List Loc) (X40 : Stand p l e room_1 s m #[(.long p1), (.int p2), (.int p3)] below meth c T40 l40 1 6) (e40 : T40.heap = h23) (N : Fr n0 l40) (q : Int32) (wS wE : Addr) (hq : (q = 39 ∧ wS = w1 ∧ wE = w2) ∨ (q = 34 ∧ wS = w3 ∧ wE = w4)), OG p e below (OFin s (fun v h L => v = some (.int 1) ∧ Fr n0 L) 16 128) (T40.setTop (mkF m 91 #[.val (.long p1), .second, .val (.int p2), .val (.int p3), .val (.ref nb11), .val (.int (1 : Int32)), .unset, .unset] [(.int q)])) := by
      intro T40 l40 X40 e40 N q wS wE hq
      have hqb := own_qb hq
      have E_wS : Exa Z Z.heap wS "com/example/nitpick/nitpick/internal/interpolation/ExpressionLiterals$Quoting" := by rcases hq with ⟨-, rfl, -⟩ | ⟨-, rfl, -⟩ <;> assumption
      have E_wE : Exa Z Z.heap wE "com/example/nitpick/nitpick/internal/interpolation/ExpressionLiterals$Quoting" := by rcases hq with ⟨-, -, rfl⟩ | ⟨-, -, rfl⟩ <;> assumption
      have ne_wS_w0 : wS ≠ w0 := by rcases hq with ⟨-, rfl, -⟩ | ⟨-, rfl, -⟩ <;> assumption
      have ne_wE_w0 : wE ≠ w0 := by rcases hq with ⟨-, -, rfl⟩ | ⟨-, -, rfl⟩ <;> assumption
      refine og_istore (pc' := 93) (L' := #[.val (.long p1), .second, .val (.int p2), .val (.int p3), .val (.ref nb11), .val (.int (1 : Int32)), .val (.int q), .unset]) X40 hx rfl (hb hby at_91) rfl ?_
      refine og_aload (pc' := 95) X40 hx rfl rfl (hb hby at_93) rfl ?_
      refine og_iload (pc' := 97) X40 hx rfl (hb hby at_95) rfl ?_
      refine og_iload (pc' := 99) X40 hx rfl (hb hby at_97) rfl ?_
      refine og_castore (pc' := 100) X40 hx hZ e40 V_nb11 ⟨by decide, by decide⟩ 1 (by decide) (Nat.le_of_ble_eq_true rfl) (hb hby at_99) rfl (fun T41 h41 X41 e41 W41 V41 => ?_)
      have O := O.wr W41 g_nb11; have K := K.wr W41 (Or.inr sz_nb11)
      have N := Fr.snoc X41 N g_nb11
      have V_nb11 : Arv Z h41 nb11 kA11 .char (6 : Int32) [(.int c0), (.int (nar .char q)), (.int c2), (.int c3), (.int c4), (.int c5)] (.int (0 : Int32)) := V41
      rw [own_nc hqb] at V_nb11
      have J188 : ∀ (T42 : State) (l42 : List Loc) (X42 : Stand p l e room_1 s m #[(.long p1), (.int p2), (.int p3)] below meth c T42 l42 1 6) (e42 : T42.heap = h41) (N : Fr n0 l42) (ans : Int32) (hans : ans = own_exp q [] [c2, c3, c4, c5] 2), OG p e below (OFin s (fun v h L => v = some (.int 1) ∧ Fr n0 L) 16 128) (T42.setTop (mkF m 188 #[.val (.long p1), .second, .val (.int p2), .val (.int p3), .val (.ref nb11), .val (.int (1 : Int32)), .val (.int q), .val (.int ans)] [])) := by
        intro T42 l42 X42 e42 N ans hans
        refine og_new (pc' := 191) (cells' := 2) (slots' := 10) X42 hx hZ hown (ow11 hw) (ow12 hw) (ow13 hw) e42 (hb hby at_188) rfl rfl rfl (by decide) (by decide) (fun T43 h43 nb43 X43 e43 E43 q43 E_nb43 D43 B43 => ?_)
        have s_nb43 : h41.size ≤ nb43 := Nat.le_of_eq q43.symm; have g_nb43 : n0 ≤ nb43 := Nat.le_trans (own_n0 O) s_nb43; have sz_nb43 : h0.size ≤ nb43 := Nat.le_trans K.1 s_nb43; have ne_w0_nb43 : w0 ≠ nb43 := O.ne E_w0.lt g_nb43; have ne_w1_nb43 : w1 ≠ nb43 := O.ne E_w1.lt g_nb43; have ne_w2_nb43 : w2 ≠ nb43 := O.ne E_w2.lt g_nb43
        have ne_w3_nb43 : w3 ≠ nb43 := O.ne E_w3.lt g_nb43; have ne_w4_nb43 : w4 ≠ nb43 := O.ne E_w4.lt g_nb43; have ne_wS_nb43 : wS ≠ nb43 := O.ne E_wS.lt g_nb43; have ne_wE_nb43 : wE ≠ nb43 := O.ne E_wE.lt g_nb43; have ne_nb11_nb43 : nb11 ≠ nb43 := Nat.ne_of_lt (Nat.lt_of_lt_of_le V_nb11.lt s_nb43)
        have V_nb11 := V_nb11.ext E43; have O := O.ext E43; have K := K.ext E43
        have F_coder_nb43 : Fld Z h43 nb43 "java/lang/String" "coder" "B" (.int (0 : Int32)) := D43 (Or.inr (ow37 hw)) (ty := .byte) (by decide)
        have F_value_nb43 : Fld Z h43 nb43 "java/lang/String" "value" "[B" .null := D43 (Or.inr (ow39 hw)) (ty := (.array .byte)) (by decide)
        refine og_dup (pc' := 192) X43 hx rfl (hb hby at_191) rfl ?_
        refine og_aload (pc' := 194) X43 hx rfl rfl (hb hby at_192) rfl ?_
        refine og_special (pc' := 197) (cells' := 3) (slots' := 16) (W := 1) X43 hx hZ (rm_sn_6 l Z a0 hw nb43 nb11 kA11 c0 q c2 c3 c4 c5 (own_le255 hc0) (own_le255 hqb) (own_le255 hc2) (own_le255 hc3) (own_le255 hc4) (own_le255 hc5) cs hcs h43 n0 O E_nb43 F_value_nb43 F_coder_nb43 V_nb11 S_CS g_nb43 ne_nb11_nb43) rfl hown (ow14 hw) (ow15 hw) (ow13 hw) (ow16 hw) (by decide) (by rw [hml]; rfl) e43 opd_14 [(.ref nb11)] [(.ref nb43)] rfl rfl rfl rfl (by decide) (by decide) rfl rfl (by decide) (by decide) (hb hby at_194) rfl (fun v44 T44 h44 L44 X44 e44 z44 => ?_)
        obtain ⟨nb44, k44, rfl, Nq44, K44, sb44, E_nb43', F_value_nb43', F_coder_nb43', V_nb44⟩ := z44; have N := Fr.app N Nq44
        have s_nb44 : h43.size ≤ nb44 := sb44; have g_nb44 : n0 ≤ nb44 := Nat.le_trans (own_n0 O) s_nb44; have sz_nb44 : h0.size ≤ nb44 := Nat.le_trans K.1 s_nb44; have ne_w0_nb44 : w0 ≠ nb44 := O.ne E_w0.lt g_nb44; have ne_w1_nb44 : w1 ≠ nb44 := O.ne E_w1.lt g_nb44; have ne_w2_nb44 : w2 ≠ nb44 := O.ne E_w2.lt g_nb44
        have ne_w3_nb44 : w3 ≠ nb44 := O.ne E_w3.lt g_nb44; have ne_w4_nb44 : w4 ≠ nb44 := O.ne E_w4.lt g_nb44; have ne_wS_nb44 : wS ≠ nb44 := O.ne E_wS.lt g_nb44; have ne_wE_nb44 : wE ≠ nb44 := O.ne E_wE.lt g_nb44; have ne_nb11_nb44 : nb11 ≠ nb44 := Nat.ne_of_lt (Nat.lt_of_lt_of_le V_nb11.lt s_nb44); have ne_nb43_nb44 : nb43 ≠ nb44 := Nat.ne_of_lt (Nat.lt_of_lt_of_le E_nb43.lt s_nb44)
        have V_nb11 := V_nb11.keep K44 (ninS ne_nb11_nb43 nin0); have E_nb43 := E_nb43.keep K44; have O := O.keep K44 (allS g_nb43 all0); have K := K.trans K44 (allS (Or.inr sz_nb43) all0)
        have E_nb43 := E_nb43'; have F_value_nb43 := F_value_nb43'; have F_coder_nb43 := F_coder_nb43'
        show OG p e below _ (T44.setTop (mkF m 197 #[.val (.long p1), .second, .val (.int p2), .val (.int p3), .val (.ref nb11), .val (.int (1 : Int32)), .val (.int q), .val (.int ans)] [(.ref nb43)]))
        refine og_iload (pc' := 199) X44 hx rfl (hb hby at_197) rfl ?_
        refine og_static (pc' := 202) (cells' := 3) (slots' := 16) (W := 0) X44 hx hZ (rm_se1 l Z a0 hw nb43 nb44 k44 c0 q c2 c3 c4 c5 hc0 hqb hc2 hc3 hc4 hc5 cs hcs fm hfm w0 w1 w2 w3 w4 wS wE hq _ rfl h44 n0 O E_nb43 F_value_nb43 F_coder_nb43 V_nb44 S_CS S_FM S_CODE S_SINGLE S_SINGLE_ESCAPED S_DOUBLE S_DOUBLE_ESCAPED E_w0 E_w1 E_w2 E_w3 E_w4 F_w0 F_w1 F_w2 F_w3 F_w4 E_wS E_wE ne_wS_w0 ne_wE_w0) hown (ow40 hw) (ow41 hw) (ow42 hw) (ow43 hw) (by decide) (by rw [hml]; rfl) e44 opd_15 [(.ref nb43), (.int (1 : Int32))] [] rfl rfl rfl rfl (by decide) (by decide) rfl rfl (by decide) (by decide) (hb hby at_199) rfl (fun v45 T45 h45 L45 X45 e45 z45 => ?_)
        obtain ⟨rfl, Nq45, hq45⟩ := z45; replace e45 := e45.trans hq45; have N := Fr.app N Nq45
        show OG p e below _ (T45.setTop (mkF m 202 #[.val (.long p1), .second, .val (.int p2), .val (.int p3), .val (.ref nb11), .val (.int (1 : Int32)), .val (.int q), .val (.int ans)] [(.int (own_end q false [c2, c3, c4, c5] 2))]))
        refine og_iload (pc' := 204) X45 hx rfl (hb hby at_202) rfl ?_
        refine og_icmp_ne (pc1 := 211) (pc2 := 207) X45 hx (hb hby at_204) (by decide) (by decide) rfl (fun q => absurd ((own_law (own_q92 hq) _ [] false _ (by simp [own_cnt])).trans hans.symm) q) (fun _ => ?_)
        refine og_iconst (pc' := 208) (v := (1 : Int32)) X45 hx rfl (hb hby at_207) rfl ?_
        refine og_goto (pc' := 212) X45 hx (hb hby at_208) (by decide) (by decide) ?_
        refine og_retN X45 hx hlk hret (by simp) (hb hby at_212) (by decide) (by decide) ?_
        exact ⟨rfl, N⟩
      refine og_aload (pc' := 102) X41 hx rfl rfl (hb hby at_100) rfl ?_
      refine og_iload (pc' := 104) X41 hx rfl (hb hby at_102) rfl ?_
      refine og_iload (pc' := 106) X41 hx rfl (hb hby at_104) rfl ?_
      refine og_iconst (pc' := 107) (v := (1 : Int32)) X41 hx rfl (hb hby at_106) rfl ?_
      refine og_static (pc' := 110) (cells' := 1) (slots' := 6) (W := 0) X41 hx hZ (rm_cl l Z a0 hw nb11 1 q 1 (by decide) h41 n0 O) hown (ow8 hw) (ow9 hw) (ow3 hw) (ow10 hw) (by decide) (by rw [hml]; rfl) e41 opd_16 [(.ref nb11), (.int (1 : Int32)), (.int q), (.int (1 : Int32))] [] rfl rfl rfl rfl (by decide) (by decide) rfl rfl (by decide) (by decide) (hb hby at_107) rfl (fun v46 T46 h46 L46 X46 e46 z46 => ?_)
      obtain ⟨rfl, Nq46, hq46⟩ := z46; replace e46 := e46.trans hq46; have N := Fr.app N Nq46
      show OG p e below _ (T46.setTop (mkF m 110 #[.val (.long p1), .second, .val (.int p2), .val (.int p3), .val (.ref nb11), .val (.int (1 : Int32)), .val (.int q), .unset] [(.int (0 : Int32))]))
      refine og_if_eq (pc1 := 117) (pc2 := 113) X46 hx (hb hby at_110) (by decide) (by decide) rfl (fun _ => ?_) (fun q => absurd q (by decide))
      refine og_aload (pc' := 119) X46 hx rfl rfl (hb hby at_117) rfl ?_
      refine og_iload (pc' := 121) X46 hx rfl (hb hby at_119) rfl ?_
      refine og_iload (pc' := 123) X46 hx rfl (hb hby at_121) rfl ?_
      refine og_iconst (pc' := 124) (v := (2 : Int32)) X46 hx rfl (hb hby at_123) rfl ?_
      by_cases hP2 : c2 = q ∧ own_cnt [] % 2 = 0
      ·
        refine og_static (pc' := 127) (cells' := 1) (slots' := 6) (W := 0) X46 hx hZ (rm_cl12 l Z a0 hw nb11 kA11 c0 q c2 c3 c4 c5 q 1 (if_pos hP2).symm h41 n0 O V_nb11) hown (ow8 hw) (ow9 hw) (ow3 hw) (ow10 hw) (by decide) (by rw [hml]; rfl) e46 opd_16 [(.ref nb11), (.int (1 : Int32)), (.int q), (.int (2 : Int32))] [] rfl rfl rfl rfl (by decide) (by decide) rfl rfl (by decide) (by decide) (hb hby at_124) rfl (fun v47 T47 h47 L47 X47 e47 z47 => ?_)
        obtain ⟨rfl, Nq47, hq47⟩ := z47; replace e47 := e47.trans hq47; have N := Fr.app N Nq47
        show OG p e below _ (T47.setTop (mkF m 127 #[.val (.long p1), .second, .val (.int p2), .val (.int p3), .val (.ref nb11), .val (.int (1 : Int32)), .val (.int q), .unset] [(.int (1 : Int32))]))
        refine og_if_eq (pc1 := 134) (pc2 := 130) X47 hx (hb hby at_127) (by decide) (by decide) rfl (fun q => absurd q (by decide)) (fun _ => ?_)
        refine og_iconst (pc' := 131) (v := (2 : Int32)) X47 hx rfl (hb hby at_130) rfl ?_
        refine og_goto (pc' := 186) X47 hx (hb hby at_131) (by decide) (by decide) ?_
        refine og_istore (pc' := 188) (L' := #[.val (.long p1), .second, .val (.int p2), .val (.int p3), .val (.ref nb11), .val (.int (1 : Int32)), .val (.int q), .val (.int (2 : Int32))]) X47 hx rfl (hb hby at_186) rfl ?_
        exact J188 T47 _ X47 e47 N _ (by simp [own_exp, hP2])
      ·
        refine og_static (pc' := 127) (cells' := 1) (slots' := 6) (W := 0) X46 hx hZ (rm_cl12 l Z a0 hw nb11 kA11 c0 q c2 c3 c4 c5 q 0 (if_neg hP2).symm h41 n0 O V_nb11) hown (ow8 hw) (ow9 hw) (ow3 hw) (ow10 hw) (by decide) (by rw [hml]; rfl) e46 opd_16 [(.ref nb11), (.int (1 : Int32)), (.int q), (.int (2 : Int32))] [] rfl rfl rfl rfl (by decide) (by decide) rfl rfl (by decide) (by decide) (hb hby at_124) rfl (fun v48 T48 h48 L48 X48 e48 z48 => ?_)
        obtain ⟨rfl, Nq48, hq48⟩ := z48; replace e48 := e48.trans hq48; have N := Fr.app N Nq48
        show OG p e below _ (T48.setTop (mkF m 127 #[.val (.long p1), .second, .val (.int p2), .val (.int p3), .val (.ref nb11), .val (.int (1 : Int32)), .val (.int q), .unset] [(.int (0 : Int32))]))
        refine og_if_eq (pc1 := 134) (pc2 := 130) X48 hx (hb hby at_127) (by decide) (by decide) rfl (fun _ => ?_) (fun q => absurd q (by decide))
        refine og_aload (pc' := 136) X48 hx rfl rfl (hb hby at_134) rfl ?_
        refine og_iload (pc' := 138) X48 hx rfl (hb hby at_136) rfl ?_
        refine og_iload (pc' := 140) X48 hx rfl (hb hby at_138) rfl ?_
        refine og_iconst (pc' := 141) (v := (3 : Int32)) X48 hx rfl (hb hby at_140) rfl ?_
        by_cases hP3 : c3 = q ∧ own_cnt [c2] % 2 = 0
        ·
          refine og_static (pc' := 144) (cells' := 1) (slots' := 6) (W := 0) X48 hx hZ (rm_cl13 l Z a0 hw nb11 kA11 c0 q c2 c3 c4 c5 q 1 (if_pos hP3).symm h41 n0 O V_nb11) hown (ow8 hw) (ow9 hw) (ow3 hw) (ow10 hw) (by decide) (by rw [hml]; rfl) e48 opd_16 [(.ref nb11), (.int (1 : Int32)), (.int q), (.int (3 : Int32))] [] rfl rfl rfl rfl (by decide) (by decide) rfl rfl (by decide) (by decide) (hb hby at_141) rfl (fun v49 T49 h49 L49 X49 e49 z49 => ?_)
          obtain ⟨rfl, Nq49, hq49⟩ := z49; replace e49 := e49.trans hq49; have N := Fr.app N Nq49
          show OG p e below _ (T49.setTop (mkF m 144 #[.val (.long p1), .second, .val (.int p2), .val (.int p3), .val (.ref nb11), .val (.int (1 : Int32)), .val (.int q), .unset] [(.int (1 : Int32))]))
          refine og_if_eq (pc1 := 151) (pc2 := 147) X49 hx (hb hby at_144) (by decide) (by decide) rfl (fun q => absurd q (by decide)) (fun _ => ?_)
          refine og_iconst (pc' := 148) (v := (3 : Int32)) X49 hx rfl (hb hby at_147) rfl ?_
          refine og_goto (pc' := 186) X49 hx (hb hby at_148) (by decide) (by decide) ?_
          refine og_istore (pc' := 188) (L' := #[.val (.long p1), .second, .val (.int p2), .val (.int p3), .val (.ref nb11), .val (.int (1 : Int32)), .val (.int q), .val (.int (3 : Int32))]) X49 hx rfl (hb hby at_186) rfl ?_
          exact J188 T49 _ X49 e49 N _ (by simp [own_exp, hP2, hP3])
        ·
          refine og_static (pc' := 144) (cells' := 1) (slots' := 6) (W := 0) X48 hx hZ (rm_cl13 l Z a0 hw nb11 kA11 c0 q c2 c3 c4 c5 q 0 (if_neg hP3).symm h41 n0 O V_nb11) hown (ow8 hw) (ow9 hw) (ow3 hw) (ow10 hw) (by decide) (by rw [hml]; rfl) e48 opd_16 [(.ref nb11), (.int (1 : Int32)), (.int q), (.int (3 : Int32))] [] rfl rfl rfl rfl (by decide) (by decide) rfl rfl (by decide) (by decide) (hb hby at_141) rfl (fun v50 T50 h50 L50 X50 e50 z50 => ?_)
          obtain ⟨rfl, Nq50, hq50⟩ := z50; replace e50 := e50.trans hq50; have N := Fr.app N Nq50
          show OG p e below _ (T50.setTop (mkF m 144 #[.val (.long p1), .second, .val (.int p2), .val (.int p3), .val (.ref nb11), .val (.int (1 : Int32)), .val (.int q), .unset] [(.int (0 : Int32))]))
          refine og_if_eq (pc1 := 151) (pc2 := 147) X50 hx (hb hby at_144) (by decide) (by decide) rfl (fun _ => ?_) (fun q => absurd q (by decide))
          refine og_aload (pc' := 153) X50 hx rfl rfl (hb hby at_151) rfl ?_
          refine og_iload (pc' := 155) X50 hx rfl (hb hby at_153) rfl ?_
          refine og_iload (pc' := 157) X50 hx rfl (hb hby at_155) rfl ?_
          refine og_iconst (pc' := 158) (v := (4 : Int32)) X50 hx rfl (hb hby at_157) rfl ?_
          by_cases hP4 : c4 = q ∧ own_cnt [c3, c2] % 2 = 0
          ·
            refine og_static (pc' := 161) (cells' := 1) (slots' := 6) (W := 0) X50 hx hZ (rm_cl14 l Z a0 hw nb11 kA11 c0 q c2 c3 c4 c5 q 1 (if_pos hP4).symm h41 n0 O V_nb11) hown (ow8 hw) (ow9 hw) (ow3 hw) (ow10 hw) (by decide) (by rw [hml]; rfl) e50 opd_16 [(.ref nb11), (.int (1 : Int32)), (.int q), (.int (4 : Int32))] [] rfl rfl rfl rfl (by decide) (by decide) rfl rfl (by decide) (by decide) (hb hby at_158) rfl (fun v51 T51 h51 L51 X51 e51 z51 => ?_)
            obtain ⟨rfl, Nq51, hq51⟩ := z51; replace e51 := e51.trans hq51; have N := Fr.app N Nq51
            show OG p e below _ (T51.setTop (mkF m 161 #[.val (.long p1), .second, .val (.int p2), .val (.int p3), .val (.ref nb11), .val (.int (1 : Int32)), .val (.int q), .unset] [(.int (1 : Int32))]))
            refine og_if_eq (pc1 := 168) (pc2 := 164) X51 hx (hb hby at_161) (by decide) (by decide) rfl (fun q => absurd q (by decide)) (fun _ => ?_)
            refine og_iconst (pc' := 165) (v := (4 : Int32)) X51 hx rfl (hb hby at_164) rfl ?_
            refine og_goto (pc' := 186) X51 hx (hb hby at_165) (by decide) (by decide) ?_
            refine og_istore (pc' := 188) (L' := #[.val (.long p1), .second, .val (.int p2), .val (.int p3), .val (.ref nb11), .val (.int (1 : Int32)), .val (.int q), .val (.int (4 : Int32))]) X51 hx rfl (hb hby at_186) rfl ?_
            exact J188 T51 _ X51 e51 N _ (by simp [own_exp, hP2, hP3, hP4])
          ·
            refine og_static (pc' := 161) (cells' := 1) (slots' := 6) (W := 0) X50 hx hZ (rm_cl14 l Z a0 hw nb11 kA11 c0 q c2 c3 c4 c5 q 0 (if_neg hP4).symm h41 n0 O V_nb11) hown (ow8 hw) (ow9 hw) (ow3 hw) (ow10 hw) (by decide) (by rw [hml]; rfl) e50 opd_16 [(.ref nb11), (.int (1 : Int32)), (.int q), (.int (4 : Int32))] [] rfl rfl rfl rfl (by decide) (by decide) rfl rfl (by decide) (by decide) (hb hby at_158) rfl (fun v52 T52 h52 L52 X52 e52 z52 => ?_)
            obtain ⟨rfl, Nq52, hq52⟩ := z52; replace e52 := e52.trans hq52; have N := Fr.app N Nq52
            show OG p e below _ (T52.setTop (mkF m 161 #[.val (.long p1), .second, .val (.int p2), .val (.int p3), .val (.ref nb11), .val (.int (1 : Int32)), .val (.int q), .unset] [(.int (0 : Int32))]))
            refine og_if_eq (pc1 := 168) (pc2 := 164) X52 hx (hb hby at_161) (by decide) (by decide) rfl (fun _ => ?_) (fun q => absurd q (by decide))
            refine og_aload (pc' := 170) X52 hx rfl rfl (hb hby at_168) rfl ?_
            refine og_iload (pc' := 172) X52 hx rfl (hb hby at_170) rfl ?_
            refine og_iload (pc' := 174) X52 hx rfl (hb hby at_172) rfl ?_
            refine og_iconst (pc' := 175) (v := (5 : Int32)) X52 hx rfl (hb hby at_174) rfl ?_
            by_cases hP5 : c5 = q ∧ own_cnt [c4, c3, c2] % 2 = 0
            ·
              refine og_static (pc' := 178) (cells' := 1) (slots' := 6) (W := 0) X52 hx hZ (rm_cl15 l Z a0 hw nb11 kA11 c0 q c2 c3 c4 c5 q 1 (if_pos hP5).symm h41 n0 O V_nb11) hown (ow8 hw) (ow9 hw) (ow3 hw) (ow10 hw) (by decide) (by rw [hml]; rfl) e52 opd_16 [(.ref nb11), (.int (1 : Int32)), (.int q), (.int (5 : Int32))] [] rfl rfl rfl rfl (by decide) (by decide) rfl rfl (by decide) (by decide) (hb hby at_175) rfl (fun v53 T53 h53 L53 X53 e53 z53 => ?_)
              obtain ⟨rfl, Nq53, hq53⟩ := z53; replace e53 := e53.trans hq53; have N := Fr.app N Nq53
              show OG p e below _ (T53.setTop (mkF m 178 #[.val (.long p1), .second, .val (.int p2), .val (.int p3), .val (.ref nb11), .val (.int (1 : Int32)), .val (.int q), .unset] [(.int (1 : Int32))]))
              refine og_if_eq (pc1 := 185) (pc2 := 181) X53 hx (hb hby at_178) (by decide) (by decide) rfl (fun q => absurd q (by decide)) (fun _ => ?_)
              refine og_iconst (pc' := 182) (v := (5 : Int32)) X53 hx rfl (hb hby at_181) rfl ?_
              refine og_goto (pc' := 186) X53 hx (hb hby at_182) (by decide) (by decide) ?_
              refine og_istore (pc' := 188) (L' := #[.val (.long p1), .second, .val (.int p2), .val (.int p3), .val (.ref nb11), .val (.int (1 : Int32)), .val (.int q), .val (.int (5 : Int32))]) X53 hx rfl (hb hby at_186) rfl ?_
              exact J188 T53 _ X53 e53 N _ (by simp [own_exp, hP2, hP3, hP4, hP5])
            ·
              refine og_static (pc' := 178) (cells' := 1) (slots' := 6) (W := 0) X52 hx hZ (rm_cl15 l Z a0 hw nb11 kA11 c0 q c2 c3 c4 c5 q 0 (if_neg hP5).symm h41 n0 O V_nb11) hown (ow8 hw) (ow9 hw) (ow3 hw) (ow10 hw) (by decide) (by rw [hml]; rfl) e52 opd_16 [(.ref nb11), (.int (1 : Int32)), (.int q), (.int (5 : Int32))] [] rfl rfl rfl rfl (by decide) (by decide) rfl rfl (by decide) (by decide) (hb hby at_175) rfl (fun v54 T54 h54 L54 X54 e54 z54 => ?_)
              obtain ⟨rfl, Nq54, hq54⟩ := z54; replace e54 := e54.trans hq54; have N := Fr.app N Nq54
              show OG p e below _ (T54.setTop (mkF m 178 #[.val (.long p1), .second, .val (.int p2), .val (.int p3), .val (.ref nb11), .val (.int (1 : Int32)), .val (.int q), .unset] [(.int (0 : Int32))]))
              refine og_if_eq (pc1 := 185) (pc2 := 181) X54 hx (hb hby at_178) (by decide) (by decide) rfl (fun _ => ?_) (fun q => absurd q (by decide))
              refine og_iconst (pc' := 186) (v := (-1 : Int32)) X54 hx rfl (hb hby at_185) rfl ?_
              refine og_istore (pc' := 188) (L' := #[.val (.long p1), .second, .val (.int p2), .val (.int p3), .val (.ref nb11), .val (.int (1 : Int32)), .val (.int q), .val (.int (-1 : Int32))]) X54 hx rfl (hb hby at_186) rfl ?_
              exact J188 T54 _ X54 e54 N _ (by simp [own_exp, hP2, hP3, hP4, hP5])
    refine og_if_ne (pc1 := 89) (pc2 := 84) X23 hx (hb hby at_81) (by decide) (by decide) rfl (fun hc81 => ?_) (fun hc81 => ?_)
    · -- pc 89
      refine og_bipush (pc' := 91) (v := (34 : Int32)) X23 hx rfl (hb hby at_89) rfl ?_
      exact J91 T23 _ X23 e23 N _ w3 w4 (Or.inr ⟨rfl, rfl, rfl⟩)
    · -- pc 84
      refine og_bipush (pc' := 86) (v := (39 : Int32)) X23 hx rfl (hb hby at_84) rfl ?_
      refine og_goto (pc' := 91) X23 hx (hb hby at_86) (by decide) (by decide) ?_
      exact J91 T23 _ X23 e23 N _ w1 w2 (Or.inl ⟨rfl, rfl, rfl⟩)
  · -- ii = 2
    refine og_iloadN (pc' := 79) X23 hx rfl (hb hby at_78) rfl ?_
    refine og_iconst (pc' := 80) (v := (1 : Int32)) X23 hx rfl (hb hby at_79) rfl ?_
    refine og_iand (pc' := 81) X23 hx (hb hby at_80) rfl ?_
    have J91 : ∀ (T55 : State) (l55 : List Loc) (X55 : Stand p l e room_1 s m #[(.long p1), (.int p2), (.int p3)] below meth c T55 l55 1 6) (e55 : T55.heap = h23) (N : Fr n0 l55) (q : Int32) (wS wE : Addr) (hq : (q = 39 ∧ wS = w1 ∧ wE = w2) ∨ (q = 34 ∧ wS = w3 ∧ wE = w4)), OG p e below (OFin s (fun v h L => v = some (.int 1) ∧ Fr n0 L) 16 128) (T55.setTop (mkF m 91 #[.val (.long p1), .second, .val (.int p2), .val (.int p3), .val (.ref nb11), .val (.int (2 : Int32)), .unset, .unset] [(.int q)])) := by
      intro T55 l55 X55 e55 N q wS wE hq
      have hqb := own_qb hq
      have E_wS : Exa Z Z.heap wS "com/example/nitpick/nitpick/internal/interpolation/ExpressionLiterals$Quoting" := by rcases hq with ⟨-, rfl, -⟩ | ⟨-, rfl, -⟩ <;> assumption
      have E_wE : Exa Z Z.heap wE "com/example/nitpick/nitpick/internal/interpolation/ExpressionLiterals$Quoting" := by rcases hq with ⟨-, -, rfl⟩ | ⟨-, -, rfl⟩ <;> assumption
      have ne_wS_w0 : wS ≠ w0 := by rcases hq with ⟨-, rfl, -⟩ | ⟨-, rfl, -⟩ <;> assumption
      have ne_wE_w0 : wE ≠ w0 := by rcases hq with ⟨-, -, rfl⟩ | ⟨-, -, rfl⟩ <;> assumption
      refine og_istore (pc' := 93) (L' := #[.val (.long p1), .second, .val (.int p2), .val (.int p3), .val (.ref nb11), .val (.int (2 : Int32)), .val (.int q), .unset]) X55 hx rfl (hb hby at_91) rfl ?_
      refine og_aload (pc' := 95) X55 hx rfl rfl (hb hby at_93) rfl ?_
      refine og_iload (pc' := 97) X55 hx rfl (hb hby at_95) rfl ?_
      refine og_iload (pc' := 99) X55 hx rfl (hb hby at_97) rfl ?_
      refine og_castore (pc' := 100) X55 hx hZ e55 V_nb11 ⟨by decide, by decide⟩ 2 (by decide) (Nat.le_of_ble_eq_true rfl) (hb hby at_99) rfl (fun T56 h56 X56 e56 W56 V56 => ?_)
      have O := O.wr W56 g_nb11; have K := K.wr W56 (Or.inr sz_nb11)
      have N := Fr.snoc X56 N g_nb11
      have V_nb11 : Arv Z h56 nb11 kA11 .char (6 : Int32) [(.int c0), (.int c1), (.int (nar .char q)), (.int c3), (.int c4), (.int c5)] (.int (0 : Int32)) := V56
      rw [own_nc hqb] at V_nb11
      have J188 : ∀ (T57 : State) (l57 : List Loc) (X57 : Stand p l e room_1 s m #[(.long p1), (.int p2), (.int p3)] below meth c T57 l57 1 6) (e57 : T57.heap = h56) (N : Fr n0 l57) (ans : Int32) (hans : ans = own_exp q [] [c3, c4, c5] 3), OG p e below (OFin s (fun v h L => v = some (.int 1) ∧ Fr n0 L) 16 128) (T57.setTop (mkF m 188 #[.val (.long p1), .second, .val (.int p2), .val (.int p3), .val (.ref nb11), .val (.int (2 : Int32)), .val (.int q), .val (.int ans)] [])) := by
        intro T57 l57 X57 e57 N ans hans
        refine og_new (pc' := 191) (cells' := 2) (slots' := 10) X57 hx hZ hown (ow11 hw) (ow12 hw) (ow13 hw) e57 (hb hby at_188) rfl rfl rfl (by decide) (by decide) (fun T58 h58 nb58 X58 e58 E58 q58 E_nb58 D58 B58 => ?_)
        have s_nb58 : h56.size ≤ nb58 := Nat.le_of_eq q58.symm; have g_nb58 : n0 ≤ nb58 := Nat.le_trans (own_n0 O) s_nb58; have sz_nb58 : h0.size ≤ nb58 := Nat.le_trans K.1 s_nb58; have ne_w0_nb58 : w0 ≠ nb58 := O.ne E_w0.lt g_nb58; have ne_w1_nb58 : w1 ≠ nb58 := O.ne E_w1.lt g_nb58; have ne_w2_nb58 : w2 ≠ nb58 := O.ne E_w2.lt g_nb58
        have ne_w3_nb58 : w3 ≠ nb58 := O.ne E_w3.lt g_nb58; have ne_w4_nb58 : w4 ≠ nb58 := O.ne E_w4.lt g_nb58; have ne_wS_nb58 : wS ≠ nb58 := O.ne E_wS.lt g_nb58; have ne_wE_nb58 : wE ≠ nb58 := O.ne E_wE.lt g_nb58; have ne_nb11_nb58 : nb11 ≠ nb58 := Nat.ne_of_lt (Nat.lt_of_lt_of_le V_nb11.lt s_nb58)
        have V_nb11 := V_nb11.ext E58; have O := O.ext E58; have K := K.ext E58
        have F_coder_nb58 : Fld Z h58 nb58 "java/lang/String" "coder" "B" (.int (0 : Int32)) := D58 (Or.inr (ow37 hw)) (ty := .byte) (by decide)
        have F_value_nb58 : Fld Z h58 nb58 "java/lang/String" "value" "[B" .null := D58 (Or.inr (ow39 hw)) (ty := (.array .byte)) (by decide)
        refine og_dup (pc' := 192) X58 hx rfl (hb hby at_191) rfl ?_
        refine og_aload (pc' := 194) X58 hx rfl rfl (hb hby at_192) rfl ?_
        refine og_special (pc' := 197) (cells' := 3) (slots' := 16) (W := 1) X58 hx hZ (rm_sn_6 l Z a0 hw nb58 nb11 kA11 c0 c1 q c3 c4 c5 (own_le255 hc0) (own_le255 hc1) (own_le255 hqb) (own_le255 hc3) (own_le255 hc4) (own_le255 hc5) cs hcs h58 n0 O E_nb58 F_value_nb58 F_coder_nb58 V_nb11 S_CS g_nb58 ne_nb11_nb58) rfl hown (ow14 hw) (ow15 hw) (ow13 hw) (ow16 hw) (by decide) (by rw [hml]; rfl) e58 opd_14 [(.ref nb11)] [(.ref nb58)] rfl rfl rfl rfl (by decide) (by decide) rfl rfl (by decide) (by decide) (hb hby at_194) rfl (fun v59 T59 h59 L59 X59 e59 z59 => ?_)
        obtain ⟨nb59, k59, rfl, Nq59, K59, sb59, E_nb58', F_value_nb58', F_coder_nb58', V_nb59⟩ := z59; have N := Fr.app N Nq59
        have s_nb59 : h58.size ≤ nb59 := sb59; have g_nb59 : n0 ≤ nb59 := Nat.le_trans (own_n0 O) s_nb59; have sz_nb59 : h0.size ≤ nb59 := Nat.le_trans K.1 s_nb59; have ne_w0_nb59 : w0 ≠ nb59 := O.ne E_w0.lt g_nb59; have ne_w1_nb59 : w1 ≠ nb59 := O.ne E_w1.lt g_nb59; have ne_w2_nb59 : w2 ≠ nb59 := O.ne E_w2.lt g_nb59
        have ne_w3_nb59 : w3 ≠ nb59 := O.ne E_w3.lt g_nb59; have ne_w4_nb59 : w4 ≠ nb59 := O.ne E_w4.lt g_nb59; have ne_wS_nb59 : wS ≠ nb59 := O.ne E_wS.lt g_nb59; have ne_wE_nb59 : wE ≠ nb59 := O.ne E_wE.lt g_nb59; have ne_nb11_nb59 : nb11 ≠ nb59 := Nat.ne_of_lt (Nat.lt_of_lt_of_le V_nb11.lt s_nb59); have ne_nb58_nb59 : nb58 ≠ nb59 := Nat.ne_of_lt (Nat.lt_of_lt_of_le E_nb58.lt s_nb59)
        have V_nb11 := V_nb11.keep K59 (ninS ne_nb11_nb58 nin0); have E_nb58 := E_nb58.keep K59; have O := O.keep K59 (allS g_nb58 all0); have K := K.trans K59 (allS (Or.inr sz_nb58) all0)
        have E_nb58 := E_nb58'; have F_value_nb58 := F_value_nb58'; have F_coder_nb58 := F_coder_nb58'
        show OG p e below _ (T59.setTop (mkF m 197 #[.val (.long p1), .second, .val (.int p2), .val (.int p3), .val (.ref nb11), .val (.int (2 : Int32)), .val (.int q), .val (.int ans)] [(.ref nb58)]))
        refine og_iload (pc' := 199) X59 hx rfl (hb hby at_197) rfl ?_
        refine og_static (pc' := 202) (cells' := 3) (slots' := 16) (W := 0) X59 hx hZ (rm_se2 l Z a0 hw nb58 nb59 k59 c0 c1 q c3 c4 c5 hc0 hc1 hqb hc3 hc4 hc5 cs hcs fm hfm w0 w1 w2 w3 w4 wS wE hq _ rfl h59 n0 O E_nb58 F_value_nb58 F_coder_nb58 V_nb59 S_CS S_FM S_CODE S_SINGLE S_SINGLE_ESCAPED S_DOUBLE S_DOUBLE_ESCAPED E_w0 E_w1 E_w2 E_w3 E_w4 F_w0 F_w1 F_w2 F_w3 F_w4 E_wS E_wE ne_wS_w0 ne_wE_w0) hown (ow40 hw) (ow41 hw) (ow42 hw) (ow43 hw) (by decide) (by rw [hml]; rfl) e59 opd_15 [(.ref nb58), (.int (2 : Int32))] [] rfl rfl rfl rfl (by decide) (by decide) rfl rfl (by decide) (by decide) (hb hby at_199) rfl (fun v60 T60 h60 L60 X60 e60 z60 => ?_)
        obtain ⟨rfl, Nq60, hq60⟩ := z60; replace e60 := e60.trans hq60; have N := Fr.app N Nq60
        show OG p e below _ (T60.setTop (mkF m 202 #[.val (.long p1), .second, .val (.int p2), .val (.int p3), .val (.ref nb11), .val (.int (2 : Int32)), .val (.int q), .val (.int ans)] [(.int (own_end q false [c3, c4, c5] 3))]))
        refine og_iload (pc' := 204) X60 hx rfl (hb hby at_202) rfl ?_
        refine og_icmp_ne (pc1 := 211) (pc2 := 207) X60 hx (hb hby at_204) (by decide) (by decide) rfl (fun q => absurd ((own_law (own_q92 hq) _ [] false _ (by simp [own_cnt])).trans hans.symm) q) (fun _ => ?_)
        refine og_iconst (pc' := 208) (v := (1 : Int32)) X60 hx rfl (hb hby at_207) rfl ?_
        refine og_goto (pc' := 212) X60 hx (hb hby at_208) (by decide) (by decide) ?_
        refine og_retN X60 hx hlk hret (by simp) (hb hby at_212) (by decide) (by decide) ?_
        exact ⟨rfl, N⟩
      refine og_aload (pc' := 102) X56 hx rfl rfl (hb hby at_100) rfl ?_
      refine og_iload (pc' := 104) X56 hx rfl (hb hby at_102) rfl ?_
      refine og_iload (pc' := 106) X56 hx rfl (hb hby at_104) rfl ?_
      refine og_iconst (pc' := 107) (v := (1 : Int32)) X56 hx rfl (hb hby at_106) rfl ?_
      refine og_static (pc' := 110) (cells' := 1) (slots' := 6) (W := 0) X56 hx hZ (rm_cl l Z a0 hw nb11 2 q 1 (by decide) h56 n0 O) hown (ow8 hw) (ow9 hw) (ow3 hw) (ow10 hw) (by decide) (by rw [hml]; rfl) e56 opd_16 [(.ref nb11), (.int (2 : Int32)), (.int q), (.int (1 : Int32))] [] rfl rfl rfl rfl (by decide) (by decide) rfl rfl (by decide) (by decide) (hb hby at_107) rfl (fun v61 T61 h61 L61 X61 e61 z61 => ?_)
      obtain ⟨rfl, Nq61, hq61⟩ := z61; replace e61 := e61.trans hq61; have N := Fr.app N Nq61
      show OG p e below _ (T61.setTop (mkF m 110 #[.val (.long p1), .second, .val (.int p2), .val (.int p3), .val (.ref nb11), .val (.int (2 : Int32)), .val (.int q), .unset] [(.int (0 : Int32))]))
      refine og_if_eq (pc1 := 117) (pc2 := 113) X61 hx (hb hby at_110) (by decide) (by decide) rfl (fun _ => ?_) (fun q => absurd q (by decide))
      refine og_aload (pc' := 119) X61 hx rfl rfl (hb hby at_117) rfl ?_
      refine og_iload (pc' := 121) X61 hx rfl (hb hby at_119) rfl ?_
      refine og_iload (pc' := 123) X61 hx rfl (hb hby at_121) rfl ?_
      refine og_iconst (pc' := 124) (v := (2 : Int32)) X61 hx rfl (hb hby at_123) rfl ?_
      refine og_static (pc' := 127) (cells' := 1) (slots' := 6) (W := 0) X61 hx hZ (rm_cl l Z a0 hw nb11 2 q 2 (by decide) h56 n0 O) hown (ow8 hw) (ow9 hw) (ow3 hw) (ow10 hw) (by decide) (by rw [hml]; rfl) e61 opd_16 [(.ref nb11), (.int (2 : Int32)), (.int q), (.int (2 : Int32))] [] rfl rfl rfl rfl (by decide) (by decide) rfl rfl (by decide) (by decide) (hb hby at_124) rfl (fun v62 T62 h62 L62 X62 e62 z62 => ?_)
      obtain ⟨rfl, Nq62, hq62⟩ := z62; replace e62 := e62.trans hq62; have N := Fr.app N Nq62
      show OG p e below _ (T62.setTop (mkF m 127 #[.val (.long p1), .second, .val (.int p2), .val (.int p3), .val (.ref nb11), .val (.int (2 : Int32)), .val (.int q), .unset] [(.int (0 : Int32))]))
      refine og_if_eq (pc1 := 134) (pc2 := 130) X62 hx (hb hby at_127) (by decide) (by decide) rfl (fun _ => ?_) (fun q => absurd q (by decide))
      refine og_aload (pc' := 136) X62 hx rfl rfl (hb hby at_134) rfl ?_
      refine og_iload (pc' := 138) X62 hx rfl (hb hby at_136) rfl ?_
      refine og_iload (pc' := 140) X62 hx rfl (hb hby at_138) rfl ?_
      refine og_iconst (pc' := 141) (v := (3 : Int32)) X62 hx rfl (hb hby at_140) rfl ?_
      by_cases hP3 : c3 = q ∧ own_cnt [] % 2 = 0
      ·
        refine og_static (pc' := 144) (cells' := 1) (slots' := 6) (W := 0) X62 hx hZ (rm_cl23 l Z a0 hw nb11 kA11 c0 c1 q c3 c4 c5 q 1 (if_pos hP3).symm h56 n0 O V_nb11) hown (ow8 hw) (ow9 hw) (ow3 hw) (ow10 hw) (by decide) (by rw [hml]; rfl) e62 opd_16 [(.ref nb11), (.int (2 : Int32)), (.int q), (.int (3 : Int32))] [] rfl rfl rfl rfl (by decide) (by decide) rfl rfl (by decide) (by decide) (hb hby at_141) rfl (fun v63 T63 h63 L63 X63 e63 z63 => ?_)
        obtain ⟨rfl, Nq63, hq63⟩ := z63; replace e63 := e63.trans hq63; have N := Fr.app N Nq63
        show OG p e below _ (T63.setTop (mkF m 144 #[.val (.long p1), .second, .val (.int p2), .val (.int p3), .val (.ref nb11), .val (.int (2 : Int32)), .val (.int q), .unset] [(.int (1 : Int32))]))
        refine og_if_eq (pc1 := 151) (pc2 := 147) X63 hx (hb hby at_144) (by decide) (by decide) rfl (fun q => absurd q (by decide)) (fun _ => ?_)
        refine og_iconst (pc' := 148) (v := (3 : Int32)) X63 hx rfl (hb hby at_147) rfl ?_
        refine og_goto (pc' := 186) X63 hx (hb hby at_148) (by decide) (by decide) ?_
        refine og_istore (pc' := 188) (L' := #[.val (.long p1), .second, .val (.int p2), .val (.int p3), .val (.ref nb11), .val (.int (2 : Int32)), .val (.int q), .val (.int (3 : Int32))]) X63 hx rfl (hb hby at_186) rfl ?_
        exact J188 T63 _ X63 e63 N _ (by simp [own_exp, hP3])
      ·
        refine og_static (pc' := 144) (cells' := 1) (slots' := 6) (W := 0) X62 hx hZ (rm_cl23 l Z a0 hw nb11 kA11 c0 c1 q c3 c4 c5 q 0 (if_neg hP3).symm h56 n0 O V_nb11) hown (ow8 hw) (ow9 hw) (ow3 hw) (ow10 hw) (by decide) (by rw [hml]; rfl) e62 opd_16 [(.ref nb11), (.int (2 : Int32)), (.int q), (.int (3 : Int32))] [] rfl rfl rfl rfl (by decide) (by decide) rfl rfl (by decide) (by decide) (hb hby at_141) rfl (fun v64 T64 h64 L64 X64 e64 z64 => ?_)
        obtain ⟨rfl, Nq64, hq64⟩ := z64; replace e64 := e64.trans hq64; have N := Fr.app N Nq64
        show OG p e below _ (T64.setTop (mkF m 144 #[.val (.long p1), .second, .val (.int p2), .val (.int p3), .val (.ref nb11), .val (.int (2 : Int32)), .val (.int q), .unset] [(.int (0 : Int32))]))
        refine og_if_eq (pc1 := 151) (pc2 := 147) X64 hx (hb hby at_144) (by decide) (by decide) rfl (fun _ => ?_) (fun q => absurd q (by decide))
        refine og_aload (pc' := 153) X64 hx rfl rfl (hb hby at_151) rfl ?_
        refine og_iload (pc' := 155) X64 hx rfl (hb hby at_153) rfl ?_
        refine og_iload (pc' := 157) X64 hx rfl (hb hby at_155) rfl ?_
        refine og_iconst (pc' := 158) (v := (4 : Int32)) X64 hx rfl (hb hby at_157) rfl ?_
        by_cases hP4 : c4 = q ∧ own_cnt [c3] % 2 = 0
        ·
          refine og_static (pc' := 161) (cells' := 1) (slots' := 6) (W := 0) X64 hx hZ (rm_cl24 l Z a0 hw nb11 kA11 c0 c1 q c3 c4 c5 q 1 (if_pos hP4).symm h56 n0 O V_nb11) hown (ow8 hw) (ow9 hw) (ow3 hw) (ow10 hw) (by decide) (by rw [hml]; rfl) e64 opd_16 [(.ref nb11), (.int (2 : Int32)), (.int q), (.int (4 : Int32))] [] rfl rfl rfl rfl (by decide) (by decide) rfl rfl (by decide) (by decide) (hb hby at_158) rfl (fun v65 T65 h65 L65 X65 e65 z65 => ?_)
          obtain ⟨rfl, Nq65, hq65⟩ := z65; replace e65 := e65.trans hq65; have N := Fr.app N Nq65
          show OG p e below _ (T65.setTop (mkF m 161 #[.val (.long p1), .second, .val (.int p2), .val (.int p3), .val (.ref nb11), .val (.int (2 : Int32)), .val (.int q), .unset] [(.int (1 : Int32))]))
          refine og_if_eq (pc1 := 168) (pc2 := 164) X65 hx (hb hby at_161) (by decide) (by decide) rfl (fun q => absurd q (by decide)) (fun _ => ?_)
          refine og_iconst (pc' := 165) (v := (4 : Int32)) X65 hx rfl (hb hby at_164) rfl ?_
          refine og_goto (pc' := 186) X65 hx (hb hby at_165) (by decide) (by decide) ?_
          refine og_istore (pc' := 188) (L' := #[.val (.long p1), .second, .val (.int p2), .val (.int p3), .val (.ref nb11), .val (.int (2 : Int32)), .val (.int q), .val (.int (4 : Int32))]) X65 hx rfl (hb hby at_186) rfl ?_
          exact J188 T65 _ X65 e65 N _ (by simp [own_exp, hP3, hP4])
        ·
          refine og_static (pc' := 161) (cells' := 1) (slots' := 6) (W := 0) X64 hx hZ (rm_cl24 l Z a0 hw nb11 kA11 c0 c1 q c3 c4 c5 q 0 (if_neg hP4).symm h56 n0 O V_nb11) hown (ow8 hw) (ow9 hw) (ow3 hw) (ow10 hw) (by decide) (by rw [hml]; rfl) e64 opd_16 [(.ref nb11), (.int (2 : Int32)), (.int q), (.int (4 : Int32))] [] rfl rfl rfl rfl (by decide) (by decide) rfl rfl (by decide) (by decide) (hb hby at_158) rfl (fun v66 T66 h66 L66 X66 e66 z66 => ?_)
          obtain ⟨rfl, Nq66, hq66⟩ := z66; replace e66 := e66.trans hq66; have N := Fr.app N Nq66
          show OG p e below _ (T66.setTop (mkF m 161 #[.val (.long p1), .second, .val (.int p2), .val (.int p3), .val (.ref nb11), .val (.int (2 : Int32)), .val (.int q), .unset] [(.int (0 : Int32))]))
          refine og_if_eq (pc1 := 168) (pc2 := 164) X66 hx (hb hby at_161) (by decide) (by decide) rfl (fun _ => ?_) (fun q => absurd q (by decide))
          refine og_aload (pc' := 170) X66 hx rfl rfl (hb hby at_168) rfl ?_
          refine og_iload (pc' := 172) X66 hx rfl (hb hby at_170) rfl ?_
          refine og_iload (pc' := 174) X66 hx rfl (hb hby at_172) rfl ?_
          refine og_iconst (pc' := 175) (v := (5 : Int32)) X66 hx rfl (hb hby at_174) rfl ?_
          by_cases hP5 : c5 = q ∧ own_cnt [c4, c3] % 2 = 0
          ·
            refine og_static (pc' := 178) (cells' := 1) (slots' := 6) (W := 0) X66 hx hZ (rm_cl25 l Z a0 hw nb11 kA11 c0 c1 q c3 c4 c5 q 1 (if_pos hP5).symm h56 n0 O V_nb11) hown (ow8 hw) (ow9 hw) (ow3 hw) (ow10 hw) (by decide) (by rw [hml]; rfl) e66 opd_16 [(.ref nb11), (.int (2 : Int32)), (.int q), (.int (5 : Int32))] [] rfl rfl rfl rfl (by decide) (by decide) rfl rfl (by decide) (by decide) (hb hby at_175) rfl (fun v67 T67 h67 L67 X67 e67 z67 => ?_)
            obtain ⟨rfl, Nq67, hq67⟩ := z67; replace e67 := e67.trans hq67; have N := Fr.app N Nq67
            show OG p e below _ (T67.setTop (mkF m 178 #[.val (.long p1), .second, .val (.int p2), .val (.int p3), .val (.ref nb11), .val (.int (2 : Int32)), .val (.int q), .unset] [(.int (1 : Int32))]))
            refine og_if_eq (pc1 := 185) (pc2 := 181) X67 hx (hb hby at_178) (by decide) (by decide) rfl (fun q => absurd q (by decide)) (fun _ => ?_)
            refine og_iconst (pc' := 182) (v := (5 : Int32)) X67 hx rfl (hb hby at_181) rfl ?_
            refine og_goto (pc' := 186) X67 hx (hb hby at_182) (by decide) (by decide) ?_
            refine og_istore (pc' := 188) (L' := #[.val (.long p1), .second, .val (.int p2), .val (.int p3), .val (.ref nb11), .val (.int (2 : Int32)), .val (.int q), .val (.int (5 : Int32))]) X67 hx rfl (hb hby at_186) rfl ?_
            exact J188 T67 _ X67 e67 N _ (by simp [own_exp, hP3, hP4, hP5])
          ·
            refine og_static (pc' := 178) (cells' := 1) (slots' := 6) (W := 0) X66 hx hZ (rm_cl25 l Z a0 hw nb11 kA11 c0 c1 q c3 c4 c5 q 0 (if_neg hP5).symm h56 n0 O V_nb11) hown (ow8 hw) (ow9 hw) (ow3 hw) (ow10 hw) (by decide) (by rw [hml]; rfl) e66 opd_16 [(.ref nb11), (.int (2 : Int32)), (.int q), (.int (5 : Int32))] [] rfl rfl rfl rfl (by decide) (by decide) rfl rfl (by decide) (by decide) (hb hby at_175) rfl (fun v68 T68 h68 L68 X68 e68 z68 => ?_)
            obtain ⟨rfl, Nq68, hq68⟩ := z68; replace e68 := e68.trans hq68; have N := Fr.app N Nq68
            show OG p e below _ (T68.setTop (mkF m 178 #[.val (.long p1), .second, .val (.int p2), .val (.int p3), .val (.ref nb11), .val (.int (2 : Int32)), .val (.int q), .unset] [(.int (0 : Int32))]))
            refine og_if_eq (pc1 := 185) (pc2 := 181) X68 hx (hb hby at_178) (by decide) (by decide) rfl (fun _ => ?_) (fun q => absurd q (by decide))
            refine og_iconst (pc' := 186) (v := (-1 : Int32)) X68 hx rfl (hb hby at_185) rfl ?_
            refine og_istore (pc' := 188) (L' := #[.val (.long p1), .second, .val (.int p2), .val (.int p3), .val (.ref nb11), .val (.int (2 : Int32)), .val (.int q), .val (.int (-1 : Int32))]) X68 hx rfl (hb hby at_186) rfl ?_
            exact J188 T68 _ X68 e68 N _ (by simp [own_exp, hP3, hP4, hP5])
    refine og_if_ne (pc1 := 89) (pc2 := 84) X23 hx (hb hby at_81) (by decide) (by decide) rfl (fun hc81 => ?_) (fun hc81 => ?_)
    · -- pc 89
      refine og_bipush (pc' := 91) (v := (34 : Int32)) X23 hx rfl (hb hby at_89) rfl ?_
      exact J91 T23 _ X23 e23 N _ w3 w4 (Or.inr ⟨rfl, rfl, rfl⟩)
    · -- pc 84
      refine og_bipush (pc' := 86) (v := (39 : Int32)) X23 hx rfl (hb hby at_84) rfl ?_
      refine og_goto (pc' := 91) X23 hx (hb hby at_86) (by decide) (by decide) ?_
      exact J91 T23 _ X23 e23 N _ w1 w2 (Or.inl ⟨rfl, rfl, rfl⟩)
  · -- ii = 3
    refine og_iloadN (pc' := 79) X23 hx rfl (hb hby at_78) rfl ?_
    refine og_iconst (pc' := 80) (v := (1 : Int32)) X23 hx rfl (hb hby at_79) rfl ?_
    refine og_iand (pc' := 81) X23 hx (hb hby at_80) rfl ?_
    have J91 : ∀ (T69 : State) (l69 : List Loc) (X69 : Stand p l e room_1 s m #[(.long p1), (.int p2), (.int p3)] below meth c T69 l69 1 6) (e69 : T69.heap = h23) (N : Fr n0 l69) (q : Int32) (wS wE : Addr) (hq : (q = 39 ∧ wS = w1 ∧ wE = w2) ∨ (q = 34 ∧ wS = w3 ∧ wE = w4)), OG p e below (OFin s (fun v h L => v = some (.int 1) ∧ Fr n0 L) 16 128) (T69.setTop (mkF m 91 #[.val (.long p1), .second, .val (.int p2), .val (.int p3), .val (.ref nb11), .val (.int (3 : Int32)), .unset, .unset] [(.int q)])) := by
      intro T69 l69 X69 e69 N q wS wE hq
      have hqb := own_qb hq
      have E_wS : Exa Z Z.heap wS "com/example/nitpick/nitpick/internal/interpolation/ExpressionLiterals$Quoting" := by rcases hq with ⟨-, rfl, -⟩ | ⟨-, rfl, -⟩ <;> assumption
      have E_wE : Exa Z Z.heap wE "com/example/nitpick/nitpick/internal/interpolation/ExpressionLiterals$Quoting" := by rcases hq with ⟨-, -, rfl⟩ | ⟨-, -, rfl⟩ <;> assumption
      have ne_wS_w0 : wS ≠ w0 := by rcases hq with ⟨-, rfl, -⟩ | ⟨-, rfl, -⟩ <;> assumption
      have ne_wE_w0 : wE ≠ w0 := by rcases hq with ⟨-, -, rfl⟩ | ⟨-, -, rfl⟩ <;> assumption
      refine og_istore (pc' := 93) (L' := #[.val (.long p1), .second, .val (.int p2), .val (.int p3), .val (.ref nb11), .val (.int (3 : Int32)), .val (.int q), .unset]) X69 hx rfl (hb hby at_91) rfl ?_
      refine og_aload (pc' := 95) X69 hx rfl rfl (hb hby at_93) rfl ?_
      refine og_iload (pc' := 97) X69 hx rfl (hb hby at_95) rfl ?_
      refine og_iload (pc' := 99) X69 hx rfl (hb hby at_97) rfl ?_
      refine og_castore (pc' := 100) X69 hx hZ e69 V_nb11 ⟨by decide, by decide⟩ 3 (by decide) (Nat.le_of_ble_eq_true rfl) (hb hby at_99) rfl (fun T70 h70 X70 e70 W70 V70 => ?_)
      have O := O.wr W70 g_nb11; have K := K.wr W70 (Or.inr sz_nb11)
      have N := Fr.snoc X70 N g_nb11
      have V_nb11 : Arv Z h70 nb11 kA11 .char (6 : Int32) [(.int c0), (.int c1), (.int c2), (.int (nar .char q)), (.int c4), (.int c5)] (.int (0 : Int32)) := V70
      rw [own_nc hqb] at V_nb11
      have J188 : ∀ (T71 : State) (l71 : List Loc) (X71 : Stand p l e room_1 s m #[(.long p1), (.int p2), (.int p3)] below meth c T71 l71 1 6) (e71 : T71.heap = h70) (N : Fr n0 l71) (ans : Int32) (hans : ans = own_exp q [] [c4, c5] 4), OG p e below (OFin s (fun v h L => v = some (.int 1) ∧ Fr n0 L) 16 128) (T71.setTop (mkF m 188 #[.val (.long p1), .second, .val (.int p2), .val (.int p3), .val (.ref nb11), .val (.int (3 : Int32)), .val (.int q), .val (.int ans)] [])) := by
        intro T71 l71 X71 e71 N ans hans
        refine og_new (pc' := 191) (cells' := 2) (slots' := 10) X71 hx hZ hown (ow11 hw) (ow12 hw) (ow13 hw) e71 (hb hby at_188) rfl rfl rfl (by decide) (by decide) (fun T72 h72 nb72 X72 e72 E72 q72 E_nb72 D72 B72 => ?_)
        have s_nb72 : h70.size ≤ nb72 := Nat.le_of_eq q72.symm; have g_nb72 : n0 ≤ nb72 := Nat.le_trans (own_n0 O) s_nb72; have sz_nb72 : h0.size ≤ nb72 := Nat.le_trans K.1 s_nb72; have ne_w0_nb72 : w0 ≠ nb72 := O.ne E_w0.lt g_nb72; have ne_w1_nb72 : w1 ≠ nb72 := O.ne E_w1.lt g_nb72; have ne_w2_nb72 : w2 ≠ nb72 := O.ne E_w2.lt g_nb72
        have ne_w3_nb72 : w3 ≠ nb72 := O.ne E_w3.lt g_nb72; have ne_w4_nb72 : w4 ≠ nb72 := O.ne E_w4.lt g_nb72; have ne_wS_nb72 : wS ≠ nb72 := O.ne E_wS.lt g_nb72; have ne_wE_nb72 : wE ≠ nb72 := O.ne E_wE.lt g_nb72; have ne_nb11_nb72 : nb11 ≠ nb72 := Nat.ne_of_lt (Nat.lt_of_lt_of_le V_nb11.lt s_nb72)
        have V_nb11 := V_nb11.ext E72; have O := O.ext E72; have K := K.ext E72
        have F_coder_nb72 : Fld Z h72 nb72 "java/lang/String" "coder" "B" (.int (0 : Int32)) := D72 (Or.inr (ow37 hw)) (ty := .byte) (by decide)
        have F_value_nb72 : Fld Z h72 nb72 "java/lang/String" "value" "[B" .null := D72 (Or.inr (ow39 hw)) (ty := (.array .byte)) (by decide)
        refine og_dup (pc' := 192) X72 hx rfl (hb hby at_191) rfl ?_
        refine og_aload (pc' := 194) X72 hx rfl rfl (hb hby at_192) rfl ?_
        refine og_special (pc' := 197) (cells' := 3) (slots' := 16) (W := 1) X72 hx hZ (rm_sn_6 l Z a0 hw nb72 nb11 kA11 c0 c1 c2 q c4 c5 (own_le255 hc0) (own_le255 hc1) (own_le255 hc2) (own_le255 hqb) (own_le255 hc4) (own_le255 hc5) cs hcs h72 n0 O E_nb72 F_value_nb72 F_coder_nb72 V_nb11 S_CS g_nb72 ne_nb11_nb72) rfl hown (ow14 hw) (ow15 hw) (ow13 hw) (ow16 hw) (by decide) (by rw [hml]; rfl) e72 opd_14 [(.ref nb11)] [(.ref nb72)] rfl rfl rfl rfl (by decide) (by decide) rfl rfl (by decide) (by decide) (hb hby at_194) rfl (fun v73 T73 h73 L73 X73 e73 z73 => ?_)
        obtain ⟨nb73, k73, rfl, Nq73, K73, sb73, E_nb72', F_value_nb72', F_coder_nb72', V_nb73⟩ := z73; have N := Fr.app N Nq73
        have s_nb73 : h72.size ≤ nb73 := sb73; have g_nb73 : n0 ≤ nb73 := Nat.le_trans (own_n0 O) s_nb73; have sz_nb73 : h0.size ≤ nb73 := Nat.le_trans K.1 s_nb73; have ne_w0_nb73 : w0 ≠ nb73 := O.ne E_w0.lt g_nb73; have ne_w1_nb73 : w1 ≠ nb73 := O.ne E_w1.lt g_nb73; have ne_w2_nb73 : w2 ≠ nb73 := O.ne E_w2.lt g_nb73
        have ne_w3_nb73 : w3 ≠ nb73 := O.ne E_w3.lt g_nb73; have ne_w4_nb73 : w4 ≠ nb73 := O.ne E_w4.lt g_nb73; have ne_wS_nb73 : wS ≠ nb73 := O.ne E_wS.lt g_nb73; have ne_wE_nb73 : wE ≠ nb73 := O.ne E_wE.lt g_nb73; have ne_nb11_nb73 : nb11 ≠ nb73 := Nat.ne_of_lt (Nat.lt_of_lt_of_le V_nb11.lt s_nb73); have ne_nb72_nb73 : nb72 ≠ nb73 := Nat.ne_of_lt (Nat.lt_of_lt_of_le E_nb72.lt s_nb73)
        have V_nb11 := V_nb11.keep K73 (ninS ne_nb11_nb72 nin0); have E_nb72 := E_nb72.keep K73; have O := O.keep K73 (allS g_nb72 all0); have K := K.trans K73 (allS (Or.inr sz_nb72) all0)
        have E_nb72 := E_nb72'; have F_value_nb72 := F_value_nb72'; have F_coder_nb72 := F_coder_nb72'
        show OG p e below _ (T73.setTop (mkF m 197 #[.val (.long p1), .second, .val (.int p2), .val (.int p3), .val (.ref nb11), .val (.int (3 : Int32)), .val (.int q), .val (.int ans)] [(.ref nb72)]))
        refine og_iload (pc' := 199) X73 hx rfl (hb hby at_197) rfl ?_
        refine og_static (pc' := 202) (cells' := 3) (slots' := 16) (W := 0) X73 hx hZ (rm_se3 l Z a0 hw nb72 nb73 k73 c0 c1 c2 q c4 c5 hc0 hc1 hc2 hqb hc4 hc5 cs hcs fm hfm w0 w1 w2 w3 w4 wS wE hq _ rfl h73 n0 O E_nb72 F_value_nb72 F_coder_nb72 V_nb73 S_CS S_FM S_CODE S_SINGLE S_SINGLE_ESCAPED S_DOUBLE S_DOUBLE_ESCAPED E_w0 E_w1 E_w2 E_w3 E_w4 F_w0 F_w1 F_w2 F_w3 F_w4 E_wS E_wE ne_wS_w0 ne_wE_w0) hown (ow40 hw) (ow41 hw) (ow42 hw) (ow43 hw) (by decide) (by rw [hml]; rfl) e73 opd_15 [(.ref nb72), (.int (3 : Int32))] [] rfl rfl rfl rfl (by decide) (by decide) rfl rfl (by decide) (by decide) (hb hby at_199) rfl (fun v74 T74 h74 L74 X74 e74 z74 => ?_)
        obtain ⟨rfl, Nq74, hq74⟩ := z74; replace e74 := e74.trans hq74; have N := Fr.app N Nq74
        show OG p e below _ (T74.setTop (mkF m 202 #[.val (.long p1), .second, .val (.int p2), .val (.int p3), .val (.ref nb11), .val (.int (3 : Int32)), .val (.int q), .val (.int ans)] [(.int (own_end q false [c4, c5] 4))]))
        refine og_iload (pc' := 204) X74 hx rfl (hb hby at_202) rfl ?_
        refine og_icmp_ne (pc1 := 211) (pc2 := 207) X74 hx (hb hby at_204) (by decide) (by decide) rfl (fun q => absurd ((own_law (own_q92 hq) _ [] false _ (by simp [own_cnt])).trans hans.symm) q) (fun _ => ?_)
        refine og_iconst (pc' := 208) (v := (1 : Int32)) X74 hx rfl (hb hby at_207) rfl ?_
        refine og_goto (pc' := 212) X74 hx (hb hby at_208) (by decide) (by decide) ?_
        refine og_retN X74 hx hlk hret (by simp) (hb hby at_212) (by decide) (by decide) ?_
        exact ⟨rfl, N⟩
      refine og_aload (pc' := 102) X70 hx rfl rfl (hb hby at_100) rfl ?_
      refine og_iload (pc' := 104) X70 hx rfl (hb hby at_102) rfl ?_
      refine og_iload (pc' := 106) X70 hx rfl (hb hby at_104) rfl ?_
      refine og_iconst (pc' := 107) (v := (1 : Int32)) X70 hx rfl (hb hby at_106) rfl ?_
      refine og_static (pc' := 110) (cells' := 1) (slots' := 6) (W := 0) X70 hx hZ (rm_cl l Z a0 hw nb11 3 q 1 (by decide) h70 n0 O) hown (ow8 hw) (ow9 hw) (ow3 hw) (ow10 hw) (by decide) (by rw [hml]; rfl) e70 opd_16 [(.ref nb11), (.int (3 : Int32)), (.int q), (.int (1 : Int32))] [] rfl rfl rfl rfl (by decide) (by decide) rfl rfl (by decide) (by decide) (hb hby at_107) rfl (fun v75 T75 h75 L75 X75 e75 z75 => ?_)
      obtain ⟨rfl, Nq75, hq75⟩ := z75; replace e75 := e75.trans hq75; have N := Fr.app N Nq75
      show OG p e below _ (T75.setTop (mkF m 110 #[.val (.long p1), .second, .val (.int p2), .val (.int p3), .val (.ref nb11), .val (.int (3 : Int32)), .val (.int q), .unset] [(.int (0 : Int32))]))
      refine og_if_eq (pc1 := 117) (pc2 := 113) X75 hx (hb hby at_110) (by decide) (by decide) rfl (fun _ => ?_) (fun q => absurd q (by decide))
      refine og_aload (pc' := 119) X75 hx rfl rfl (hb hby at_117) rfl ?_
      refine og_iload (pc' := 121) X75 hx rfl (hb hby at_119) rfl ?_
      refine og_iload (pc' := 123) X75 hx rfl (hb hby at_121) rfl ?_
      refine og_iconst (pc' := 124) (v := (2 : Int32)) X75 hx rfl (hb hby at_123) rfl ?_
      refine og_static (pc' := 127) (cells' := 1) (slots' := 6) (W := 0) X75 hx hZ (rm_cl l Z a0 hw nb11 3 q 2 (by decide) h70 n0 O) hown (ow8 hw) (ow9 hw) (ow3 hw) (ow10 hw) (by decide) (by rw [hml]; rfl) e75 opd_16 [(.ref nb11), (.int (3 : Int32)), (.int q), (.int (2 : Int32))] [] rfl rfl rfl rfl (by decide) (by decide) rfl rfl (by decide) (by decide) (hb hby at_124) rfl (fun v76 T76 h76 L76 X76 e76 z76 => ?_)
      obtain ⟨rfl, Nq76, hq76⟩ := z76; replace e76 := e76.trans hq76; have N := Fr.app N Nq76
      show OG p e below _ (T76.setTop (mkF m 127 #[.val (.long p1), .second, .val (.int p2), .val (.int p3), .val (.ref nb11), .val (.int (3 : Int32)), .val (.int q), .unset] [(.int (0 : Int32))]))
      refine og_if_eq (pc1 := 134) (pc2 := 130) X76 hx (hb hby at_127) (by decide) (by decide) rfl (fun _ => ?_) (fun q => absurd q (by decide))
      refine og_aload (pc' := 136) X76 hx rfl rfl (hb hby at_134) rfl ?_
      refine og_iload (pc' := 138) X76 hx rfl (hb hby at_136) rfl ?_
      refine og_iload (pc' := 140) X76 hx rfl (hb hby at_138) rfl ?_
      refine og_iconst (pc' := 141) (v := (3 : Int32)) X76 hx rfl (hb hby at_140) rfl ?_
      refine og_static (pc' := 144) (cells' := 1) (slots' := 6) (W := 0) X76 hx hZ (rm_cl l Z a0 hw nb11 3 q 3 (by decide) h70 n0 O) hown (ow8 hw) (ow9 hw) (ow3 hw) (ow10 hw) (by decide) (by rw [hml]; rfl) e76 opd_16 [(.ref nb11), (.int (3 : Int32)), (.int q), (.int (3 : Int32))] [] rfl rfl rfl rfl (by decide) (by decide) rfl rfl (by decide) (by decide) (hb hby at_141) rfl (fun v77 T77 h77 L77 X77 e77 z77 => ?_)
      obtain ⟨rfl, Nq77, hq77⟩ := z77; replace e77 := e77.trans hq77; have N := Fr.app N Nq77
      show OG p e below _ (T77.setTop (mkF m 144 #[.val (.long p1), .second, .val (.int p2), .val (.int p3), .val (.ref nb11), .val (.int (3 : Int32)), .val (.int q), .unset] [(.int (0 : Int32))]))
      refine og_if_eq (pc1 := 151) (pc2 := 147) X77 hx (hb hby at_144) (by decide) (by decide) rfl (fun _ => ?_) (fun q => absurd q (by decide))
      refine og_aload (pc' := 153) X77 hx rfl rfl (hb hby at_151) rfl ?_
      refine og_iload (pc' := 155) X77 hx rfl (hb hby at_153) rfl ?_
      refine og_iload (pc' := 157) X77 hx rfl (hb hby at_155) rfl ?_
      refine og_iconst (pc' := 158) (v := (4 : Int32)) X77 hx rfl (hb hby at_157) rfl ?_
      by_cases hP4 : c4 = q ∧ own_cnt [] % 2 = 0
      ·
        refine og_static (pc' := 161) (cells' := 1) (slots' := 6) (W := 0) X77 hx hZ (rm_cl34 l Z a0 hw nb11 kA11 c0 c1 c2 q c4 c5 q 1 (if_pos hP4).symm h70 n0 O V_nb11) hown (ow8 hw) (ow9 hw) (ow3 hw) (ow10 hw) (by decide) (by rw [hml]; rfl) e77 opd_16 [(.ref nb11), (.int (3 : Int32)), (.int q), (.int (4 : Int32))] [] rfl rfl rfl rfl (by decide) (by decide) rfl rfl (by decide) (by decide) (hb hby at_158) rfl (fun v78 T78 h78 L78 X78 e78 z78 => ?_)
        obtain ⟨rfl, Nq78, hq78⟩ := z78; replace e78 := e78.trans hq78; have N := Fr.app N Nq78
        show OG p e below _ (T78.setTop (mkF m 161 #[.val (.long p1), .second, .val (.int p2), .val (.int p3), .val (.ref nb11), .val (.int (3 : Int32)), .val (.int q), .unset] [(.int (1 : Int32))]))
        refine og_if_eq (pc1 := 168) (pc2 := 164) X78 hx (hb hby at_161) (by decide) (by decide) rfl (fun q => absurd q (by decide)) (fun _ => ?_)
        refine og_iconst (pc' := 165) (v := (4 : Int32)) X78 hx rfl (hb hby at_164) rfl ?_
        refine og_goto (pc' := 186) X78 hx (hb hby at_165) (by decide) (by decide) ?_
        refine og_istore (pc' := 188) (L' := #[.val (.long p1), .second, .val (.int p2), .val (.int p3), .val (.ref nb11), .val (.int (3 : Int32)), .val (.int q), .val (.int (4 : Int32))]) X78 hx rfl (hb hby at_186) rfl ?_
        exact J188 T78 _ X78 e78 N _ (by simp [own_exp, hP4])
      ·
        refine og_static (pc' := 161) (cells' := 1) (slots' := 6) (W := 0) X77 hx hZ (rm_cl34 l Z a0 hw nb11 kA11 c0 c1 c2 q c4 c5 q 0 (if_neg hP4).symm h70 n0 O V_nb11) hown (ow8 hw) (ow9 hw) (ow3 hw) (ow10 hw) (by decide) (by rw [hml]; rfl) e77 opd_16 [(.ref nb11), (.int (3 : Int32)), (.int q), (.int (4 : Int32))] [] rfl rfl rfl rfl (by decide) (by decide) rfl rfl (by decide) (by decide) (hb hby at_158) rfl (fun v79 T79 h79 L79 X79 e79 z79 => ?_)
        obtain ⟨rfl, Nq79, hq79⟩ := z79; replace e79 := e79.trans hq79; have N := Fr.app N Nq79
        show OG p e below _ (T79.setTop (mkF m 161 #[.val (.long p1), .second, .val (.int p2), .val (.int p3), .val (.ref nb11), .val (.int (3 : Int32)), .val (.int q), .unset] [(.int (0 : Int32))]))
        refine og_if_eq (pc1 := 168) (pc2 := 164) X79 hx (hb hby at_161) (by decide) (by decide) rfl (fun _ => ?_) (fun q => absurd q (by decide))
        refine og_aload (pc' := 170) X79 hx rfl rfl (hb hby at_168) rfl ?_
        refine og_iload (pc' := 172) X79 hx rfl (hb hby at_170) rfl ?_
        refine og_iload (pc' := 174) X79 hx rfl (hb hby at_172) rfl ?_
        refine og_iconst (pc' := 175) (v := (5 : Int32)) X79 hx rfl (hb hby at_174) rfl ?_
        by_cases hP5 : c5 = q ∧ own_cnt [c4] % 2 = 0
        ·
          refine og_static (pc' := 178) (cells' := 1) (slots' := 6) (W := 0) X79 hx hZ (rm_cl35 l Z a0 hw nb11 kA11 c0 c1 c2 q c4 c5 q 1 (if_pos hP5).symm h70 n0 O V_nb11) hown (ow8 hw) (ow9 hw) (ow3 hw) (ow10 hw) (by decide) (by rw [hml]; rfl) e79 opd_16 [(.ref nb11), (.int (3 : Int32)), (.int q), (.int (5 : Int32))] [] rfl rfl rfl rfl (by decide) (by decide) rfl rfl (by decide) (by decide) (hb hby at_175) rfl (fun v80 T80 h80 L80 X80 e80 z80 => ?_)
          obtain ⟨rfl, Nq80, hq80⟩ := z80; replace e80 := e80.trans hq80; have N := Fr.app N Nq80
          show OG p e below _ (T80.setTop (mkF m 178 #[.val (.long p1), .second, .val (.int p2), .val (.int p3), .val (.ref nb11), .val (.int (3 : Int32)), .val (.int q), .unset] [(.int (1 : Int32))]))
          refine og_if_eq (pc1 := 185) (pc2 := 181) X80 hx (hb hby at_178) (by decide) (by decide) rfl (fun q => absurd q (by decide)) (fun _ => ?_)
          refine og_iconst (pc' := 182) (v := (5 : Int32)) X80 hx rfl (hb hby at_181) rfl ?_
          refine og_goto (pc' := 186) X80 hx (hb hby at_182) (by decide) (by decide) ?_
          refine og_istore (pc' := 188) (L' := #[.val (.long p1), .second, .val (.int p2), .val (.int p3), .val (.ref nb11), .val (.int (3 : Int32)), .val (.int q), .val (.int (5 : Int32))]) X80 hx rfl (hb hby at_186) rfl ?_
          exact J188 T80 _ X80 e80 N _ (by simp [own_exp, hP4, hP5])
        ·
          refine og_static (pc' := 178) (cells' := 1) (slots' := 6) (W := 0) X79 hx hZ (rm_cl35 l Z a0 hw nb11 kA11 c0 c1 c2 q c4 c5 q 0 (if_neg hP5).symm h70 n0 O V_nb11) hown (ow8 hw) (ow9 hw) (ow3 hw) (ow10 hw) (by decide) (by rw [hml]; rfl) e79 opd_16 [(.ref nb11), (.int (3 : Int32)), (.int q), (.int (5 : Int32))] [] rfl rfl rfl rfl (by decide) (by decide) rfl rfl (by decide) (by decide) (hb hby at_175) rfl (fun v81 T81 h81 L81 X81 e81 z81 => ?_)
          obtain ⟨rfl, Nq81, hq81⟩ := z81; replace e81 := e81.trans hq81; have N := Fr.app N Nq81
          show OG p e below _ (T81.setTop (mkF m 178 #[.val (.long p1), .second, .val (.int p2), .val (.int p3), .val (.ref nb11), .val (.int (3 : Int32)), .val (.int q), .unset] [(.int (0 : Int32))]))
          refine og_if_eq (pc1 := 185) (pc2 := 181) X81 hx (hb hby at_178) (by decide) (by decide) rfl (fun _ => ?_) (fun q => absurd q (by decide))
          refine og_iconst (pc' := 186) (v := (-1 : Int32)) X81 hx rfl (hb hby at_185) rfl ?_
          refine og_istore (pc' := 188) (L' := #[.val (.long p1), .second, .val (.int p2), .val (.int p3), .val (.ref nb11), .val (.int (3 : Int32)), .val (.int q), .val (.int (-1 : Int32))]) X81 hx rfl (hb hby at_186) rfl ?_
          exact J188 T81 _ X81 e81 N _ (by simp [own_exp, hP4, hP5])
    refine og_if_ne (pc1 := 89) (pc2 := 84) X23 hx (hb hby at_81) (by decide) (by decide) rfl (fun hc81 => ?_) (fun hc81 => ?_)
    · -- pc 89
      refine og_bipush (pc' := 91) (v := (34 : Int32)) X23 hx rfl (hb hby at_89) rfl ?_
      exact J91 T23 _ X23 e23 N _ w3 w4 (Or.inr ⟨rfl, rfl, rfl⟩)
    · -- pc 84
      refine og_bipush (pc' := 86) (v := (39 : Int32)) X23 hx rfl (hb hby at_84) rfl ?_
      refine og_goto (pc' := 91) X23 hx (hb hby at_86) (by decide) (by decide) ?_
      exact J91 T23 _ X23 e23 N _ w1 w2 (Or.inl ⟨rfl, rfl, rfl⟩)
  · -- ii = 4
    refine og_iloadN (pc' := 79) X23 hx rfl (hb hby at_78) rfl ?_
    refine og_iconst (pc' := 80) (v := (1 : Int32)) X23 hx rfl (hb hby at_79) rfl ?_
    refine og_iand (pc' := 81) X23 hx (hb hby at_80) rfl ?_
    have J91 : ∀ (T82 : State) (l82 : List Loc) (X82 : Stand p l e room_1 s m #[(.long p1), (.int p2), (.int p3)] below meth c T82 l82 1 6) (e82 : T82.heap = h23) (N : Fr n0 l82) (q : Int32) (wS wE : Addr) (hq : (q = 39 ∧ wS = w1 ∧ wE = w2) ∨ (q = 34 ∧ wS = w3 ∧ wE = w4)), OG p e below (OFin s (fun v h L => v = some (.int 1) ∧ Fr n0 L) 16 128) (T82.setTop (mkF m 91 #[.val (.long p1), .second, .val (.int p2), .val (.int p3), .val (.ref nb11), .val (.int (4 : Int32)), .unset, .unset] [(.int q)])) := by
      intro T82 l82 X82 e82 N q wS wE hq
      have hqb := own_qb hq
      have E_wS : Exa Z Z.heap wS "com/example/nitpick/nitpick/internal/interpolation/ExpressionLiterals$Quoting" := by rcases hq with ⟨-, rfl, -⟩ | ⟨-, rfl, -⟩ <;> assumption
      have E_wE : Exa Z Z.heap wE "com/example/nitpick/nitpick/internal/interpolation/ExpressionLiterals$Quoting" := by rcases hq with ⟨-, -, rfl⟩ | ⟨-, -, rfl⟩ <;> assumption
      have ne_wS_w0 : wS ≠ w0 := by rcases hq with ⟨-, rfl, -⟩ | ⟨-, rfl, -⟩ <;> assumption
      have ne_wE_w0 : wE ≠ w0 := by rcases hq with ⟨-, -, rfl⟩ | ⟨-, -, rfl⟩ <;> assumption
      refine og_istore (pc' := 93) (L' := #[.val (.long p1), .second, .val (.int p2), .val (.int p3), .val (.ref nb11), .val (.int (4 : Int32)), .val (.int q), .unset]) X82 hx rfl (hb hby at_91) rfl ?_
      refine og_aload (pc' := 95) X82 hx rfl rfl (hb hby at_93) rfl ?_
      refine og_iload (pc' := 97) X82 hx rfl (hb hby at_95) rfl ?_
      refine og_iload (pc' := 99) X82 hx rfl (hb hby at_97) rfl ?_
      refine og_castore (pc' := 100) X82 hx hZ e82 V_nb11 ⟨by decide, by decide⟩ 4 (by decide) (Nat.le_of_ble_eq_true rfl) (hb hby at_99) rfl (fun T83 h83 X83 e83 W83 V83 => ?_)
      have O := O.wr W83 g_nb11; have K := K.wr W83 (Or.inr sz_nb11)
      have N := Fr.snoc X83 N g_nb11
      have V_nb11 : Arv Z h83 nb11 kA11 .char (6 : Int32) [(.int c0), (.int c1), (.int c2), (.int c3), (.int (nar .char q)), (.int c5)] (.int (0 : Int32)) := V83
      rw [own_nc hqb] at V_nb11
      have J188 : ∀ (T84 : State) (l84 : List Loc) (X84 : Stand p l e room_1 s m #[(.long p1), (.int p2), (.int p3)] below meth c T84 l84 1 6) (e84 : T84.heap = h83) (N : Fr n0 l84) (ans : Int32) (hans : ans = own_exp q [] [c5] 5), OG p e below (OFin s (fun v h L => v = some (.int 1) ∧ Fr n0 L) 16 128) (T84.setTop (mkF m 188 #[.val (.long p1), .second, .val (.int p2), .val (.int p3), .val (.ref nb11), .val (.int (4 : Int32)), .val (.int q), .val (.int ans)] [])) := by
        intro T84 l84 X84 e84 N ans hans
        refine og_new (pc' := 191) (cells' := 2) (slots' := 10) X84 hx hZ hown (ow11 hw) (ow12 hw) (ow13 hw) e84 (hb hby at_188) rfl rfl rfl (by decide) (by decide) (fun T85 h85 nb85 X85 e85 E85 q85 E_nb85 D85 B85 => ?_)
        have s_nb85 : h83.size ≤ nb85 := Nat.le_of_eq q85.symm; have g_nb85 : n0 ≤ nb85 := Nat.le_trans (own_n0 O) s_nb85; have sz_nb85 : h0.size ≤ nb85 := Nat.le_trans K.1 s_nb85; have ne_w0_nb85 : w0 ≠ nb85 := O.ne E_w0.lt g_nb85; have ne_w1_nb85 : w1 ≠ nb85 := O.ne E_w1.lt g_nb85; have ne_w2_nb85 : w2 ≠ nb85 := O.ne E_w2.lt g_nb85
        have ne_w3_nb85 : w3 ≠ nb85 := O.ne E_w3.lt g_nb85; have ne_w4_nb85 : w4 ≠ nb85 := O.ne E_w4.lt g_nb85; have ne_wS_nb85 : wS ≠ nb85 := O.ne E_wS.lt g_nb85; have ne_wE_nb85 : wE ≠ nb85 := O.ne E_wE.lt g_nb85; have ne_nb11_nb85 : nb11 ≠ nb85 := Nat.ne_of_lt (Nat.lt_of_lt_of_le V_nb11.lt s_nb85)
        have V_nb11 := V_nb11.ext E85; have O := O.ext E85; have K := K.ext E85
        have F_coder_nb85 : Fld Z h85 nb85 "java/lang/String" "coder" "B" (.int (0 : Int32)) := D85 (Or.inr (ow37 hw)) (ty := .byte) (by decide)
        have F_value_nb85 : Fld Z h85 nb85 "java/lang/String" "value" "[B" .null := D85 (Or.inr (ow39 hw)) (ty := (.array .byte)) (by decide)
        refine og_dup (pc' := 192) X85 hx rfl (hb hby at_191) rfl ?_
        refine og_aload (pc' := 194) X85 hx rfl rfl (hb hby at_192) rfl ?_
        refine og_special (pc' := 197) (cells' := 3) (slots' := 16) (W := 1) X85 hx hZ (rm_sn_6 l Z a0 hw nb85 nb11 kA11 c0 c1 c2 c3 q c5 (own_le255 hc0) (own_le255 hc1) (own_le255 hc2) (own_le255 hc3) (own_le255 hqb) (own_le255 hc5) cs hcs h85 n0 O E_nb85 F_value_nb85 F_coder_nb85 V_nb11 S_CS g_nb85 ne_nb11_nb85) rfl hown (ow14 hw) (ow15 hw) (ow13 hw) (ow16 hw) (by decide) (by rw [hml]; rfl) e85 opd_14 [(.ref nb11)] [(.ref nb85)] rfl rfl rfl rfl (by decide) (by decide) rfl rfl (by decide) (by decide) (hb hby at_194) rfl (fun v86 T86 h86 L86 X86 e86 z86 => ?_)
        obtain ⟨nb86, k86, rfl, Nq86, K86, sb86, E_nb85', F_value_nb85', F_coder_nb85', V_nb86⟩ := z86; have N := Fr.app N Nq86
        have s_nb86 : h85.size ≤ nb86 := sb86; have g_nb86 : n0 ≤ nb86 := Nat.le_trans (own_n0 O) s_nb86; have sz_nb86 : h0.size ≤ nb86 := Nat.le_trans K.1 s_nb86; have ne_w0_nb86 : w0 ≠ nb86 := O.ne E_w0.lt g_nb86; have ne_w1_nb86 : w1 ≠ nb86 := O.ne E_w1.lt g_nb86; have ne_w2_nb86 : w2 ≠ nb86 := O.ne E_w2.lt g_nb86
        have ne_w3_nb86 : w3 ≠ nb86 := O.ne E_w3.lt g_nb86; have ne_w4_nb86 : w4 ≠ nb86 := O.ne E_w4.lt g_nb86; have ne_wS_nb86 : wS ≠ nb86 := O.ne E_wS.lt g_nb86; have ne_wE_nb86 : wE ≠ nb86 := O.ne E_wE.lt g_nb86; have ne_nb11_nb86 : nb11 ≠ nb86 := Nat.ne_of_lt (Nat.lt_of_lt_of_le V_nb11.lt s_nb86); have ne_nb85_nb86 : nb85 ≠ nb86 := Nat.ne_of_lt (Nat.lt_of_lt_of_le E_nb85.lt s_nb86)
        have V_nb11 := V_nb11.keep K86 (ninS ne_nb11_nb85 nin0); have E_nb85 := E_nb85.keep K86; have O := O.keep K86 (allS g_nb85 all0); have K := K.trans K86 (allS (Or.inr sz_nb85) all0)
        have E_nb85 := E_nb85'; have F_value_nb85 := F_value_nb85'; have F_coder_nb85 := F_coder_nb85'
        show OG p e below _ (T86.setTop (mkF m 197 #[.val (.long p1), .second, .val (.int p2), .val (.int p3), .val (.ref nb11), .val (.int (4 : Int32)), .val (.int q), .val (.int ans)] [(.ref nb85)]))
        refine og_iload (pc' := 199) X86 hx rfl (hb hby at_197) rfl ?_
        refine og_static (pc' := 202) (cells' := 3) (slots' := 16) (W := 0) X86 hx hZ (rm_se4 l Z a0 hw nb85 nb86 k86 c0 c1 c2 c3 q c5 hc0 hc1 hc2 hc3 hqb hc5 cs hcs fm hfm w0 w1 w2 w3 w4 wS wE hq _ rfl h86 n0 O E_nb85 F_value_nb85 F_coder_nb85 V_nb86 S_CS S_FM S_CODE S_SINGLE S_SINGLE_ESCAPED S_DOUBLE S_DOUBLE_ESCAPED E_w0 E_w1 E_w2 E_w3 E_w4 F_w0 F_w1 F_w2 F_w3 F_w4 E_wS E_wE ne_wS_w0 ne_wE_w0) hown (ow40 hw) (ow41 hw) (ow42 hw) (ow43 hw) (by decide) (by rw [hml]; rfl) e86 opd_15 [(.ref nb85), (.int (4 : Int32))] [] rfl rfl rfl rfl (by decide) (by decide) rfl rfl (by decide) (by decide) (hb hby at_199) rfl (fun v87 T87 h87 L87 X87 e87 z87 => ?_)
        obtain ⟨rfl, Nq87, hq87⟩ := z87; replace e87 := e87.trans hq87; have N := Fr.app N Nq87
        show OG p e below _ (T87.setTop (mkF m 202 #[.val (.long p1), .second, .val (.int p2), .val (.int p3), .val (.ref nb11), .val (.int (4 : Int32)), .val (.int q), .val (.int ans)] [(.int (own_end q false [c5] 5))]))
        refine og_iload (pc' := 204) X87 hx rfl (hb hby at_202) rfl ?_
        refine og_icmp_ne (pc1 := 211) (pc2 := 207) X87 hx (hb hby at_204) (by decide) (by decide) rfl (fun q => absurd ((own_law (own_q92 hq) _ [] false _ (by simp [own_cnt])).trans hans.symm) q) (fun _ => ?_)
        refine og_iconst (pc' := 208) (v := (1 : Int32)) X87 hx rfl (hb hby at_207) rfl ?_
        refine og_goto (pc' := 212) X87 hx (hb hby at_208) (by decide) (by decide) ?_
        refine og_retN X87 hx hlk hret (by simp) (hb hby at_212) (by decide) (by decide) ?_
        exact ⟨rfl, N⟩
      refine og_aload (pc' := 102) X83 hx rfl rfl (hb hby at_100) rfl ?_
      refine og_iload (pc' := 104) X83 hx rfl (hb hby at_102) rfl ?_
      refine og_iload (pc' := 106) X83 hx rfl (hb hby at_104) rfl ?_
      refine og_iconst (pc' := 107) (v := (1 : Int32)) X83 hx rfl (hb hby at_106) rfl ?_
      refine og_static (pc' := 110) (cells' := 1) (slots' := 6) (W := 0) X83 hx hZ (rm_cl l Z a0 hw nb11 4 q 1 (by decide) h83 n0 O) hown (ow8 hw) (ow9 hw) (ow3 hw) (ow10 hw) (by decide) (by rw [hml]; rfl) e83 opd_16 [(.ref nb11), (.int (4 : Int32)), (.int q), (.int (1 : Int32))] [] rfl rfl rfl rfl (by decide) (by decide) rfl rfl (by decide) (by decide) (hb hby at_107) rfl (fun v88 T88 h88 L88 X88 e88 z88 => ?_)
      obtain ⟨rfl, Nq88, hq88⟩ := z88; replace e88 := e88.trans hq88; have N := Fr.app N Nq88
      show OG p e below _ (T88.setTop (mkF m 110 #[.val (.long p1), .second, .val (.int p2), .val (.int p3), .val (.ref nb11), .val (.int (4 : Int32)), .val (.int q), .unset] [(.int (0 : Int32))]))
      refine og_if_eq (pc1 := 117) (pc2 := 113) X88 hx (hb hby at_110) (by decide) (by decide) rfl (fun _ => ?_) (fun q => absurd q (by decide))
      refine og_aload (pc' := 119) X88 hx rfl rfl (hb hby at_117) rfl ?_
      refine og_iload (pc' := 121) X88 hx rfl (hb hby at_119) rfl ?_
      refine og_iload (pc' := 123) X88 hx rfl (hb hby at_121) rfl ?_
      refine og_iconst (pc' := 124) (v := (2 : Int32)) X88 hx rfl (hb hby at_123) rfl ?_
      refine og_static (pc' := 127) (cells' := 1) (slots' := 6) (W := 0) X88 hx hZ (rm_cl l Z a0 hw nb11 4 q 2 (by decide) h83 n0 O) hown (ow8 hw) (ow9 hw) (ow3 hw) (ow10 hw) (by decide) (by rw [hml]; rfl) e88 opd_16 [(.ref nb11), (.int (4 : Int32)), (.int q), (.int (2 : Int32))] [] rfl rfl rfl rfl (by decide) (by decide) rfl rfl (by decide) (by decide) (hb hby at_124) rfl (fun v89 T89 h89 L89 X89 e89 z89 => ?_)
      obtain ⟨rfl, Nq89, hq89⟩ := z89; replace e89 := e89.trans hq89; have N := Fr.app N Nq89
      show OG p e below _ (T89.setTop (mkF m 127 #[.val (.long p1), .second, .val (.int p2), .val (.int p3), .val (.ref nb11), .val (.int (4 : Int32)), .val (.int q), .unset] [(.int (0 : Int32))]))
      refine og_if_eq (pc1 := 134) (pc2 := 130) X89 hx (hb hby at_127) (by decide) (by decide) rfl (fun _ => ?_) (fun q => absurd q (by decide))
      refine og_aload (pc' := 136) X89 hx rfl rfl (hb hby at_134) rfl ?_
      refine og_iload (pc' := 138) X89 hx rfl (hb hby at_136) rfl ?_
      refine og_iload (pc' := 140) X89 hx rfl (hb hby at_138) rfl ?_
      refine og_iconst (pc' := 141) (v := (3 : Int32)) X89 hx rfl (hb hby at_140) rfl ?_
      refine og_static (pc' := 144) (cells' := 1) (slots' := 6) (W := 0) X89 hx hZ (rm_cl l Z a0 hw nb11 4 q 3 (by decide) h83 n0 O) hown (ow8 hw) (ow9 hw) (ow3 hw) (ow10 hw) (by decide) (by rw [hml]; rfl) e89 opd_16 [(.ref nb11), (.int (4 : Int32)), (.int q), (.int (3 : Int32))] [] rfl rfl rfl rfl (by decide) (by decide) rfl rfl (by decide) (by decide) (hb hby at_141) rfl (fun v90 T90 h90 L90 X90 e90 z90 => ?_)
      obtain ⟨rfl, Nq90, hq90⟩ := z90; replace e90 := e90.trans hq90; have N := Fr.app N Nq90
      show OG p e below _ (T90.setTop (mkF m 144 #[.val (.long p1), .second, .val (.int p2), .val (.int p3), .val (.ref nb11), .val (.int (4 : Int32)), .val (.int q), .unset] [(.int (0 : Int32))]))
      refine og_if_eq (pc1 := 151) (pc2 := 147) X90 hx (hb hby at_144) (by decide) (by decide) rfl (fun _ => ?_) (fun q => absurd q (by decide))
      refine og_aload (pc' := 153) X90 hx rfl rfl (hb hby at_151) rfl ?_
      refine og_iload (pc' := 155) X90 hx rfl (hb hby at_153) rfl ?_
      refine og_iload (pc' := 157) X90 hx rfl (hb hby at_155) rfl ?_
      refine og_iconst (pc' := 158) (v := (4 : Int32)) X90 hx rfl (hb hby at_157) rfl ?_
      refine og_static (pc' := 161) (cells' := 1) (slots' := 6) (W := 0) X90 hx hZ (rm_cl l Z a0 hw nb11 4 q 4 (by decide) h83 n0 O) hown (ow8 hw) (ow9 hw) (ow3 hw) (ow10 hw) (by decide) (by rw [hml]; rfl) e90 opd_16 [(.ref nb11), (.int (4 : Int32)), (.int q), (.int (4 : Int32))] [] rfl rfl rfl rfl (by decide) (by decide) rfl rfl (by decide) (by decide) (hb hby at_158) rfl (fun v91 T91 h91 L91 X91 e91 z91 => ?_)
      obtain ⟨rfl, Nq91, hq91⟩ := z91; replace e91 := e91.trans hq91; have N := Fr.app N Nq91
      show OG p e below _ (T91.setTop (mkF m 161 #[.val (.long p1), .second, .val (.int p2), .val (.int p3), .val (.ref nb11), .val (.int (4 : Int32)), .val (.int q), .unset] [(.int (0 : Int32))]))
      refine og_if_eq (pc1 := 168) (pc2 := 164) X91 hx (hb hby at_161) (by decide) (by decide) rfl (fun _ => ?_) (fun q => absurd q (by decide))
      refine og_aload (pc' := 170) X91 hx rfl rfl (hb hby at_168) rfl ?_
      refine og_iload (pc' := 172) X91 hx rfl (hb hby at_170) rfl ?_
      refine og_iload (pc' := 174) X91 hx rfl (hb hby at_172) rfl ?_
      refine og_iconst (pc' := 175) (v := (5 : Int32)) X91 hx rfl (hb hby at_174) rfl ?_
      by_cases hP5 : c5 = q ∧ own_cnt [] % 2 = 0
      ·
        refine og_static (pc' := 178) (cells' := 1) (slots' := 6) (W := 0) X91 hx hZ (rm_cl45 l Z a0 hw nb11 kA11 c0 c1 c2 c3 q c5 q 1 (if_pos hP5).symm h83 n0 O V_nb11) hown (ow8 hw) (ow9 hw) (ow3 hw) (ow10 hw) (by decide) (by rw [hml]; rfl) e91 opd_16 [(.ref nb11), (.int (4 : Int32)), (.int q), (.int (5 : Int32))] [] rfl rfl rfl rfl (by decide) (by decide) rfl rfl (by decide) (by decide) (hb hby at_175) rfl (fun v92 T92 h92 L92 X92 e92 z92 => ?_)
        obtain ⟨rfl, Nq92, hq92⟩ := z92; replace e92 := e92.trans hq92; have N := Fr.app N Nq92
        show OG p e below _ (T92.setTop (mkF m 178 #[.val (.long p1), .second, .val (.int p2), .val (.int p3), .val (.ref nb11), .val (.int (4 : Int32)), .val (.int q), .unset] [(.int (1 : Int32))]))
        refine og_if_eq (pc1 := 185) (pc2 := 181) X92 hx (hb hby at_178) (by decide) (by decide) rfl (fun q => absurd q (by decide)) (fun _ => ?_)
        refine og_iconst (pc' := 182) (v := (5 : Int32)) X92 hx rfl (hb hby at_181) rfl ?_
        refine og_goto (pc' := 186) X92 hx (hb hby at_182) (by decide) (by decide) ?_
        refine og_istore (pc' := 188) (L' := #[.val (.long p1), .second, .val (.int p2), .val (.int p3), .val (.ref nb11), .val (.int (4 : Int32)), .val (.int q), .val (.int (5 : Int32))]) X92 hx rfl (hb hby at_186) rfl ?_
        exact J188 T92 _ X92 e92 N _ (by simp [own_exp, hP5])
      ·
        refine og_static (pc' := 178) (cells' := 1) (slots' := 6) (W := 0) X91 hx hZ (rm_cl45 l Z a0 hw nb11 kA11 c0 c1 c2 c3 q c5 q 0 (if_neg hP5).symm h83 n0 O V_nb11) hown (ow8 hw) (ow9 hw) (ow3 hw) (ow10 hw) (by decide) (by rw [hml]; rfl) e91 opd_16 [(.ref nb11), (.int (4 : Int32)), (.int q), (.int (5 : Int32))] [] rfl rfl rfl rfl (by decide) (by decide) rfl rfl (by decide) (by decide) (hb hby at_175) rfl (fun v93 T93 h93 L93 X93 e93 z93 => ?_)
        obtain ⟨rfl, Nq93, hq93⟩ := z93; replace e93 := e93.trans hq93; have N := Fr.app N Nq93
        show OG p e below _ (T93.setTop (mkF m 178 #[.val (.long p1), .second, .val (.int p2), .val (.int p3), .val (.ref nb11), .val (.int (4 : Int32)), .val (.int q), .unset] [(.int (0 : Int32))]))
        refine og_if_eq (pc1 := 185) (pc2 := 181) X93 hx (hb hby at_178) (by decide) (by decide) rfl (fun _ => ?_) (fun q => absurd q (by decide))
        refine og_iconst (pc' := 186) (v := (-1 : Int32)) X93 hx rfl (hb hby at_185) rfl ?_
        refine og_istore (pc' := 188) (L' := #[.val (.long p1), .second, .val (.int p2), .val (.int p3), .val (.ref nb11), .val (.int (4 : Int32)), .val (.int q), .val (.int (-1 : Int32))]) X93 hx rfl (hb hby at_186) rfl ?_
        exact J188 T93 _ X93 e93 N _ (by simp [own_exp, hP5])
    refine og_if_ne (pc1 := 89) (pc2 := 84) X23 hx (hb hby at_81) (by decide) (by decide) rfl (fun hc81 => ?_) (fun hc81 => ?_)
    · -- pc 89
      refine og_bipush (pc' := 91) (v := (34 : Int32)) X23 hx rfl (hb hby at_89) rfl ?_
      exact J91 T23 _ X23 e23 N _ w3 w4 (Or.inr ⟨rfl, rfl, rfl⟩)
    · -- pc 84
      refine og_bipush (pc' := 86) (v := (39 : Int32)) X23 hx rfl (hb hby at_84) rfl ?_
      refine og_goto (pc' := 91) X23 hx (hb hby at_86) (by decide) (by decide) ?_
      exact J91 T23 _ X23 e23 N _ w1 w2 (Or.inl ⟨rfl, rfl, rfl⟩)
  · -- ii = 5
    refine og_iloadN (pc' := 79) X23 hx rfl (hb hby at_78) rfl ?_
    refine og_iconst (pc' := 80) (v := (1 : Int32)) X23 hx rfl (hb hby at_79) rfl ?_
    refine og_iand (pc' := 81) X23 hx (hb hby at_80) rfl ?_
    have J91 : ∀ (T94 : State) (l94 : List Loc) (X94 : Stand p l e room_1 s m #[(.long p1), (.int p2), (.int p3)] below meth c T94 l94 1 6) (e94 : T94.heap = h23) (N : Fr n0 l94) (q : Int32) (wS wE : Addr) (hq : (q = 39 ∧ wS = w1 ∧ wE = w2) ∨ (q = 34 ∧ wS = w3 ∧ wE = w4)), OG p e below (OFin s (fun v h L => v = some (.int 1) ∧ Fr n0 L) 16 128) (T94.setTop (mkF m 91 #[.val (.long p1), .second, .val (.int p2), .val (.int p3), .val (.ref nb11), .val (.int (5 : Int32)), .unset, .unset] [(.int q)])) := by
      intro T94 l94 X94 e94 N q wS wE hq
      have hqb := own_qb hq
      have E_wS : Exa Z Z.heap wS "com/example/nitpick/nitpick/internal/interpolation/ExpressionLiterals$Quoting" := by rcases hq with ⟨-, rfl, -⟩ | ⟨-, rfl, -⟩ <;> assumption
      have E_wE : Exa Z Z.heap wE "com/example/nitpick/nitpick/internal/interpolation/ExpressionLiterals$Quoting" := by rcases hq with ⟨-, -, rfl⟩ | ⟨-, -, rfl⟩ <;> assumption
      have ne_wS_w0 : wS ≠ w0 := by rcases hq with ⟨-, rfl, -⟩ | ⟨-, rfl, -⟩ <;> assumption
      have ne_wE_w0 : wE ≠ w0 := by rcases hq with ⟨-, -, rfl⟩ | ⟨-, -, rfl⟩ <;> assumption
      refine og_istore (pc' := 93) (L' := #[.val (.long p1), .second, .val (.int p2), .val (.int p3), .val (.ref nb11), .val (.int (5 : Int32)), .val (.int q), .unset]) X94 hx rfl (hb hby at_91) rfl ?_
      refine og_aload (pc' := 95) X94 hx rfl rfl (hb hby at_93) rfl ?_
      refine og_iload (pc' := 97) X94 hx rfl (hb hby at_95) rfl ?_
      refine og_iload (pc' := 99) X94 hx rfl (hb hby at_97) rfl ?_
      refine og_castore (pc' := 100) X94 hx hZ e94 V_nb11 ⟨by decide, by decide⟩ 5 (by decide) (Nat.le_of_ble_eq_true rfl) (hb hby at_99) rfl (fun T95 h95 X95 e95 W95 V95 => ?_)
      have O := O.wr W95 g_nb11; have K := K.wr W95 (Or.inr sz_nb11)
      have N := Fr.snoc X95 N g_nb11
      have V_nb11 : Arv Z h95 nb11 kA11 .char (6 : Int32) [(.int c0), (.int c1), (.int c2), (.int c3), (.int c4), (.int (nar .char q))] (.int (0 : Int32)) := V95
      rw [own_nc hqb] at V_nb11
      have J188 : ∀ (T96 : State) (l96 : List Loc) (X96 : Stand p l e room_1 s m #[(.long p1), (.int p2), (.int p3)] below meth c T96 l96 1 6) (e96 : T96.heap = h95) (N : Fr n0 l96) (ans : Int32) (hans : ans = own_exp q [] [] 6), OG p e below (OFin s (fun v h L => v = some (.int 1) ∧ Fr n0 L) 16 128) (T96.setTop (mkF m 188 #[.val (.long p1), .second, .val (.int p2), .val (.int p3), .val (.ref nb11), .val (.int (5 : Int32)), .val (.int q), .val (.int ans)] [])) := by
        intro T96 l96 X96 e96 N ans hans
        refine og_new (pc' := 191) (cells' := 2) (slots' := 10) X96 hx hZ hown (ow11 hw) (ow12 hw) (ow13 hw) e96 (hb hby at_188) rfl rfl rfl (by decide) (by decide) (fun T97 h97 nb97 X97 e97 E97 q97 E_nb97 D97 B97 => ?_)
        have s_nb97 : h95.size ≤ nb97 := Nat.le_of_eq q97.symm; have g_nb97 : n0 ≤ nb97 := Nat.le_trans (own_n0 O) s_nb97; have sz_nb97 : h0.size ≤ nb97 := Nat.le_trans K.1 s_nb97; have ne_w0_nb97 : w0 ≠ nb97 := O.ne E_w0.lt g_nb97; have ne_w1_nb97 : w1 ≠ nb97 := O.ne E_w1.lt g_nb97; have ne_w2_nb97 : w2 ≠ nb97 := O.ne E_w2.lt g_nb97
        have ne_w3_nb97 : w3 ≠ nb97 := O.ne E_w3.lt g_nb97; have ne_w4_nb97 : w4 ≠ nb97 := O.ne E_w4.lt g_nb97; have ne_wS_nb97 : wS ≠ nb97 := O.ne E_wS.lt g_nb97; have ne_wE_nb97 : wE ≠ nb97 := O.ne E_wE.lt g_nb97; have ne_nb11_nb97 : nb11 ≠ nb97 := Nat.ne_of_lt (Nat.lt_of_lt_of_le V_nb11.lt s_nb97)
        have V_nb11 := V_nb11.ext E97; have O := O.ext E97; have K := K.ext E97
        have F_coder_nb97 : Fld Z h97 nb97 "java/lang/String" "coder" "B" (.int (0 : Int32)) := D97 (Or.inr (ow37 hw)) (ty := .byte) (by decide)
        have F_value_nb97 : Fld Z h97 nb97 "java/lang/String" "value" "[B" .null := D97 (Or.inr (ow39 hw)) (ty := (.array .byte)) (by decide)
        refine og_dup (pc' := 192) X97 hx rfl (hb hby at_191) rfl ?_
        refine og_aload (pc' := 194) X97 hx rfl rfl (hb hby at_192) rfl ?_
        refine og_special (pc' := 197) (cells' := 3) (slots' := 16) (W := 1) X97 hx hZ (rm_sn_6 l Z a0 hw nb97 nb11 kA11 c0 c1 c2 c3 c4 q (own_le255 hc0) (own_le255 hc1) (own_le255 hc2) (own_le255 hc3) (own_le255 hc4) (own_le255 hqb) cs hcs h97 n0 O E_nb97 F_value_nb97 F_coder_nb97 V_nb11 S_CS g_nb97 ne_nb11_nb97) rfl hown (ow14 hw) (ow15 hw) (ow13 hw) (ow16 hw) (by decide) (by rw [hml]; rfl) e97 opd_14 [(.ref nb11)] [(.ref nb97)] rfl rfl rfl rfl (by decide) (by decide) rfl rfl (by decide) (by decide) (hb hby at_194) rfl (fun v98 T98 h98 L98 X98 e98 z98 => ?_)
        obtain ⟨nb98, k98, rfl, Nq98, K98, sb98, E_nb97', F_value_nb97', F_coder_nb97', V_nb98⟩ := z98; have N := Fr.app N Nq98
        have s_nb98 : h97.size ≤ nb98 := sb98; have g_nb98 : n0 ≤ nb98 := Nat.le_trans (own_n0 O) s_nb98; have sz_nb98 : h0.size ≤ nb98 := Nat.le_trans K.1 s_nb98; have ne_w0_nb98 : w0 ≠ nb98 := O.ne E_w0.lt g_nb98; have ne_w1_nb98 : w1 ≠ nb98 := O.ne E_w1.lt g_nb98; have ne_w2_nb98 : w2 ≠ nb98 := O.ne E_w2.lt g_nb98
        have ne_w3_nb98 : w3 ≠ nb98 := O.ne E_w3.lt g_nb98; have ne_w4_nb98 : w4 ≠ nb98 := O.ne E_w4.lt g_nb98; have ne_wS_nb98 : wS ≠ nb98 := O.ne E_wS.lt g_nb98; have ne_wE_nb98 : wE ≠ nb98 := O.ne E_wE.lt g_nb98; have ne_nb11_nb98 : nb11 ≠ nb98 := Nat.ne_of_lt (Nat.lt_of_lt_of_le V_nb11.lt s_nb98); have ne_nb97_nb98 : nb97 ≠ nb98 := Nat.ne_of_lt (Nat.lt_of_lt_of_le E_nb97.lt s_nb98)
        have V_nb11 := V_nb11.keep K98 (ninS ne_nb11_nb97 nin0); have E_nb97 := E_nb97.keep K98; have O := O.keep K98 (allS g_nb97 all0); have K := K.trans K98 (allS (Or.inr sz_nb97) all0)
        have E_nb97 := E_nb97'; have F_value_nb97 := F_value_nb97'; have F_coder_nb97 := F_coder_nb97'
        show OG p e below _ (T98.setTop (mkF m 197 #[.val (.long p1), .second, .val (.int p2), .val (.int p3), .val (.ref nb11), .val (.int (5 : Int32)), .val (.int q), .val (.int ans)] [(.ref nb97)]))
        refine og_iload (pc' := 199) X98 hx rfl (hb hby at_197) rfl ?_
        refine og_static (pc' := 202) (cells' := 3) (slots' := 16) (W := 0) X98 hx hZ (rm_se5 l Z a0 hw nb97 nb98 k98 c0 c1 c2 c3 c4 q hc0 hc1 hc2 hc3 hc4 hqb cs hcs fm hfm w0 w1 w2 w3 w4 wS wE hq _ rfl h98 n0 O E_nb97 F_value_nb97 F_coder_nb97 V_nb98 S_CS S_FM S_CODE S_SINGLE S_SINGLE_ESCAPED S_DOUBLE S_DOUBLE_ESCAPED E_w0 E_w1 E_w2 E_w3 E_w4 F_w0 F_w1 F_w2 F_w3 F_w4 E_wS E_wE ne_wS_w0 ne_wE_w0) hown (ow40 hw) (ow41 hw) (ow42 hw) (ow43 hw) (by decide) (by rw [hml]; rfl) e98 opd_15 [(.ref nb97), (.int (5 : Int32))] [] rfl rfl rfl rfl (by decide) (by decide) rfl rfl (by decide) (by decide) (hb hby at_199) rfl (fun v99 T99 h99 L99 X99 e99 z99 => ?_)
        obtain ⟨rfl, Nq99, hq99⟩ := z99; replace e99 := e99.trans hq99; have N := Fr.app N Nq99
        show OG p e below _ (T99.setTop (mkF m 202 #[.val (.long p1), .second, .val (.int p2), .val (.int p3), .val (.ref nb11), .val (.int (5 : Int32)), .val (.int q), .val (.int ans)] [(.int (own_end q false [] 6))]))
        refine og_iload (pc' := 204) X99 hx rfl (hb hby at_202) rfl ?_
        refine og_icmp_ne (pc1 := 211) (pc2 := 207) X99 hx (hb hby at_204) (by decide) (by decide) rfl (fun q => absurd ((own_law (own_q92 hq) _ [] false _ (by simp [own_cnt])).trans hans.symm) q) (fun _ => ?_)
        refine og_iconst (pc' := 208) (v := (1 : Int32)) X99 hx rfl (hb hby at_207) rfl ?_
        refine og_goto (pc' := 212) X99 hx (hb hby at_208) (by decide) (by decide) ?_
        refine og_retN X99 hx hlk hret (by simp) (hb hby at_212) (by decide) (by decide) ?_
        exact ⟨rfl, N⟩
      refine og_aload (pc' := 102) X95 hx rfl rfl (hb hby at_100) rfl ?_
      refine og_iload (pc' := 104) X95 hx rfl (hb hby at_102) rfl ?_
      refine og_iload (pc' := 106) X95 hx rfl (hb hby at_104) rfl ?_
      refine og_iconst (pc' := 107) (v := (1 : Int32)) X95 hx rfl (hb hby at_106) rfl ?_
      refine og_static (pc' := 110) (cells' := 1) (slots' := 6) (W := 0) X95 hx hZ (rm_cl l Z a0 hw nb11 5 q 1 (by decide) h95 n0 O) hown (ow8 hw) (ow9 hw) (ow3 hw) (ow10 hw) (by decide) (by rw [hml]; rfl) e95 opd_16 [(.ref nb11), (.int (5 : Int32)), (.int q), (.int (1 : Int32))] [] rfl rfl rfl rfl (by decide) (by decide) rfl rfl (by decide) (by decide) (hb hby at_107) rfl (fun v100 T100 h100 L100 X100 e100 z100 => ?_)
      obtain ⟨rfl, Nq100, hq100⟩ := z100; replace e100 := e100.trans hq100; have N := Fr.app N Nq100
      show OG p e below _ (T100.setTop (mkF m 110 #[.val (.long p1), .second, .val (.int p2), .val (.int p3), .val (.ref nb11), .val (.int (5 : Int32)), .val (.int q), .unset] [(.int (0 : Int32))]))
      refine og_if_eq (pc1 := 117) (pc2 := 113) X100 hx (hb hby at_110) (by decide) (by decide) rfl (fun _ => ?_) (fun q => absurd q (by decide))
      refine og_aload (pc' := 119) X100 hx rfl rfl (hb hby at_117) rfl ?_
      refine og_iload (pc' := 121) X100 hx rfl (hb hby at_119) rfl ?_
      refine og_iload (pc' := 123) X100 hx rfl (hb hby at_121) rfl ?_
      refine og_iconst (pc' := 124) (v := (2 : Int32)) X100 hx rfl (hb hby at_123) rfl ?_
      refine og_static (pc' := 127) (cells' := 1) (slots' := 6) (W := 0) X100 hx hZ (rm_cl l Z a0 hw nb11 5 q 2 (by decide) h95 n0 O) hown (ow8 hw) (ow9 hw) (ow3 hw) (ow10 hw) (by decide) (by rw [hml]; rfl) e100 opd_16 [(.ref nb11), (.int (5 : Int32)), (.int q), (.int (2 : Int32))] [] rfl rfl rfl rfl (by decide) (by decide) rfl rfl (by decide) (by decide) (hb hby at_124) rfl (fun v101 T101 h101 L101 X101 e101 z101 => ?_)
      obtain ⟨rfl, Nq101, hq101⟩ := z101; replace e101 := e101.trans hq101; have N := Fr.app N Nq101
      show OG p e below _ (T101.setTop (mkF m 127 #[.val (.long p1), .second, .val (.int p2), .val (.int p3), .val (.ref nb11), .val (.int (5 : Int32)), .val (.int q), .unset] [(.int (0 : Int32))]))
      refine og_if_eq (pc1 := 134) (pc2 := 130) X101 hx (hb hby at_127) (by decide) (by decide) rfl (fun _ => ?_) (fun q => absurd q (by decide))
      refine og_aload (pc' := 136) X101 hx rfl rfl (hb hby at_134) rfl ?_
      refine og_iload (pc' := 138) X101 hx rfl (hb hby at_136) rfl ?_
      refine og_iload (pc' := 140) X101 hx rfl (hb hby at_138) rfl ?_
      refine og_iconst (pc' := 141) (v := (3 : Int32)) X101 hx rfl (hb hby at_140) rfl ?_
      refine og_static (pc' := 144) (cells' := 1) (slots' := 6) (W := 0) X101 hx hZ (rm_cl l Z a0 hw nb11 5 q 3 (by decide) h95 n0 O) hown (ow8 hw) (ow9 hw) (ow3 hw) (ow10 hw) (by decide) (by rw [hml]; rfl) e101 opd_16 [(.ref nb11), (.int (5 : Int32)), (.int q), (.int (3 : Int32))] [] rfl rfl rfl rfl (by decide) (by decide) rfl rfl (by decide) (by decide) (hb hby at_141) rfl (fun v102 T102 h102 L102 X102 e102 z102 => ?_)
      obtain ⟨rfl, Nq102, hq102⟩ := z102; replace e102 := e102.trans hq102; have N := Fr.app N Nq102
      show OG p e below _ (T102.setTop (mkF m 144 #[.val (.long p1), .second, .val (.int p2), .val (.int p3), .val (.ref nb11), .val (.int (5 : Int32)), .val (.int q), .unset] [(.int (0 : Int32))]))
      refine og_if_eq (pc1 := 151) (pc2 := 147) X102 hx (hb hby at_144) (by decide) (by decide) rfl (fun _ => ?_) (fun q => absurd q (by decide))
      refine og_aload (pc' := 153) X102 hx rfl rfl (hb hby at_151) rfl ?_
      refine og_iload (pc' := 155) X102 hx rfl (hb hby at_153) rfl ?_
      refine og_iload (pc' := 157) X102 hx rfl (hb hby at_155) rfl ?_
      refine og_iconst (pc' := 158) (v := (4 : Int32)) X102 hx rfl (hb hby at_157) rfl ?_
      refine og_static (pc' := 161) (cells' := 1) (slots' := 6) (W := 0) X102 hx hZ (rm_cl l Z a0 hw nb11 5 q 4 (by decide) h95 n0 O) hown (ow8 hw) (ow9 hw) (ow3 hw) (ow10 hw) (by decide) (by rw [hml]; rfl) e102 opd_16 [(.ref nb11), (.int (5 : Int32)), (.int q), (.int (4 : Int32))] [] rfl rfl rfl rfl (by decide) (by decide) rfl rfl (by decide) (by decide) (hb hby at_158) rfl (fun v103 T103 h103 L103 X103 e103 z103 => ?_)
      obtain ⟨rfl, Nq103, hq103⟩ := z103; replace e103 := e103.trans hq103; have N := Fr.app N Nq103
      show OG p e below _ (T103.setTop (mkF m 161 #[.val (.long p1), .second, .val (.int p2), .val (.int p3), .val (.ref nb11), .val (.int (5 : Int32)), .val (.int q), .unset] [(.int (0 : Int32))]))
      refine og_if_eq (pc1 := 168) (pc2 := 164) X103 hx (hb hby at_161) (by decide) (by decide) rfl (fun _ => ?_) (fun q => absurd q (by decide))
      refine og_aload (pc' := 170) X103 hx rfl rfl (hb hby at_168) rfl ?_
      refine og_iload (pc' := 172) X103 hx rfl (hb hby at_170) rfl ?_
      refine og_iload (pc' := 174) X103 hx rfl (hb hby at_172) rfl ?_
      refine og_iconst (pc' := 175) (v := (5 : Int32)) X103 hx rfl (hb hby at_174) rfl ?_
      refine og_static (pc' := 178) (cells' := 1) (slots' := 6) (W := 0) X103 hx hZ (rm_cl l Z a0 hw nb11 5 q 5 (by decide) h95 n0 O) hown (ow8 hw) (ow9 hw) (ow3 hw) (ow10 hw) (by decide) (by rw [hml]; rfl) e103 opd_16 [(.ref nb11), (.int (5 : Int32)), (.int q), (.int (5 : Int32))] [] rfl rfl rfl rfl (by decide) (by decide) rfl rfl (by decide) (by decide) (hb hby at_175) rfl (fun v104 T104 h104 L104 X104 e104 z104 => ?_)
      obtain ⟨rfl, Nq104, hq104⟩ := z104; replace e104 := e104.trans hq104; have N := Fr.app N Nq104
      show OG p e below _ (T104.setTop (mkF m 178 #[.val (.long p1), .second, .val (.int p2), .val (.int p3), .val (.ref nb11), .val (.int (5 : Int32)), .val (.int q), .unset] [(.int (0 : Int32))]))
      refine og_if_eq (pc1 := 185) (pc2 := 181) X104 hx (hb hby at_178) (by decide) (by decide) rfl (fun _ => ?_) (fun q => absurd q (by decide))
      refine og_iconst (pc' := 186) (v := (-1 : Int32)) X104 hx rfl (hb hby at_185) rfl ?_
      refine og_istore (pc' := 188) (L' := #[.val (.long p1), .second, .val (.int p2), .val (.int p3), .val (.ref nb11), .val (.int (5 : Int32)), .val (.int q), .val (.int (-1 : Int32))]) X104 hx rfl (hb hby at_186) rfl ?_
      exact J188 T104 _ X104 e104 N _ (by simp [own_exp])
    refine og_if_ne (pc1 := 89) (pc2 := 84) X23 hx (hb hby at_81) (by decide) (by decide) rfl (fun hc81 => ?_) (fun hc81 => ?_)
    · -- pc 89
      refine og_bipush (pc' := 91) (v := (34 : Int32)) X23 hx rfl (hb hby at_89) rfl ?_
      exact J91 T23 _ X23 e23 N _ w3 w4 (Or.inr ⟨rfl, rfl, rfl⟩)
    · -- pc 84
      refine og_bipush (pc' := 86) (v := (39 : Int32)) X23 hx rfl (hb hby at_84) rfl ?_
      refine og_goto (pc' := 91) X23 hx (hb hby at_86) (by decide) (by decide) ?_
      exact J91 T23 _ X23 e23 N _ w1 w2 (Or.inl ⟨rfl, rfl, rfl⟩)
theorem comes_1 {Post : Tables → Env → Array Value → State → Outcome → State → Prop} (hpost : ∀ tb e args s v u, (limb_1_1.after args s (.returned v) u = true ∧ limb_1_2.after args s (.returned v) u = true ∧ True) → FrameEnd s (.returned v) u (Jvm.fieldLocs frame_1_writes args s ++ Jvm.arrayLocs frame_1_arrays args s ++ Jvm.staticLocs frame_1_statics s) 16 128 → Post tb e args s (.returned v) u) :
    ArmFor flags0 classFile x code maxLocals ret World_1 tables_1 room_1 Calls_1 rest_1 Pre_1 Post := by
  intro l hfl _ _ p e ha hc hk s m args below hf hA hF happ hP
  obtain ⟨hcalls, hrest, hpre⟩ := hP
  obtain ⟨-, -, -, hnamed, -, -, -, hat⟩ := (Spec.applies_iff hf).mp happ
  obtain ⟨hg, hn⟩ := and_e (Cond.before_iff.mp (show (Jvm.Cond.and given_1 narrow_1).before args s = true from hpre))
  obtain ⟨g2, g3⟩ := and_e hg
  obtain ⟨g4, g5⟩ := and_e g3
  obtain ⟨g6, g7⟩ := and_e g5
  obtain ⟨w0, w1, w2, rfl⟩ : ∃ w0 w1 w2 : Value, args = #[w0, w1, w2] := by
    have hs : args.size = 3 := by simpa [Cond.value, given_1] using g2
    obtain ⟨L⟩ := args
    match L, hs with
    | [w0, w1, w2], _ => exact ⟨w0, w1, w2, rfl⟩
  have hw := fun d (hd : d ∈ tables_1) => atoms_spec (ws := Jvm.Cond.code x code maxLocals ret :: tables_1) hat d (List.mem_cons_of_mem _ hd)
  have hfit : Fit s := fun {y c} hc i hi => by
    obtain ⟨ha, rfl⟩ := Array.getElem?_eq_some_iff.mp hc
    have q := List.all_eq_true.mp ((Array.all_eq_true_iff_forall_mem.mp hF) _ (Array.getElem_mem ha)) i (List.mem_range.mpr hi)
    simpa [Array.getElem?_eq_getElem hi] using q
  obtain ⟨hsets, hown0⟩ := atoms_of _ (rest_1_c_eq ▸ (show rest_1_c.before _ s = true from hrest))
  obtain ⟨i0, ei0⟩ := isL_v g4
  obtain rfl : w0 = (.long i0) := Option.some.inj ei0
  obtain ⟨i1, ei1⟩ := is_v g6
  obtain rfl : w1 = (.int i1) := Option.some.inj ei1
  obtain ⟨i2, ei2⟩ := is_v g7
  obtain rfl : w2 = (.int i2) := Option.some.inj ei2
  obtain ⟨hnl, hnr⟩ := and_e hn
  obtain ⟨hnrl, hnrr⟩ := and_e hnr
  obtain ⟨hnrrl, hnrrr⟩ := and_e hnrr
  obtain ⟨hnrrrl, hnrrrr⟩ := and_e hnrrr
  obtain ⟨hnrrrrl, hnrrrrr⟩ := and_e hnrrrr
  obtain ⟨hnrrrrrl, hnrrrrrr⟩ := and_e hnrrrrr
  obtain ⟨hnrrrrrrl, hnrrrrrrr⟩ := and_e hnrrrrrr
  obtain ⟨hnrrrrrrrl, hnrrrrrrrr⟩ := and_e hnrrrrrrr
  obtain ⟨hnrrrrrrrrl, hnrrrrrrrrr⟩ := and_e hnrrrrrrrr
  obtain ⟨w0, ev_w0⟩ := exa_v hnl
  have E_w0 := Exa.start ev_w0 hnl
  have S_CODE := Sta.start ev_w0 (Or.inr ⟨(ow45 hw), (ow46 hw)⟩)
  obtain ⟨w3, ev_w3⟩ := exa_v hnrrl
  have E_w3 := Exa.start ev_w3 hnrrl
  have S_DOUBLE := Sta.start ev_w3 (Or.inr ⟨(ow45 hw), (ow84 hw)⟩)
  obtain ⟨w4, ev_w4⟩ := exa_v hnrrrrl
  have E_w4 := Exa.start ev_w4 hnrrrrl
  have S_DOUBLE_ESCAPED := Sta.start ev_w4 (Or.inr ⟨(ow45 hw), (ow100 hw)⟩)
  obtain ⟨w1, ev_w1⟩ := exa_v hnrrrrrrl
  have E_w1 := Exa.start ev_w1 hnrrrrrrl
  have S_SINGLE := Sta.start ev_w1 (Or.inr ⟨(ow45 hw), (ow102 hw)⟩)
  obtain ⟨w2, ev_w2⟩ := exa_v hnrrrrrrrrl
  have E_w2 := Exa.start ev_w2 hnrrrrrrrrl
  have S_SINGLE_ESCAPED := Sta.start ev_w2 (Or.inr ⟨(ow45 hw), (ow104 hw)⟩)
  have F_w0 := own_fldstart ev_w0 (own_eqint hnrl)
  have F_w3 := own_fldstart ev_w3 (own_eqint hnrrrl)
  have F_w4 := own_fldstart ev_w4 (own_eqint hnrrrrrl)
  have F_w1 := own_fldstart ev_w1 (own_eqint hnrrrrrrrl)
  have F_w2 := own_fldstart ev_w2 (own_eqint hnrrrrrrrrr)
  have ne_w1_w0 := Fld.ne F_w1 F_w0 (by decide)
  have ne_w2_w0 := Fld.ne F_w2 F_w0 (by decide)
  have ne_w3_w0 := Fld.ne F_w3 F_w0 (by decide)
  have ne_w4_w0 := Fld.ne F_w4 F_w0 (by decide)
  obtain ⟨cs, ecs⟩ := is_v (Cond.before_iff.mp (hsets _ (List.mem_of_getElem? (i := 1) rfl)))
  have S_CS := Sta.start ecs (Or.inl (hsets _ (List.mem_of_getElem? (i := 0) rfl)))
  have hcs : ¬ cs = 0 := own_ne0 ecs (Cond.before_iff.mp (hsets _ (List.mem_of_getElem? (i := 2) rfl)))
  obtain ⟨fm, efm, hfm⟩ := isR_v (Cond.before_iff.mp (hsets _ (List.mem_of_getElem? (i := 8) rfl)))
  have S_FM := Sta.start efm (Or.inl (hsets _ (List.mem_of_getElem? (i := 7) rfl)))
  obtain ⟨n, o, h1, h2, h3, _, L, rfl, ⟨rfl, N⟩, hq⟩ := rm0 l s _ hw tables_1 i0 i1 i2 w0 w1 w2 w3 w4 cs hcs fm hfm s.heap s.heap.size (Old.start s) S_CODE S_SINGLE S_SINGLE_ESCAPED S_DOUBLE S_DOUBLE_ESCAPED E_w0 E_w1 E_w2 E_w3 E_w4 F_w0 F_w1 F_w2 F_w3 F_w4 S_CS S_FM ne_w1_w0 ne_w2_w0 ne_w3_w0 ne_w4_w0 p e ha hc hk s m _ below hf ((Spec.applies_iff_loose hf).mp happ).1 ⟨rfl, State.Warmed39.refl s, rfl⟩ trivial
  refine ⟨n, _, h1, h2, h3, hpost _ _ _ _ _ _ ⟨Cond.after_iff.mpr rfl, Cond.after_iff.mpr (eq_i res_at (Term.int_eval (1)) rfl), trivial⟩ ⟨hq.1, hq.2.1, (hq.2.2.sift fun y hy => Or.inr (N y hy)).mono (by decide) (by decide)⟩⟩
theorem main_1_1 : Claimed_1_1 := comes_1 fun _ _ _ _ _ _ h hF => ⟨h.1, hF⟩
theorem main_1_2 : Claimed_1_2 := comes_1 fun _ _ _ _ _ _ h hF => ⟨h.2.1, hF⟩
end Jvm.Pilot.@@N@@
namespace Jvm.Pilot.@@N@@
open Jvm Jvm.ClassFile Sem Op Lib Jvm.Free Jvm.Stand Jvm.Pilot.@@N@@.Jvm.D
/-! MADE BY PROGRAM (witnessworld.py) out of the Statement's table words and the real class files: 23 classes; the members and pool entries that the words name. The judged class is class 1, her method 1. -/
namespace start1
open Jvm.ClassFile
def u (s : String) : CpInfo := .utf8 (stringToUtf16 s)
/-- a pool by its gaps: so many unusable entries, then the entry; so many at the end -/
def gap : Nat → List CpInfo → List CpInfo
  | 0, r => r
  | n + 1, r => .unusable :: gap n r
def poolList (es : List (Nat × CpInfo)) (last : Nat) : List CpInfo := es.foldr (fun e r => gap e.1 (e.2 :: r)) (gap last [])
def pool (es : List (Nat × CpInfo)) (last : Nat) : Array CpInfo := ⟨poolList es last⟩
def fileOf (pool : Array CpInfo) (this : Nat) (attrs : Array Attribute := #[]) (ms : Array MethodInfo := #[]) (fl : Nat := 33) (sup : Nat := 0) (ifs : Array Nat := #[]) (fds : Array FieldInfo := #[]) : ClassFile where
  minorVersion := 0
  majorVersion := 65
  constantPool := pool
  accessFlags := fl
  thisClass := this
  superClass := sup
  interfaces := ifs
  fields := fds
  methods := ms
  attributes := attrs
def plain (name : String) (sup : Option ClassId) : Class where
  name := name
  kind := .ordinary
  loader := none
  accessFlags := 33
  super := sup
  interfaces := #[]
  cf := none
  fields := #[]
  methods := #[]
  instanceTypes := #[]
  staticTypes := #[]
  resolved := #[]
  callSites := []
  init := .initialized
  statics := none
  mirror := none

def pool0 : Array CpInfo := pool [(5, u "<init>"), (0, u "()V"), (1, .class_ 10), (1, u "java/lang/Object")] 113

def k0c0 : Code := { maxStack := 0, maxLocals := 1, code := object_method_1_code, exceptionTable := #[], attributes := #[] }
def k0m0 : Method := { name := "<init>", desc := "()V", sig := { parameters := [], returnType := none }, accessFlags := 1, code := some k0c0 }
/-- java/lang/Object -/
def k0 : Class := { plain "java/lang/Object" none with
  accessFlags := 33
  interfaces := #[]
  cf := some (fileOf pool0 8 #[] #[{ accessFlags := 1, nameIndex := 5, descriptorIndex := 6, attributes := #[] }] 33 0 #[] #[])
  fields := #[]
  methods := #[k0m0]
  instanceTypes := #[]
  staticTypes := #[]
  resolved := Array.replicate 124 none
  statics := none }

def pool1 : Array CpInfo := pool [(2, .class_ 4), (1, u "java/lang/Object"), (0, u "<init>"), (0, u "()V"), (0, .methodref 8 9), (0, .class_ 10), (0, .nameAndType 11 12), (0, u "com/example/nitpick/nitpick/internal/interpolation/ExpressionLiteralsStringEndPinLaw"), (0, u "draw"), (0, u "(J)C"), (0, .integer 2147483647), (0, .methodref 8 15), (0, .nameAndType 16 17), (0, u "closes"), (0, u "([CICI)Z"), (0, .class_ 19), (0, u "java/lang/String"), (0, .methodref 18 21), (0, .nameAndType 5 22), (0, u "([C)V"), (0, .methodref 24 25), (0, .class_ 26), (0, .nameAndType 27 28), (0, u "com/example/nitpick/nitpick/internal/interpolation/ExpressionLiterals"), (0, u "stringEnd"), (0, u "(Ljava/lang/String;I)I"), (0, .long 3), (1, .long 255), (1, .methodref 8 34), (0, .nameAndType 35 36), (0, u "run"), (0, u "([CII)I"), (2, u "law"), (0, u "(JII)Z")] 5

def k1m0 : Method := { name := "<init>", desc := "()V", sig := { parameters := [], returnType := none }, accessFlags := 2, code := none }
def k1c1 : Code := { maxStack := 5, maxLocals := 8, code := code, exceptionTable := #[], attributes := #[] }
def k1m1 : Method := { name := "law", desc := "(JII)Z", sig := { parameters := [.long, .int, .int], returnType := some .boolean }, accessFlags := 9, code := some k1c1 }
def k1c2 : Code := { maxStack := 4, maxLocals := 3, code := method_3_code, exceptionTable := #[], attributes := #[] }
def k1m2 : Method := { name := "draw", desc := "(J)C", sig := { parameters := [.long], returnType := some .char }, accessFlags := 10, code := some k1c2 }
def k1c3 : Code := { maxStack := 3, maxLocals := 4, code := method_4_code, exceptionTable := #[], attributes := #[] }
def k1m3 : Method := { name := "closes", desc := "([CICI)Z", sig := { parameters := [(.array .char), .int, .char, .int], returnType := some .boolean }, accessFlags := 10, code := some k1c3 }
def k1c4 : Code := { maxStack := 3, maxLocals := 4, code := method_5_code, exceptionTable := #[], attributes := #[] }
def k1m4 : Method := { name := "run", desc := "([CII)I", sig := { parameters := [(.array .char), .int, .int], returnType := some .int }, accessFlags := 10, code := some k1c4 }
/-- com/example/nitpick/nitpick/internal/interpolation/ExpressionLiteralsStringEndPinLaw -/
def k1 : Class := { plain "com/example/nitpick/nitpick/internal/interpolation/ExpressionLiteralsStringEndPinLaw" (some 0) with
  accessFlags := 49
  interfaces := #[]
  cf := some (fileOf pool1 8 #[] #[{ accessFlags := 2, nameIndex := 5, descriptorIndex := 6, attributes := #[] }, { accessFlags := 9, nameIndex := 39, descriptorIndex := 40, attributes := #[] }, { accessFlags := 10, nameIndex := 11, descriptorIndex := 12, attributes := #[] }, { accessFlags := 10, nameIndex := 16, descriptorIndex := 17, attributes := #[] }, { accessFlags := 10, nameIndex := 35, descriptorIndex := 36, attributes := #[] }] 49 2 #[] #[])
  fields := #[]
  methods := #[k1m0, k1m1, k1m2, k1m3, k1m4]
  instanceTypes := #[]
  staticTypes := #[]
  resolved := Array.replicate 46 none
  statics := none }

def pool2 : Array CpInfo := pool [(1, .class_ 2), (0, u "java/io/Serializable"), (0, .class_ 4), (0, u "java/lang/Object")] 2

/-- java/io/Serializable -/
def k2 : Class := { plain "java/io/Serializable" (some 0) with
  accessFlags := 1537
  interfaces := #[]
  cf := some (fileOf pool2 1 #[] #[] 1537 3 #[] #[])
  fields := #[]
  methods := #[]
  instanceTypes := #[]
  staticTypes := #[]
  resolved := Array.replicate 7 none
  statics := none }

def pool3 : Array CpInfo := pool [(1, .class_ 2), (0, u "java/lang/Comparable"), (0, .class_ 4), (0, u "java/lang/Object")] 7

/-- java/lang/Comparable -/
def k3 : Class := { plain "java/lang/Comparable" (some 0) with
  accessFlags := 1537
  interfaces := #[]
  cf := some (fileOf pool3 1 #[] #[] 1537 3 #[] #[])
  fields := #[]
  methods := #[]
  instanceTypes := #[]
  staticTypes := #[]
  resolved := Array.replicate 12 none
  statics := none }

def pool4 : Array CpInfo := pool [(2, .class_ 4), (1, u "java/lang/CharSequence"), (42, .class_ 48), (0, u "java/lang/CharSequence$1CodePointIterator"), (10, .class_ 60), (0, u "java/lang/CharSequence$1CharIterator"), (5, .class_ 67), (0, u "java/lang/Object")] 63

/-- java/lang/CharSequence -/
def k4 : Class := { plain "java/lang/CharSequence" (some 0) with
  accessFlags := 1537
  interfaces := #[]
  cf := some (fileOf pool4 2 #[.nestMembers #[47, 59]] #[] 1537 66 #[] #[])
  fields := #[]
  methods := #[]
  instanceTypes := #[]
  staticTypes := #[]
  resolved := Array.replicate 131 none
  statics := none }

def pool5 : Array CpInfo := pool [(1, .class_ 2), (0, u "java/lang/constant/Constable"), (0, .class_ 4), (0, u "java/lang/Object")] 6

/-- java/lang/constant/Constable -/
def k5 : Class := { plain "java/lang/constant/Constable" (some 0) with
  accessFlags := 1537
  interfaces := #[]
  cf := some (fileOf pool5 1 #[] #[] 1537 3 #[] #[])
  fields := #[]
  methods := #[]
  instanceTypes := #[]
  staticTypes := #[]
  resolved := Array.replicate 11 none
  statics := none }

def pool6 : Array CpInfo := pool [(1, .class_ 2), (0, u "java/lang/constant/ConstantDesc"), (0, .class_ 4), (0, u "java/lang/Object")] 32

/-- java/lang/constant/ConstantDesc -/
def k6 : Class := { plain "java/lang/constant/ConstantDesc" (some 0) with
  accessFlags := 1537
  interfaces := #[]
  cf := some (fileOf pool6 1 #[] #[] 1537 3 #[] #[])
  fields := #[]
  methods := #[]
  instanceTypes := #[]
  staticTypes := #[]
  resolved := Array.replicate 37 none
  statics := none }

def pool7 : Array CpInfo := pool [(1, .methodref 2 3), (0, .class_ 4), (0, .nameAndType 5 6), (0, u "java/lang/Object"), (0, u "<init>"), (0, u "()V"), (2, .fieldref 10 11), (0, .class_ 12), (0, .nameAndType 13 14), (0, u "java/lang/String"), (0, u "value"), (0, u "[B"), (0, .fieldref 10 16), (0, .nameAndType 17 18), (0, u "coder"), (0, u "B"), (2, u "hash"), (0, u "I"), (2, u "hashIsZero"), (0, u "Z"), (0, .methodref 10 28), (0, .nameAndType 5 29), (0, u "([CIILjava/lang/Void;)V"), (8, .fieldref 10 39), (0, .nameAndType 40 26), (0, u "COMPACT_STRINGS"), (1, .class_ 44), (1, u "java/lang/StringUTF16"), (0, u "compress"), (1, .methodref 42 48), (0, .nameAndType 49 50), (0, u "coderFromArrayLen"), (0, u "([BI)B"), (56, .class_ 109), (1, u "java/lang/StringLatin1"), (32, u "()Z"), (34, .methodref 42 178), (0, .nameAndType 45 179), (0, u "([CII)[B"), (154, u "()I"), (0, .methodref 10 336), (0, .nameAndType 17 337), (0, u "()B"), (25, u "([BI)C"), (27, u "(II)V"), (35, u "(I)C"), (64, .methodref 10 493), (0, .nameAndType 494 142), (0, u "isLatin1"), (0, .methodref 107 496), (0, .nameAndType 497 363), (0, u "charAt"), (3, u "checkIndex"), (5, u "length"), (67, .class_ 576), (0, u "java/lang/CharSequence"), (22, u "CASE_INSENSITIVE_ORDER"), (0, u "Ljava/util/Comparator;"), (409, u "([C)V"), (42, .fieldref 1054 1055), (0, .class_ 1056), (0, .nameAndType 1057 1058), (0, u "jdk/internal/util/Preconditions"), (0, u "SIOOBE_FORMATTER"), (0, u "Ljava/util/function/BiFunction;"), (0, .methodref 1054 1060), (0, .nameAndType 501 1061), (0, u "(IILjava/util/function/BiFunction;)I"), (39, u "serialPersistentFields"), (0, u "[Ljava/io/ObjectStreamField;"), (0, .class_ 1104), (0, u "java/lang/String$CaseInsensitiveComparator"), (1, .class_ 1107), (0, u "java/io/Serializable"), (0, .class_ 1109), (0, u "java/lang/Comparable"), (0, .class_ 1111), (0, u "java/lang/constant/Constable"), (0, .class_ 1113), (0, u "java/lang/constant/ConstantDesc"), (2, u "serialVersionUID"), (0, u "J"), (3, u "REPL"), (0, u "C"), (2, u "LATIN1"), (1, u "UTF16")] 323

def k7m0 : Method := { name := "<init>", desc := "()V", sig := { parameters := [], returnType := none }, accessFlags := 1, code := none }
def k7c1 : Code := { maxStack := 5, maxLocals := 2, code := jdk_42_method_3_code, exceptionTable := #[], attributes := #[] }
def k7m1 : Method := { name := "<init>", desc := "([C)V", sig := { parameters := [(.array .char)], returnType := none }, accessFlags := 1, code := some k7c1 }
def k7c2 : Code := { maxStack := 2, maxLocals := 1, code := jdk_42_method_54_code, exceptionTable := #[], attributes := #[] }
def k7m2 : Method := { name := "length", desc := "()I", sig := { parameters := [], returnType := some .int }, accessFlags := 1, code := some k7c2 }
def k7c3 : Code := { maxStack := 2, maxLocals := 2, code := jdk_42_method_56_code, exceptionTable := #[], attributes := #[] }
def k7m3 : Method := { name := "charAt", desc := "(I)C", sig := { parameters := [.int], returnType := some .char }, accessFlags := 1, code := some k7c3 }
def k7c4 : Code := { maxStack := 4, maxLocals := 6, code := jdk_42_method_149_code, exceptionTable := #[], attributes := #[] }
def k7m4 : Method := { name := "<init>", desc := "([CIILjava/lang/Void;)V", sig := { parameters := [(.array .char), .int, .int, (.object "java/lang/Void")], returnType := none }, accessFlags := 2, code := some k7c4 }
def k7c5 : Code := { maxStack := 1, maxLocals := 1, code := jdk_42_method_152_code, exceptionTable := #[], attributes := #[] }
def k7m5 : Method := { name := "coder", desc := "()B", sig := { parameters := [], returnType := some .byte }, accessFlags := 0, code := some k7c5 }
def k7c6 : Code := { maxStack := 1, maxLocals := 1, code := jdk_42_method_154_code, exceptionTable := #[], attributes := #[] }
def k7m6 : Method := { name := "isLatin1", desc := "()Z", sig := { parameters := [], returnType := some .boolean }, accessFlags := 0, code := some k7c6 }
def k7c7 : Code := { maxStack := 3, maxLocals := 2, code := jdk_42_method_155_code, exceptionTable := #[], attributes := #[] }
def k7m7 : Method := { name := "checkIndex", desc := "(II)V", sig := { parameters := [.int, .int], returnType := none }, accessFlags := 8, code := some k7c7 }
/-- java/lang/String -/
def k7 : Class := { plain "java/lang/String" (some 0) with
  accessFlags := 49
  interfaces := #[2, 3, 4, 5, 6]
  cf := some (fileOf pool7 10 #[.nestMembers #[1103]] #[{ accessFlags := 1, nameIndex := 5, descriptorIndex := 6, attributes := #[] }, { accessFlags := 1, nameIndex := 5, descriptorIndex := 1010, attributes := #[] }, { accessFlags := 1, nameIndex := 507, descriptorIndex := 334, attributes := #[] }, { accessFlags := 1, nameIndex := 497, descriptorIndex := 427, attributes := #[] }, { accessFlags := 2, nameIndex := 5, descriptorIndex := 29, attributes := #[] }, { accessFlags := 0, nameIndex := 17, descriptorIndex := 337, attributes := #[] }, { accessFlags := 0, nameIndex := 494, descriptorIndex := 142, attributes := #[] }, { accessFlags := 8, nameIndex := 501, descriptorIndex := 391, attributes := #[] }] 49 2 #[1106, 1108, 575, 1110, 1112] #[{ accessFlags := 18, nameIndex := 13, descriptorIndex := 14, attributes := #[] }, { accessFlags := 18, nameIndex := 17, descriptorIndex := 18, attributes := #[] }, { accessFlags := 2, nameIndex := 21, descriptorIndex := 22, attributes := #[] }, { accessFlags := 2, nameIndex := 25, descriptorIndex := 26, attributes := #[] }, { accessFlags := 26, nameIndex := 1116, descriptorIndex := 1117, attributes := #[] }, { accessFlags := 24, nameIndex := 40, descriptorIndex := 26, attributes := #[] }, { accessFlags := 26, nameIndex := 1101, descriptorIndex := 1102, attributes := #[] }, { accessFlags := 26, nameIndex := 1121, descriptorIndex := 1122, attributes := #[] }, { accessFlags := 25, nameIndex := 599, descriptorIndex := 600, attributes := #[] }, { accessFlags := 24, nameIndex := 1125, descriptorIndex := 18, attributes := #[] }, { accessFlags := 24, nameIndex := 1127, descriptorIndex := 18, attributes := #[] }])
  fields := #[{ name := "value", type := (.array .byte), accessFlags := 18, slot := 0, constantValue := 0 }, { name := "coder", type := .byte, accessFlags := 18, slot := 1, constantValue := 0 }, { name := "hash", type := .int, accessFlags := 2, slot := 2, constantValue := 0 }, { name := "hashIsZero", type := .boolean, accessFlags := 2, slot := 3, constantValue := 0 }, { name := "serialVersionUID", type := .long, accessFlags := 26, slot := 0, constantValue := 0 }, { name := "COMPACT_STRINGS", type := .boolean, accessFlags := 24, slot := 1, constantValue := 0 }, { name := "serialPersistentFields", type := (.array (.object "java/io/ObjectStreamField")), accessFlags := 26, slot := 2, constantValue := 0 }, { name := "REPL", type := .char, accessFlags := 26, slot := 3, constantValue := 0 }, { name := "CASE_INSENSITIVE_ORDER", type := (.object "java/util/Comparator"), accessFlags := 25, slot := 4, constantValue := 0 }, { name := "LATIN1", type := .byte, accessFlags := 24, slot := 5, constantValue := 0 }, { name := "UTF16", type := .byte, accessFlags := 24, slot := 6, constantValue := 0 }]
  methods := #[k7m0, k7m1, k7m2, k7m3, k7m4, k7m5, k7m6, k7m7]
  instanceTypes := #[(.array .byte), .byte, .int, .boolean]
  staticTypes := #[.long, .boolean, (.array (.object "java/io/ObjectStreamField")), .char, (.object "java/util/Comparator"), .byte, .byte]
  resolved := Array.replicate 1451 none
  statics := some 0 }

def pool8 : Array CpInfo := pool [(6, .class_ 8), (1, u "java/lang/Object"), (0, u "<init>"), (0, u "()V"), (1, .class_ 14), (1, u "java/lang/StringUTF16"), (31, u "$assertionsDisabled"), (0, u "Z"), (13, u "HI_BYTE_SHIFT"), (0, u "I"), (2, u "LO_BYTE_SHIFT"), (49, .methodref 12 116), (0, .nameAndType 117 118), (0, u "compress"), (0, u "([CI[BII)I"), (3, u "([CII)[B"), (138, u "coderFromArrayLen"), (0, u "([BI)B"), (106, .class_ 371), (1, u "java/lang/StringUTF16$LinesSpliterator"), (58, u "MAX_LENGTH"), (196, .class_ 628), (0, u "java/lang/StringUTF16$CodePointsSpliterator"), (0, .class_ 630), (0, u "java/lang/StringUTF16$CharsSpliterator")] 4

def k8m0 : Method := { name := "<init>", desc := "()V", sig := { parameters := [], returnType := none }, accessFlags := 0, code := none }
def k8c1 : Code := { maxStack := 2, maxLocals := 2, code := jdk_52_method_15_code, exceptionTable := #[], attributes := #[] }
def k8m1 : Method := { name := "coderFromArrayLen", desc := "([BI)B", sig := { parameters := [(.array .byte), .int], returnType := some .byte }, accessFlags := 8, code := some k8c1 }
def k8c2 : Code := { maxStack := 5, maxLocals := 6, code := jdk_52_method_16_code, exceptionTable := #[], attributes := #[] }
def k8m2 : Method := { name := "compress", desc := "([CII)[B", sig := { parameters := [(.array .char), .int, .int], returnType := some (.array .byte) }, accessFlags := 9, code := some k8c2 }
def k8c3 : Code := { maxStack := 3, maxLocals := 7, code := jdk_52_method_21_code, exceptionTable := #[], attributes := #[] }
def k8m3 : Method := { name := "compress", desc := "([CI[BII)I", sig := { parameters := [(.array .char), .int, (.array .byte), .int, .int], returnType := some .int }, accessFlags := 9, code := some k8c3 }
/-- java/lang/StringUTF16 -/
def k8 : Class := { plain "java/lang/StringUTF16" (some 0) with
  accessFlags := 48
  interfaces := #[]
  cf := some (fileOf pool8 12 #[.nestMembers #[627, 629, 369]] #[{ accessFlags := 0, nameIndex := 9, descriptorIndex := 10, attributes := #[] }, { accessFlags := 8, nameIndex := 261, descriptorIndex := 262, attributes := #[] }, { accessFlags := 9, nameIndex := 117, descriptorIndex := 122, attributes := #[] }, { accessFlags := 9, nameIndex := 117, descriptorIndex := 118, attributes := #[] }] 48 6 #[] #[{ accessFlags := 26, nameIndex := 61, descriptorIndex := 62, attributes := #[] }, { accessFlags := 26, nameIndex := 65, descriptorIndex := 62, attributes := #[] }, { accessFlags := 24, nameIndex := 430, descriptorIndex := 62, attributes := #[] }, { accessFlags := 4120, nameIndex := 46, descriptorIndex := 47, attributes := #[] }])
  fields := #[{ name := "HI_BYTE_SHIFT", type := .int, accessFlags := 26, slot := 0, constantValue := 0 }, { name := "LO_BYTE_SHIFT", type := .int, accessFlags := 26, slot := 1, constantValue := 0 }, { name := "MAX_LENGTH", type := .int, accessFlags := 24, slot := 2, constantValue := 0 }, { name := "$assertionsDisabled", type := .boolean, accessFlags := 4120, slot := 3, constantValue := 0 }]
  methods := #[k8m0, k8m1, k8m2, k8m3]
  instanceTypes := #[]
  staticTypes := #[.int, .int, .int, .boolean]
  resolved := Array.replicate 635 none
  statics := none }

def pool9 : Array CpInfo := pool [(2, .class_ 4), (1, u "java/lang/Object"), (0, u "<init>"), (0, u "()V"), (0, .class_ 8), (0, u "java/lang/Record")] 13

def k9m0 : Method := { name := "<init>", desc := "()V", sig := { parameters := [], returnType := none }, accessFlags := 4, code := none }
/-- java/lang/Record -/
def k9 : Class := { plain "java/lang/Record" (some 0) with
  accessFlags := 1057
  interfaces := #[]
  cf := some (fileOf pool9 7 #[] #[{ accessFlags := 4, nameIndex := 5, descriptorIndex := 6, attributes := #[] }] 1057 2 #[] #[])
  fields := #[]
  methods := #[k9m0]
  instanceTypes := #[]
  staticTypes := #[]
  resolved := Array.replicate 22 none
  statics := none }

def pool10 : Array CpInfo := pool [(2, .class_ 4), (1, u "java/lang/Record"), (3, .class_ 10), (1, u "com/example/nitpick/nitpick/internal/interpolation/ExpressionLiterals"), (0, u "digits"), (0, u "J"), (2, u "joinsTexts"), (0, u "Z"), (2, u "quotientDigits"), (2, u "NUMBER"), (0, u "Ljava/util/regex/Pattern;"), (6, .methodref 31 32), (0, .class_ 33), (0, .nameAndType 34 35), (0, u "java/lang/String"), (0, u "length"), (0, u "()I"), (0, .methodref 31 37), (0, .nameAndType 38 39), (0, u "charAt"), (0, u "(I)C"), (2, u "stringEnd"), (0, u "(Ljava/lang/String;I)I"), (82, .fieldref 127 128), (0, .class_ 129), (0, .nameAndType 130 131), (0, u "com/example/nitpick/nitpick/internal/interpolation/ExpressionLiterals$Quoting"), (0, u "CODE"), (0, u "Lcom/example/nitpick/nitpick/internal/interpolation/ExpressionLiterals$Quoting;"), (0, .methodref 127 133), (0, .nameAndType 134 135), (0, u "next"), (0, u "(C)Lcom/example/nitpick/nitpick/internal/interpolation/ExpressionLiterals$Quoting;")] 51

def k10c0 : Code := { maxStack := 3, maxLocals := 4, code := prog_59_method_6_code, exceptionTable := #[], attributes := #[] }
def k10m0 : Method := { name := "stringEnd", desc := "(Ljava/lang/String;I)I", sig := { parameters := [(.object "java/lang/String"), .int], returnType := some .int }, accessFlags := 8, code := some k10c0 }
/-- com/example/nitpick/nitpick/internal/interpolation/ExpressionLiterals -/
def k10 : Class := { plain "com/example/nitpick/nitpick/internal/interpolation/ExpressionLiterals" (some 9) with
  accessFlags := 48
  interfaces := #[]
  cf := some (fileOf pool10 8 #[.nestMembers #[127]] #[{ accessFlags := 8, nameIndex := 42, descriptorIndex := 43, attributes := #[] }] 48 2 #[] #[{ accessFlags := 18, nameIndex := 11, descriptorIndex := 12, attributes := #[] }, { accessFlags := 18, nameIndex := 15, descriptorIndex := 16, attributes := #[] }, { accessFlags := 18, nameIndex := 19, descriptorIndex := 12, attributes := #[] }, { accessFlags := 26, nameIndex := 22, descriptorIndex := 23, attributes := #[] }])
  fields := #[{ name := "digits", type := .long, accessFlags := 18, slot := 0, constantValue := 0 }, { name := "joinsTexts", type := .boolean, accessFlags := 18, slot := 1, constantValue := 0 }, { name := "quotientDigits", type := .long, accessFlags := 18, slot := 2, constantValue := 0 }, { name := "NUMBER", type := (.object "java/util/regex/Pattern"), accessFlags := 26, slot := 0, constantValue := 0 }]
  methods := #[k10m0]
  instanceTypes := #[.long, .boolean, .long]
  staticTypes := #[(.object "java/util/regex/Pattern")]
  resolved := Array.replicate 187 none
  statics := none }

def pool11 : Array CpInfo := pool [(2, .class_ 4), (1, u "java/lang/Enum"), (0, u "name"), (0, u "Ljava/lang/String;"), (0, .fieldref 2 8), (0, .nameAndType 9 10), (0, u "ordinal"), (0, u "I"), (1, .class_ 14), (1, u "java/lang/Object"), (4, u "hash"), (86, .class_ 108), (1, u "java/lang/Enum$EnumDesc"), (2, .class_ 112), (0, u "java/lang/constant/Constable"), (0, .class_ 114), (0, u "java/lang/Comparable"), (0, .class_ 116), (0, u "java/io/Serializable"), (9, u "()I")] 77

def k11c0 : Code := { maxStack := 1, maxLocals := 1, code := jdk_37_method_2_code, exceptionTable := #[], attributes := #[] }
def k11m0 : Method := { name := "ordinal", desc := "()I", sig := { parameters := [], returnType := some .int }, accessFlags := 17, code := some k11c0 }
/-- java/lang/Enum -/
def k11 : Class := { plain "java/lang/Enum" (some 0) with
  accessFlags := 1057
  interfaces := #[5, 3, 2]
  cf := some (fileOf pool11 2 #[.nestMembers #[106]] #[{ accessFlags := 17, nameIndex := 9, descriptorIndex := 126, attributes := #[] }] 1057 12 #[111, 113, 115] #[{ accessFlags := 18, nameIndex := 5, descriptorIndex := 6, attributes := #[] }, { accessFlags := 18, nameIndex := 9, descriptorIndex := 10, attributes := #[] }, { accessFlags := 2, nameIndex := 19, descriptorIndex := 10, attributes := #[] }])
  fields := #[{ name := "name", type := (.object "java/lang/String"), accessFlags := 18, slot := 0, constantValue := 0 }, { name := "ordinal", type := .int, accessFlags := 18, slot := 1, constantValue := 0 }, { name := "hash", type := .int, accessFlags := 2, slot := 2, constantValue := 0 }]
  methods := #[k11m0]
  instanceTypes := #[(.object "java/lang/String"), .int, .int]
  staticTypes := #[]
  resolved := Array.replicate 204 none
  statics := none }

def pool12 : Array CpInfo := pool [(1, .class_ 2), (0, u "com/example/nitpick/nitpick/internal/interpolation/ExpressionLiterals$Quoting"), (0, .fieldref 1 4), (0, .nameAndType 5 6), (0, u "CODE"), (0, u "Lcom/example/nitpick/nitpick/internal/interpolation/ExpressionLiterals$Quoting;"), (0, .fieldref 1 8), (0, .nameAndType 9 6), (0, u "SINGLE"), (0, .fieldref 1 11), (0, .nameAndType 12 6), (0, u "SINGLE_ESCAPED"), (0, .fieldref 1 14), (0, .nameAndType 15 6), (0, u "DOUBLE"), (0, .fieldref 1 17), (0, .nameAndType 18 6), (0, u "DOUBLE_ESCAPED"), (2, u "$VALUES"), (0, u "[Lcom/example/nitpick/nitpick/internal/interpolation/ExpressionLiterals$Quoting;"), (6, .class_ 31), (1, u "java/lang/Enum"), (6, .methodref 1 39), (0, .nameAndType 40 41), (0, u "ordinal"), (0, u "()I"), (22, u "next"), (0, u "(C)Lcom/example/nitpick/nitpick/internal/interpolation/ExpressionLiterals$Quoting;"), (6, .class_ 73), (0, u "com/example/nitpick/nitpick/internal/interpolation/ExpressionLiterals")] 2

def k12c0 : Code := { maxStack := 4, maxLocals := 2, code := prog_60_method_4_code, exceptionTable := #[], attributes := #[] }
def k12m0 : Method := { name := "next", desc := "(C)Lcom/example/nitpick/nitpick/internal/interpolation/ExpressionLiterals$Quoting;", sig := { parameters := [.char], returnType := some (.object "com/example/nitpick/nitpick/internal/interpolation/ExpressionLiterals$Quoting") }, accessFlags := 0, code := some k12c0 }
/-- com/example/nitpick/nitpick/internal/interpolation/ExpressionLiterals$Quoting -/
def k12 : Class := { plain "com/example/nitpick/nitpick/internal/interpolation/ExpressionLiterals$Quoting" (some 11) with
  accessFlags := 16432
  interfaces := #[]
  cf := some (fileOf pool12 1 #[.nestHost 72] #[{ accessFlags := 0, nameIndex := 64, descriptorIndex := 65, attributes := #[] }] 16432 29 #[] #[{ accessFlags := 16409, nameIndex := 5, descriptorIndex := 6, attributes := #[] }, { accessFlags := 16409, nameIndex := 9, descriptorIndex := 6, attributes := #[] }, { accessFlags := 16409, nameIndex := 12, descriptorIndex := 6, attributes := #[] }, { accessFlags := 16409, nameIndex := 15, descriptorIndex := 6, attributes := #[] }, { accessFlags := 16409, nameIndex := 18, descriptorIndex := 6, attributes := #[] }, { accessFlags := 4122, nameIndex := 21, descriptorIndex := 22, attributes := #[] }])
  fields := #[{ name := "CODE", type := (.object "com/example/nitpick/nitpick/internal/interpolation/ExpressionLiterals$Quoting"), accessFlags := 16409, slot := 0, constantValue := 0 }, { name := "SINGLE", type := (.object "com/example/nitpick/nitpick/internal/interpolation/ExpressionLiterals$Quoting"), accessFlags := 16409, slot := 1, constantValue := 0 }, { name := "SINGLE_ESCAPED", type := (.object "com/example/nitpick/nitpick/internal/interpolation/ExpressionLiterals$Quoting"), accessFlags := 16409, slot := 2, constantValue := 0 }, { name := "DOUBLE", type := (.object "com/example/nitpick/nitpick/internal/interpolation/ExpressionLiterals$Quoting"), accessFlags := 16409, slot := 3, constantValue := 0 }, { name := "DOUBLE_ESCAPED", type := (.object "com/example/nitpick/nitpick/internal/interpolation/ExpressionLiterals$Quoting"), accessFlags := 16409, slot := 4, constantValue := 0 }, { name := "$VALUES", type := (.array (.object "com/example/nitpick/nitpick/internal/interpolation/ExpressionLiterals$Quoting")), accessFlags := 4122, slot := 5, constantValue := 0 }]
  methods := #[k12m0]
  instanceTypes := #[(.object "java/lang/String"), .int, .int]
  staticTypes := #[(.object "com/example/nitpick/nitpick/internal/interpolation/ExpressionLiterals$Quoting"), (.object "com/example/nitpick/nitpick/internal/interpolation/ExpressionLiterals$Quoting"), (.object "com/example/nitpick/nitpick/internal/interpolation/ExpressionLiterals$Quoting"), (.object "com/example/nitpick/nitpick/internal/interpolation/ExpressionLiterals$Quoting"), (.object "com/example/nitpick/nitpick/internal/interpolation/ExpressionLiterals$Quoting"), (.array (.object "com/example/nitpick/nitpick/internal/interpolation/ExpressionLiterals$Quoting"))]
  resolved := Array.replicate 76 none
  statics := some 1 }

def pool13 : Array CpInfo := pool [(1, .class_ 2), (0, u "java/lang/String"), (1, .class_ 6), (1, u "java/lang/Object"), (0, u "<init>"), (0, u "()V"), (0, .methodref 1 10), (0, .nameAndType 11 12), (0, u "checkIndex"), (0, u "(II)V"), (1, .class_ 16), (1, u "java/lang/StringLatin1"), (36, u "([BI)C"), (67, u "$assertionsDisabled"), (0, u "Z"), (98, .class_ 223), (1, u "java/lang/StringLatin1$LinesSpliterator"), (28, u "charAt"), (137, .class_ 391), (0, u "java/lang/StringLatin1$CharsSpliterator")] 3

def k13m0 : Method := { name := "<init>", desc := "()V", sig := { parameters := [], returnType := none }, accessFlags := 0, code := none }
def k13c1 : Code := { maxStack := 2, maxLocals := 2, code := jdk_43_method_2_code, exceptionTable := #[], attributes := #[] }
def k13m1 : Method := { name := "charAt", desc := "([BI)C", sig := { parameters := [(.array .byte), .int], returnType := some .char }, accessFlags := 9, code := some k13c1 }
/-- java/lang/StringLatin1 -/
def k13 : Class := { plain "java/lang/StringLatin1" (some 0) with
  accessFlags := 48
  interfaces := #[]
  cf := some (fileOf pool13 14 #[.nestMembers #[390, 221]] #[{ accessFlags := 0, nameIndex := 7, descriptorIndex := 8, attributes := #[] }, { accessFlags := 9, nameIndex := 252, descriptorIndex := 53, attributes := #[] }] 48 4 #[] #[{ accessFlags := 4120, nameIndex := 121, descriptorIndex := 122, attributes := #[] }])
  fields := #[{ name := "$assertionsDisabled", type := .boolean, accessFlags := 4120, slot := 0, constantValue := 0 }]
  methods := #[k13m0, k13m1]
  instanceTypes := #[]
  staticTypes := #[.boolean]
  resolved := Array.replicate 395 none
  statics := none }

def pool14 : Array CpInfo := pool [(2, .class_ 4), (1, u "java/lang/Object"), (0, u "<init>"), (0, u "()V"), (17, .class_ 26), (1, u "jdk/internal/util/Preconditions"), (6, u "checkIndex"), (21, .class_ 56), (0, u "jdk/internal/util/Preconditions$4"), (57, .class_ 115), (0, u "jdk/internal/util/Preconditions$1"), (7, u "SIOOBE_FORMATTER"), (0, u "Ljava/util/function/BiFunction;"), (0, .class_ 126), (0, u "jdk/internal/util/Preconditions$2"), (3, u "AIOOBE_FORMATTER"), (0, .class_ 132), (0, u "jdk/internal/util/Preconditions$3"), (3, u "IOOBE_FORMATTER"), (41, u "(IILjava/util/function/BiFunction;)I")] 15

def k14m0 : Method := { name := "<init>", desc := "()V", sig := { parameters := [], returnType := none }, accessFlags := 1, code := none }
def k14c1 : Code := { maxStack := 3, maxLocals := 3, code := jdk_41_method_11_code, exceptionTable := #[], attributes := #[] }
def k14m1 : Method := { name := "checkIndex", desc := "(IILjava/util/function/BiFunction;)I", sig := { parameters := [.int, .int, (.object "java/util/function/BiFunction")], returnType := some .int }, accessFlags := 9, code := some k14c1 }
/-- jdk/internal/util/Preconditions -/
def k14 : Class := { plain "jdk/internal/util/Preconditions" (some 0) with
  accessFlags := 33
  interfaces := #[]
  cf := some (fileOf pool14 24 #[.nestMembers #[55, 131, 125, 114]] #[{ accessFlags := 1, nameIndex := 5, descriptorIndex := 6, attributes := #[] }, { accessFlags := 9, nameIndex := 33, descriptorIndex := 178, attributes := #[] }] 33 2 #[] #[{ accessFlags := 25, nameIndex := 123, descriptorIndex := 124, attributes := #[] }, { accessFlags := 25, nameIndex := 130, descriptorIndex := 124, attributes := #[] }, { accessFlags := 25, nameIndex := 136, descriptorIndex := 124, attributes := #[] }])
  fields := #[{ name := "SIOOBE_FORMATTER", type := (.object "java/util/function/BiFunction"), accessFlags := 25, slot := 0, constantValue := 0 }, { name := "AIOOBE_FORMATTER", type := (.object "java/util/function/BiFunction"), accessFlags := 25, slot := 1, constantValue := 0 }, { name := "IOOBE_FORMATTER", type := (.object "java/util/function/BiFunction"), accessFlags := 25, slot := 2, constantValue := 0 }]
  methods := #[k14m0, k14m1]
  instanceTypes := #[]
  staticTypes := #[(.object "java/util/function/BiFunction"), (.object "java/util/function/BiFunction"), (.object "java/util/function/BiFunction")]
  resolved := Array.replicate 194 none
  statics := some 2 }

def pool15 : Array CpInfo := pool [(9, u "<init>"), (6, .class_ 18), (1, u "java/lang/Object"), (0, u "()V"), (1, .class_ 23), (1, u "jdk/internal/util/ArraysSupport"), (0, u "LOG2_ARRAY_LONG_INDEX_SCALE"), (0, u "I"), (2, u "U"), (0, u "Ljdk/internal/misc/Unsafe;"), (8, u "BIG_ENDIAN"), (0, u "Z"), (8, u "LOG2_BYTE_BIT_SIZE"), (4, u "LOG2_ARRAY_INT_INDEX_SCALE"), (54, u "JLA"), (0, u "Ljdk/internal/access/JavaLangAccess;"), (11, u "LOG2_ARRAY_BOOLEAN_INDEX_SCALE"), (9, u "LOG2_ARRAY_BYTE_INDEX_SCALE"), (5, u "LOG2_ARRAY_CHAR_INDEX_SCALE"), (5, u "LOG2_ARRAY_SHORT_INDEX_SCALE"), (18, u "LOG2_ARRAY_FLOAT_INDEX_SCALE"), (24, u "LOG2_ARRAY_DOUBLE_INDEX_SCALE"), (89, u "T_BOOLEAN"), (2, u "T_CHAR"), (1, u "T_FLOAT"), (1, u "T_DOUBLE"), (1, u "T_BYTE"), (1, u "T_SHORT"), (1, u "T_INT"), (1, u "T_LONG"), (1, u "SOFT_MAX_ARRAY_LENGTH")] 83

def k15m0 : Method := { name := "<init>", desc := "()V", sig := { parameters := [], returnType := none }, accessFlags := 2, code := none }
/-- jdk/internal/util/ArraysSupport -/
def k15 : Class := { plain "jdk/internal/util/ArraysSupport" (some 0) with
  accessFlags := 33
  interfaces := #[]
  cf := some (fileOf pool15 21 #[] #[{ accessFlags := 2, nameIndex := 9, descriptorIndex := 19, attributes := #[] }] 33 16 #[] #[{ accessFlags := 24, nameIndex := 28, descriptorIndex := 29, attributes := #[] }, { accessFlags := 26, nameIndex := 38, descriptorIndex := 39, attributes := #[] }, { accessFlags := 25, nameIndex := 121, descriptorIndex := 25, attributes := #[] }, { accessFlags := 25, nameIndex := 131, descriptorIndex := 25, attributes := #[] }, { accessFlags := 25, nameIndex := 137, descriptorIndex := 25, attributes := #[] }, { accessFlags := 25, nameIndex := 143, descriptorIndex := 25, attributes := #[] }, { accessFlags := 25, nameIndex := 53, descriptorIndex := 25, attributes := #[] }, { accessFlags := 25, nameIndex := 24, descriptorIndex := 25, attributes := #[] }, { accessFlags := 25, nameIndex := 162, descriptorIndex := 25, attributes := #[] }, { accessFlags := 25, nameIndex := 187, descriptorIndex := 25, attributes := #[] }, { accessFlags := 26, nameIndex := 48, descriptorIndex := 25, attributes := #[] }, { accessFlags := 25, nameIndex := 277, descriptorIndex := 25, attributes := #[] }, { accessFlags := 25, nameIndex := 280, descriptorIndex := 25, attributes := #[] }, { accessFlags := 25, nameIndex := 282, descriptorIndex := 25, attributes := #[] }, { accessFlags := 25, nameIndex := 284, descriptorIndex := 25, attributes := #[] }, { accessFlags := 25, nameIndex := 286, descriptorIndex := 25, attributes := #[] }, { accessFlags := 25, nameIndex := 288, descriptorIndex := 25, attributes := #[] }, { accessFlags := 25, nameIndex := 290, descriptorIndex := 25, attributes := #[] }, { accessFlags := 25, nameIndex := 292, descriptorIndex := 25, attributes := #[] }, { accessFlags := 26, nameIndex := 108, descriptorIndex := 109, attributes := #[] }, { accessFlags := 25, nameIndex := 294, descriptorIndex := 25, attributes := #[] }])
  fields := #[{ name := "U", type := (.object "jdk/internal/misc/Unsafe"), accessFlags := 24, slot := 0, constantValue := 0 }, { name := "BIG_ENDIAN", type := .boolean, accessFlags := 26, slot := 1, constantValue := 0 }, { name := "LOG2_ARRAY_BOOLEAN_INDEX_SCALE", type := .int, accessFlags := 25, slot := 2, constantValue := 0 }, { name := "LOG2_ARRAY_BYTE_INDEX_SCALE", type := .int, accessFlags := 25, slot := 3, constantValue := 0 }, { name := "LOG2_ARRAY_CHAR_INDEX_SCALE", type := .int, accessFlags := 25, slot := 4, constantValue := 0 }, { name := "LOG2_ARRAY_SHORT_INDEX_SCALE", type := .int, accessFlags := 25, slot := 5, constantValue := 0 }, { name := "LOG2_ARRAY_INT_INDEX_SCALE", type := .int, accessFlags := 25, slot := 6, constantValue := 0 }, { name := "LOG2_ARRAY_LONG_INDEX_SCALE", type := .int, accessFlags := 25, slot := 7, constantValue := 0 }, { name := "LOG2_ARRAY_FLOAT_INDEX_SCALE", type := .int, accessFlags := 25, slot := 8, constantValue := 0 }, { name := "LOG2_ARRAY_DOUBLE_INDEX_SCALE", type := .int, accessFlags := 25, slot := 9, constantValue := 0 }, { name := "LOG2_BYTE_BIT_SIZE", type := .int, accessFlags := 26, slot := 10, constantValue := 0 }, { name := "T_BOOLEAN", type := .int, accessFlags := 25, slot := 11, constantValue := 0 }, { name := "T_CHAR", type := .int, accessFlags := 25, slot := 12, constantValue := 0 }, { name := "T_FLOAT", type := .int, accessFlags := 25, slot := 13, constantValue := 0 }, { name := "T_DOUBLE", type := .int, accessFlags := 25, slot := 14, constantValue := 0 }, { name := "T_BYTE", type := .int, accessFlags := 25, slot := 15, constantValue := 0 }, { name := "T_SHORT", type := .int, accessFlags := 25, slot := 16, constantValue := 0 }, { name := "T_INT", type := .int, accessFlags := 25, slot := 17, constantValue := 0 }, { name := "T_LONG", type := .int, accessFlags := 25, slot := 18, constantValue := 0 }, { name := "JLA", type := (.object "jdk/internal/access/JavaLangAccess"), accessFlags := 26, slot := 19, constantValue := 0 }, { name := "SOFT_MAX_ARRAY_LENGTH", type := .int, accessFlags := 25, slot := 20, constantValue := 0 }]
  methods := #[k15m0]
  instanceTypes := #[]
  staticTypes := #[(.object "jdk/internal/misc/Unsafe"), .boolean, .int, .int, .int, .int, .int, .int, .int, .int, .int, .int, .int, .int, .int, .int, .int, .int, .int, (.object "jdk/internal/access/JavaLangAccess"), .int]
  resolved := Array.replicate 378 none
  statics := none }

def pool16 : Array CpInfo := pool [(1, u "java/lang/Cloneable"), (0, .class_ 1), (0, u "java/lang/Object"), (0, .class_ 3)] 3

/-- java/lang/Cloneable -/
def k16 : Class := { plain "java/lang/Cloneable" (some 0) with
  accessFlags := 1537
  interfaces := #[]
  cf := some (fileOf pool16 2 #[] #[] 1537 4 #[] #[])
  fields := #[]
  methods := #[]
  instanceTypes := #[]
  staticTypes := #[]
  resolved := Array.replicate 8 none
  statics := none }

/-- the primitive byte -/
def k17 : Class := { plain "byte" none with kind := .primitive 'B', accessFlags := 0x411 }
/-- [B -/
def k18 : Class := { plain "[B" (some 0) with kind := .array 17 .byte, interfaces := #[16, 2], accessFlags := 1041 }

/-- the primitive char -/
def k19 : Class := { plain "char" none with kind := .primitive 'C', accessFlags := 0x411 }
/-- [C -/
def k20 : Class := { plain "[C" (some 0) with kind := .array 19 .char, interfaces := #[16, 2], accessFlags := 1041 }

/-- the primitive int -/
def k21 : Class := { plain "int" none with kind := .primitive 'I', accessFlags := 0x411 }
/-- [I -/
def k22 : Class := { plain "[I" (some 0) with kind := .array 21 .int, interfaces := #[16, 2], accessFlags := 1041 }

def heap : Heap := #[{ cls := 7, slots := #[.long 0, .int 1, .null, .int 0, .null, .int 0, .int 0], vm := .statics 7 },
  { cls := 12, slots := #[.ref 3, .ref 4, .ref 5, .ref 6, .ref 7, .null], vm := .statics 12 },
  { cls := 14, slots := #[.null, .null, .null], vm := .statics 14 },
  { cls := 12, slots := #[.null, .int 0, .int 0], vm := .none },
  { cls := 12, slots := #[.null, .int 1, .int 0], vm := .none },
  { cls := 12, slots := #[.null, .int 2, .int 0], vm := .none },
  { cls := 12, slots := #[.null, .int 3, .int 0], vm := .none },
  { cls := 12, slots := #[.null, .int 4, .int 0], vm := .none }]
def classes : Array Class := #[k0, k1, k2, k3, k4, k5, k6, k7, k8, k9, k10, k11, k12, k13, k14, k15, k16, k17, k18, k19, k20, k21, k22]
def interned : List (Array UInt16 × Addr) := []
def slotsUsed : Nat := 31
def theMethod : MethodId := ⟨1, 1⟩
def args0 : Array Value := #[.long 5, .int 5, .int 5]
def aboutOver (below : List Frame) : State where
  vm := { classes := classes, interned := interned.toArray }
  heap := heap
  slotsUsed := slotsUsed
  threads := #[{ frames := .invoking theMethod args0 :: below }]
def below0 : List Frame := [.native { method := ⟨0, 0⟩, args := #[] }]
def about1 : State := aboutOver below0
def p0 : Program := .bare "" "" ""
def e0 : Env := launch0.env 0 0 0
theorem w_frames : about1.frames = Frame.invoking theMethod args0 :: below0 := rfl
set_option maxRecDepth 65536 in
theorem w_args : argsFit about1.vm theMethod args0 = true := by decide +kernel
set_option maxRecDepth 65536 in
theorem w_heap : heapFits about1 = true := by decide +kernel
set_option maxRecDepth 65536 in
theorem w_runnable : about1.curStatus? = some .runnable := by decide +kernel
set_option maxRecDepth 65536 in
theorem w_alone : about1.alone = true := by decide +kernel
set_option maxRecDepth 65536 in
theorem w_named : about1.methodNamed? x = some theMethod := by decide +kernel
set_option maxRecDepth 65536 in
theorem w_hears : about1.hears theMethod below0 = true := by decide +kernel
set_option maxRecDepth 65536 in
theorem w_ripe : about1.ripe theMethod args0 below0 = true := by decide +kernel
theorem w_running : about1.status = .running := rfl
set_option maxRecDepth 65536 in
theorem w_room : about1.hasRoom e0.platform room_1 = true :=
  launch0.hasRoom_least _ room_1 (by decide +kernel) (by decide +kernel) (by decide +kernel) (by decide +kernel) (by decide +kernel) (by decide +kernel)
theorem allAtoms_all (ts : List Jvm.Cond) (a : Array Jvm.Value) (st : Jvm.State) : (allAtoms ts).before a st = ts.all (fun c => c.before a st) := by
  induction ts with
  | nil => rfl
  | cons c t ih =>
    show (Jvm.Cond.and c (allAtoms t)).before a st = _
    rw [Jvm.Cond.before_and, ih, List.all_cons]
def words1 : List Jvm.Cond := Jvm.Cond.code x code maxLocals ret :: tables_1
/-- a 'code' word, met by the world's own term for the bytes: nothing is compared byte by byte -/
theorem code_word {y : MethodName} {bytes : ByteArray} {mx : Nat} {rt : Option FieldType} {a : Array Value} {s : State} {m : MethodId} {meth : Method} {c : Code} (h1 : s.methodNamed? y = some m) (h2 : s.vm.method? m = some meth) (h3 : meth.code = some c) (h4 : c.code = bytes)
    (h5 : (c.maxLocals == mx && c.exceptionTable.isEmpty && decide (c.maxStack ≤ mostOperands) && decide (meth.sig.returnType = rt) && !meth.locks && decide (parseMethodDescriptor y.desc = some meth.sig)) = true) : (Jvm.Cond.code y bytes mx rt).before a s = true := by
  simp only [Bool.and_eq_true, beq_iff_eq, Bool.not_eq_true', decide_eq_true_eq] at h5
  obtain ⟨⟨⟨⟨⟨g1, g2⟩, g3⟩, g4⟩, g5⟩, g6⟩ := h5
  simp [Cond.before, Cond.holds, Cond.value, h1, h2, h3, h4, g1, g2, g3, g4, g5, g6]
def isCode : Jvm.Cond → Bool
  | .code _ _ _ _ => true
  | _ => false
theorem all_split {L : List Jvm.Cond} {P : Jvm.Cond → Bool} (h1 : L.all (fun c => isCode c || P c) = true) (h2 : ∀ c ∈ L.filter isCode, P c = true) : L.all P = true := by
  refine List.all_eq_true.mpr fun c hc => ?_
  have h := List.all_eq_true.mp h1 c hc
  rcases Bool.eq_false_or_eq_true (isCode c) with hi | hi
  · exact h2 c (List.mem_filter.mpr ⟨hc, hi⟩)
  · simpa [hi] using h
set_option maxRecDepth 65536 in
theorem w_c0 : (Jvm.Cond.code x code maxLocals ret).before args0 about1 = true := code_word (m := ⟨1, 1⟩) (meth := k1m1) (c := k1c1) (by decide +kernel) rfl rfl rfl (by decide +kernel)
set_option maxRecDepth 65536 in
theorem w_c1 : (Jvm.Cond.code ({ cls := "com/example/nitpick/nitpick/internal/interpolation/ExpressionLiteralsStringEndPinLaw", name := "draw", desc := "(J)C" } : Jvm.MethodName) method_3_code (3 : Nat) (Option.some Jvm.ClassFile.FieldType.char)).before args0 about1 = true := code_word (m := ⟨1, 2⟩) (meth := k1m2) (c := k1c2) (by decide +kernel) rfl rfl rfl (by decide +kernel)
set_option maxRecDepth 65536 in
theorem w_c2 : (Jvm.Cond.code ({ cls := "com/example/nitpick/nitpick/internal/interpolation/ExpressionLiteralsStringEndPinLaw", name := "closes", desc := "([CICI)Z" } : Jvm.MethodName) method_4_code (4 : Nat) (Option.some Jvm.ClassFile.FieldType.boolean)).before args0 about1 = true := code_word (m := ⟨1, 3⟩) (meth := k1m3) (c := k1c3) (by decide +kernel) rfl rfl rfl (by decide +kernel)
set_option maxRecDepth 65536 in
theorem w_c3 : (Jvm.Cond.code ({ cls := "java/lang/String", name := "<init>", desc := "([C)V" } : Jvm.MethodName) jdk_42_method_3_code (2 : Nat) (Option.none : Option Jvm.ClassFile.FieldType)).before args0 about1 = true := code_word (m := ⟨7, 1⟩) (meth := k7m1) (c := k7c1) (by decide +kernel) rfl rfl rfl (by decide +kernel)
set_option maxRecDepth 65536 in
theorem w_c4 : (Jvm.Cond.code ({ cls := "java/lang/String", name := "<init>", desc := "([CIILjava/lang/Void;)V" } : Jvm.MethodName) jdk_42_method_149_code (6 : Nat) (Option.none : Option Jvm.ClassFile.FieldType)).before args0 about1 = true := code_word (m := ⟨7, 4⟩) (meth := k7m4) (c := k7c4) (by decide +kernel) rfl rfl rfl (by decide +kernel)
set_option maxRecDepth 65536 in
theorem w_c5 : (Jvm.Cond.code ({ cls := "java/lang/Object", name := "<init>", desc := "()V" } : Jvm.MethodName) object_method_1_code (1 : Nat) (Option.none : Option Jvm.ClassFile.FieldType)).before args0 about1 = true := code_word (m := ⟨0, 0⟩) (meth := k0m0) (c := k0c0) (by decide +kernel) rfl rfl rfl (by decide +kernel)
set_option maxRecDepth 65536 in
theorem w_c6 : (Jvm.Cond.code ({ cls := "java/lang/StringUTF16", name := "compress", desc := "([CII)[B" } : Jvm.MethodName) jdk_52_method_16_code (6 : Nat) (Option.some (Jvm.ClassFile.FieldType.array Jvm.ClassFile.FieldType.byte))).before args0 about1 = true := code_word (m := ⟨8, 2⟩) (meth := k8m2) (c := k8c2) (by decide +kernel) rfl rfl rfl (by decide +kernel)
set_option maxRecDepth 65536 in
theorem w_c7 : (Jvm.Cond.code ({ cls := "java/lang/StringUTF16", name := "compress", desc := "([CI[BII)I" } : Jvm.MethodName) jdk_52_method_21_code (7 : Nat) (Option.some Jvm.ClassFile.FieldType.int)).before args0 about1 = true := code_word (m := ⟨8, 3⟩) (meth := k8m3) (c := k8c3) (by decide +kernel) rfl rfl rfl (by decide +kernel)
set_option maxRecDepth 65536 in
theorem w_c8 : (Jvm.Cond.code ({ cls := "java/lang/StringUTF16", name := "coderFromArrayLen", desc := "([BI)B" } : Jvm.MethodName) jdk_52_method_15_code (2 : Nat) (Option.some Jvm.ClassFile.FieldType.byte)).before args0 about1 = true := code_word (m := ⟨8, 1⟩) (meth := k8m1) (c := k8c1) (by decide +kernel) rfl rfl rfl (by decide +kernel)
set_option maxRecDepth 65536 in
theorem w_c9 : (Jvm.Cond.code ({ cls := "com/example/nitpick/nitpick/internal/interpolation/ExpressionLiterals", name := "stringEnd", desc := "(Ljava/lang/String;I)I" } : Jvm.MethodName) prog_59_method_6_code (4 : Nat) (Option.some Jvm.ClassFile.FieldType.int)).before args0 about1 = true := code_word (m := ⟨10, 0⟩) (meth := k10m0) (c := k10c0) (by decide +kernel) rfl rfl rfl (by decide +kernel)
set_option maxRecDepth 65536 in
theorem w_c10 : (Jvm.Cond.code ({ cls := "java/lang/String", name := "charAt", desc := "(I)C" } : Jvm.MethodName) jdk_42_method_56_code (2 : Nat) (Option.some Jvm.ClassFile.FieldType.char)).before args0 about1 = true := code_word (m := ⟨7, 3⟩) (meth := k7m3) (c := k7c3) (by decide +kernel) rfl rfl rfl (by decide +kernel)
set_option maxRecDepth 65536 in
theorem w_c11 : (Jvm.Cond.code ({ cls := "java/lang/String", name := "isLatin1", desc := "()Z" } : Jvm.MethodName) jdk_42_method_154_code (1 : Nat) (Option.some Jvm.ClassFile.FieldType.boolean)).before args0 about1 = true := code_word (m := ⟨7, 6⟩) (meth := k7m6) (c := k7c6) (by decide +kernel) rfl rfl rfl (by decide +kernel)
set_option maxRecDepth 65536 in
theorem w_c12 : (Jvm.Cond.code ({ cls := "java/lang/StringLatin1", name := "charAt", desc := "([BI)C" } : Jvm.MethodName) jdk_43_method_2_code (2 : Nat) (Option.some Jvm.ClassFile.FieldType.char)).before args0 about1 = true := code_word (m := ⟨13, 1⟩) (meth := k13m1) (c := k13c1) (by decide +kernel) rfl rfl rfl (by decide +kernel)
set_option maxRecDepth 65536 in
theorem w_c13 : (Jvm.Cond.code ({ cls := "java/lang/String", name := "checkIndex", desc := "(II)V" } : Jvm.MethodName) jdk_42_method_155_code (2 : Nat) (Option.none : Option Jvm.ClassFile.FieldType)).before args0 about1 = true := code_word (m := ⟨7, 7⟩) (meth := k7m7) (c := k7c7) (by decide +kernel) rfl rfl rfl (by decide +kernel)
set_option maxRecDepth 65536 in
theorem w_c14 : (Jvm.Cond.code ({ cls := "jdk/internal/util/Preconditions", name := "checkIndex", desc := "(IILjava/util/function/BiFunction;)I" } : Jvm.MethodName) jdk_41_method_11_code (3 : Nat) (Option.some Jvm.ClassFile.FieldType.int)).before args0 about1 = true := code_word (m := ⟨14, 1⟩) (meth := k14m1) (c := k14c1) (by decide +kernel) rfl rfl rfl (by decide +kernel)
set_option maxRecDepth 65536 in
theorem w_c15 : (Jvm.Cond.code ({ cls := "com/example/nitpick/nitpick/internal/interpolation/ExpressionLiterals$Quoting", name := "next", desc := "(C)Lcom/example/nitpick/nitpick/internal/interpolation/ExpressionLiterals$Quoting;" } : Jvm.MethodName) prog_60_method_4_code (2 : Nat) (Option.some (Jvm.ClassFile.FieldType.object "com/example/nitpick/nitpick/internal/interpolation/ExpressionLiterals$Quoting"))).before args0 about1 = true := code_word (m := ⟨12, 0⟩) (meth := k12m0) (c := k12c0) (by decide +kernel) rfl rfl rfl (by decide +kernel)
set_option maxRecDepth 65536 in
theorem w_c16 : (Jvm.Cond.code ({ cls := "java/lang/Enum", name := "ordinal", desc := "()I" } : Jvm.MethodName) jdk_37_method_2_code (1 : Nat) (Option.some Jvm.ClassFile.FieldType.int)).before args0 about1 = true := code_word (m := ⟨11, 0⟩) (meth := k11m0) (c := k11c0) (by decide +kernel) rfl rfl rfl (by decide +kernel)
set_option maxRecDepth 65536 in
theorem w_c17 : (Jvm.Cond.code ({ cls := "java/lang/String", name := "length", desc := "()I" } : Jvm.MethodName) jdk_42_method_54_code (1 : Nat) (Option.some Jvm.ClassFile.FieldType.int)).before args0 about1 = true := code_word (m := ⟨7, 2⟩) (meth := k7m2) (c := k7c2) (by decide +kernel) rfl rfl rfl (by decide +kernel)
set_option maxRecDepth 65536 in
theorem w_c18 : (Jvm.Cond.code ({ cls := "java/lang/String", name := "coder", desc := "()B" } : Jvm.MethodName) jdk_42_method_152_code (1 : Nat) (Option.some Jvm.ClassFile.FieldType.byte)).before args0 about1 = true := code_word (m := ⟨7, 5⟩) (meth := k7m5) (c := k7c5) (by decide +kernel) rfl rfl rfl (by decide +kernel)
set_option maxRecDepth 65536 in
theorem w_c19 : (Jvm.Cond.code ({ cls := "com/example/nitpick/nitpick/internal/interpolation/ExpressionLiteralsStringEndPinLaw", name := "run", desc := "([CII)I" } : Jvm.MethodName) method_5_code (4 : Nat) (Option.some Jvm.ClassFile.FieldType.int)).before args0 about1 = true := code_word (m := ⟨1, 4⟩) (meth := k1m4) (c := k1c4) (by decide +kernel) rfl rfl rfl (by decide +kernel)
def codes1 : List Jvm.Cond := [Jvm.Cond.code x code maxLocals ret, Jvm.Cond.code ({ cls := "com/example/nitpick/nitpick/internal/interpolation/ExpressionLiteralsStringEndPinLaw", name := "draw", desc := "(J)C" } : Jvm.MethodName) method_3_code (3 : Nat) (Option.some Jvm.ClassFile.FieldType.char), Jvm.Cond.code ({ cls := "com/example/nitpick/nitpick/internal/interpolation/ExpressionLiteralsStringEndPinLaw", name := "closes", desc := "([CICI)Z" } : Jvm.MethodName) method_4_code (4 : Nat) (Option.some Jvm.ClassFile.FieldType.boolean), Jvm.Cond.code ({ cls := "java/lang/String", name := "<init>", desc := "([C)V" } : Jvm.MethodName) jdk_42_method_3_code (2 : Nat) (Option.none : Option Jvm.ClassFile.FieldType), Jvm.Cond.code ({ cls := "java/lang/String", name := "<init>", desc := "([CIILjava/lang/Void;)V" } : Jvm.MethodName) jdk_42_method_149_code (6 : Nat) (Option.none : Option Jvm.ClassFile.FieldType), Jvm.Cond.code ({ cls := "java/lang/Object", name := "<init>", desc := "()V" } : Jvm.MethodName) object_method_1_code (1 : Nat) (Option.none : Option Jvm.ClassFile.FieldType), Jvm.Cond.code ({ cls := "java/lang/StringUTF16", name := "compress", desc := "([CII)[B" } : Jvm.MethodName) jdk_52_method_16_code (6 : Nat) (Option.some (Jvm.ClassFile.FieldType.array Jvm.ClassFile.FieldType.byte)), Jvm.Cond.code ({ cls := "java/lang/StringUTF16", name := "compress", desc := "([CI[BII)I" } : Jvm.MethodName) jdk_52_method_21_code (7 : Nat) (Option.some Jvm.ClassFile.FieldType.int), Jvm.Cond.code ({ cls := "java/lang/StringUTF16", name := "coderFromArrayLen", desc := "([BI)B" } : Jvm.MethodName) jdk_52_method_15_code (2 : Nat) (Option.some Jvm.ClassFile.FieldType.byte), Jvm.Cond.code ({ cls := "com/example/nitpick/nitpick/internal/interpolation/ExpressionLiterals", name := "stringEnd", desc := "(Ljava/lang/String;I)I" } : Jvm.MethodName) prog_59_method_6_code (4 : Nat) (Option.some Jvm.ClassFile.FieldType.int), Jvm.Cond.code ({ cls := "java/lang/String", name := "charAt", desc := "(I)C" } : Jvm.MethodName) jdk_42_method_56_code (2 : Nat) (Option.some Jvm.ClassFile.FieldType.char), Jvm.Cond.code ({ cls := "java/lang/String", name := "isLatin1", desc := "()Z" } : Jvm.MethodName) jdk_42_method_154_code (1 : Nat) (Option.some Jvm.ClassFile.FieldType.boolean), Jvm.Cond.code ({ cls := "java/lang/StringLatin1", name := "charAt", desc := "([BI)C" } : Jvm.MethodName) jdk_43_method_2_code (2 : Nat) (Option.some Jvm.ClassFile.FieldType.char), Jvm.Cond.code ({ cls := "java/lang/String", name := "checkIndex", desc := "(II)V" } : Jvm.MethodName) jdk_42_method_155_code (2 : Nat) (Option.none : Option Jvm.ClassFile.FieldType), Jvm.Cond.code ({ cls := "jdk/internal/util/Preconditions", name := "checkIndex", desc := "(IILjava/util/function/BiFunction;)I" } : Jvm.MethodName) jdk_41_method_11_code (3 : Nat) (Option.some Jvm.ClassFile.FieldType.int), Jvm.Cond.code ({ cls := "com/example/nitpick/nitpick/internal/interpolation/ExpressionLiterals$Quoting", name := "next", desc := "(C)Lcom/example/nitpick/nitpick/internal/interpolation/ExpressionLiterals$Quoting;" } : Jvm.MethodName) prog_60_method_4_code (2 : Nat) (Option.some (Jvm.ClassFile.FieldType.object "com/example/nitpick/nitpick/internal/interpolation/ExpressionLiterals$Quoting")), Jvm.Cond.code ({ cls := "java/lang/Enum", name := "ordinal", desc := "()I" } : Jvm.MethodName) jdk_37_method_2_code (1 : Nat) (Option.some Jvm.ClassFile.FieldType.int), Jvm.Cond.code ({ cls := "java/lang/String", name := "length", desc := "()I" } : Jvm.MethodName) jdk_42_method_54_code (1 : Nat) (Option.some Jvm.ClassFile.FieldType.int), Jvm.Cond.code ({ cls := "java/lang/String", name := "coder", desc := "()B" } : Jvm.MethodName) jdk_42_method_152_code (1 : Nat) (Option.some Jvm.ClassFile.FieldType.byte), Jvm.Cond.code ({ cls := "com/example/nitpick/nitpick/internal/interpolation/ExpressionLiteralsStringEndPinLaw", name := "run", desc := "([CII)I" } : Jvm.MethodName) method_5_code (4 : Nat) (Option.some Jvm.ClassFile.FieldType.int)]
set_option maxRecDepth 65536 in
theorem codes_eq : words1.filter isCode = codes1 := rfl
theorem w_codes : ∀ c ∈ words1.filter isCode, c.before args0 about1 = true := by
  rw [codes_eq]
  intro c hc
  simp only [codes1, List.mem_cons, List.not_mem_nil, or_false] at hc
  rcases hc with rfl | rfl | rfl | rfl | rfl | rfl | rfl | rfl | rfl | rfl | rfl | rfl | rfl | rfl | rfl | rfl | rfl | rfl | rfl | rfl
  · exact w_c0
  · exact w_c1
  · exact w_c2
  · exact w_c3
  · exact w_c4
  · exact w_c5
  · exact w_c6
  · exact w_c7
  · exact w_c8
  · exact w_c9
  · exact w_c10
  · exact w_c11
  · exact w_c12
  · exact w_c13
  · exact w_c14
  · exact w_c15
  · exact w_c16
  · exact w_c17
  · exact w_c18
  · exact w_c19
set_option maxRecDepth 65536 in
theorem w_t1 : (words1.take 24).all (fun c => isCode c || c.before args0 about1) = true := by decide +kernel
set_option maxRecDepth 65536 in
theorem w_t2 : ((words1.drop 24).take 24).all (fun c => isCode c || c.before args0 about1) = true := by decide +kernel
set_option maxRecDepth 65536 in
theorem w_t3 : (((words1.drop 24).drop 24).take 24).all (fun c => isCode c || c.before args0 about1) = true := by decide +kernel
set_option maxRecDepth 65536 in
theorem w_t4 : ((((words1.drop 24).drop 24).drop 24).take 24).all (fun c => isCode c || c.before args0 about1) = true := by decide +kernel
set_option maxRecDepth 65536 in
theorem w_t5 : ((((words1.drop 24).drop 24).drop 24).drop 24).all (fun c => isCode c || c.before args0 about1) = true := by decide +kernel
theorem w_tables : (allAtoms (Jvm.Cond.code x code maxLocals ret :: tables_1)).before args0 about1 = true := by
  rw [allAtoms_all]
  show words1.all (fun c => c.before args0 about1) = true
  refine all_split ?_ w_codes
  rw [← List.take_append_drop 24 words1, List.all_append, w_t1, ← List.take_append_drop 24 (words1.drop 24), List.all_append, w_t2, ← List.take_append_drop 24 ((words1.drop 24).drop 24), List.all_append, w_t3, ← List.take_append_drop 24 (((words1.drop 24).drop 24).drop 24), List.all_append, w_t4, w_t5]
  rfl
set_option maxRecDepth 65536 in
theorem w_rest : rest_1_c.before args0 about1 = true := by decide +kernel
set_option maxRecDepth 65536 in
theorem w_case : (Jvm.Cond.and given_1 narrow_1).before args0 about1 = true := by decide +kernel
theorem w_applies : (headSpec (Jvm.Cond.code x code maxLocals ret :: tables_1) room_1).applies x e0.platform about1 = true :=
  (Spec.applies_iff w_frames).mpr ⟨w_running, w_runnable, w_alone, w_named, w_hears, w_ripe, w_room, w_tables⟩
theorem atStart : AtStart classFile x code maxLocals ret World_1 tables_1 room_1 Calls_1 rest_1 Pre_1 launch0 p0 e0 about1 theMethod args0 below0 :=
  ⟨lists_1, trivial, launch0.admits_env _ _ _, launch0.least_env, fairChoices_fair.cas, fairChoices_fair.clock, w_frames, w_args, w_heap, w_applies, trivial, w_rest, w_case⟩
end start1
theorem witness_1 : WitnessClaimed_1 := ⟨start1.p0, start1.e0, start1.about1, start1.theMethod, start1.args0, start1.below0, start1.atStart⟩
end Jvm.Pilot.@@N@@
