import JvmDerived
import JvmDerived.Pilot.@@N@@Statement
import JvmDerived.Pilot.@@N@@Code
set_option linter.unusedVariables false
set_option linter.unusedSimpArgs false
namespace Jvm.RoadKit
open Sem ClassFile Op Lib Jvm.Stand Jvm.Free Jvm.LawKit
section New
variable {p : Program} {l : Launch} {e : Env} {R : Room} {s : State} {m : MethodId} {args : Array Value} {below : List Frame} {meth : Method} {c : Code} {T : State} {locs : List Loc} {cells slots : Nat}
theorem retI (X : Stand p l e R s m args below meth c T locs cells slots) (hx : p.tables.exec = Jvm.exec) {pc : Nat} {Ls : Array Slot} {z : Int32} {rest : List Value} (hret : meth.sig.returnType = some .int) (hd : decode c.code pc = .ok (.ireturn, 1)) {fs : List Frame}
    (hl : ∀ (f : JFrame) (acts : List Action), f.method = m → f.locked = none → f.entered = [] → (doReturn e (T.setTop f) acts (some (.int z))).1 = T.setFrames fs) : Steps p.tables e below (T.setTop (mkF m pc Ls (.int z :: rest))) (T.setFrames fs) := by
  have hm' : T.vm.method? m = some meth := X.method'
  have hn : narrow .int (.int z) = .int z := rfl
  show Steps p.tables e below (T.setTop { method := m, pc := pc, locals := Ls, stack := _ :: rest, locked := none }) _
  jvm_step X.here [X.here.top, hx, hd, hm', hret, hn]
  first | (intro acts; rw [hl _ acts rfl rfl rfl]) | rw [hl _ _ rfl rfl rfl]
  exact Steps.refl _
end New
end Jvm.RoadKit
namespace Jvm.Pilot.@@N@@
set_option maxRecDepth 65536
set_option maxHeartbeats 40000000
open Jvm Jvm.ClassFile Sem Op Lib Jvm.Free Jvm.Stand Jvm.LawKit Jvm.RoadKit Bundle Jvm.Pilot.@@N@@.Jvm.D
section OwnKit
variable {p : Program} {l : Launch} {e : Env} {R : Room} {s : State} {m : MethodId} {args : Array Value} {below : List Frame} {meth : Method} {c : Code} {T : State} {locs : List Loc} {cells slots : Nat} {Z : State} {a0 : Array Value} {h : Heap} {P : Outcome → State → Prop} {pc pc' pc1 pc2 : Nat} {L L' : Array Slot} {S : List Value}
/-- the run from U comes to an end that P holds of -/
def OG (p : Program) (e : Env) (below : List Frame) (P : Outcome → State → Prop) (U : State) : Prop := ∃ s₂ o, Steps p.tables e below U s₂ ∧ s₂.status = .running ∧ Ended s₂ below o ∧ P o s₂
theorem OG.of {U U' : State} (k : ∀ t, Steps p.tables e below U' t → Steps p.tables e below U t) (h : OG p e below P U') : OG p e below P U := by
  obtain ⟨t, o, h1, h2⟩ := h; exact ⟨t, o, k t h1, h2⟩
theorem OG.cast {g g' : JFrame} (q : g = g') (k : OG p e below P (T.setTop g')) : OG p e below P (T.setTop g) := q ▸ k
theorem own_mono (X : Stand p l e R s m args below meth c T locs cells slots) {c' n' : Nat} (h1 : cells ≤ c') (h2 : slots ≤ n') : Stand p l e R s m args below meth c T locs c' n' :=
  ⟨X.admits, X.cas, X.clock, X.frames, X.room, X.hears, X.method, X.code, X.here, X.tail, X.warmed, X.limits, X.bytes, X.same.mono h1 h2⟩
theorem og_isub (X : Stand p l e R s m args below meth c T locs cells slots) (hx : p.tables.exec = Jvm.exec) {x y : Int32} (hd : decode c.code pc = .ok (.isub, 1)) (hp : pc + 1 = pc') (k : OG p e below P (T.setTop (mkF m pc' L (.int (x - y) :: S)))) : OG p e below P (T.setTop (mkF m pc L (.int y :: .int x :: S))) := by
  subst hp; exact OG.of (fun t k => XS.isub X.here hx rfl hd rfl k) k
theorem og_iand (X : Stand p l e R s m args below meth c T locs cells slots) (hx : p.tables.exec = Jvm.exec) {x y : Int32} (hd : decode c.code pc = .ok (.iand, 1)) (hp : pc + 1 = pc') (k : OG p e below P (T.setTop (mkF m pc' L (.int (x &&& y) :: S)))) : OG p e below P (T.setTop (mkF m pc L (.int y :: .int x :: S))) := by
  subst hp; exact OG.of (fun t k => XS.iand X.here hx rfl hd rfl k) k
theorem og_iushr (X : Stand p l e R s m args below meth c T locs cells slots) (hx : p.tables.exec = Jvm.exec) {x y : Int32} (hd : decode c.code pc = .ok (.iushr, 1)) (hp : pc + 1 = pc') (k : OG p e below P (T.setTop (mkF m pc' L (.int ((x.toUInt32 >>> (y &&& 31).toUInt32).toInt32) :: S)))) : OG p e below P (T.setTop (mkF m pc L (.int y :: .int x :: S))) := by
  subst hp; exact OG.of (fun t k => XS.iushr X.here hx rfl hd rfl k) k
theorem og_i2b (X : Stand p l e R s m args below meth c T locs cells slots) (hx : p.tables.exec = Jvm.exec) {x : Int32} (hd : decode c.code pc = .ok (.i2b, 1)) (hp : pc + 1 = pc') (k : OG p e below P (T.setTop (mkF m pc' L (.int (x.toInt8.toInt32) :: S)))) : OG p e below P (T.setTop (mkF m pc L (.int x :: S))) := by
  subst hp; exact OG.of (fun t k => XS.i2b X.here hx rfl hd rfl k) k
theorem og_i2c (X : Stand p l e R s m args below meth c T locs cells slots) (hx : p.tables.exec = Jvm.exec) {x : Int32} (hd : decode c.code pc = .ok (.i2c, 1)) (hp : pc + 1 = pc') (k : OG p e below P (T.setTop (mkF m pc' L (.int (x.toUInt32.toUInt16.toUInt32.toInt32) :: S)))) : OG p e below P (T.setTop (mkF m pc L (.int x :: S))) := by
  subst hp; exact OG.of (fun t k => XS.i2c X.here hx rfl hd rfl k) k
theorem og_iconst (X : Stand p l e R s m args below meth c T locs cells slots) (hx : p.tables.exec = Jvm.exec) {i : Int} {v : Int32} (hv : Int32.ofInt i = v) (hd : decode c.code pc = .ok (.iconst i, 1)) (hp : pc + 1 = pc') (k : OG p e below P (T.setTop (mkF m pc' L (.int v :: S)))) : OG p e below P (T.setTop (mkF m pc L S)) := by
  subst hp; exact OG.of (fun t k => XS.iconst X.here hx rfl hd (hv ▸ k)) k
theorem og_bipush (X : Stand p l e R s m args below meth c T locs cells slots) (hx : p.tables.exec = Jvm.exec) {i : Int} {v : Int32} (hv : (Int8.ofInt i).toInt32 = v) (hd : decode c.code pc = .ok (.bipush i, 2)) (hp : pc + 2 = pc') (k : OG p e below P (T.setTop (mkF m pc' L (.int v :: S)))) : OG p e below P (T.setTop (mkF m pc L S)) := by
  subst hp; exact OG.of (fun t k => XS.bipush X.here hx rfl hd (hv ▸ k)) k
theorem og_sipush (X : Stand p l e R s m args below meth c T locs cells slots) (hx : p.tables.exec = Jvm.exec) {i : Int} {v : Int32} (hv : (Int16.ofInt i).toInt32 = v) (hd : decode c.code pc = .ok (.sipush i, 3)) (hp : pc + 3 = pc') (k : OG p e below P (T.setTop (mkF m pc' L (.int v :: S)))) : OG p e below P (T.setTop (mkF m pc L S)) := by
  subst hp; exact OG.of (fun t k => XS.sipush X.here hx rfl hd (hv ▸ k)) k
theorem og_aconst_null (X : Stand p l e R s m args below meth c T locs cells slots) (hx : p.tables.exec = Jvm.exec)  (hd : decode c.code pc = .ok (.aconst_null, 1)) (hp : pc + 1 = pc') (k : OG p e below P (T.setTop (mkF m pc' L (.null :: S)))) : OG p e below P (T.setTop (mkF m pc L S)) := by
  subst hp; exact OG.of (fun t k => XS.aconstNull X.here hx rfl hd k) k
theorem og_iload (X : Stand p l e R s m args below meth c T locs cells slots) (hx : p.tables.exec = Jvm.exec) {j : Nat} {v : Int32} (hl : L[j]? = some (.val (.int v))) (hd : decode c.code pc = .ok (.iload j, 2)) (hp : pc + 2 = pc') (k : OG p e below P (T.setTop (mkF m pc' L (.int v :: S)))) : OG p e below P (T.setTop (mkF m pc L S)) := by
  subst hp; exact OG.of (fun t k => XS.iload X.here hx rfl hd hl k) k
theorem og_iloadN (X : Stand p l e R s m args below meth c T locs cells slots) (hx : p.tables.exec = Jvm.exec) {j : Fin 4} {v : Int32} (hl : L[j.val]? = some (.val (.int v))) (hd : decode c.code pc = .ok (.iload_n j, 1)) (hp : pc + 1 = pc') (k : OG p e below P (T.setTop (mkF m pc' L (.int v :: S)))) : OG p e below P (T.setTop (mkF m pc L S)) := by
  subst hp; exact OG.of (fun t k => XS.iloadN X.here hx rfl hd hl k) k
theorem og_istore (X : Stand p l e R s m args below meth c T locs cells slots) (hx : p.tables.exec = Jvm.exec) {j : Nat} {v : Int32} (hl : storeLocals L j (.int v) = some L') (hd : decode c.code pc = .ok (.istore j, 2)) (hp : pc + 2 = pc') (k : OG p e below P (T.setTop (mkF m pc' L' S))) : OG p e below P (T.setTop (mkF m pc L (.int v :: S))) := by
  subst hp; exact OG.of (fun t k => XS.istore X.here hx rfl hd rfl hl k) k
theorem og_istoreN (X : Stand p l e R s m args below meth c T locs cells slots) (hx : p.tables.exec = Jvm.exec) {j : Fin 4} {v : Int32} (hl : storeLocals L j.val (.int v) = some L') (hd : decode c.code pc = .ok (.istore_n j, 1)) (hp : pc + 1 = pc') (k : OG p e below P (T.setTop (mkF m pc' L' S))) : OG p e below P (T.setTop (mkF m pc L (.int v :: S))) := by
  subst hp; exact OG.of (fun t k => XS.istoreN X.here hx rfl hd rfl hl k) k
theorem og_aload (X : Stand p l e R s m args below meth c T locs cells slots) (hx : p.tables.exec = Jvm.exec) {j : Nat} {v : Value} (hl : L[j]? = some (.val v)) (hv : v.isRef = true) (hd : decode c.code pc = .ok (.aload j, 2)) (hp : pc + 2 = pc') (k : OG p e below P (T.setTop (mkF m pc' L (v :: S)))) : OG p e below P (T.setTop (mkF m pc L S)) := by
  subst hp; exact OG.of (fun t k => XS.aload X.here hx rfl hd hl hv k) k
theorem og_aloadN (X : Stand p l e R s m args below meth c T locs cells slots) (hx : p.tables.exec = Jvm.exec) {j : Fin 4} {v : Value} (hl : L[j.val]? = some (.val v)) (hv : v.isRef = true) (hd : decode c.code pc = .ok (.aload_n j, 1)) (hp : pc + 1 = pc') (k : OG p e below P (T.setTop (mkF m pc' L (v :: S)))) : OG p e below P (T.setTop (mkF m pc L S)) := by
  subst hp; exact OG.of (fun t k => XS.aloadN X.here hx rfl hd hl hv k) k
theorem og_astore (X : Stand p l e R s m args below meth c T locs cells slots) (hx : p.tables.exec = Jvm.exec) {j : Nat} {v : Value} (hv : v.isRef = true) (hl : storeLocals L j v = some L') (hd : decode c.code pc = .ok (.astore j, 2)) (hp : pc + 2 = pc') (k : OG p e below P (T.setTop (mkF m pc' L' S))) : OG p e below P (T.setTop (mkF m pc L (v :: S))) := by
  subst hp; exact OG.of (fun t k => XS.astore X.here hx rfl hd rfl hv hl k) k
theorem og_astoreN (X : Stand p l e R s m args below meth c T locs cells slots) (hx : p.tables.exec = Jvm.exec) {j : Fin 4} {v : Value} (hv : v.isRef = true) (hl : storeLocals L j.val v = some L') (hd : decode c.code pc = .ok (.astore_n j, 1)) (hp : pc + 1 = pc') (k : OG p e below P (T.setTop (mkF m pc' L' S))) : OG p e below P (T.setTop (mkF m pc L (v :: S))) := by
  subst hp; exact OG.of (fun t k => XS.astoreN X.here hx rfl hd rfl hv hl k) k
theorem og_iinc (X : Stand p l e R s m args below meth c T locs cells slots) (hx : p.tables.exec = Jvm.exec) {j : Nat} {i : Int} {v w : Int32} (h1 : L[j]? = some (.val (.int v))) (hv : Int32.ofInt i = w) (hl : storeLocals L j (.int (v + w)) = some L') (hd : decode c.code pc = .ok (.iinc j i, 3)) (hp : pc + 3 = pc') (k : OG p e below P (T.setTop (mkF m pc' L' S))) : OG p e below P (T.setTop (mkF m pc L S)) := by
  subst hp; exact OG.of (fun t k => XS.iinc X.here hx rfl hd h1 (hv.symm ▸ hl) k) k
theorem og_dup (X : Stand p l e R s m args below meth c T locs cells slots) (hx : p.tables.exec = Jvm.exec) {v : Value} (hv : v.category = 1) (hd : decode c.code pc = .ok (.dup, 1)) (hp : pc + 1 = pc') (k : OG p e below P (T.setTop (mkF m pc' L (v :: v :: S)))) : OG p e below P (T.setTop (mkF m pc L (v :: S))) := by
  subst hp; exact OG.of (fun t k => XS.dup X.here hx rfl hd rfl hv k) k
theorem og_goto (X : Stand p l e R s m args below meth c T locs cells slots) (hx : p.tables.exec = Jvm.exec) {o : Int} (hd : decode c.code pc = .ok (.goto o, 3)) (ho : 0 ≤ (pc : Int) + o) (hp : ((pc : Int) + o).toNat = pc') (k : OG p e below P (T.setTop (mkF m pc' L S))) : OG p e below P (T.setTop (mkF m pc L S)) :=
  OG.of (fun t k => XS.goto X.here hx rfl rfl hd ho hp k) k
theorem og_icmp_ge (X : Stand p l e R s m args below meth c T locs cells slots) (hx : p.tables.exec = Jvm.exec) {x y : Int32} {o : Int} (hd : decode c.code pc = .ok (.if_icmp .ge o, 3)) (ho : 0 ≤ (pc : Int) + o) (hp1 : ((pc : Int) + o).toNat = pc1) (hp2 : pc + 3 = pc2) (k1 : ¬ x < y → OG p e below P (T.setTop (mkF m pc1 L S))) (k2 : x < y → OG p e below P (T.setTop (mkF m pc2 L S))) : OG p e below P (T.setTop (mkF m pc L (.int y :: .int x :: S))) := by
  subst hp2; by_cases q : x < y
  · exact OG.of (fun t k => XS.icmpNo X.here hx rfl hd rfl ((tlt q).2.1) k) (k2 q)
  · exact OG.of (fun t k => XS.icmpYes X.here hx rfl rfl hd rfl ((flt q).2.1) ho hp1 k) (k1 q)
theorem og_icmp_gt (X : Stand p l e R s m args below meth c T locs cells slots) (hx : p.tables.exec = Jvm.exec) {x y : Int32} {o : Int} (hd : decode c.code pc = .ok (.if_icmp .gt o, 3)) (ho : 0 ≤ (pc : Int) + o) (hp1 : ((pc : Int) + o).toNat = pc1) (hp2 : pc + 3 = pc2) (k1 : y < x → OG p e below P (T.setTop (mkF m pc1 L S))) (k2 : ¬ y < x → OG p e below P (T.setTop (mkF m pc2 L S))) : OG p e below P (T.setTop (mkF m pc L (.int y :: .int x :: S))) := by
  subst hp2; by_cases q : y < x
  · exact OG.of (fun t k => XS.icmpYes X.here hx rfl rfl hd rfl ((tlt q).2.2.1) ho hp1 k) (k1 q)
  · exact OG.of (fun t k => XS.icmpNo X.here hx rfl hd rfl ((flt q).2.2.1) k) (k2 q)
theorem og_icmp_le (X : Stand p l e R s m args below meth c T locs cells slots) (hx : p.tables.exec = Jvm.exec) {x y : Int32} {o : Int} (hd : decode c.code pc = .ok (.if_icmp .le o, 3)) (ho : 0 ≤ (pc : Int) + o) (hp1 : ((pc : Int) + o).toNat = pc1) (hp2 : pc + 3 = pc2) (k1 : ¬ y < x → OG p e below P (T.setTop (mkF m pc1 L S))) (k2 : y < x → OG p e below P (T.setTop (mkF m pc2 L S))) : OG p e below P (T.setTop (mkF m pc L (.int y :: .int x :: S))) := by
  subst hp2; by_cases q : y < x
  · exact OG.of (fun t k => XS.icmpNo X.here hx rfl hd rfl ((tlt q).2.2.2) k) (k2 q)
  · exact OG.of (fun t k => XS.icmpYes X.here hx rfl rfl hd rfl ((flt q).2.2.2) ho hp1 k) (k1 q)
theorem og_icmp_eq (X : Stand p l e R s m args below meth c T locs cells slots) (hx : p.tables.exec = Jvm.exec) {x y : Int32} {o : Int} (hd : decode c.code pc = .ok (.if_icmp .eq o, 3)) (ho : 0 ≤ (pc : Int) + o) (hp1 : ((pc : Int) + o).toNat = pc1) (hp2 : pc + 3 = pc2) (k1 : x = y → OG p e below P (T.setTop (mkF m pc1 L S))) (k2 : ¬ x = y → OG p e below P (T.setTop (mkF m pc2 L S))) : OG p e below P (T.setTop (mkF m pc L (.int y :: .int x :: S))) := by
  subst hp2; by_cases q : x = y
  · exact OG.of (fun t k => XS.icmpYes X.here hx rfl rfl hd rfl ((teq q).1) ho hp1 k) (k1 q)
  · exact OG.of (fun t k => XS.icmpNo X.here hx rfl hd rfl ((feq q).1) k) (k2 q)
theorem og_if_eq (X : Stand p l e R s m args below meth c T locs cells slots) (hx : p.tables.exec = Jvm.exec) {x : Int32} {o : Int} (hd : decode c.code pc = .ok (.ifCond .eq o, 3)) (ho : 0 ≤ (pc : Int) + o) (hp1 : ((pc : Int) + o).toNat = pc1) (hp2 : pc + 3 = pc2) (k1 : x = (0 : Int32) → OG p e below P (T.setTop (mkF m pc1 L S))) (k2 : ¬ x = (0 : Int32) → OG p e below P (T.setTop (mkF m pc2 L S))) : OG p e below P (T.setTop (mkF m pc L (.int x :: S))) := by
  subst hp2; by_cases q : x = (0 : Int32)
  · exact OG.of (fun t k => XS.ifYes X.here hx rfl rfl hd rfl ((if0 _ _).trans (teq q).1) ho hp1 k) (k1 q)
  · exact OG.of (fun t k => XS.ifNo X.here hx rfl hd rfl ((if0 _ _).trans (feq q).1) k) (k2 q)
theorem og_icmp_ne (X : Stand p l e R s m args below meth c T locs cells slots) (hx : p.tables.exec = Jvm.exec) {x y : Int32} {o : Int} (hd : decode c.code pc = .ok (.if_icmp .ne o, 3)) (ho : 0 ≤ (pc : Int) + o) (hp1 : ((pc : Int) + o).toNat = pc1) (hp2 : pc + 3 = pc2) (k1 : ¬ x = y → OG p e below P (T.setTop (mkF m pc1 L S))) (k2 : x = y → OG p e below P (T.setTop (mkF m pc2 L S))) : OG p e below P (T.setTop (mkF m pc L (.int y :: .int x :: S))) := by
  subst hp2; by_cases q : x = y
  · exact OG.of (fun t k => XS.icmpNo X.here hx rfl hd rfl ((teq q).2) k) (k2 q)
  · exact OG.of (fun t k => XS.icmpYes X.here hx rfl rfl hd rfl ((feq q).2) ho hp1 k) (k1 q)
theorem og_if_ne (X : Stand p l e R s m args below meth c T locs cells slots) (hx : p.tables.exec = Jvm.exec) {x : Int32} {o : Int} (hd : decode c.code pc = .ok (.ifCond .ne o, 3)) (ho : 0 ≤ (pc : Int) + o) (hp1 : ((pc : Int) + o).toNat = pc1) (hp2 : pc + 3 = pc2) (k1 : ¬ x = (0 : Int32) → OG p e below P (T.setTop (mkF m pc1 L S))) (k2 : x = (0 : Int32) → OG p e below P (T.setTop (mkF m pc2 L S))) : OG p e below P (T.setTop (mkF m pc L (.int x :: S))) := by
  subst hp2; by_cases q : x = (0 : Int32)
  · exact OG.of (fun t k => XS.ifNo X.here hx rfl hd rfl ((if0 _ _).trans (teq q).2) k) (k2 q)
  · exact OG.of (fun t k => XS.ifYes X.here hx rfl rfl hd rfl ((if0 _ _).trans (feq q).2) ho hp1 k) (k1 q)
theorem og_ifnonnull (X : Stand p l e R s m args below meth c T locs cells slots) (hx : p.tables.exec = Jvm.exec) {v : Value} (hv : v.isRef = true) {o : Int} (hd : decode c.code pc = .ok (.ifnonnull o, 3)) (ho : 0 ≤ (pc : Int) + o) (hp1 : ((pc : Int) + o).toNat = pc1) (hp2 : pc + 3 = pc2) (k1 : v ≠ .null → OG p e below P (T.setTop (mkF m pc1 L S))) (k2 : v = .null → OG p e below P (T.setTop (mkF m pc2 L S))) : OG p e below P (T.setTop (mkF m pc L (v :: S))) := by
  subst hp2; rcases ref_cases hv with rfl | ⟨b, rfl⟩
  · exact OG.of (fun t k => XS.ifnonnullNo X.here hx rfl hd rfl k) (k2 rfl)
  · exact OG.of (fun t k => XS.ifnonnullYes X.here hx rfl rfl hd rfl ho hp1 k) (k1 nofun)
theorem og_acmp_ne (X : Stand p l e R s m args below meth c T locs cells slots) (hx : p.tables.exec = Jvm.exec) {v w : Value} (hv : v.isRef = true) (hw : w.isRef = true) {o : Int} (hd : decode c.code pc = .ok (.if_acmp .ne o, 3)) (ho : 0 ≤ (pc : Int) + o) (hp1 : ((pc : Int) + o).toNat = pc1) (hp2 : pc + 3 = pc2) (k1 : ¬ v = w → OG p e below P (T.setTop (mkF m pc1 L S))) (k2 : v = w → OG p e below P (T.setTop (mkF m pc2 L S))) : OG p e below P (T.setTop (mkF m pc L (w :: v :: S))) := by
  subst hp2 hp1; by_cases q : v = w
  · exact OG.of (fun t k => Jvm.RoadKit.acmp X hx rfl hv hw (same := true) rfl hd rfl (decide_eq_true q) ho rfl k) (k2 q)
  · exact OG.of (fun t k => Jvm.RoadKit.acmp X hx rfl hv hw (same := false) rfl hd rfl (decide_eq_false q) ho rfl k) (k1 q)
theorem og_ldcF (X : Stand p l e R s m args below meth c T locs cells slots) (hx : p.tables.exec = Jvm.exec) (hZ : Z.Warmed39 s.vm) {own : String} {index : Nat} {v : UInt32} (hown : s.vm.findClass own = some m.cls) (w : (Cond.constantFloat own index v).before a0 Z = true) (hd : decode c.code pc = .ok (.ldc index, 2)) (hp : pc + 2 = pc') (k : OG p e below P (T.setTop (mkF m pc' L (.float v :: S)))) : OG p e below P (T.setTop (mkF m pc L S)) := by
  subst hp; exact OG.of (X.ldcFloatC hx hown (mvT hZ w) (g := mkF m pc L S) rfl hd) k
theorem og_getstatic (X : Stand p l e R s m args below meth c T locs cells slots) (hx : p.tables.exec = Jvm.exec) (hZ : Z.Warmed39 s.vm) {own R0 O n d host : String} {index : Nat} (hown : s.vm.findClass own = some m.cls) (w : (Cond.fieldLink own index R0 n d).before a0 Z = true ∨ (Cond.fieldLinkNest own index R0 n d host).before a0 Z = true) (via : Via Z R0 O n d) (eT : T.heap = h) {v : Value} (F : Sta Z h O n d v) (hd : decode c.code pc = .ok (.getstatic index, 3)) (hp : pc + 3 = pc') (k : ∀ T', Stand p l e R s m args below meth c T' locs cells slots → T'.heap = h → OG p e below P (T'.setTop (mkF m pc' L (v :: S)))) : OG p e below P (T.setTop (mkF m pc L S)) := by
  subst hp; obtain ⟨T', X', e', st⟩ := getS2 X hx hZ hown w via eT F (g := mkF m pc L S) rfl hd
  exact OG.of st (k T' X' e')
theorem og_getfield (X : Stand p l e R s m args below meth c T locs cells slots) (hx : p.tables.exec = Jvm.exec) (hZ : Z.Warmed39 s.vm) {own R0 O n d host : String} {index : Nat} (hown : s.vm.findClass own = some m.cls) (w : (Cond.fieldLink own index R0 n d).before a0 Z = true ∨ (Cond.fieldLinkNest own index R0 n d host).before a0 Z = true) (via : Via Z R0 O n d) (eT : T.heap = h) {a : Addr} {v : Value} (F : Fld Z h a O n d v) (hd : decode c.code pc = .ok (.getfield index, 3)) (hp : pc + 3 = pc') (k : ∀ T', Stand p l e R s m args below meth c T' locs cells slots → T'.heap = h → OG p e below P (T'.setTop (mkF m pc' L (v :: S)))) : OG p e below P (T.setTop (mkF m pc L (.ref a :: S))) := by
  subst hp; obtain ⟨T', X', e', st⟩ := getF X hx hZ hown w via eT F (g := mkF m pc L (.ref a :: S)) rfl rfl hd
  exact OG.of st (k T' X' e')
theorem og_putfield (X : Stand p l e R s m args below meth c T locs cells slots) (hx : p.tables.exec = Jvm.exec) (hZ : Z.Warmed39 s.vm) {C : String} {kk : Nat} {ty : FieldType} {own R0 O n d host : String} {index : Nat} (hown : s.vm.findClass own = some m.cls) (w : (Cond.fieldLink own index R0 n d).before a0 Z = true ∨ (Cond.fieldLinkNest own index R0 n d host).before a0 Z = true) (via : Via Z R0 O n d) (eT : T.heap = h) {a : Addr} {v old : Value} (F : Fld Z h a O n d old) (E : Exa Z h a C) (Ly : (Cond.lays C O n d).before a0 Z = true ∨ ((Cond.laysFinal C O n d).before a0 Z = true ∧ own = O ∧ meth.name = "<init>")) (wi : (Cond.instantiable C kk).before a0 Z = true) (hty : parseFieldDescriptor d = some ty) (hn : narrow ty v = v) (hf : fits ty v = true) (hd : decode c.code pc = .ok (.putfield index, 3)) (hp : pc + 3 = pc') (k : ∀ T' h', Stand p l e R s m args below meth c T' (locs ++ [⟨a, Jvm.RoadKit.slotOf Z O n d⟩]) cells slots → T'.heap = h' → Wr h h' a (Jvm.RoadKit.slotOf Z O n d) v → OG p e below P (T'.setTop (mkF m pc' L S))) : OG p e below P (T.setTop (mkF m pc L (v :: .ref a :: S))) := by
  subst hp; obtain ⟨T', h', X', e', W', st⟩ := putF X hx hZ hown w via eT F E Ly wi hty hn hf (g := mkF m pc L (v :: .ref a :: S)) rfl rfl hd
  exact OG.of st (k T' h' X' e' W')
theorem og_new (X : Stand p l e R s m args below meth c T locs cells slots) (hx : p.tables.exec = Jvm.exec) (hZ : Z.Warmed39 s.vm) {own C : String} {index n : Nat} {cells' slots' : Nat} (hown : s.vm.findClass own = some m.cls) (w : (Cond.classLink own index C).before a0 Z = true) (wi : (Cond.instantiable C n).before a0 Z = true) (wz : (Cond.initialized C).before a0 Z = true) (eT : T.heap = h) (hd : decode c.code pc = .ok (.new index, 3)) (hp : pc + 3 = pc') (hc' : cells + 1 = cells') (hs' : slots + n = slots') (hc : cells' ≤ R.cells) (hl : slots' ≤ R.slots) (k : ∀ T' h' a, Stand p l e R s m args below meth c T' locs cells' slots' → T'.heap = h' → Ext h h' → a = h.size → Exa Z h' a C → (∀ {O nm d : String} {ty : FieldType}, Laid Z a0 C O nm d → parseFieldDescriptor d = some ty → Fld Z h' a O nm d (defaultValue ty)) → (∃ cell : Cell, h'[a]? = some cell ∧ cell.vm = .none ∧ cell.monitor = {}) → OG p e below P (T'.setTop (mkF m pc' L (.ref a :: S)))) : OG p e below P (T.setTop (mkF m pc L S)) := by
  subst hp hc' hs'; obtain ⟨T', h', X', e', E', A', D', B', st⟩ := newO X hx hZ hown w wi wz eT (g := mkF m pc L S) rfl hd hc hl
  exact OG.of st (k T' h' _ X' e' E' rfl A' D' B')
theorem og_newarray (X : Stand p l e R s m args below meth c T locs cells slots) (hx : p.tables.exec = Jvm.exec) (hZ : Z.Warmed39 s.vm) {aty : ArrayType} {ty : FieldType} {cells' slots' : Nat} (hty : newarray.typeOf aty = ty) (w : (Cond.arrayClass ty).before a0 Z = true) (eT : T.heap = h) {n : Int32} (hn : ¬ n < 0) {cap : Nat} (hcap : n.toNatClampNeg ≤ cap) (hb : cap * 8 ≤ 536870912) (hd : decode c.code pc = .ok (.newarray aty, 2)) (hp : pc + 2 = pc') (hc' : cells + 1 = cells') (hs' : slots + cap = slots') (hc : cells' ≤ R.cells) (hl : slots' ≤ R.slots) (k : ∀ T' h' a kA, Stand p l e R s m args below meth c T' locs cells' slots' → T'.heap = h' → Ext h h' → a = h.size → Arv Z h' a kA ty n [] (defaultValue ty) → OG p e below P (T'.setTop (mkF m pc' L (.ref a :: S)))) : OG p e below P (T.setTop (mkF m pc L (.int n :: S))) := by
  subst hp hc' hs' hty; obtain ⟨T', h', kA, X', e', E', A', st⟩ := newP X hx hZ w eT (g := mkF m pc L (.int n :: S)) rfl hd rfl hn hcap hb hc hl
  exact OG.of st (k T' h' _ kA X' e' E' rfl (Arv.new A' hn))
theorem og_castore (X : Stand p l e R s m args below meth c T locs cells slots) (hx : p.tables.exec = Jvm.exec) (hZ : Z.Warmed39 s.vm) (eT : T.heap = h) {a : Addr} {kA : ClassId} {j x z : Int32} {vs : List Value} {dv : Value} (F : Arv Z h a kA .char z vs dv) (q : ¬ j < 0 ∧ j < z) (i : Nat) (hj : j.toNatClampNeg = i) (hi : i < vs.length) (hd : decode c.code pc = .ok (.castore, 1)) (hp : pc + 1 = pc') (k : ∀ T' h', Stand p l e R s m args below meth c T' (locs ++ [⟨a, j.toNatClampNeg⟩]) cells slots → T'.heap = h' → Wr h h' a j.toNatClampNeg (.int (nar .char x)) → Arv Z h' a kA .char z (vs.set i (.int (nar .char x))) dv → OG p e below P (T'.setTop (mkF m pc' L S))) : OG p e below P (T.setTop (mkF m pc L (.int x :: .int j :: .ref a :: S))) := by
  subst hp; obtain ⟨cl, A, q1, S1, q3, H, G⟩ := F
  obtain ⟨T', h', X', e', W', st⟩ := stC X hx hZ eT A (j := j) (inb_of S1 q) (g := mkF m pc L (.int x :: .int j :: .ref a :: S)) rfl rfl hd
  exact OG.of st (k T' h' X' e' W' (Arv.set A q1 S1 q3 H G (fits_nar_char _) W' i hj hi))
theorem og_bastore (X : Stand p l e R s m args below meth c T locs cells slots) (hx : p.tables.exec = Jvm.exec) (hZ : Z.Warmed39 s.vm) (eT : T.heap = h) {a : Addr} {kA : ClassId} {j x z : Int32} {vs : List Value} {dv : Value} (F : Arv Z h a kA .byte z vs dv) (q : ¬ j < 0 ∧ j < z) (i : Nat) (hj : j.toNatClampNeg = i) (hi : i < vs.length) (hd : decode c.code pc = .ok (.bastore, 1)) (hp : pc + 1 = pc') (k : ∀ T' h', Stand p l e R s m args below meth c T' (locs ++ [⟨a, j.toNatClampNeg⟩]) cells slots → T'.heap = h' → Wr h h' a j.toNatClampNeg (.int (nar .byte x)) → Arv Z h' a kA .byte z (vs.set i (.int (nar .byte x))) dv → OG p e below P (T'.setTop (mkF m pc' L S))) : OG p e below P (T.setTop (mkF m pc L (.int x :: .int j :: .ref a :: S))) := by
  subst hp; obtain ⟨cl, A, q1, S1, q3, H, G⟩ := F
  obtain ⟨T', h', X', e', W', st⟩ := stB X hx hZ eT A (j := j) (inb_of S1 q) (g := mkF m pc L (.int x :: .int j :: .ref a :: S)) rfl rfl hd
  exact OG.of st (k T' h' X' e' W' (Arv.set A q1 S1 q3 H G (fits_nar_byte _) W' i hj hi))
theorem og_caload (X : Stand p l e R s m args below meth c T locs cells slots) (hx : p.tables.exec = Jvm.exec) (hZ : Z.Warmed39 s.vm) (eT : T.heap = h) {a : Addr} {kA : ClassId} {j z : Int32} {vs : List Value} {dv v : Value} (F : Arv Z h a kA .char z vs dv) (q : ¬ j < 0 ∧ j < z) (hv : vs.getD j.toNatClampNeg dv = v) (hd : decode c.code pc = .ok (.caload, 1)) (hp : pc + 1 = pc') (k : OG p e below P (T.setTop (mkF m pc' L (v :: S)))) : OG p e below P (T.setTop (mkF m pc L (.int j :: .ref a :: S))) := by
  subst hp; obtain ⟨cl, A, q1, S1, q3, H, G⟩ := F
  exact OG.of (fun t k => X.caload hx (j := j) (v := v) (by rw [eT]; exact A.1) (State.isArrayOf_alike hZ.alike A.2.1) A.2.2 (inb_of S1 q) (H.at (inb_of S1 q) hv) (g := mkF m pc L (.int j :: .ref a :: S)) rfl rfl hd t k) k
theorem og_baload (X : Stand p l e R s m args below meth c T locs cells slots) (hx : p.tables.exec = Jvm.exec) (hZ : Z.Warmed39 s.vm) (eT : T.heap = h) {a : Addr} {kA : ClassId} {j z : Int32} {vs : List Value} {dv v : Value} (F : Arv Z h a kA .byte z vs dv) (q : ¬ j < 0 ∧ j < z) (hv : vs.getD j.toNatClampNeg dv = v) (hd : decode c.code pc = .ok (.baload, 1)) (hp : pc + 1 = pc') (k : OG p e below P (T.setTop (mkF m pc' L (v :: S)))) : OG p e below P (T.setTop (mkF m pc L (.int j :: .ref a :: S))) := by
  subst hp; obtain ⟨cl, A, q1, S1, q3, H, G⟩ := F
  exact OG.of (fun t k => X.baloadBytes hx (j := j) (v := v) (by rw [eT]; exact A.1) (State.isArrayOf_alike hZ.alike A.2.1) A.2.2 (inb_of S1 q) (H.at (inb_of S1 q) hv) (g := mkF m pc L (.int j :: .ref a :: S)) rfl rfl hd t k) k
theorem og_arraylength (X : Stand p l e R s m args below meth c T locs cells slots) (hx : p.tables.exec = Jvm.exec) (hZ : Z.Warmed39 s.vm) (eT : T.heap = h) {a : Addr} {kA : ClassId} {z : Int32} {vs : List Value} {dv : Value} {ty : FieldType} (F : Arv Z h a kA ty z vs dv) (hd : decode c.code pc = .ok (.arraylength, 1)) (hp : pc + 1 = pc') (k : OG p e below P (T.setTop (mkF m pc' L (.int z :: S)))) : OG p e below P (T.setTop (mkF m pc L (.ref a :: S))) := by
  subst hp; obtain ⟨cl, A, q1, S1, q3, H, G⟩ := F
  refine OG.of (fun t k => X.arraylength hx (by rw [eT]; exact A.1) (State.isArrayOf_alike hZ.alike A.2.1) (g := mkF m pc L (.ref a :: S)) rfl rfl hd t k) ?_
  rw [len_of S1 q3]; exact k
theorem og_initO (X : Stand p l e R s m args below meth c T locs cells slots) (hx : p.tables.exec = Jvm.exec) (hZ : Z.Warmed39 s.vm) {own : String} {idx : Nat} (hml : L.size = c.maxLocals) (hown : s.vm.findClass own = some m.cls) (w1 : (Cond.methodLink own idx Lib.objectInit).before a0 Z = true) (w2 : (Cond.instanceMethod Lib.objectInit).before a0 Z = true) (w3 : (Cond.code Lib.objectInit ⟨#[0xb1]⟩ 1 none).before a0 Z = true) (eT : T.heap = h) {a : Addr} {W : Nat} (hW : (S.map fun v => v.category).sum = W) (hf : 1 ≤ R.frames) (hl : W + 12 ≤ R.locals) (hd : decode c.code pc = .ok (.invokespecial idx, 3)) (hp : pc + 3 = pc') (k : ∀ T', Stand p l e R s m args below meth c T' locs cells slots → T'.heap = h → OG p e below P (T'.setTop (mkF m pc' L S))) : OG p e below P (T.setTop (mkF m pc L (.ref a :: S))) := by
  subst hp; obtain ⟨T', X', e', st⟩ := initO X hx hZ hown w1 w2 w3 eT (g := mkF m pc L (.ref a :: S)) rfl hml rfl hd hf (W := W) (by show 2 * 0 + _ ≤ _; rw [hW]; omega) hl
  exact OG.of st (k T' X' e')
def Con (l : Launch) (Z : State) (y : MethodName) (bytes : ByteArray) (maxL : Nat) (ret : Option FieldType) (rm : Room) (as' : Array Value) (h : Heap) (Q : Option Value → Heap → List Loc → Prop) : Prop :=
  MetFree l y (head1 [Cond.code y bytes maxL ret] rm) (fun a U => a = as' ∧ Z.Warmed39 U.vm ∧ U.heap = h) (fun _ _ _ _ _ => True) (fun _ U o U' => ∃ v L, o = .returned v ∧ Q v U'.heap L ∧ FrameEnd U o U' L rm.cells rm.slots)
abbrev OFin (s : State) (Q : Option Value → Heap → List Loc → Prop) (k n : Nat) (o : Outcome) (t : State) : Prop := ∃ v L, o = .returned v ∧ Q v t.heap L ∧ FrameEnd s o t L k n
theorem own_start {y : MethodName} {bytes : ByteArray} {maxL : Nat} {ret : Option FieldType} {rm : Room} {as' : Array Value} {ws : List Cond} {Q : Option Value → Heap → List Loc → Prop} {kc ks : Nat} (hpn : plainFor y = true)
    (body : ∀ (p : Program) (e : Env) (s : State) (m : MethodId) (below : List Frame) (meth : Method) (c : Code) (T : State), Stand p l e rm s m as' below meth c T [] 0 0 → p.tables.exec = Jvm.exec → c.code = bytes → c.maxLocals = maxL → Z.Warmed39 s.vm → s.vm.findClass y.cls = some m.cls → meth.name = y.name → meth.sig.returnType = ret → meth.locks = false → T.heap = h → OG p e below (OFin s Q kc ks) (T.setTop (entryFrame m as' maxL))) :
    MetFree l y (head1 (Cond.code y bytes maxL ret :: ws) rm) (fun a U => a = as' ∧ Z.Warmed39 U.vm ∧ U.heap = h) (fun _ _ _ _ _ => True) (fun _ U o U' => ∃ v L, o = .returned v ∧ Q v U'.heap L ∧ FrameEnd U o U' L kc ks) := by
  refine MetFree.of_bodySF hpn hisR ?_
  intro p e s m args below meth c s₁ Bd hml0 hP hK
  obtain ⟨rfl, hZ, hh⟩ := hP
  exact body p e s m below meth c s₁ (Stand.of_body Bd) Bd.exec Bd.bytes hml0 hZ (findClass_of_methodNamed Bd.named) (name_of_methodNamed Bd.named Bd.method).1 Bd.returns Bd.notSynchronized (by rw [← hh, Bd.state]; rfl)
theorem own_startC {y : MethodName} {bytes : ByteArray} {maxL : Nat} {ret : Option FieldType} {rm : Room} {as' : Array Value} {Q : Option Value → Heap → List Loc → Prop} (hpn : plainFor y = true)
    (body : ∀ (p : Program) (e : Env) (s : State) (m : MethodId) (below : List Frame) (meth : Method) (c : Code) (T : State), Stand p l e rm s m as' below meth c T [] 0 0 → p.tables.exec = Jvm.exec → c.code = bytes → c.maxLocals = maxL → Z.Warmed39 s.vm → s.vm.findClass y.cls = some m.cls → meth.name = y.name → meth.sig.returnType = ret → meth.locks = false → T.heap = h → OG p e below (OFin s Q rm.cells rm.slots) (T.setTop (entryFrame m as' maxL))) : Con l Z y bytes maxL ret rm as' h Q := own_start (Q := Q) hpn body
theorem og_ret (X : Stand p l e R s m args below meth c T locs cells slots) (hlk : meth.locks = false) {Q : Option Value → Heap → List Loc → Prop} {kc ks : Nat} {g : JFrame} (v : Option Value) (hv : meth.sig.returnType = none → v = none)
    (st : ∀ fs, (∀ (f : JFrame) (acts : List Action), f.method = m → f.locked = none → f.entered = [] → (doReturn e (T.setTop f) acts v).1 = T.setFrames fs) → Steps p.tables e below (T.setTop g) (T.setFrames fs)) (hc : cells ≤ kc) (hs : slots ≤ ks) (hQ : Q v T.heap locs) : OG p e below (OFin s Q kc ks) (T.setTop g) := by
  obtain ⟨fs, hr, hrun, hended, hW, hsame⟩ := X.leave hv hlk
  exact ⟨_, _, st fs hr, hrun, hended, v, locs, rfl, hQ, ⟨_, rfl⟩, hW, hsame.mono hc hs⟩
theorem og_retI (X : Stand p l e R s m args below meth c T locs cells slots) (hx : p.tables.exec = Jvm.exec) (hlk : meth.locks = false) (hret : meth.sig.returnType = some .int) {Q : Option Value → Heap → List Loc → Prop} {kc ks : Nat} {z : Int32} (hd : decode c.code pc = .ok (.ireturn, 1)) (hc : cells ≤ kc) (hs : slots ≤ ks) (hQ : Q (some (.int z)) T.heap locs) : OG p e below (OFin s Q kc ks) (T.setTop (mkF m pc L (.int z :: S))) :=
  og_ret X hlk (some (.int z)) (fun q => by rw [hret] at q; cases q) (fun fs hr => retI X hx hret hd hr) hc hs hQ
theorem og_retN (X : Stand p l e R s m args below meth c T locs cells slots) (hx : p.tables.exec = Jvm.exec) (hlk : meth.locks = false) {t : FieldType} (hret : meth.sig.returnType = some t) (ht : t = .boolean ∨ t = .byte ∨ t = .char ∨ t = .short) {Q : Option Value → Heap → List Loc → Prop} {kc ks : Nat} {z : Int32} (hd : decode c.code pc = .ok (.ireturn, 1)) (hc : cells ≤ kc) (hs : slots ≤ ks) (hQ : Q (some (.int (nar t z))) T.heap locs) : OG p e below (OFin s Q kc ks) (T.setTop (mkF m pc L (.int z :: S))) :=
  og_ret X hlk (some (.int (nar t z))) (fun q => by rw [hret] at q; cases q) (fun fs hr => retN X hx hret ht hd hr) hc hs hQ
theorem og_retR (X : Stand p l e R s m args below meth c T locs cells slots) (hx : p.tables.exec = Jvm.exec) (hlk : meth.locks = false) {t : FieldType} (hret : meth.sig.returnType = some t) (ht : t.isReference = true) {Q : Option Value → Heap → List Loc → Prop} {kc ks : Nat} {v : Value} (hv : v.isRef = true) (hn : narrow t v = v) (hd : decode c.code pc = .ok (.areturn, 1)) (hc : cells ≤ kc) (hs : slots ≤ ks) (hQ : Q (some v) T.heap locs) : OG p e below (OFin s Q kc ks) (T.setTop (mkF m pc L (v :: S))) :=
  og_ret X hlk (some v) (fun q => by rw [hret] at q; cases q) (fun fs hr => retOut X hx hret hn (Or.inr (Or.inr (Or.inr (Or.inr ⟨rfl, ht, hv⟩)))) hd hr) hc hs hQ
theorem og_retV (X : Stand p l e R s m args below meth c T locs cells slots) (hx : p.tables.exec = Jvm.exec) (hlk : meth.locks = false) (hret : meth.sig.returnType = none) {Q : Option Value → Heap → List Loc → Prop} {kc ks : Nat} (hd : decode c.code pc = .ok (.return_, 1)) (hc : cells ≤ kc) (hs : slots ≤ ks) (hQ : Q none T.heap locs) : OG p e below (OFin s Q kc ks) (T.setTop (mkF m pc L [])) :=
  og_ret X hlk none (fun _ => rfl) (fun fs hr => X.returnOut hx hret hd hr) hc hs hQ
theorem og_static (X : Stand p l e R s m args below meth c T locs cells slots) (hx : p.tables.exec = Jvm.exec) (hZ : Z.Warmed39 s.vm) {own : String} {index : Nat} {y : MethodName} {bytes : ByteArray} {maxL : Nat} {ret : Option FieldType} {rm : Room} {as' : Array Value} {Q : Option Value → Heap → List Loc → Prop} {W cells' slots' : Nat} (hM : Con l Z y bytes maxL ret rm as' h Q) (hown : s.vm.findClass own = some m.cls) (w1 : (Cond.methodLink own index y).before a0 Z = true) (w2 : (Cond.static y).before a0 Z = true) (wz : (Cond.initialized y.cls).before a0 Z = true) (wc : (Cond.code y bytes maxL ret).before a0 Z = true) (hy : y.cls ≠ "java/lang/invoke/MethodHandle" ∧ y.cls ≠ "java/lang/invoke/VarHandle") (hml : L.size = c.maxLocals) (eT : T.heap = h) {ps : List FieldType} {rt : Option FieldType} (hpd : parseMethodDescriptor y.desc = some ⟨ps, rt⟩) (argsL rest : List Value) (hll : argsL.length = ps.length) (has : argsL.toArray = as') (hst : S = argsL.reverse ++ rest) (hW : (rest.map fun v => v.category).sum = W) (hf : rm.frames + 1 ≤ R.frames) (hl : W + (maxL + 11) + rm.locals ≤ R.locals) (hc' : cells + rm.cells = cells') (hs' : slots + rm.slots = slots') (hc : cells' ≤ R.cells) (hs : slots' ≤ R.slots) (hd : decode c.code pc = .ok (.invokestatic index, 3)) (hp : pc + 3 = pc') (k : ∀ v T' h' Lc, Stand p l e R s m args below meth c T' (locs ++ Lc) cells' slots' → T'.heap = h' → Q v h' Lc → OG p e below P (T'.setTop (mkF m pc' L (v.toList ++ rest)))) : OG p e below P (T.setTop (mkF m pc L S)) := by
  subst hp hst hc' hs' has
  obtain ⟨v, _, ⟨T1, L1, k1, n1⟩, -, X1, ⟨Lc, hQ, l1, y1, z1⟩, st⟩ := Jvm.LawKit.callS X hx (y := y) hown (mvT hZ w1) (mvT hZ w2) (mvT hZ wz) (mvT hZ wc) hy (backOf (W := W) hM hZ wc wz hf hl) (g := mkF m pc L (argsL.reverse ++ rest)) rfl hml (argsL := argsL) (rest := rest) (lenOf hpd hll) rfl (by show 2 * 0 + _ ≤ _; rw [hW]; omega) hd (fun _ _ => ⟨rfl, eT, hc, hs⟩)
  dsimp only [Pt.U, Pt.locs, Pt.cells, Pt.slots] at X1 l1 y1 z1 st hQ
  subst l1 y1 z1
  exact OG.of st (k v T1 _ Lc X1 rfl hQ)
theorem og_special (X : Stand p l e R s m args below meth c T locs cells slots) (hx : p.tables.exec = Jvm.exec) (hZ : Z.Warmed39 s.vm) {own : String} {index : Nat} {y : MethodName} {bytes : ByteArray} {maxL : Nat} {rm : Room} {as' : Array Value} {Q : Option Value → Heap → List Loc → Prop} {W cells' slots' : Nat} (hM : Con l Z y bytes maxL none rm as' h Q) (hin : y.name = "<init>") (hown : s.vm.findClass own = some m.cls) (w1 : (Cond.methodLink own index y).before a0 Z = true) (w2 : (Cond.instanceMethod y).before a0 Z = true) (wz : (Cond.initialized y.cls).before a0 Z = true) (wc : (Cond.code y bytes maxL none).before a0 Z = true) (hy : y.cls ≠ "java/lang/invoke/MethodHandle" ∧ y.cls ≠ "java/lang/invoke/VarHandle") (hml : L.size = c.maxLocals) (eT : T.heap = h) {ps : List FieldType} {rt : Option FieldType} (hpd : parseMethodDescriptor y.desc = some ⟨ps, rt⟩) {a : Addr} (argsL rest : List Value) (hll : argsL.length = ps.length) (has : (.ref a :: argsL).toArray = as') (hst : S = argsL.reverse ++ .ref a :: rest) (hW : (rest.map fun v => v.category).sum = W) (hf : rm.frames + 1 ≤ R.frames) (hl : W + (maxL + 11) + rm.locals ≤ R.locals) (hc' : cells + rm.cells = cells') (hs' : slots + rm.slots = slots') (hc : cells' ≤ R.cells) (hs : slots' ≤ R.slots) (hd : decode c.code pc = .ok (.invokespecial index, 3)) (hp : pc + 3 = pc') (k : ∀ v T' h' Lc, Stand p l e R s m args below meth c T' (locs ++ Lc) cells' slots' → T'.heap = h' → Q v h' Lc → OG p e below P (T'.setTop (mkF m pc' L (v.toList ++ rest)))) : OG p e below P (T.setTop (mkF m pc L S)) := by
  subst hp hst hc' hs' has
  obtain ⟨v, _, ⟨T1, L1, k1, n1⟩, -, X1, ⟨Lc, hQ, l1, y1, z1⟩, st⟩ := X.specialBack hx (y := y) hin hown (mvT hZ w1) (mvT hZ w2) (mvT hZ wc) hy (backOf (W := W) hM hZ wc wz hf hl) (g := mkF m pc L (argsL.reverse ++ .ref a :: rest)) rfl hml (Steps.refl _) (a := a) (argsL := argsL) (rest := rest) (lenOf hpd hll) rfl (by show 2 * 0 + _ ≤ _; rw [hW]; omega) hd (fun _ _ => ⟨rfl, eT, hc, hs⟩)
  dsimp only [Pt.U, Pt.locs, Pt.cells, Pt.slots] at X1 l1 y1 z1 st hQ
  subst l1 y1 z1
  exact OG.of (fun t k => st.trans k) (k v T1 _ Lc X1 rfl hQ)
theorem og_virtual (X : Stand p l e R s m args below meth c T locs cells slots) (hx : p.tables.exec = Jvm.exec) (hZ : Z.Warmed39 s.vm) {own C : String} {index : Nat} {y z : MethodName} {bytes : ByteArray} {maxL : Nat} {ret : Option FieldType} {rm : Room} {as' : Array Value} {Q : Option Value → Heap → List Loc → Prop} {W cells' slots' : Nat} (hM : Con l Z z bytes maxL ret rm as' h Q) (hown : s.vm.findClass own = some m.cls) (w1 : (Cond.methodLink own index y).before a0 Z = true) (w2 : (Cond.declares y).before a0 Z = true) (hnf : NotFace s y) (w3 : (Cond.selects C y z).before a0 Z = true) (w4 : (Cond.instanceMethod z).before a0 Z = true) (wz : (Cond.initialized z.cls).before a0 Z = true) (wc : (Cond.code z bytes maxL ret).before a0 Z = true) (hy : y.cls ≠ "java/lang/invoke/MethodHandle" ∧ y.cls ≠ "java/lang/invoke/VarHandle") (hml : L.size = c.maxLocals) (eT : T.heap = h) {ps : List FieldType} {rt : Option FieldType} (hpd : parseMethodDescriptor y.desc = some ⟨ps, rt⟩) {a : Addr} (argsL rest : List Value) (hll : argsL.length = ps.length) (has : (.ref a :: argsL).toArray = as') (hst : S = argsL.reverse ++ .ref a :: rest) (hW : (rest.map fun v => v.category).sum = W) (hf : rm.frames + 1 ≤ R.frames) (hl : W + (maxL + 11) + rm.locals ≤ R.locals) (hc' : cells + rm.cells = cells') (hs' : slots + rm.slots = slots') (hc : cells' ≤ R.cells) (hs : slots' ≤ R.slots) (E : Exa Z h a C) (hd : decode c.code pc = .ok (.invokevirtual index, 3)) (hp : pc + 3 = pc') (k : ∀ v T' h' Lc, Stand p l e R s m args below meth c T' (locs ++ Lc) cells' slots' → T'.heap = h' → Q v h' Lc → OG p e below P (T'.setTop (mkF m pc' L (v.toList ++ rest)))) : OG p e below P (T.setTop (mkF m pc L S)) := by
  subst hp hst hc' hs' has
  obtain ⟨cq, kq, qa, qb, qc⟩ := isOf hZ eT E
  obtain ⟨v, _, ⟨T1, L1, k1, n1⟩, -, X1, ⟨Lc, hQ, l1, y1, z1⟩, st⟩ := X.virtualBack hx (y := y) (z := z) hown (mvT hZ w1) (mvT hZ w2) hnf (mvT hZ w3) (mvT hZ w4) hy (backOf (W := W) hM hZ wc wz hf hl) qa qc (g := mkF m pc L (argsL.reverse ++ .ref a :: rest)) rfl hml (Steps.refl _) (argsL := argsL) (rest := rest) (lenOf hpd hll) rfl (by show 2 * 0 + _ ≤ _; rw [hW]; omega) hd (fun _ _ => ⟨rfl, eT, hc, hs⟩)
  dsimp only [Pt.U, Pt.locs, Pt.cells, Pt.slots] at X1 l1 y1 z1 st hQ
  subst l1 y1 z1
  exact OG.of (fun t k => st.trans k) (k v T1 _ Lc X1 rfl hQ)
theorem own_nf (hZ : Z.Warmed39 s.vm) {C : String} {y : MethodName} (w : (Cond.selects C y y).before a0 Z = true) : NotFace s y := notFace_of_selects (args := #[]) (mvT hZ w)
theorem own_n0 {n0 : Nat} (O : Old Z n0 h) : n0 ≤ h.size := O.1 ▸ O.2.1
end OwnKit
section OwnKitW
variable {p : Program} {l : Launch} {e : Env} {R : Room} {s : State} {m : MethodId} {args : Array Value} {below : List Frame} {meth : Method} {c : Code} {T : State} {locs : List Loc} {cells slots : Nat} {Z : State} {a0 : Array Value} {h : Heap} {P : Outcome → State → Prop} {pc pc' pc1 pc2 : Nat} {L L' : Array Slot} {S : List Value} {vm : Vm} {EL : List (String × Nat)} {k0 : Nat}
abbrev FinW (s Z : State) (EL : List (String × Nat)) (Q : Option Value → Heap → List Loc → Prop) (k n : Nat) (o : Outcome) (t : State) : Prop := ∃ v L, o = .returned v ∧ Q v t.heap L ∧ CHr Z EL s.vm s.heap t.vm t.heap ∧ ReturnedEndW s o t L k n
def ConW (l : Launch) (Z : State) (EL : List (String × Nat)) (sw : List Addr) (y : MethodName) (bytes : ByteArray) (maxL : Nat) (ret : Option FieldType) (rm : Room) (as' : Array Value) (h : Heap) (Q : Option Value → Heap → List Loc → Prop) : Prop :=
  MetFree l y (head1 [Cond.code y bytes maxL ret] rm) (fun a U => a = as' ∧ Z.Warmed39 U.vm ∧ U.heap = h ∧ CHv Z EL U.vm h ∧ ∀ x ∈ sw, Safe Z EL U.vm h x) (fun _ _ _ _ _ => True) (fun _ U o U' => ∃ v L, o = .returned v ∧ Q v U'.heap L ∧ CHr Z EL U.vm U.heap U'.vm U'.heap ∧ ReturnedEndW U o U' L rm.cells rm.slots)
theorem own_since (s : State) (n : Nat) : s.Since s.vm n := ⟨State.Warmed39.refl s, by first | exact State.Booked.refl _ _ | (intro j q h1 h2; exact absurd (Array.getElem?_eq_some_iff.mp h2).1 (Nat.not_lt.mpr h1)) | simp [State.Booked]⟩
theorem own_backW {sw : List Addr} {y : MethodName} {bytes : ByteArray} {maxL : Nat} {ret : Option FieldType} {rm : Room} {len W : Nat} {as' : Array Value} {Q : Option Value → Heap → List Loc → Prop} (hM : ConW l Z EL sw y bytes maxL ret rm as' h Q) (hZ : Z.Warmed39 vm) (wc : (Cond.code y bytes maxL ret).before a0 Z = true) (wz : (Cond.initialized y.cls).before a0 Z = true) (hf : rm.frames + 1 ≤ R.frames) (hl : W + (maxL + 11) + rm.locals ≤ R.locals) (hEL : EW Z a0 EL) (H : CHv Z EL vm h) (hsw : ∀ x ∈ sw, x < h.size ∧ Safe Z EL vm h x) :
    BackS l R p e below (s.setVm vm) args y len W (fun A a => a = as' ∧ A.U.heap = h ∧ A.cells + rm.cells ≤ R.cells ∧ A.slots + rm.slots ≤ R.slots) (fun A _ v B => ∃ L, Q v B.U.heap L ∧ B.locs = A.locs ++ L ∧ B.cells = A.cells + rm.cells ∧ B.slots = A.slots + rm.slots ∧ CHr Z EL vm h B.U.vm B.U.heap) := by
  refine BackS.of_freeW (bytes := bytes) (maxL := maxL) (ret := ret) (E := fun _ first o t L k n => k = rm.cells ∧ n = rm.slots ∧ (∃ v, o = .returned v ∧ Q v t.heap L) ∧ CHr Z EL first.vm first.heap t.vm t.heap) hM hf hl ?_ ?_ (fun _ _ _ _ _ _ _ _ _ => trivial) ?_ ?_
  · intro m meth c A a Y hp
    have hU : Z.Warmed39 A.U.vm := wtrans (s := s.setVm vm) hZ Y.warmed
    exact ⟨by show (Cond.and _ .tt).before a A.U = true; rw [Cond.before_and, mv hU wc]; rfl, mv hU wc, mv hU wz, hp.2.2.1, hp.2.2.2⟩
  · intro m meth c A a g mk Y hp
    have q := CHv.at Y hZ hEL H
    exact ⟨hp.1, wtrans (s := s.setVm vm) hZ Y.warmed, hp.2.1, q.1, fun x hx => q.safe (hsw x hx).1 (hsw x hx).2⟩
  · rintro _ _ _ _ ⟨v, L, h1, h2, h3, h4⟩
    exact ⟨L, _, _, h4, rfl, rfl, ⟨v, h1, h2⟩, h3⟩
  · rintro m meth c A a g mk v t L k n Y hp _ _ ⟨e1, e2, ⟨v', e3, e4⟩, e5⟩
    cases e3; subst e1 e2
    refine ⟨L, e4, rfl, rfl, rfl, (CHv.at Y hZ hEL H).trans ?_⟩
    rw [← hp.2.1]; exact e5
theorem own_startW {sw : List Addr} {y : MethodName} {bytes : ByteArray} {maxL : Nat} {ret : Option FieldType} {rm : Room} {as' : Array Value} {ws : List Cond} {Q : Option Value → Heap → List Loc → Prop} {kc ks : Nat} (hpn : plainFor y = true)
    (body : ∀ (p : Program) (e : Env) (s : State) (m : MethodId) (below : List Frame) (meth : Method) (c : Code) (T : State), Stand p l e rm (s.setVm s.vm) m as' below meth c T [] 0 0 → p.tables.exec = Jvm.exec → c.code = bytes → c.maxLocals = maxL → Z.Warmed39 s.vm → s.vm.findClass y.cls = some m.cls → meth.name = y.name → meth.sig.returnType = ret → meth.locks = false → T.heap = h → s.heap = h → s.Since s.vm h.size → CHr Z EL s.vm h s.vm h → (∀ x ∈ sw, Safe Z EL s.vm h x) → OG p e below (FinW s Z EL Q kc ks) (T.setTop (entryFrame m as' maxL))) :
    MetFree l y (head1 (Cond.code y bytes maxL ret :: ws) rm) (fun a U => a = as' ∧ Z.Warmed39 U.vm ∧ U.heap = h ∧ CHv Z EL U.vm h ∧ ∀ x ∈ sw, Safe Z EL U.vm h x) (fun _ _ _ _ _ => True) (fun _ U o U' => ∃ v L, o = .returned v ∧ Q v U'.heap L ∧ CHr Z EL U.vm U.heap U'.vm U'.heap ∧ ReturnedEndW U o U' L kc ks) := by
  refine MetFree.of_bodySF hpn hisR ?_
  intro p e s m args below meth c s₁ Bd hml0 hP hK
  obtain ⟨rfl, hZ, hh, hC, hQ⟩ := hP
  exact body p e s m below meth c s₁ (Stand.of_body Bd) Bd.exec Bd.bytes hml0 hZ (findClass_of_methodNamed Bd.named) (name_of_methodNamed Bd.named Bd.method).1 Bd.returns Bd.notSynchronized (by rw [← hh, Bd.state]; rfl) hh (own_since s _) (CHr.refl hC) hQ
theorem own_startWC {sw : List Addr} {y : MethodName} {bytes : ByteArray} {maxL : Nat} {ret : Option FieldType} {rm : Room} {as' : Array Value} {Q : Option Value → Heap → List Loc → Prop} (hpn : plainFor y = true)
    (body : ∀ (p : Program) (e : Env) (s : State) (m : MethodId) (below : List Frame) (meth : Method) (c : Code) (T : State), Stand p l e rm (s.setVm s.vm) m as' below meth c T [] 0 0 → p.tables.exec = Jvm.exec → c.code = bytes → c.maxLocals = maxL → Z.Warmed39 s.vm → s.vm.findClass y.cls = some m.cls → meth.name = y.name → meth.sig.returnType = ret → meth.locks = false → T.heap = h → s.heap = h → s.Since s.vm h.size → CHr Z EL s.vm h s.vm h → (∀ x ∈ sw, Safe Z EL s.vm h x) → OG p e below (FinW s Z EL Q rm.cells rm.slots) (T.setTop (entryFrame m as' maxL))) : ConW l Z EL sw y bytes maxL ret rm as' h Q := own_startW (Q := Q) hpn body
theorem og_retW (X : Stand p l e R (s.setVm vm) m args below meth c T locs cells slots) (hZ : Z.Warmed39 vm) (hlk : meth.locks = false) {Q : Option Value → Heap → List Loc → Prop} {kc ks : Nat} {g : JFrame} (hEL : EW Z a0 EL) (hS : s.Since vm k0) (eT : T.heap = h) {h' : Heap} (e0 : s.heap = h') (hk : k0 ≤ h.size) (hR : CHr Z EL s.vm h' vm h) (v : Option Value) (hv : meth.sig.returnType = none → v = none)
    (st : ∀ fs, (∀ (f : JFrame) (acts : List Action), f.method = m → f.locked = none → f.entered = [] → (doReturn e (T.setTop f) acts v).1 = T.setFrames fs) → Steps p.tables e below (T.setTop g) (T.setFrames fs)) (hc : cells ≤ kc) (hs : slots ≤ ks) (hQ : Q v T.heap locs) : OG p e below (FinW s Z EL Q kc ks) (T.setTop g) := by
  subst eT e0
  obtain ⟨fs, hr, hrun, hended, hW⟩ := X.leaveW hS hk hv hlk
  have q := CHv.at X hZ hEL hR.1
  exact ⟨_, _, st fs hr, hrun, hended, v, locs, rfl, hQ, hR.trans q, hW.1, hW.2.1, hW.2.2.1, hW.2.2.2.mono hc hs⟩
theorem og_retNW (X : Stand p l e R (s.setVm vm) m args below meth c T locs cells slots) (hx : p.tables.exec = Jvm.exec) (hZ : Z.Warmed39 vm) (hlk : meth.locks = false) (hEL : EW Z a0 EL) (hS : s.Since vm k0) (eT : T.heap = h) {h' : Heap} (e0 : s.heap = h') (hk : k0 ≤ h.size) (hR : CHr Z EL s.vm h' vm h) {t : FieldType} (hret : meth.sig.returnType = some t) (ht : t = .boolean ∨ t = .byte ∨ t = .char ∨ t = .short) {Q : Option Value → Heap → List Loc → Prop} {kc ks : Nat} {z : Int32} (hd : decode c.code pc = .ok (.ireturn, 1)) (hc : cells ≤ kc) (hs : slots ≤ ks) (hQ : Q (some (.int (nar t z))) T.heap locs) : OG p e below (FinW s Z EL Q kc ks) (T.setTop (mkF m pc L (.int z :: S))) :=
  og_retW X hZ hlk hEL hS eT e0 hk hR (some (.int (nar t z))) (fun q => by rw [hret] at q; cases q) (fun fs hr => retN X hx hret ht hd hr) hc hs hQ
theorem og_retRW (X : Stand p l e R (s.setVm vm) m args below meth c T locs cells slots) (hx : p.tables.exec = Jvm.exec) (hZ : Z.Warmed39 vm) (hlk : meth.locks = false) (hEL : EW Z a0 EL) (hS : s.Since vm k0) (eT : T.heap = h) {h' : Heap} (e0 : s.heap = h') (hk : k0 ≤ h.size) (hR : CHr Z EL s.vm h' vm h) {t : FieldType} (hret : meth.sig.returnType = some t) (ht : t.isReference = true) {Q : Option Value → Heap → List Loc → Prop} {kc ks : Nat} {v : Value} (hv : v.isRef = true) (hn : narrow t v = v) (hd : decode c.code pc = .ok (.areturn, 1)) (hc : cells ≤ kc) (hs : slots ≤ ks) (hQ : Q (some v) T.heap locs) : OG p e below (FinW s Z EL Q kc ks) (T.setTop (mkF m pc L (v :: S))) :=
  og_retW X hZ hlk hEL hS eT e0 hk hR (some v) (fun q => by rw [hret] at q; cases q) (fun fs hr => retOut X hx hret hn (Or.inr (Or.inr (Or.inr (Or.inr ⟨rfl, ht, hv⟩)))) hd hr) hc hs hQ
theorem og_retVW (X : Stand p l e R (s.setVm vm) m args below meth c T locs cells slots) (hx : p.tables.exec = Jvm.exec) (hZ : Z.Warmed39 vm) (hlk : meth.locks = false) (hEL : EW Z a0 EL) (hS : s.Since vm k0) (eT : T.heap = h) {h' : Heap} (e0 : s.heap = h') (hk : k0 ≤ h.size) (hR : CHr Z EL s.vm h' vm h) (hret : meth.sig.returnType = none) {Q : Option Value → Heap → List Loc → Prop} {kc ks : Nat}  (hd : decode c.code pc = .ok (.return_, 1)) (hc : cells ≤ kc) (hs : slots ≤ ks) (hQ : Q none T.heap locs) : OG p e below (FinW s Z EL Q kc ks) (T.setTop (mkF m pc L [])) :=
  og_retW X hZ hlk hEL hS eT e0 hk hR none (fun _ => rfl) (fun fs hr => X.returnOut hx hret hd hr) hc hs hQ
theorem og_ldcS (X : Stand p l e R (s.setVm vm) m args below meth c T locs cells slots) (hx : p.tables.exec = Jvm.exec) (hZ : Z.Warmed39 vm) {own text : String} {index : Nat} (hown : vm.findClass own = some m.cls) (w : (Cond.stringLink own index text).before a0 Z = true) (wS : ∀ a ∈ Bundle.stringAtoms, a.before a0 Z = true) (eT : T.heap = h) (hS : s.Since vm k0) (hk : k0 ≤ h.size) (hEL : EW Z a0 EL) (hmem : (own, index) ∈ EL) (H : CHv Z EL vm h) {vs : List Value} {z : Int32} (ht : (∀ c ∈ text.toList, c.toNat < 256) ∧ text.toList.map (fun c => Value.int (Jvm.Lit.byteI c.toNat.toUInt16)) = vs) (hz : ¬ z < 0) (hl : z.toNatClampNeg = vs.length) {n cells' slots' : Nat} (hn : 4 * text.toList.length ≤ n) (hbig : n ≤ 536870912) (hd : decode c.code pc = .ok (.ldc index, 2)) (hp : pc + 2 = pc') (hc' : cells + 2 = cells') (hs' : slots + (n + 4) = slots') (hc : cells' ≤ R.cells) (hsl : slots' ≤ R.slots) (k : ∀ a T' h' k1 b kA, Stand p l e R (s.setVm T'.vm) m args below meth c T' locs cells' slots' → T'.heap = h' → Ext h h' → s.Since T'.vm k1 → k1 ≤ h'.size → Z.Warmed39 T'.vm → T'.vm.findClass own = some m.cls → Exa Z h' a "java/lang/String" → Fld Z h' a "java/lang/String" "coder" "B" (.int 0) → Fld Z h' a "java/lang/String" "value" "[B" (.ref b) → Arv Z h' b kA .byte z vs (.int 0) → CHr Z EL vm h T'.vm h' → (∀ x, Safe Z EL T'.vm h' x → x ≠ a ∧ x ≠ b) → OG p e below P (T'.setTop (mkF m pc' L (.ref a :: S)))) : OG p e below P (T.setTop (mkF m pc L S)) := by
  subst hp hc' hs'
  obtain ⟨a, T', h', k1, b, kA, X', e', E', S', hk', hZ', ho', A1, A2, A3, A4, -, -, hC', -, hne', st⟩ := ldcCH X hx hZ hown w wS eT hS hk hEL hmem H ht hz hl (g := mkF m pc L S) rfl hd hn hbig hc hsl
  exact OG.of st (k a T' h' k1 b kA X' e' E' S' hk' hZ' ho' A1 A2 A3 A4 hC' hne')
theorem og_ldcO (X : Stand p l e R (s.setVm vm) m args below meth c T locs cells slots) (hx : p.tables.exec = Jvm.exec) (hZ : Z.Warmed39 vm) {own text : String} {index : Nat} (hown : vm.findClass own = some m.cls) (w : (Cond.stringLink own index text).before a0 Z = true) (wS : ∀ a ∈ Bundle.stringAtoms, a.before a0 Z = true) (eT : T.heap = h) (hS : s.Since vm k0) (hk : k0 ≤ h.size) (hEL : EW Z a0 EL) (H : CHv Z EL vm h) {n cells' slots' : Nat} (hn : 4 * text.toList.length ≤ n) (hbig : n ≤ 536870912) (hd : decode c.code pc = .ok (.ldc index, 2)) (hp : pc + 2 = pc') (hc' : cells + 2 = cells') (hs' : slots + (n + 4) = slots') (hc : cells' ≤ R.cells) (hsl : slots' ≤ R.slots) (k : ∀ a T' h' k1, Stand p l e R (s.setVm T'.vm) m args below meth c T' locs cells' slots' → T'.heap = h' → Ext h h' → s.Since T'.vm k1 → k1 ≤ h'.size → Z.Warmed39 T'.vm → T'.vm.findClass own = some m.cls → CHr Z EL vm h T'.vm h' → OG p e below P (T'.setTop (mkF m pc' L (.ref a :: S)))) : OG p e below P (T.setTop (mkF m pc L S)) := by
  subst hp hc' hs'
  obtain ⟨a, T', h', k1, X', e', E', S', hk', hZ', ho', hC', -, st⟩ := ldcOH X hx hZ hown w wS eT hS hk hEL H (g := mkF m pc L S) rfl hd hn hbig hc hsl
  exact OG.of st (k a T' h' k1 X' e' E' S' hk' hZ' ho' hC')
theorem og_staticW (X : Stand p l e R (s.setVm vm) m args below meth c T locs cells slots) (hx : p.tables.exec = Jvm.exec) (hZ : Z.Warmed39 vm) {own : String} {index : Nat} {y : MethodName} {bytes : ByteArray} {maxL : Nat} {ret : Option FieldType} {sw : List Addr} {rm : Room} {as' : Array Value} {Q : Option Value → Heap → List Loc → Prop} {W cells' slots' : Nat} (hM : ConW l Z EL sw y bytes maxL ret rm as' h Q) (hEL : EW Z a0 EL) (hS : s.Since vm k0) (hk : k0 ≤ h.size) (H : CHv Z EL vm h) (hsw : ∀ x ∈ sw, x < h.size ∧ Safe Z EL vm h x) (hown : vm.findClass own = some m.cls) (w1 : (Cond.methodLink own index y).before a0 Z = true) (w2 : (Cond.static y).before a0 Z = true) (wz : (Cond.initialized y.cls).before a0 Z = true) (wc : (Cond.code y bytes maxL ret).before a0 Z = true) (hy : y.cls ≠ "java/lang/invoke/MethodHandle" ∧ y.cls ≠ "java/lang/invoke/VarHandle") (hml : L.size = c.maxLocals) (eT : T.heap = h) {ps : List FieldType} {rt : Option FieldType} (hpd : parseMethodDescriptor y.desc = some ⟨ps, rt⟩) (argsL rest : List Value) (hll : argsL.length = ps.length) (has : argsL.toArray = as') (hst : S = argsL.reverse ++ rest) (hW : (rest.map fun v => v.category).sum = W) (hf : rm.frames + 1 ≤ R.frames) (hl : W + (maxL + 11) + rm.locals ≤ R.locals) (hc' : cells + rm.cells = cells') (hs' : slots + rm.slots = slots') (hc : cells' ≤ R.cells) (hs : slots' ≤ R.slots) (hd : decode c.code pc = .ok (.invokestatic index, 3)) (hp : pc + 3 = pc') (k : ∀ v T' h' Lc k1, Stand p l e R (s.setVm T'.vm) m args below meth c T' (locs ++ Lc) cells' slots' → T'.heap = h' → s.Since T'.vm k1 → k1 ≤ h'.size → Z.Warmed39 T'.vm → T'.vm.findClass own = some m.cls → CHr Z EL vm h T'.vm h' → Q v h' Lc → OG p e below P (T'.setTop (mkF m pc' L (v.toList ++ rest)))) : OG p e below P (T.setTop (mkF m pc L S)) := by
  subst hp hst hc' hs' has
  obtain ⟨v, _, ⟨T1, L1, k1, n1⟩, -, X1, hS1, hg1, ⟨Lc, hQ, l1, y1, z1, hC1⟩, st⟩ := callSS X hx (y := y) hown (mvT (s := s.setVm vm) hZ w1) (mvT (s := s.setVm vm) hZ w2) (mvT (s := s.setVm vm) hZ wz) (mvT (s := s.setVm vm) hZ wc) hy (own_backW (s := s) (vm := vm) (W := W) hM hZ wc wz hf hl hEL H hsw) (g := mkF m pc L (argsL.reverse ++ rest)) rfl hml (argsL := argsL) (rest := rest) (lenOf hpd hll) rfl (by show 2 * 0 + _ ≤ _; rw [hW]; omega) hd (fun _ _ => ⟨rfl, eT, hc, hs⟩)
  dsimp only [Pt.U, Pt.locs, Pt.cells, Pt.slots] at X1 l1 y1 z1 st hQ hS1 hg1 hC1
  subst l1 y1 z1 eT
  exact OG.of (fun t k => st.trans k) (k v T1 _ Lc _ X1 rfl (hS.trans hS1 (Nat.le_trans hk hg1)) (Nat.le_refl _) (State.Warmed39.trans (t := s.setVm vm) hZ hS1.1) (by rw [hS1.1.alike.findClass]; exact hown) hC1 hQ)
theorem og_specialW (X : Stand p l e R (s.setVm vm) m args below meth c T locs cells slots) (hx : p.tables.exec = Jvm.exec) (hZ : Z.Warmed39 vm) {own : String} {index : Nat} {y : MethodName} {bytes : ByteArray} {maxL : Nat} {sw : List Addr} {rm : Room} {as' : Array Value} {Q : Option Value → Heap → List Loc → Prop} {W cells' slots' : Nat} (hM : ConW l Z EL sw y bytes maxL none rm as' h Q) (hEL : EW Z a0 EL) (hS : s.Since vm k0) (hk : k0 ≤ h.size) (H : CHv Z EL vm h) (hsw : ∀ x ∈ sw, x < h.size ∧ Safe Z EL vm h x) (hin : y.name = "<init>") (hown : vm.findClass own = some m.cls) (w1 : (Cond.methodLink own index y).before a0 Z = true) (w2 : (Cond.instanceMethod y).before a0 Z = true) (wz : (Cond.initialized y.cls).before a0 Z = true) (wc : (Cond.code y bytes maxL none).before a0 Z = true) (hy : y.cls ≠ "java/lang/invoke/MethodHandle" ∧ y.cls ≠ "java/lang/invoke/VarHandle") (hml : L.size = c.maxLocals) (eT : T.heap = h) {ps : List FieldType} {rt : Option FieldType} (hpd : parseMethodDescriptor y.desc = some ⟨ps, rt⟩) {a : Addr} (argsL rest : List Value) (hll : argsL.length = ps.length) (has : (.ref a :: argsL).toArray = as') (hst : S = argsL.reverse ++ .ref a :: rest) (hW : (rest.map fun v => v.category).sum = W) (hf : rm.frames + 1 ≤ R.frames) (hl : W + (maxL + 11) + rm.locals ≤ R.locals) (hc' : cells + rm.cells = cells') (hs' : slots + rm.slots = slots') (hc : cells' ≤ R.cells) (hs : slots' ≤ R.slots) (hd : decode c.code pc = .ok (.invokespecial index, 3)) (hp : pc + 3 = pc') (k : ∀ v T' h' Lc k1, Stand p l e R (s.setVm T'.vm) m args below meth c T' (locs ++ Lc) cells' slots' → T'.heap = h' → s.Since T'.vm k1 → k1 ≤ h'.size → Z.Warmed39 T'.vm → T'.vm.findClass own = some m.cls → CHr Z EL vm h T'.vm h' → Q v h' Lc → OG p e below P (T'.setTop (mkF m pc' L (v.toList ++ rest)))) : OG p e below P (T.setTop (mkF m pc L S)) := by
  subst hp hst hc' hs' has
  obtain ⟨v, _, ⟨T1, L1, k1, n1⟩, -, X1, hS1, hg1, ⟨Lc, hQ, l1, y1, z1, hC1⟩, st⟩ := X.specialBackS hx (y := y) hin hown (mvT (s := s.setVm vm) hZ w1) (mvT (s := s.setVm vm) hZ w2) (mvT (s := s.setVm vm) hZ wc) hy (own_backW (s := s) (vm := vm) (W := W) hM hZ wc wz hf hl hEL H hsw) (g := mkF m pc L (argsL.reverse ++ .ref a :: rest)) rfl hml (Steps.refl _) (a := a) (argsL := argsL) (rest := rest) (lenOf hpd hll) rfl (by show 2 * 0 + _ ≤ _; rw [hW]; omega) hd (fun _ _ => ⟨rfl, eT, hc, hs⟩)
  dsimp only [Pt.U, Pt.locs, Pt.cells, Pt.slots] at X1 l1 y1 z1 st hQ hS1 hg1 hC1
  subst l1 y1 z1 eT
  exact OG.of (fun t k => st.trans k) (k v T1 _ Lc _ X1 rfl (hS.trans hS1 (Nat.le_trans hk hg1)) (Nat.le_refl _) (State.Warmed39.trans (t := s.setVm vm) hZ hS1.1) (by rw [hS1.1.alike.findClass]; exact hown) hC1 hQ)
end OwnKitW
def own_EL : List (String × Nat) := [("java/lang/String", 7), ("com/example/marsh_tit/marshtit/stanza/StanzasIsStanzaPinLaw", 27), ("com/example/marsh_tit/marshtit/stanza/StanzasIsStanzaPinLaw", 29), ("com/example/marsh_tit/marshtit/stanza/StanzasIsStanzaPinLaw", 31), ("com/example/marsh_tit/marshtit/stanza/StanzasIsStanzaPinLaw", 37), ("com/example/marsh_tit/marshtit/stanza/StanzasIsStanzaPinLaw", 39), ("com/example/marsh_tit/marshtit/stanza/StanzasIsStanzaPinLaw", 41), ("com/example/marsh_tit/marshtit/stanza/StanzasIsStanzaPinLaw", 43), ("com/example/marsh_tit/marshtit/stanza/StanzasIsStanzaPinLaw", 45), ("com/example/marsh_tit/marshtit/stanza/StanzasIsStanzaPinLaw", 47), ("com/example/marsh_tit/marshtit/stanza/StanzasIsStanzaPinLaw", 49), ("com/example/marsh_tit/marshtit/stanza/Stanzas", 9), ("com/example/marsh_tit/marshtit/stanza/Stanzas", 11), ("com/example/marsh_tit/marshtit/stanza/Stanzas", 19), ("com/example/marsh_tit/marshtit/stanza/Stanzas", 21)]
abbrev HW (a0 : Array Value) (Z : State) : Prop := ∀ d ∈ tables_1, d.before a0 Z = true
def ow0 {a0 : Array Value} {Z : State} (hw : HW a0 Z) := hw _ (List.mem_of_getElem? (i := 0) rfl)
def ow1 {a0 : Array Value} {Z : State} (hw : HW a0 Z) := hw _ (List.mem_of_getElem? (i := 1) rfl)
def ow2 {a0 : Array Value} {Z : State} (hw : HW a0 Z) := hw _ (List.mem_of_getElem? (i := 2) rfl)
def ow3 {a0 : Array Value} {Z : State} (hw : HW a0 Z) := hw _ (List.mem_of_getElem? (i := 3) rfl)
def ow5 {a0 : Array Value} {Z : State} (hw : HW a0 Z) := hw _ (List.mem_of_getElem? (i := 5) rfl)
def ow6 {a0 : Array Value} {Z : State} (hw : HW a0 Z) := hw _ (List.mem_of_getElem? (i := 6) rfl)
def ow7 {a0 : Array Value} {Z : State} (hw : HW a0 Z) := hw _ (List.mem_of_getElem? (i := 7) rfl)
def ow8 {a0 : Array Value} {Z : State} (hw : HW a0 Z) := hw _ (List.mem_of_getElem? (i := 8) rfl)
def ow9 {a0 : Array Value} {Z : State} (hw : HW a0 Z) := hw _ (List.mem_of_getElem? (i := 9) rfl)
def ow10 {a0 : Array Value} {Z : State} (hw : HW a0 Z) := hw _ (List.mem_of_getElem? (i := 10) rfl)
def ow11 {a0 : Array Value} {Z : State} (hw : HW a0 Z) := hw _ (List.mem_of_getElem? (i := 11) rfl)
def ow12 {a0 : Array Value} {Z : State} (hw : HW a0 Z) := hw _ (List.mem_of_getElem? (i := 12) rfl)
def ow13 {a0 : Array Value} {Z : State} (hw : HW a0 Z) := hw _ (List.mem_of_getElem? (i := 13) rfl)
def ow14 {a0 : Array Value} {Z : State} (hw : HW a0 Z) := hw _ (List.mem_of_getElem? (i := 14) rfl)
def ow16 {a0 : Array Value} {Z : State} (hw : HW a0 Z) := hw _ (List.mem_of_getElem? (i := 16) rfl)
def ow17 {a0 : Array Value} {Z : State} (hw : HW a0 Z) := hw _ (List.mem_of_getElem? (i := 17) rfl)
def ow18 {a0 : Array Value} {Z : State} (hw : HW a0 Z) := hw _ (List.mem_of_getElem? (i := 18) rfl)
def ow19 {a0 : Array Value} {Z : State} (hw : HW a0 Z) := hw _ (List.mem_of_getElem? (i := 19) rfl)
def ow20 {a0 : Array Value} {Z : State} (hw : HW a0 Z) := hw _ (List.mem_of_getElem? (i := 20) rfl)
def ow21 {a0 : Array Value} {Z : State} (hw : HW a0 Z) := hw _ (List.mem_of_getElem? (i := 21) rfl)
def ow22 {a0 : Array Value} {Z : State} (hw : HW a0 Z) := hw _ (List.mem_of_getElem? (i := 22) rfl)
def ow23 {a0 : Array Value} {Z : State} (hw : HW a0 Z) := hw _ (List.mem_of_getElem? (i := 23) rfl)
def ow24 {a0 : Array Value} {Z : State} (hw : HW a0 Z) := hw _ (List.mem_of_getElem? (i := 24) rfl)
def ow25 {a0 : Array Value} {Z : State} (hw : HW a0 Z) := hw _ (List.mem_of_getElem? (i := 25) rfl)
def ow26 {a0 : Array Value} {Z : State} (hw : HW a0 Z) := hw _ (List.mem_of_getElem? (i := 26) rfl)
def ow27 {a0 : Array Value} {Z : State} (hw : HW a0 Z) := hw _ (List.mem_of_getElem? (i := 27) rfl)
def ow28 {a0 : Array Value} {Z : State} (hw : HW a0 Z) := hw _ (List.mem_of_getElem? (i := 28) rfl)
def ow29 {a0 : Array Value} {Z : State} (hw : HW a0 Z) := hw _ (List.mem_of_getElem? (i := 29) rfl)
def ow30 {a0 : Array Value} {Z : State} (hw : HW a0 Z) := hw _ (List.mem_of_getElem? (i := 30) rfl)
def ow31 {a0 : Array Value} {Z : State} (hw : HW a0 Z) := hw _ (List.mem_of_getElem? (i := 31) rfl)
def ow32 {a0 : Array Value} {Z : State} (hw : HW a0 Z) := hw _ (List.mem_of_getElem? (i := 32) rfl)
def ow35 {a0 : Array Value} {Z : State} (hw : HW a0 Z) := hw _ (List.mem_of_getElem? (i := 35) rfl)
def ow36 {a0 : Array Value} {Z : State} (hw : HW a0 Z) := hw _ (List.mem_of_getElem? (i := 36) rfl)
def ow37 {a0 : Array Value} {Z : State} (hw : HW a0 Z) := hw _ (List.mem_of_getElem? (i := 37) rfl)
def ow38 {a0 : Array Value} {Z : State} (hw : HW a0 Z) := hw _ (List.mem_of_getElem? (i := 38) rfl)
def ow41 {a0 : Array Value} {Z : State} (hw : HW a0 Z) := hw _ (List.mem_of_getElem? (i := 41) rfl)
def ow42 {a0 : Array Value} {Z : State} (hw : HW a0 Z) := hw _ (List.mem_of_getElem? (i := 42) rfl)
def ow43 {a0 : Array Value} {Z : State} (hw : HW a0 Z) := hw _ (List.mem_of_getElem? (i := 43) rfl)
def ow44 {a0 : Array Value} {Z : State} (hw : HW a0 Z) := hw _ (List.mem_of_getElem? (i := 44) rfl)
def ow45 {a0 : Array Value} {Z : State} (hw : HW a0 Z) := hw _ (List.mem_of_getElem? (i := 45) rfl)
def ow46 {a0 : Array Value} {Z : State} (hw : HW a0 Z) := hw _ (List.mem_of_getElem? (i := 46) rfl)
def ow47 {a0 : Array Value} {Z : State} (hw : HW a0 Z) := hw _ (List.mem_of_getElem? (i := 47) rfl)
def ow48 {a0 : Array Value} {Z : State} (hw : HW a0 Z) := hw _ (List.mem_of_getElem? (i := 48) rfl)
def ow49 {a0 : Array Value} {Z : State} (hw : HW a0 Z) := hw _ (List.mem_of_getElem? (i := 49) rfl)
def ow50 {a0 : Array Value} {Z : State} (hw : HW a0 Z) := hw _ (List.mem_of_getElem? (i := 50) rfl)
def ow51 {a0 : Array Value} {Z : State} (hw : HW a0 Z) := hw _ (List.mem_of_getElem? (i := 51) rfl)
def ow52 {a0 : Array Value} {Z : State} (hw : HW a0 Z) := hw _ (List.mem_of_getElem? (i := 52) rfl)
def ow53 {a0 : Array Value} {Z : State} (hw : HW a0 Z) := hw _ (List.mem_of_getElem? (i := 53) rfl)
def ow54 {a0 : Array Value} {Z : State} (hw : HW a0 Z) := hw _ (List.mem_of_getElem? (i := 54) rfl)
def ow55 {a0 : Array Value} {Z : State} (hw : HW a0 Z) := hw _ (List.mem_of_getElem? (i := 55) rfl)
def ow56 {a0 : Array Value} {Z : State} (hw : HW a0 Z) := hw _ (List.mem_of_getElem? (i := 56) rfl)
def ow57 {a0 : Array Value} {Z : State} (hw : HW a0 Z) := hw _ (List.mem_of_getElem? (i := 57) rfl)
def ow58 {a0 : Array Value} {Z : State} (hw : HW a0 Z) := hw _ (List.mem_of_getElem? (i := 58) rfl)
def ow59 {a0 : Array Value} {Z : State} (hw : HW a0 Z) := hw _ (List.mem_of_getElem? (i := 59) rfl)
def ow60 {a0 : Array Value} {Z : State} (hw : HW a0 Z) := hw _ (List.mem_of_getElem? (i := 60) rfl)
def ow63 {a0 : Array Value} {Z : State} (hw : HW a0 Z) := hw _ (List.mem_of_getElem? (i := 63) rfl)
def ow64 {a0 : Array Value} {Z : State} (hw : HW a0 Z) := hw _ (List.mem_of_getElem? (i := 64) rfl)
def ow65 {a0 : Array Value} {Z : State} (hw : HW a0 Z) := hw _ (List.mem_of_getElem? (i := 65) rfl)
def ow66 {a0 : Array Value} {Z : State} (hw : HW a0 Z) := hw _ (List.mem_of_getElem? (i := 66) rfl)
def ow69 {a0 : Array Value} {Z : State} (hw : HW a0 Z) := hw _ (List.mem_of_getElem? (i := 69) rfl)
def ow70 {a0 : Array Value} {Z : State} (hw : HW a0 Z) := hw _ (List.mem_of_getElem? (i := 70) rfl)
def ow71 {a0 : Array Value} {Z : State} (hw : HW a0 Z) := hw _ (List.mem_of_getElem? (i := 71) rfl)
def ow72 {a0 : Array Value} {Z : State} (hw : HW a0 Z) := hw _ (List.mem_of_getElem? (i := 72) rfl)
def ow73 {a0 : Array Value} {Z : State} (hw : HW a0 Z) := hw _ (List.mem_of_getElem? (i := 73) rfl)
def ow74 {a0 : Array Value} {Z : State} (hw : HW a0 Z) := hw _ (List.mem_of_getElem? (i := 74) rfl)
def ow75 {a0 : Array Value} {Z : State} (hw : HW a0 Z) := hw _ (List.mem_of_getElem? (i := 75) rfl)
def ow76 {a0 : Array Value} {Z : State} (hw : HW a0 Z) := hw _ (List.mem_of_getElem? (i := 76) rfl)
def ow77 {a0 : Array Value} {Z : State} (hw : HW a0 Z) := hw _ (List.mem_of_getElem? (i := 77) rfl)
def ow78 {a0 : Array Value} {Z : State} (hw : HW a0 Z) := hw _ (List.mem_of_getElem? (i := 78) rfl)
def ow80 {a0 : Array Value} {Z : State} (hw : HW a0 Z) := hw _ (List.mem_of_getElem? (i := 80) rfl)
def ow81 {a0 : Array Value} {Z : State} (hw : HW a0 Z) := hw _ (List.mem_of_getElem? (i := 81) rfl)
def ow82 {a0 : Array Value} {Z : State} (hw : HW a0 Z) := hw _ (List.mem_of_getElem? (i := 82) rfl)
def ow83 {a0 : Array Value} {Z : State} (hw : HW a0 Z) := hw _ (List.mem_of_getElem? (i := 83) rfl)
def ow84 {a0 : Array Value} {Z : State} (hw : HW a0 Z) := hw _ (List.mem_of_getElem? (i := 84) rfl)
def ow86 {a0 : Array Value} {Z : State} (hw : HW a0 Z) := hw _ (List.mem_of_getElem? (i := 86) rfl)
def ow87 {a0 : Array Value} {Z : State} (hw : HW a0 Z) := hw _ (List.mem_of_getElem? (i := 87) rfl)
def ow89 {a0 : Array Value} {Z : State} (hw : HW a0 Z) := hw _ (List.mem_of_getElem? (i := 89) rfl)
def ow90 {a0 : Array Value} {Z : State} (hw : HW a0 Z) := hw _ (List.mem_of_getElem? (i := 90) rfl)
def ow91 {a0 : Array Value} {Z : State} (hw : HW a0 Z) := hw _ (List.mem_of_getElem? (i := 91) rfl)
def ow92 {a0 : Array Value} {Z : State} (hw : HW a0 Z) := hw _ (List.mem_of_getElem? (i := 92) rfl)
def ow93 {a0 : Array Value} {Z : State} (hw : HW a0 Z) := hw _ (List.mem_of_getElem? (i := 93) rfl)
def ow94 {a0 : Array Value} {Z : State} (hw : HW a0 Z) := hw _ (List.mem_of_getElem? (i := 94) rfl)
def ow97 {a0 : Array Value} {Z : State} (hw : HW a0 Z) := hw _ (List.mem_of_getElem? (i := 97) rfl)
def ow98 {a0 : Array Value} {Z : State} (hw : HW a0 Z) := hw _ (List.mem_of_getElem? (i := 98) rfl)
def ow99 {a0 : Array Value} {Z : State} (hw : HW a0 Z) := hw _ (List.mem_of_getElem? (i := 99) rfl)
def ow100 {a0 : Array Value} {Z : State} (hw : HW a0 Z) := hw _ (List.mem_of_getElem? (i := 100) rfl)
def ow101 {a0 : Array Value} {Z : State} (hw : HW a0 Z) := hw _ (List.mem_of_getElem? (i := 101) rfl)
def ow102 {a0 : Array Value} {Z : State} (hw : HW a0 Z) := hw _ (List.mem_of_getElem? (i := 102) rfl)
def ow103 {a0 : Array Value} {Z : State} (hw : HW a0 Z) := hw _ (List.mem_of_getElem? (i := 103) rfl)
def ow104 {a0 : Array Value} {Z : State} (hw : HW a0 Z) := hw _ (List.mem_of_getElem? (i := 104) rfl)
def ow105 {a0 : Array Value} {Z : State} (hw : HW a0 Z) := hw _ (List.mem_of_getElem? (i := 105) rfl)
def ow106 {a0 : Array Value} {Z : State} (hw : HW a0 Z) := hw _ (List.mem_of_getElem? (i := 106) rfl)
def ow107 {a0 : Array Value} {Z : State} (hw : HW a0 Z) := hw _ (List.mem_of_getElem? (i := 107) rfl)
def ow108 {a0 : Array Value} {Z : State} (hw : HW a0 Z) := hw _ (List.mem_of_getElem? (i := 108) rfl)
def ow109 {a0 : Array Value} {Z : State} (hw : HW a0 Z) := hw _ (List.mem_of_getElem? (i := 109) rfl)
def ow110 {a0 : Array Value} {Z : State} (hw : HW a0 Z) := hw _ (List.mem_of_getElem? (i := 110) rfl)
def ow111 {a0 : Array Value} {Z : State} (hw : HW a0 Z) := hw _ (List.mem_of_getElem? (i := 111) rfl)
def ow112 {a0 : Array Value} {Z : State} (hw : HW a0 Z) := hw _ (List.mem_of_getElem? (i := 112) rfl)
def ow113 {a0 : Array Value} {Z : State} (hw : HW a0 Z) := hw _ (List.mem_of_getElem? (i := 113) rfl)
def ow114 {a0 : Array Value} {Z : State} (hw : HW a0 Z) := hw _ (List.mem_of_getElem? (i := 114) rfl)
def ow117 {a0 : Array Value} {Z : State} (hw : HW a0 Z) := hw _ (List.mem_of_getElem? (i := 117) rfl)
def ow118 {a0 : Array Value} {Z : State} (hw : HW a0 Z) := hw _ (List.mem_of_getElem? (i := 118) rfl)
def ow119 {a0 : Array Value} {Z : State} (hw : HW a0 Z) := hw _ (List.mem_of_getElem? (i := 119) rfl)
def ow120 {a0 : Array Value} {Z : State} (hw : HW a0 Z) := hw _ (List.mem_of_getElem? (i := 120) rfl)
def ow121 {a0 : Array Value} {Z : State} (hw : HW a0 Z) := hw _ (List.mem_of_getElem? (i := 121) rfl)
def ow122 {a0 : Array Value} {Z : State} (hw : HW a0 Z) := hw _ (List.mem_of_getElem? (i := 122) rfl)
def ow123 {a0 : Array Value} {Z : State} (hw : HW a0 Z) := hw _ (List.mem_of_getElem? (i := 123) rfl)
def ow124 {a0 : Array Value} {Z : State} (hw : HW a0 Z) := hw _ (List.mem_of_getElem? (i := 124) rfl)
def ow125 {a0 : Array Value} {Z : State} (hw : HW a0 Z) := hw _ (List.mem_of_getElem? (i := 125) rfl)
def ow126 {a0 : Array Value} {Z : State} (hw : HW a0 Z) := hw _ (List.mem_of_getElem? (i := 126) rfl)
def ow127 {a0 : Array Value} {Z : State} (hw : HW a0 Z) := hw _ (List.mem_of_getElem? (i := 127) rfl)
def ow128 {a0 : Array Value} {Z : State} (hw : HW a0 Z) := hw _ (List.mem_of_getElem? (i := 128) rfl)
def ow129 {a0 : Array Value} {Z : State} (hw : HW a0 Z) := hw _ (List.mem_of_getElem? (i := 129) rfl)
def ow130 {a0 : Array Value} {Z : State} (hw : HW a0 Z) := hw _ (List.mem_of_getElem? (i := 130) rfl)
def ow131 {a0 : Array Value} {Z : State} (hw : HW a0 Z) := hw _ (List.mem_of_getElem? (i := 131) rfl)
def ow132 {a0 : Array Value} {Z : State} (hw : HW a0 Z) := hw _ (List.mem_of_getElem? (i := 132) rfl)
def ow133 {a0 : Array Value} {Z : State} (hw : HW a0 Z) := hw _ (List.mem_of_getElem? (i := 133) rfl)
def ow134 {a0 : Array Value} {Z : State} (hw : HW a0 Z) := hw _ (List.mem_of_getElem? (i := 134) rfl)
def ow135 {a0 : Array Value} {Z : State} (hw : HW a0 Z) := hw _ (List.mem_of_getElem? (i := 135) rfl)
def ow136 {a0 : Array Value} {Z : State} (hw : HW a0 Z) := hw _ (List.mem_of_getElem? (i := 136) rfl)
def ow137 {a0 : Array Value} {Z : State} (hw : HW a0 Z) := hw _ (List.mem_of_getElem? (i := 137) rfl)
def ow138 {a0 : Array Value} {Z : State} (hw : HW a0 Z) := hw _ (List.mem_of_getElem? (i := 138) rfl)
def ow146 {a0 : Array Value} {Z : State} (hw : HW a0 Z) := hw _ (List.mem_of_getElem? (i := 146) rfl)
def ow147 {a0 : Array Value} {Z : State} (hw : HW a0 Z) := hw _ (List.mem_of_getElem? (i := 147) rfl)
def ow148 {a0 : Array Value} {Z : State} (hw : HW a0 Z) := hw _ (List.mem_of_getElem? (i := 148) rfl)
def ow149 {a0 : Array Value} {Z : State} (hw : HW a0 Z) := hw _ (List.mem_of_getElem? (i := 149) rfl)
def ow150 {a0 : Array Value} {Z : State} (hw : HW a0 Z) := hw _ (List.mem_of_getElem? (i := 150) rfl)
def ow151 {a0 : Array Value} {Z : State} (hw : HW a0 Z) := hw _ (List.mem_of_getElem? (i := 151) rfl)
def ow152 {a0 : Array Value} {Z : State} (hw : HW a0 Z) := hw _ (List.mem_of_getElem? (i := 152) rfl)
def ow153 {a0 : Array Value} {Z : State} (hw : HW a0 Z) := hw _ (List.mem_of_getElem? (i := 153) rfl)
def ow154 {a0 : Array Value} {Z : State} (hw : HW a0 Z) := hw _ (List.mem_of_getElem? (i := 154) rfl)
def ow155 {a0 : Array Value} {Z : State} (hw : HW a0 Z) := hw _ (List.mem_of_getElem? (i := 155) rfl)
def ow156 {a0 : Array Value} {Z : State} (hw : HW a0 Z) := hw _ (List.mem_of_getElem? (i := 156) rfl)
def ow157 {a0 : Array Value} {Z : State} (hw : HW a0 Z) := hw _ (List.mem_of_getElem? (i := 157) rfl)
theorem opd_0 : parseMethodDescriptor "()V" = some ⟨[], none⟩ := by decide +kernel
theorem opd_1 : parseMethodDescriptor "(Ljava/lang/Object;Ljava/lang/String;)Ljava/lang/Object;" = some ⟨[(.object "java/lang/Object"), (.object "java/lang/String")], some (.object "java/lang/Object")⟩ := by decide +kernel
theorem opd_2 : parseMethodDescriptor "([CIILjava/lang/Void;)V" = some ⟨[(.array .char), .int, .int, (.object "java/lang/Void")], none⟩ := by decide +kernel
theorem opd_3 : parseMethodDescriptor "(C)Z" = some ⟨[.char], some .boolean⟩ := by decide +kernel
theorem opd_4 : parseMethodDescriptor "(C)[B" = some ⟨[.char], some (.array .byte)⟩ := by decide +kernel
theorem opd_5 : parseMethodDescriptor "([BB)V" = some ⟨[(.array .byte), .byte], none⟩ := by decide +kernel
theorem opd_6 : parseMethodDescriptor "([CI[BII)I" = some ⟨[(.array .char), .int, (.array .byte), .int, .int], some .int⟩ := by decide +kernel
theorem opd_7 : parseMethodDescriptor "([CII)[B" = some ⟨[(.array .char), .int, .int], some (.array .byte)⟩ := by decide +kernel
theorem opd_8 : parseMethodDescriptor "([BI)B" = some ⟨[(.array .byte), .int], some .byte⟩ := by decide +kernel
theorem opd_9 : parseMethodDescriptor "([B[B)Z" = some ⟨[(.array .byte), (.array .byte)], some .boolean⟩ := by decide +kernel
theorem opd_10 : parseMethodDescriptor "([C)V" = some ⟨[(.array .char)], none⟩ := by decide +kernel
theorem opd_11 : parseMethodDescriptor "(C)Ljava/lang/String;" = some ⟨[.char], some (.object "java/lang/String")⟩ := by decide +kernel
theorem opd_12 : parseMethodDescriptor "(ICCC)Ljava/lang/String;" = some ⟨[.int, .char, .char, .char], some (.object "java/lang/String")⟩ := by decide +kernel
theorem opd_13 : parseMethodDescriptor "(Ljava/lang/Object;)Z" = some ⟨[(.object "java/lang/Object")], some .boolean⟩ := by decide +kernel
theorem opd_14 : parseMethodDescriptor "(Ljava/lang/String;Ljava/lang/String;)Z" = some ⟨[(.object "java/lang/String"), (.object "java/lang/String")], some .boolean⟩ := by decide +kernel
theorem opd_15 : parseMethodDescriptor "(IICCC)Ljava/lang/String;" = some ⟨[.int, .int, .char, .char, .char], some (.object "java/lang/String")⟩ := by decide +kernel
theorem opd_16 : parseMethodDescriptor "(Ljava/lang/String;Ljava/lang/String;)V" = some ⟨[(.object "java/lang/String"), (.object "java/lang/String")], none⟩ := by decide +kernel
theorem opd_17 : parseMethodDescriptor "(Lcom/example/marsh_tit/marshtit/stanza/Element;)Z" = some ⟨[(.object "com/example/marsh_tit/marshtit/stanza/Element")], some .boolean⟩ := by decide +kernel
theorem d1_0 : decode method_3_code 0 = .ok (.iload_n 0, 1) := by decide +kernel
theorem d1_1 : decode method_3_code 1 = .ok (.ifCond .ne 6, 3) := by decide +kernel
theorem d1_4 : decode method_3_code 4 = .ok (.ldc 27, 2) := by decide +kernel
theorem d1_6 : decode method_3_code 6 = .ok (.areturn, 1) := by decide +kernel
theorem d1_7 : decode method_3_code 7 = .ok (.iload_n 0, 1) := by decide +kernel
theorem d1_8 : decode method_3_code 8 = .ok (.iconst 1, 1) := by decide +kernel
theorem d1_9 : decode method_3_code 9 = .ok (.if_icmp .ne 6, 3) := by decide +kernel
theorem d1_12 : decode method_3_code 12 = .ok (.ldc 29, 2) := by decide +kernel
theorem d1_14 : decode method_3_code 14 = .ok (.areturn, 1) := by decide +kernel
theorem d1_15 : decode method_3_code 15 = .ok (.iload_n 0, 1) := by decide +kernel
theorem d1_16 : decode method_3_code 16 = .ok (.iconst 2, 1) := by decide +kernel
theorem d1_17 : decode method_3_code 17 = .ok (.if_icmp .ne 6, 3) := by decide +kernel
theorem d1_20 : decode method_3_code 20 = .ok (.ldc 31, 2) := by decide +kernel
theorem d1_22 : decode method_3_code 22 = .ok (.areturn, 1) := by decide +kernel
theorem d1_23 : decode method_3_code 23 = .ok (.iload_n 1, 1) := by decide +kernel
theorem d1_24 : decode method_3_code 24 = .ok (.iload_n 2, 1) := by decide +kernel
theorem d1_25 : decode method_3_code 25 = .ok (.iload_n 3, 1) := by decide +kernel
theorem d1_26 : decode method_3_code 26 = .ok (.iload 4, 2) := by decide +kernel
theorem d1_28 : decode method_3_code 28 = .ok (.invokestatic 33, 3) := by decide +kernel
theorem d1_31 : decode method_3_code 31 = .ok (.areturn, 1) := by decide +kernel
theorem d2_0 : decode method_4_code 0 = .ok (.iload_n 0, 1) := by decide +kernel
theorem d2_1 : decode method_4_code 1 = .ok (.ifCond .ne 6, 3) := by decide +kernel
theorem d2_4 : decode method_4_code 4 = .ok (.ldc 37, 2) := by decide +kernel
theorem d2_6 : decode method_4_code 6 = .ok (.areturn, 1) := by decide +kernel
theorem d2_7 : decode method_4_code 7 = .ok (.iload_n 0, 1) := by decide +kernel
theorem d2_8 : decode method_4_code 8 = .ok (.iconst 1, 1) := by decide +kernel
theorem d2_9 : decode method_4_code 9 = .ok (.if_icmp .ne 6, 3) := by decide +kernel
theorem d2_12 : decode method_4_code 12 = .ok (.ldc 39, 2) := by decide +kernel
theorem d2_14 : decode method_4_code 14 = .ok (.areturn, 1) := by decide +kernel
theorem d2_15 : decode method_4_code 15 = .ok (.iload_n 0, 1) := by decide +kernel
theorem d2_16 : decode method_4_code 16 = .ok (.iconst 2, 1) := by decide +kernel
theorem d2_17 : decode method_4_code 17 = .ok (.if_icmp .ne 6, 3) := by decide +kernel
theorem d2_20 : decode method_4_code 20 = .ok (.ldc 41, 2) := by decide +kernel
theorem d2_22 : decode method_4_code 22 = .ok (.areturn, 1) := by decide +kernel
theorem d2_23 : decode method_4_code 23 = .ok (.iload_n 0, 1) := by decide +kernel
theorem d2_24 : decode method_4_code 24 = .ok (.iconst 3, 1) := by decide +kernel
theorem d2_25 : decode method_4_code 25 = .ok (.if_icmp .ne 6, 3) := by decide +kernel
theorem d2_28 : decode method_4_code 28 = .ok (.ldc 43, 2) := by decide +kernel
theorem d2_30 : decode method_4_code 30 = .ok (.areturn, 1) := by decide +kernel
theorem d2_31 : decode method_4_code 31 = .ok (.iload_n 0, 1) := by decide +kernel
theorem d2_32 : decode method_4_code 32 = .ok (.iconst 4, 1) := by decide +kernel
theorem d2_33 : decode method_4_code 33 = .ok (.if_icmp .ne 6, 3) := by decide +kernel
theorem d2_36 : decode method_4_code 36 = .ok (.ldc 45, 2) := by decide +kernel
theorem d2_38 : decode method_4_code 38 = .ok (.areturn, 1) := by decide +kernel
theorem d2_39 : decode method_4_code 39 = .ok (.iload_n 0, 1) := by decide +kernel
theorem d2_40 : decode method_4_code 40 = .ok (.iconst 5, 1) := by decide +kernel
theorem d2_41 : decode method_4_code 41 = .ok (.if_icmp .ne 6, 3) := by decide +kernel
theorem d2_44 : decode method_4_code 44 = .ok (.ldc 47, 2) := by decide +kernel
theorem d2_46 : decode method_4_code 46 = .ok (.areturn, 1) := by decide +kernel
theorem d2_47 : decode method_4_code 47 = .ok (.iload_n 0, 1) := by decide +kernel
theorem d2_48 : decode method_4_code 48 = .ok (.bipush 6, 2) := by decide +kernel
theorem d2_50 : decode method_4_code 50 = .ok (.if_icmp .ne 6, 3) := by decide +kernel
theorem d2_53 : decode method_4_code 53 = .ok (.ldc 49, 2) := by decide +kernel
theorem d2_55 : decode method_4_code 55 = .ok (.areturn, 1) := by decide +kernel
theorem d2_56 : decode method_4_code 56 = .ok (.iload_n 1, 1) := by decide +kernel
theorem d2_57 : decode method_4_code 57 = .ok (.iload_n 2, 1) := by decide +kernel
theorem d2_58 : decode method_4_code 58 = .ok (.iload_n 3, 1) := by decide +kernel
theorem d2_59 : decode method_4_code 59 = .ok (.iload 4, 2) := by decide +kernel
theorem d2_61 : decode method_4_code 61 = .ok (.invokestatic 33, 3) := by decide +kernel
theorem d2_64 : decode method_4_code 64 = .ok (.areturn, 1) := by decide +kernel
theorem d3_0 : decode prog_19_method_1_code 0 = .ok (.aload_n 0, 1) := by decide +kernel
theorem d3_1 : decode prog_19_method_1_code 1 = .ok (.invokespecial 1, 3) := by decide +kernel
theorem d3_4 : decode prog_19_method_1_code 4 = .ok (.aload_n 0, 1) := by decide +kernel
theorem d3_5 : decode prog_19_method_1_code 5 = .ok (.new 7, 3) := by decide +kernel
theorem d3_8 : decode prog_19_method_1_code 8 = .ok (.dup, 1) := by decide +kernel
theorem d3_9 : decode prog_19_method_1_code 9 = .ok (.invokespecial 9, 3) := by decide +kernel
theorem d3_12 : decode prog_19_method_1_code 12 = .ok (.putfield 10, 3) := by decide +kernel
theorem d3_15 : decode prog_19_method_1_code 15 = .ok (.aload_n 0, 1) := by decide +kernel
theorem d3_16 : decode prog_19_method_1_code 16 = .ok (.new 16, 3) := by decide +kernel
theorem d3_19 : decode prog_19_method_1_code 19 = .ok (.dup, 1) := by decide +kernel
theorem d3_20 : decode prog_19_method_1_code 20 = .ok (.invokespecial 18, 3) := by decide +kernel
theorem d3_23 : decode prog_19_method_1_code 23 = .ok (.putfield 19, 3) := by decide +kernel
theorem d3_26 : decode prog_19_method_1_code 26 = .ok (.aload_n 0, 1) := by decide +kernel
theorem d3_27 : decode prog_19_method_1_code 27 = .ok (.aload_n 1, 1) := by decide +kernel
theorem d3_28 : decode prog_19_method_1_code 28 = .ok (.ldc 23, 2) := by decide +kernel
theorem d3_30 : decode prog_19_method_1_code 30 = .ok (.invokestatic 25, 3) := by decide +kernel
theorem d3_33 : decode prog_19_method_1_code 33 = .ok (.checkcast 31, 3) := by decide +kernel
theorem d3_36 : decode prog_19_method_1_code 36 = .ok (.putfield 33, 3) := by decide +kernel
theorem d3_39 : decode prog_19_method_1_code 39 = .ok (.aload_n 0, 1) := by decide +kernel
theorem d3_40 : decode prog_19_method_1_code 40 = .ok (.aload_n 2, 1) := by decide +kernel
theorem d3_41 : decode prog_19_method_1_code 41 = .ok (.ldc 37, 2) := by decide +kernel
theorem d3_43 : decode prog_19_method_1_code 43 = .ok (.invokestatic 25, 3) := by decide +kernel
theorem d3_46 : decode prog_19_method_1_code 46 = .ok (.checkcast 31, 3) := by decide +kernel
theorem d3_49 : decode prog_19_method_1_code 49 = .ok (.putfield 39, 3) := by decide +kernel
theorem d3_52 : decode prog_19_method_1_code 52 = .ok (.return_, 1) := by decide +kernel
theorem d5_0 : decode jdk_94_method_16_code 0 = .ok (.aload_n 0, 1) := by decide +kernel
theorem d5_1 : decode jdk_94_method_16_code 1 = .ok (.invokespecial 87, 3) := by decide +kernel
theorem d5_4 : decode jdk_94_method_16_code 4 = .ok (.aload_n 0, 1) := by decide +kernel
theorem d5_5 : decode jdk_94_method_16_code 5 = .ok (.iconst 0, 1) := by decide +kernel
theorem d5_6 : decode jdk_94_method_16_code 6 = .ok (.putfield 1, 3) := by decide +kernel
theorem d5_9 : decode jdk_94_method_16_code 9 = .ok (.aload_n 0, 1) := by decide +kernel
theorem d5_10 : decode jdk_94_method_16_code 10 = .ok (.iconst 0, 1) := by decide +kernel
theorem d5_11 : decode jdk_94_method_16_code 11 = .ok (.putfield 64, 3) := by decide +kernel
theorem d5_14 : decode jdk_94_method_16_code 14 = .ok (.return_, 1) := by decide +kernel
theorem d6_0 : decode jdk_69_method_7_code 0 = .ok (.aload_n 0, 1) := by decide +kernel
theorem d6_1 : decode jdk_69_method_7_code 1 = .ok (.invokespecial 43, 3) := by decide +kernel
theorem d6_4 : decode jdk_69_method_7_code 4 = .ok (.aload_n 0, 1) := by decide +kernel
theorem d6_5 : decode jdk_69_method_7_code 5 = .ok (.ldc 92, 2) := by decide +kernel
theorem d6_7 : decode jdk_69_method_7_code 7 = .ok (.putfield 81, 3) := by decide +kernel
theorem d6_10 : decode jdk_69_method_7_code 10 = .ok (.return_, 1) := by decide +kernel
theorem d7_0 : decode jdk_71_method_1_code 0 = .ok (.aload_n 0, 1) := by decide +kernel
theorem d7_1 : decode jdk_71_method_1_code 1 = .ok (.invokespecial 1, 3) := by decide +kernel
theorem d7_4 : decode jdk_71_method_1_code 4 = .ok (.return_, 1) := by decide +kernel
theorem d8_0 : decode jdk_38_method_2_code 0 = .ok (.aload_n 0, 1) := by decide +kernel
theorem d8_1 : decode jdk_38_method_2_code 1 = .ok (.invokespecial 1, 3) := by decide +kernel
theorem d8_4 : decode jdk_38_method_2_code 4 = .ok (.aload_n 0, 1) := by decide +kernel
theorem d8_5 : decode jdk_38_method_2_code 5 = .ok (.getstatic 39, 3) := by decide +kernel
theorem d8_8 : decode jdk_38_method_2_code 8 = .ok (.putfield 9, 3) := by decide +kernel
theorem d8_11 : decode jdk_38_method_2_code 11 = .ok (.return_, 1) := by decide +kernel
theorem d9_0 : decode jdk_39_method_1_code 0 = .ok (.aload_n 0, 1) := by decide +kernel
theorem d9_1 : decode jdk_39_method_1_code 1 = .ok (.invokespecial 1, 3) := by decide +kernel
theorem d9_4 : decode jdk_39_method_1_code 4 = .ok (.aload_n 0, 1) := by decide +kernel
theorem d9_5 : decode jdk_39_method_1_code 5 = .ok (.iconst 0, 1) := by decide +kernel
theorem d9_6 : decode jdk_39_method_1_code 6 = .ok (.putfield 7, 3) := by decide +kernel
theorem d9_9 : decode jdk_39_method_1_code 9 = .ok (.return_, 1) := by decide +kernel
theorem d10_0 : decode jdk_22_method_1_code 0 = .ok (.aload_n 0, 1) := by decide +kernel
theorem d10_1 : decode jdk_22_method_1_code 1 = .ok (.invokespecial 1, 3) := by decide +kernel
theorem d10_4 : decode jdk_22_method_1_code 4 = .ok (.return_, 1) := by decide +kernel
theorem d11_0 : decode jdk_31_method_11_code 0 = .ok (.aload_n 0, 1) := by decide +kernel
theorem d11_1 : decode jdk_31_method_11_code 1 = .ok (.ifnonnull 12, 3) := by decide +kernel
theorem d11_13 : decode jdk_31_method_11_code 13 = .ok (.aload_n 0, 1) := by decide +kernel
theorem d11_14 : decode jdk_31_method_11_code 14 = .ok (.areturn, 1) := by decide +kernel
theorem d12_0 : decode prog_22_method_2_code 0 = .ok (.aload_n 0, 1) := by decide +kernel
theorem d12_1 : decode prog_22_method_2_code 1 = .ok (.ldc 9, 2) := by decide +kernel
theorem d12_3 : decode prog_22_method_2_code 3 = .ok (.ldc 11, 2) := by decide +kernel
theorem d12_5 : decode prog_22_method_2_code 5 = .ok (.invokevirtual 13, 3) := by decide +kernel
theorem d12_8 : decode prog_22_method_2_code 8 = .ok (.ifCond .ne 25, 3) := by decide +kernel
theorem d12_11 : decode prog_22_method_2_code 11 = .ok (.aload_n 0, 1) := by decide +kernel
theorem d12_12 : decode prog_22_method_2_code 12 = .ok (.ldc 9, 2) := by decide +kernel
theorem d12_14 : decode prog_22_method_2_code 14 = .ok (.ldc 19, 2) := by decide +kernel
theorem d12_16 : decode prog_22_method_2_code 16 = .ok (.invokevirtual 13, 3) := by decide +kernel
theorem d12_19 : decode prog_22_method_2_code 19 = .ok (.ifCond .ne 14, 3) := by decide +kernel
theorem d12_22 : decode prog_22_method_2_code 22 = .ok (.aload_n 0, 1) := by decide +kernel
theorem d12_23 : decode prog_22_method_2_code 23 = .ok (.ldc 9, 2) := by decide +kernel
theorem d12_25 : decode prog_22_method_2_code 25 = .ok (.ldc 21, 2) := by decide +kernel
theorem d12_27 : decode prog_22_method_2_code 27 = .ok (.invokevirtual 13, 3) := by decide +kernel
theorem d12_30 : decode prog_22_method_2_code 30 = .ok (.ifCond .eq 7, 3) := by decide +kernel
theorem d12_33 : decode prog_22_method_2_code 33 = .ok (.iconst 1, 1) := by decide +kernel
theorem d12_34 : decode prog_22_method_2_code 34 = .ok (.goto 4, 3) := by decide +kernel
theorem d12_37 : decode prog_22_method_2_code 37 = .ok (.iconst 0, 1) := by decide +kernel
theorem d12_38 : decode prog_22_method_2_code 38 = .ok (.ireturn, 1) := by decide +kernel
theorem d13_0 : decode prog_19_method_4_code 0 = .ok (.aload_n 0, 1) := by decide +kernel
theorem d13_1 : decode prog_19_method_4_code 1 = .ok (.getfield 33, 3) := by decide +kernel
theorem d13_4 : decode prog_19_method_4_code 4 = .ok (.aload_n 1, 1) := by decide +kernel
theorem d13_5 : decode prog_19_method_4_code 5 = .ok (.invokevirtual 42, 3) := by decide +kernel
theorem d13_8 : decode prog_19_method_4_code 8 = .ok (.ifCond .eq 18, 3) := by decide +kernel
theorem d13_11 : decode prog_19_method_4_code 11 = .ok (.aload_n 0, 1) := by decide +kernel
theorem d13_12 : decode prog_19_method_4_code 12 = .ok (.getfield 39, 3) := by decide +kernel
theorem d13_15 : decode prog_19_method_4_code 15 = .ok (.aload_n 2, 1) := by decide +kernel
theorem d13_16 : decode prog_19_method_4_code 16 = .ok (.invokevirtual 42, 3) := by decide +kernel
theorem d13_19 : decode prog_19_method_4_code 19 = .ok (.ifCond .eq 7, 3) := by decide +kernel
theorem d13_22 : decode prog_19_method_4_code 22 = .ok (.iconst 1, 1) := by decide +kernel
theorem d13_23 : decode prog_19_method_4_code 23 = .ok (.goto 4, 3) := by decide +kernel
theorem d13_26 : decode prog_19_method_4_code 26 = .ok (.iconst 0, 1) := by decide +kernel
theorem d13_27 : decode prog_19_method_4_code 27 = .ok (.ireturn, 1) := by decide +kernel
theorem d14_0 : decode jdk_42_method_66_code 0 = .ok (.aload_n 0, 1) := by decide +kernel
theorem d14_1 : decode jdk_42_method_66_code 1 = .ok (.aload_n 1, 1) := by decide +kernel
theorem d14_2 : decode jdk_42_method_66_code 2 = .ok (.if_acmp .ne 5, 3) := by decide +kernel
theorem d14_5 : decode jdk_42_method_66_code 5 = .ok (.iconst 1, 1) := by decide +kernel
theorem d14_6 : decode jdk_42_method_66_code 6 = .ok (.ireturn, 1) := by decide +kernel
theorem d14_7 : decode jdk_42_method_66_code 7 = .ok (.aload_n 1, 1) := by decide +kernel
theorem d14_8 : decode jdk_42_method_66_code 8 = .ok (.instanceof 10, 3) := by decide +kernel
theorem d14_11 : decode jdk_42_method_66_code 11 = .ok (.ifCond .eq 43, 3) := by decide +kernel
theorem d14_14 : decode jdk_42_method_66_code 14 = .ok (.aload_n 1, 1) := by decide +kernel
theorem d14_15 : decode jdk_42_method_66_code 15 = .ok (.checkcast 10, 3) := by decide +kernel
theorem d14_18 : decode jdk_42_method_66_code 18 = .ok (.astore_n 2, 1) := by decide +kernel
theorem d14_19 : decode jdk_42_method_66_code 19 = .ok (.getstatic 38, 3) := by decide +kernel
theorem d14_22 : decode jdk_42_method_66_code 22 = .ok (.ifCond .eq 14, 3) := by decide +kernel
theorem d14_25 : decode jdk_42_method_66_code 25 = .ok (.aload_n 0, 1) := by decide +kernel
theorem d14_26 : decode jdk_42_method_66_code 26 = .ok (.getfield 15, 3) := by decide +kernel
theorem d14_29 : decode jdk_42_method_66_code 29 = .ok (.aload_n 2, 1) := by decide +kernel
theorem d14_30 : decode jdk_42_method_66_code 30 = .ok (.getfield 15, 3) := by decide +kernel
theorem d14_33 : decode jdk_42_method_66_code 33 = .ok (.if_icmp .ne 21, 3) := by decide +kernel
theorem d14_36 : decode jdk_42_method_66_code 36 = .ok (.aload_n 0, 1) := by decide +kernel
theorem d14_37 : decode jdk_42_method_66_code 37 = .ok (.getfield 9, 3) := by decide +kernel
theorem d14_40 : decode jdk_42_method_66_code 40 = .ok (.aload_n 2, 1) := by decide +kernel
theorem d14_41 : decode jdk_42_method_66_code 41 = .ok (.getfield 9, 3) := by decide +kernel
theorem d14_44 : decode jdk_42_method_66_code 44 = .ok (.invokestatic 541, 3) := by decide +kernel
theorem d14_47 : decode jdk_42_method_66_code 47 = .ok (.ifCond .eq 7, 3) := by decide +kernel
theorem d14_50 : decode jdk_42_method_66_code 50 = .ok (.iconst 1, 1) := by decide +kernel
theorem d14_51 : decode jdk_42_method_66_code 51 = .ok (.goto 4, 3) := by decide +kernel
theorem d14_54 : decode jdk_42_method_66_code 54 = .ok (.iconst 0, 1) := by decide +kernel
theorem d14_55 : decode jdk_42_method_66_code 55 = .ok (.ireturn, 1) := by decide +kernel
theorem d15_0 : decode jdk_43_method_13_code 0 = .ok (.aload_n 0, 1) := by decide +kernel
theorem d15_1 : decode jdk_43_method_13_code 1 = .ok (.arraylength, 1) := by decide +kernel
theorem d15_2 : decode jdk_43_method_13_code 2 = .ok (.aload_n 1, 1) := by decide +kernel
theorem d15_3 : decode jdk_43_method_13_code 3 = .ok (.arraylength, 1) := by decide +kernel
theorem d15_4 : decode jdk_43_method_13_code 4 = .ok (.if_icmp .ne 30, 3) := by decide +kernel
theorem d15_7 : decode jdk_43_method_13_code 7 = .ok (.iconst 0, 1) := by decide +kernel
theorem d15_8 : decode jdk_43_method_13_code 8 = .ok (.istore_n 2, 1) := by decide +kernel
theorem d15_9 : decode jdk_43_method_13_code 9 = .ok (.iload_n 2, 1) := by decide +kernel
theorem d15_10 : decode jdk_43_method_13_code 10 = .ok (.aload_n 0, 1) := by decide +kernel
theorem d15_11 : decode jdk_43_method_13_code 11 = .ok (.arraylength, 1) := by decide +kernel
theorem d15_12 : decode jdk_43_method_13_code 12 = .ok (.if_icmp .ge 20, 3) := by decide +kernel
theorem d15_15 : decode jdk_43_method_13_code 15 = .ok (.aload_n 0, 1) := by decide +kernel
theorem d15_16 : decode jdk_43_method_13_code 16 = .ok (.iload_n 2, 1) := by decide +kernel
theorem d15_17 : decode jdk_43_method_13_code 17 = .ok (.baload, 1) := by decide +kernel
theorem d15_18 : decode jdk_43_method_13_code 18 = .ok (.aload_n 1, 1) := by decide +kernel
theorem d15_19 : decode jdk_43_method_13_code 19 = .ok (.iload_n 2, 1) := by decide +kernel
theorem d15_20 : decode jdk_43_method_13_code 20 = .ok (.baload, 1) := by decide +kernel
theorem d15_21 : decode jdk_43_method_13_code 21 = .ok (.if_icmp .eq 5, 3) := by decide +kernel
theorem d15_24 : decode jdk_43_method_13_code 24 = .ok (.iconst 0, 1) := by decide +kernel
theorem d15_25 : decode jdk_43_method_13_code 25 = .ok (.ireturn, 1) := by decide +kernel
theorem d15_26 : decode jdk_43_method_13_code 26 = .ok (.iinc 2 1, 3) := by decide +kernel
theorem d15_29 : decode jdk_43_method_13_code 29 = .ok (.goto (-20), 3) := by decide +kernel
theorem d15_32 : decode jdk_43_method_13_code 32 = .ok (.iconst 1, 1) := by decide +kernel
theorem d15_33 : decode jdk_43_method_13_code 33 = .ok (.ireturn, 1) := by decide +kernel
theorem d15_34 : decode jdk_43_method_13_code 34 = .ok (.iconst 0, 1) := by decide +kernel
theorem d15_35 : decode jdk_43_method_13_code 35 = .ok (.ireturn, 1) := by decide +kernel
theorem d16_0 : decode method_5_code 0 = .ok (.iload_n 0, 1) := by decide +kernel
theorem d16_1 : decode method_5_code 1 = .ok (.ifCond .ne 14, 3) := by decide +kernel
theorem d16_4 : decode method_5_code 4 = .ok (.new 51, 3) := by decide +kernel
theorem d16_7 : decode method_5_code 7 = .ok (.dup, 1) := by decide +kernel
theorem d16_8 : decode method_5_code 8 = .ok (.iconst 0, 1) := by decide +kernel
theorem d16_9 : decode method_5_code 9 = .ok (.newarray .char, 2) := by decide +kernel
theorem d16_11 : decode method_5_code 11 = .ok (.invokespecial 53, 3) := by decide +kernel
theorem d16_14 : decode method_5_code 14 = .ok (.areturn, 1) := by decide +kernel
theorem d16_15 : decode method_5_code 15 = .ok (.iload_n 0, 1) := by decide +kernel
theorem d16_16 : decode method_5_code 16 = .ok (.iconst 1, 1) := by decide +kernel
theorem d16_17 : decode method_5_code 17 = .ok (.if_icmp .ne 8, 3) := by decide +kernel
theorem d16_20 : decode method_5_code 20 = .ok (.iload_n 1, 1) := by decide +kernel
theorem d16_21 : decode method_5_code 21 = .ok (.invokestatic 56, 3) := by decide +kernel
theorem d16_24 : decode method_5_code 24 = .ok (.areturn, 1) := by decide +kernel
theorem d16_25 : decode method_5_code 25 = .ok (.iload_n 0, 1) := by decide +kernel
theorem d16_26 : decode method_5_code 26 = .ok (.iconst 2, 1) := by decide +kernel
theorem d16_27 : decode method_5_code 27 = .ok (.if_icmp .ne 22, 3) := by decide +kernel
theorem d16_30 : decode method_5_code 30 = .ok (.new 51, 3) := by decide +kernel
theorem d16_33 : decode method_5_code 33 = .ok (.dup, 1) := by decide +kernel
theorem d16_34 : decode method_5_code 34 = .ok (.iconst 2, 1) := by decide +kernel
theorem d16_35 : decode method_5_code 35 = .ok (.newarray .char, 2) := by decide +kernel
theorem d16_37 : decode method_5_code 37 = .ok (.dup, 1) := by decide +kernel
theorem d16_38 : decode method_5_code 38 = .ok (.iconst 0, 1) := by decide +kernel
theorem d16_39 : decode method_5_code 39 = .ok (.iload_n 1, 1) := by decide +kernel
theorem d16_40 : decode method_5_code 40 = .ok (.castore, 1) := by decide +kernel
theorem d16_41 : decode method_5_code 41 = .ok (.dup, 1) := by decide +kernel
theorem d16_42 : decode method_5_code 42 = .ok (.iconst 1, 1) := by decide +kernel
theorem d16_43 : decode method_5_code 43 = .ok (.iload_n 2, 1) := by decide +kernel
theorem d16_44 : decode method_5_code 44 = .ok (.castore, 1) := by decide +kernel
theorem d16_45 : decode method_5_code 45 = .ok (.invokespecial 53, 3) := by decide +kernel
theorem d16_48 : decode method_5_code 48 = .ok (.areturn, 1) := by decide +kernel
theorem d16_49 : decode method_5_code 49 = .ok (.new 51, 3) := by decide +kernel
theorem d16_52 : decode method_5_code 52 = .ok (.dup, 1) := by decide +kernel
theorem d16_53 : decode method_5_code 53 = .ok (.iconst 3, 1) := by decide +kernel
theorem d16_54 : decode method_5_code 54 = .ok (.newarray .char, 2) := by decide +kernel
theorem d16_56 : decode method_5_code 56 = .ok (.dup, 1) := by decide +kernel
theorem d16_57 : decode method_5_code 57 = .ok (.iconst 0, 1) := by decide +kernel
theorem d16_58 : decode method_5_code 58 = .ok (.iload_n 1, 1) := by decide +kernel
theorem d16_59 : decode method_5_code 59 = .ok (.castore, 1) := by decide +kernel
theorem d16_60 : decode method_5_code 60 = .ok (.dup, 1) := by decide +kernel
theorem d16_61 : decode method_5_code 61 = .ok (.iconst 1, 1) := by decide +kernel
theorem d16_62 : decode method_5_code 62 = .ok (.iload_n 2, 1) := by decide +kernel
theorem d16_63 : decode method_5_code 63 = .ok (.castore, 1) := by decide +kernel
theorem d16_64 : decode method_5_code 64 = .ok (.dup, 1) := by decide +kernel
theorem d16_65 : decode method_5_code 65 = .ok (.iconst 2, 1) := by decide +kernel
theorem d16_66 : decode method_5_code 66 = .ok (.iload_n 3, 1) := by decide +kernel
theorem d16_67 : decode method_5_code 67 = .ok (.castore, 1) := by decide +kernel
theorem d16_68 : decode method_5_code 68 = .ok (.invokespecial 53, 3) := by decide +kernel
theorem d16_71 : decode method_5_code 71 = .ok (.areturn, 1) := by decide +kernel
theorem d17_0 : decode jdk_42_method_3_code 0 = .ok (.aload_n 0, 1) := by decide +kernel
theorem d17_1 : decode jdk_42_method_3_code 1 = .ok (.aload_n 1, 1) := by decide +kernel
theorem d17_2 : decode jdk_42_method_3_code 2 = .ok (.iconst 0, 1) := by decide +kernel
theorem d17_3 : decode jdk_42_method_3_code 3 = .ok (.aload_n 1, 1) := by decide +kernel
theorem d17_4 : decode jdk_42_method_3_code 4 = .ok (.arraylength, 1) := by decide +kernel
theorem d17_5 : decode jdk_42_method_3_code 5 = .ok (.aconst_null, 1) := by decide +kernel
theorem d17_6 : decode jdk_42_method_3_code 6 = .ok (.invokespecial 27, 3) := by decide +kernel
theorem d17_9 : decode jdk_42_method_3_code 9 = .ok (.return_, 1) := by decide +kernel
theorem d18_0 : decode jdk_42_method_149_code 0 = .ok (.aload_n 0, 1) := by decide +kernel
theorem d18_1 : decode jdk_42_method_149_code 1 = .ok (.invokespecial 1, 3) := by decide +kernel
theorem d18_4 : decode jdk_42_method_149_code 4 = .ok (.iload_n 3, 1) := by decide +kernel
theorem d18_5 : decode jdk_42_method_149_code 5 = .ok (.ifCond .ne 22, 3) := by decide +kernel
theorem d18_8 : decode jdk_42_method_149_code 8 = .ok (.aload_n 0, 1) := by decide +kernel
theorem d18_9 : decode jdk_42_method_149_code 9 = .ok (.ldc 7, 2) := by decide +kernel
theorem d18_11 : decode jdk_42_method_149_code 11 = .ok (.getfield 9, 3) := by decide +kernel
theorem d18_14 : decode jdk_42_method_149_code 14 = .ok (.putfield 9, 3) := by decide +kernel
theorem d18_17 : decode jdk_42_method_149_code 17 = .ok (.aload_n 0, 1) := by decide +kernel
theorem d18_18 : decode jdk_42_method_149_code 18 = .ok (.ldc 7, 2) := by decide +kernel
theorem d18_20 : decode jdk_42_method_149_code 20 = .ok (.getfield 15, 3) := by decide +kernel
theorem d18_23 : decode jdk_42_method_149_code 23 = .ok (.putfield 15, 3) := by decide +kernel
theorem d18_26 : decode jdk_42_method_149_code 26 = .ok (.return_, 1) := by decide +kernel
theorem d18_27 : decode jdk_42_method_149_code 27 = .ok (.getstatic 38, 3) := by decide +kernel
theorem d18_30 : decode jdk_42_method_149_code 30 = .ok (.ifCond .eq 28, 3) := by decide +kernel
theorem d18_33 : decode jdk_42_method_149_code 33 = .ok (.aload_n 1, 1) := by decide +kernel
theorem d18_34 : decode jdk_42_method_149_code 34 = .ok (.iload_n 2, 1) := by decide +kernel
theorem d18_35 : decode jdk_42_method_149_code 35 = .ok (.iload_n 3, 1) := by decide +kernel
theorem d18_36 : decode jdk_42_method_149_code 36 = .ok (.invokestatic 177, 3) := by decide +kernel
theorem d18_39 : decode jdk_42_method_149_code 39 = .ok (.astore 5, 2) := by decide +kernel
theorem d18_41 : decode jdk_42_method_149_code 41 = .ok (.aload_n 0, 1) := by decide +kernel
theorem d18_42 : decode jdk_42_method_149_code 42 = .ok (.aload 5, 2) := by decide +kernel
theorem d18_44 : decode jdk_42_method_149_code 44 = .ok (.iload_n 3, 1) := by decide +kernel
theorem d18_45 : decode jdk_42_method_149_code 45 = .ok (.invokestatic 47, 3) := by decide +kernel
theorem d18_48 : decode jdk_42_method_149_code 48 = .ok (.putfield 15, 3) := by decide +kernel
theorem d18_51 : decode jdk_42_method_149_code 51 = .ok (.aload_n 0, 1) := by decide +kernel
theorem d18_52 : decode jdk_42_method_149_code 52 = .ok (.aload 5, 2) := by decide +kernel
theorem d18_54 : decode jdk_42_method_149_code 54 = .ok (.putfield 9, 3) := by decide +kernel
theorem d18_57 : decode jdk_42_method_149_code 57 = .ok (.return_, 1) := by decide +kernel
theorem d19_0 : decode jdk_52_method_16_code 0 = .ok (.iload_n 2, 1) := by decide +kernel
theorem d19_1 : decode jdk_52_method_16_code 1 = .ok (.newarray .byte, 2) := by decide +kernel
theorem d19_3 : decode jdk_52_method_16_code 3 = .ok (.astore_n 3, 1) := by decide +kernel
theorem d19_4 : decode jdk_52_method_16_code 4 = .ok (.aload_n 0, 1) := by decide +kernel
theorem d19_5 : decode jdk_52_method_16_code 5 = .ok (.iload_n 1, 1) := by decide +kernel
theorem d19_6 : decode jdk_52_method_16_code 6 = .ok (.aload_n 3, 1) := by decide +kernel
theorem d19_7 : decode jdk_52_method_16_code 7 = .ok (.iconst 0, 1) := by decide +kernel
theorem d19_8 : decode jdk_52_method_16_code 8 = .ok (.iload_n 2, 1) := by decide +kernel
theorem d19_9 : decode jdk_52_method_16_code 9 = .ok (.invokestatic 115, 3) := by decide +kernel
theorem d19_12 : decode jdk_52_method_16_code 12 = .ok (.istore 4, 2) := by decide +kernel
theorem d19_14 : decode jdk_52_method_16_code 14 = .ok (.iload 4, 2) := by decide +kernel
theorem d19_16 : decode jdk_52_method_16_code 16 = .ok (.iload_n 2, 1) := by decide +kernel
theorem d19_17 : decode jdk_52_method_16_code 17 = .ok (.if_icmp .eq 40, 3) := by decide +kernel
theorem d19_57 : decode jdk_52_method_16_code 57 = .ok (.aload_n 3, 1) := by decide +kernel
theorem d19_58 : decode jdk_52_method_16_code 58 = .ok (.areturn, 1) := by decide +kernel
theorem d20_0 : decode jdk_52_method_21_code 0 = .ok (.iconst 0, 1) := by decide +kernel
theorem d20_1 : decode jdk_52_method_21_code 1 = .ok (.istore 5, 2) := by decide +kernel
theorem d20_3 : decode jdk_52_method_21_code 3 = .ok (.iload 5, 2) := by decide +kernel
theorem d20_5 : decode jdk_52_method_21_code 5 = .ok (.iload 4, 2) := by decide +kernel
theorem d20_7 : decode jdk_52_method_21_code 7 = .ok (.if_icmp .ge 37, 3) := by decide +kernel
theorem d20_10 : decode jdk_52_method_21_code 10 = .ok (.aload_n 0, 1) := by decide +kernel
theorem d20_11 : decode jdk_52_method_21_code 11 = .ok (.iload_n 1, 1) := by decide +kernel
theorem d20_12 : decode jdk_52_method_21_code 12 = .ok (.caload, 1) := by decide +kernel
theorem d20_13 : decode jdk_52_method_21_code 13 = .ok (.istore 6, 2) := by decide +kernel
theorem d20_15 : decode jdk_52_method_21_code 15 = .ok (.iload 6, 2) := by decide +kernel
theorem d20_17 : decode jdk_52_method_21_code 17 = .ok (.sipush 255, 3) := by decide +kernel
theorem d20_20 : decode jdk_52_method_21_code 20 = .ok (.if_icmp .le 6, 3) := by decide +kernel
theorem d20_26 : decode jdk_52_method_21_code 26 = .ok (.aload_n 2, 1) := by decide +kernel
theorem d20_27 : decode jdk_52_method_21_code 27 = .ok (.iload_n 3, 1) := by decide +kernel
theorem d20_28 : decode jdk_52_method_21_code 28 = .ok (.iload 6, 2) := by decide +kernel
theorem d20_30 : decode jdk_52_method_21_code 30 = .ok (.i2b, 1) := by decide +kernel
theorem d20_31 : decode jdk_52_method_21_code 31 = .ok (.bastore, 1) := by decide +kernel
theorem d20_32 : decode jdk_52_method_21_code 32 = .ok (.iinc 1 1, 3) := by decide +kernel
theorem d20_35 : decode jdk_52_method_21_code 35 = .ok (.iinc 3 1, 3) := by decide +kernel
theorem d20_38 : decode jdk_52_method_21_code 38 = .ok (.iinc 5 1, 3) := by decide +kernel
theorem d20_41 : decode jdk_52_method_21_code 41 = .ok (.goto (-38), 3) := by decide +kernel
theorem d20_44 : decode jdk_52_method_21_code 44 = .ok (.iload 4, 2) := by decide +kernel
theorem d20_46 : decode jdk_52_method_21_code 46 = .ok (.ireturn, 1) := by decide +kernel
theorem d21_0 : decode jdk_52_method_15_code 0 = .ok (.iload_n 1, 1) := by decide +kernel
theorem d21_1 : decode jdk_52_method_15_code 1 = .ok (.aload_n 0, 1) := by decide +kernel
theorem d21_2 : decode jdk_52_method_15_code 2 = .ok (.arraylength, 1) := by decide +kernel
theorem d21_3 : decode jdk_52_method_15_code 3 = .ok (.isub, 1) := by decide +kernel
theorem d21_4 : decode jdk_52_method_15_code 4 = .ok (.bipush 31, 2) := by decide +kernel
theorem d21_6 : decode jdk_52_method_15_code 6 = .ok (.iushr, 1) := by decide +kernel
theorem d21_7 : decode jdk_52_method_15_code 7 = .ok (.i2b, 1) := by decide +kernel
theorem d21_8 : decode jdk_52_method_15_code 8 = .ok (.ireturn, 1) := by decide +kernel
theorem d22_0 : decode jdk_42_method_139_code 0 = .ok (.getstatic 38, 3) := by decide +kernel
theorem d22_3 : decode jdk_42_method_139_code 3 = .ok (.ifCond .eq 23, 3) := by decide +kernel
theorem d22_6 : decode jdk_42_method_139_code 6 = .ok (.iload_n 0, 1) := by decide +kernel
theorem d22_7 : decode jdk_42_method_139_code 7 = .ok (.invokestatic 1015, 3) := by decide +kernel
theorem d22_10 : decode jdk_42_method_139_code 10 = .ok (.ifCond .eq 16, 3) := by decide +kernel
theorem d22_13 : decode jdk_42_method_139_code 13 = .ok (.new 10, 3) := by decide +kernel
theorem d22_16 : decode jdk_42_method_139_code 16 = .ok (.dup, 1) := by decide +kernel
theorem d22_17 : decode jdk_42_method_139_code 17 = .ok (.iload_n 0, 1) := by decide +kernel
theorem d22_18 : decode jdk_42_method_139_code 18 = .ok (.invokestatic 1018, 3) := by decide +kernel
theorem d22_21 : decode jdk_42_method_139_code 21 = .ok (.iconst 0, 1) := by decide +kernel
theorem d22_22 : decode jdk_42_method_139_code 22 = .ok (.invokespecial 209, 3) := by decide +kernel
theorem d22_25 : decode jdk_42_method_139_code 25 = .ok (.areturn, 1) := by decide +kernel
theorem d23_0 : decode jdk_43_method_3_code 0 = .ok (.iload_n 0, 1) := by decide +kernel
theorem d23_1 : decode jdk_43_method_3_code 1 = .ok (.sipush 255, 3) := by decide +kernel
theorem d23_4 : decode jdk_43_method_3_code 4 = .ok (.if_icmp .gt 7, 3) := by decide +kernel
theorem d23_7 : decode jdk_43_method_3_code 7 = .ok (.iconst 1, 1) := by decide +kernel
theorem d23_8 : decode jdk_43_method_3_code 8 = .ok (.goto 4, 3) := by decide +kernel
theorem d23_12 : decode jdk_43_method_3_code 12 = .ok (.ireturn, 1) := by decide +kernel
theorem d24_0 : decode jdk_43_method_46_code 0 = .ok (.iconst 1, 1) := by decide +kernel
theorem d24_1 : decode jdk_43_method_46_code 1 = .ok (.newarray .byte, 2) := by decide +kernel
theorem d24_3 : decode jdk_43_method_46_code 3 = .ok (.dup, 1) := by decide +kernel
theorem d24_4 : decode jdk_43_method_46_code 4 = .ok (.iconst 0, 1) := by decide +kernel
theorem d24_5 : decode jdk_43_method_46_code 5 = .ok (.iload_n 0, 1) := by decide +kernel
theorem d24_6 : decode jdk_43_method_46_code 6 = .ok (.i2b, 1) := by decide +kernel
theorem d24_7 : decode jdk_43_method_46_code 7 = .ok (.bastore, 1) := by decide +kernel
theorem d24_8 : decode jdk_43_method_46_code 8 = .ok (.areturn, 1) := by decide +kernel
theorem d25_0 : decode jdk_42_method_151_code 0 = .ok (.aload_n 0, 1) := by decide +kernel
theorem d25_1 : decode jdk_42_method_151_code 1 = .ok (.invokespecial 1, 3) := by decide +kernel
theorem d25_4 : decode jdk_42_method_151_code 4 = .ok (.aload_n 0, 1) := by decide +kernel
theorem d25_5 : decode jdk_42_method_151_code 5 = .ok (.aload_n 1, 1) := by decide +kernel
theorem d25_6 : decode jdk_42_method_151_code 6 = .ok (.putfield 9, 3) := by decide +kernel
theorem d25_9 : decode jdk_42_method_151_code 9 = .ok (.aload_n 0, 1) := by decide +kernel
theorem d25_10 : decode jdk_42_method_151_code 10 = .ok (.iload_n 2, 1) := by decide +kernel
theorem d25_11 : decode jdk_42_method_151_code 11 = .ok (.putfield 15, 3) := by decide +kernel
theorem d25_14 : decode jdk_42_method_151_code 14 = .ok (.return_, 1) := by decide +kernel
theorem oef0 (m : MethodId) (x0 : Addr) : entryFrame m #[(.ref x0)] 1 = mkF m 0 #[.val (.ref x0)] [] := by first | (simp [entryFrame, mkF, argsToLocals, Value.category]; done) | rfl
theorem oef1 (m : MethodId) (x0 : Addr) (x1 : Addr) : entryFrame m #[(.ref x0), (.ref x1)] 2 = mkF m 0 #[.val (.ref x0), .val (.ref x1)] [] := by first | (simp [entryFrame, mkF, argsToLocals, Value.category]; done) | rfl
theorem oef2 (m : MethodId) (x0 : Addr) (x1 : Addr) (x2 : Addr) : entryFrame m #[(.ref x0), (.ref x1), (.ref x2)] 3 = mkF m 0 #[.val (.ref x0), .val (.ref x1), .val (.ref x2)] [] := by first | (simp [entryFrame, mkF, argsToLocals, Value.category]; done) | rfl
theorem oef3 (m : MethodId) (x0 : Addr) (x1 : Addr) (x2 : Int32) (x3 : Int32) : entryFrame m #[(.ref x0), (.ref x1), (.int x2), (.int x3), .null] 6 = mkF m 0 #[.val (.ref x0), .val (.ref x1), .val (.int x2), .val (.int x3), .val .null, .unset] [] := by first | (simp [entryFrame, mkF, argsToLocals, Value.category]; done) | rfl
theorem oef4 (m : MethodId) (x0 : Int32) : entryFrame m #[(.int x0)] 1 = mkF m 0 #[.val (.int x0)] [] := by first | (simp [entryFrame, mkF, argsToLocals, Value.category]; done) | rfl
theorem oef5 (m : MethodId) (x0 : Addr) (x1 : Addr) (x2 : Int32) : entryFrame m #[(.ref x0), (.ref x1), (.int x2)] 3 = mkF m 0 #[.val (.ref x0), .val (.ref x1), .val (.int x2)] [] := by first | (simp [entryFrame, mkF, argsToLocals, Value.category]; done) | rfl
theorem oef6 (m : MethodId) (x0 : Addr) (x1 : Int32) (x2 : Addr) (x3 : Int32) (x4 : Int32) : entryFrame m #[(.ref x0), (.int x1), (.ref x2), (.int x3), (.int x4)] 7 = mkF m 0 #[.val (.ref x0), .val (.int x1), .val (.ref x2), .val (.int x3), .val (.int x4), .unset, .unset] [] := by first | (simp [entryFrame, mkF, argsToLocals, Value.category]; done) | rfl
theorem oef7 (m : MethodId) (x0 : Addr) (x1 : Int32) (x2 : Int32) : entryFrame m #[(.ref x0), (.int x1), (.int x2)] 6 = mkF m 0 #[.val (.ref x0), .val (.int x1), .val (.int x2), .unset, .unset, .unset] [] := by first | (simp [entryFrame, mkF, argsToLocals, Value.category]; done) | rfl
theorem oef8 (m : MethodId) (x0 : Addr) (x1 : Int32) : entryFrame m #[(.ref x0), (.int x1)] 2 = mkF m 0 #[.val (.ref x0), .val (.int x1)] [] := by first | (simp [entryFrame, mkF, argsToLocals, Value.category]; done) | rfl
theorem oef9 (m : MethodId) (x0 : Addr) (x1 : Addr) : entryFrame m #[(.ref x0), (.ref x1)] 3 = mkF m 0 #[.val (.ref x0), .val (.ref x1), .unset] [] := by first | (simp [entryFrame, mkF, argsToLocals, Value.category]; done) | rfl
theorem oef10 (m : MethodId) (x0 : Int32) (x1 : Int32) (x2 : Int32) (x3 : Int32) : entryFrame m #[(.int x0), (.int x1), (.int x2), (.int x3)] 4 = mkF m 0 #[.val (.int x0), .val (.int x1), .val (.int x2), .val (.int x3)] [] := by first | (simp [entryFrame, mkF, argsToLocals, Value.category]; done) | rfl
theorem oef11 (m : MethodId) (x0 : Int32) (x1 : Int32) (x2 : Int32) (x3 : Int32) (x4 : Int32) : entryFrame m #[(.int x0), (.int x1), (.int x2), (.int x3), (.int x4)] 5 = mkF m 0 #[.val (.int x0), .val (.int x1), .val (.int x2), .val (.int x3), .val (.int x4)] [] := by first | (simp [entryFrame, mkF, argsToLocals, Value.category]; done) | rfl
theorem oef12 (m : MethodId) (x0 : Int32) (x1 : Int32) (x2 : Int32) (x3 : Int32) : entryFrame m #[(.int x0), (.int x1), (.int x2), (.int x3)] maxLocals = mkF m 0 #[.val (.int x0), .val (.int x1), .val (.int x2), .val (.int x3), .unset, .unset, .unset, .unset, .unset, .unset, .unset, .unset, .unset, .unset, .unset, .unset, .unset] [] := by first | (simp [entryFrame, mkF, argsToLocals, Value.category, maxLocals]; done) | rfl
theorem opn_0 : plainFor x = true := plainFor_of_name (by first | (simp [plainName, overriddenIn]; done) | decide +kernel)
theorem opn_1 : plainFor (⟨"com/example/marsh_tit/marshtit/stanza/StanzasIsStanzaPinLaw", "nsFor", "(IICCC)Ljava/lang/String;"⟩ : MethodName) = true := plainFor_of_name (by first | (simp [plainName, overriddenIn]; done) | decide +kernel)
theorem opn_2 : plainFor (⟨"com/example/marsh_tit/marshtit/stanza/StanzasIsStanzaPinLaw", "nameFor", "(IICCC)Ljava/lang/String;"⟩ : MethodName) = true := plainFor_of_name (by first | (simp [plainName, overriddenIn]; done) | decide +kernel)
theorem opn_3 : plainFor (⟨"com/example/marsh_tit/marshtit/stanza/Element", "<init>", "(Ljava/lang/String;Ljava/lang/String;)V"⟩ : MethodName) = true := plainFor_of_name (by first | (simp [plainName, overriddenIn]; done) | decide +kernel)
theorem opn_5 : plainFor (⟨"java/util/LinkedHashMap", "<init>", "()V"⟩ : MethodName) = true := plainFor_of_name (by first | (simp [plainName, overriddenIn]; done) | decide +kernel)
theorem opn_6 : plainFor (⟨"java/util/HashMap", "<init>", "()V"⟩ : MethodName) = true := plainFor_of_name (by first | (simp [plainName, overriddenIn]; done) | decide +kernel)
theorem opn_7 : plainFor (⟨"java/util/AbstractMap", "<init>", "()V"⟩ : MethodName) = true := plainFor_of_name (by first | (simp [plainName, overriddenIn]; done) | decide +kernel)
theorem opn_8 : plainFor (⟨"java/util/ArrayList", "<init>", "()V"⟩ : MethodName) = true := plainFor_of_name (by first | (simp [plainName, overriddenIn]; done) | decide +kernel)
theorem opn_9 : plainFor (⟨"java/util/AbstractList", "<init>", "()V"⟩ : MethodName) = true := plainFor_of_name (by first | (simp [plainName, overriddenIn]; done) | decide +kernel)
theorem opn_10 : plainFor (⟨"java/util/AbstractCollection", "<init>", "()V"⟩ : MethodName) = true := plainFor_of_name (by first | (simp [plainName, overriddenIn]; done) | decide +kernel)
theorem opn_11 : plainFor (⟨"java/util/Objects", "requireNonNull", "(Ljava/lang/Object;Ljava/lang/String;)Ljava/lang/Object;"⟩ : MethodName) = true := plainFor_of_name (by first | (simp [plainName, overriddenIn]; done) | decide +kernel)
theorem opn_12 : plainFor (⟨"com/example/marsh_tit/marshtit/stanza/Stanzas", "isStanza", "(Lcom/example/marsh_tit/marshtit/stanza/Element;)Z"⟩ : MethodName) = true := plainFor_of_name (by first | (simp [plainName, overriddenIn]; done) | decide +kernel)
theorem opn_13 : plainFor (⟨"com/example/marsh_tit/marshtit/stanza/Element", "is", "(Ljava/lang/String;Ljava/lang/String;)Z"⟩ : MethodName) = true := plainFor_of_name (by first | (simp [plainName, overriddenIn]; done) | decide +kernel)
theorem opn_14 : plainFor (⟨"java/lang/String", "equals", "(Ljava/lang/Object;)Z"⟩ : MethodName) = true := plainFor_of_name (by first | (simp [plainName, overriddenIn]; done) | decide +kernel)
theorem opn_15 : plainFor (⟨"java/lang/StringLatin1", "equals", "([B[B)Z"⟩ : MethodName) = true := plainFor_of_name (by first | (simp [plainName, overriddenIn]; done) | decide +kernel)
theorem opn_16 : plainFor (⟨"com/example/marsh_tit/marshtit/stanza/StanzasIsStanzaPinLaw", "drawn", "(ICCC)Ljava/lang/String;"⟩ : MethodName) = true := plainFor_of_name (by first | (simp [plainName, overriddenIn]; done) | decide +kernel)
theorem opn_17 : plainFor (⟨"java/lang/String", "<init>", "([C)V"⟩ : MethodName) = true := plainFor_of_name (by first | (simp [plainName, overriddenIn]; done) | decide +kernel)
theorem opn_18 : plainFor (⟨"java/lang/String", "<init>", "([CIILjava/lang/Void;)V"⟩ : MethodName) = true := plainFor_of_name (by first | (simp [plainName, overriddenIn]; done) | decide +kernel)
theorem opn_19 : plainFor (⟨"java/lang/StringUTF16", "compress", "([CII)[B"⟩ : MethodName) = true := plainFor_of_name (by first | (simp [plainName, overriddenIn]; done) | decide +kernel)
theorem opn_20 : plainFor (⟨"java/lang/StringUTF16", "compress", "([CI[BII)I"⟩ : MethodName) = true := plainFor_of_name (by first | (simp [plainName, overriddenIn]; done) | decide +kernel)
theorem opn_21 : plainFor (⟨"java/lang/StringUTF16", "coderFromArrayLen", "([BI)B"⟩ : MethodName) = true := plainFor_of_name (by first | (simp [plainName, overriddenIn]; done) | decide +kernel)
theorem opn_22 : plainFor (⟨"java/lang/String", "valueOf", "(C)Ljava/lang/String;"⟩ : MethodName) = true := plainFor_of_name (by first | (simp [plainName, overriddenIn]; done) | decide +kernel)
theorem opn_23 : plainFor (⟨"java/lang/StringLatin1", "canEncode", "(C)Z"⟩ : MethodName) = true := plainFor_of_name (by first | (simp [plainName, overriddenIn]; done) | decide +kernel)
theorem opn_24 : plainFor (⟨"java/lang/StringLatin1", "toBytes", "(C)[B"⟩ : MethodName) = true := plainFor_of_name (by first | (simp [plainName, overriddenIn]; done) | decide +kernel)
theorem opn_25 : plainFor (⟨"java/lang/String", "<init>", "([BB)V"⟩ : MethodName) = true := plainFor_of_name (by first | (simp [plainName, overriddenIn]; done) | decide +kernel)
theorem own_hEL {a0 : Array Value} {Z : State} (hw : HW a0 Z) : EW Z a0 own_EL := (EW.cons (hw _ (List.mem_of_getElem? (i := 139) rfl)) (by decide) (EW.cons (hw _ (List.mem_of_getElem? (i := 4) rfl)) (by decide) (EW.cons (hw _ (List.mem_of_getElem? (i := 142) rfl)) (by decide) (EW.cons (hw _ (List.mem_of_getElem? (i := 140) rfl)) (by decide) (EW.cons (hw _ (List.mem_of_getElem? (i := 143) rfl)) (by decide) (EW.cons (hw _ (List.mem_of_getElem? (i := 145) rfl)) (by decide) (EW.cons (hw _ (List.mem_of_getElem? (i := 158) rfl)) (by decide) (EW.cons (hw _ (List.mem_of_getElem? (i := 15) rfl)) (by decide) (EW.cons (hw _ (List.mem_of_getElem? (i := 159) rfl)) (by decide) (EW.cons (hw _ (List.mem_of_getElem? (i := 144) rfl)) (by decide) (EW.cons (hw _ (List.mem_of_getElem? (i := 141) rfl)) (by decide) (EW.cons (hw _ (List.mem_of_getElem? (i := 95) rfl)) (by decide) (EW.cons (hw _ (List.mem_of_getElem? (i := 96) rfl)) (by decide) (EW.cons (hw _ (List.mem_of_getElem? (i := 115) rfl)) (by decide) (EW.cons (hw _ (List.mem_of_getElem? (i := 116) rfl)) (by decide) EW.nil)))))))))))))))
theorem own_wS {a0 : Array Value} {Z : State} (hw : HW a0 Z) : ∀ a ∈ Bundle.stringAtoms, a.before a0 Z = true := by
  intro a ha
  simp only [Bundle.stringAtoms, List.mem_cons, List.not_mem_nil, or_false] at ha
  rcases ha with rfl | rfl | rfl | rfl | rfl | rfl | rfl
  · exact (ow5 hw)
  · exact (ow6 hw)
  · exact (ow7 hw)
  · exact (ow8 hw)
  · exact (ow9 hw)
  · exact (ow10 hw)
  · exact (ow11 hw)
theorem own_nb (x : Int32) : nar .byte (x.toInt8.toInt32) = x.toInt8.toInt32 := by
  show x.toInt8.toInt32.toInt8.toInt32 = x.toInt8.toInt32
  simp
theorem own_strarr {Z : State} {h : Heap} {a b : Addr} {C : String} {k : ClassId} {ty : FieldType} {z : Int32} {vs : List Value} {dv : Value} {a0 : Array Value} {n : Nat} (E : Exa Z h a C) (A : Arv Z h b k ty z vs dv) (w : (Cond.instantiable C n).before a0 Z = true) (q : a = b) : False := by
  obtain ⟨cl, A, -⟩ := A
  exact ne_arr E w A q
theorem own_ne0 {args : Array Value} {s : State} {t : Term} {x : Int32} (e : t.eval args s none [] s = some (.int x)) (h : (Cond.not (Cond.eq t (Term.int (0 : Int32)))).value args s none s [] = some true) : ¬ x = 0 := by
  have h := not_v h
  simp only [Cond.value, Term.eval, e] at h
  simpa using h
theorem own_byte {c : Int32} (h : 0 ≤ c.toInt ∧ c.toInt ≤ 255) : ∃ n : Fin 256, c = Int32.ofNat n.val := by
  refine ⟨⟨c.toInt.toNat, by omega⟩, ?_⟩
  apply Int32.toInt_inj.mp
  rw [Int32.toInt_ofNat_of_lt (by omega)]
  show c.toInt = ((c.toInt.toNat : Nat) : Int)
  omega
theorem own_ch {c : Int32} (h : 0 ≤ c.toInt ∧ c.toInt ≤ 255) : nar .char ((c.toInt8.toInt32 &&& 255).toUInt32.toUInt16.toUInt32.toInt32) = c := by
  obtain ⟨n, rfl⟩ := own_byte h
  revert n; decide +kernel
theorem own_nc {c : Int32} (h : 0 ≤ c.toInt ∧ c.toInt ≤ 255) : nar .char c = c := by
  obtain ⟨n, rfl⟩ := own_byte h
  revert n; decide +kernel
theorem own_shr0 (x : Int32) : x >>> ((0 : Int32) &&& 31) = x := by
  have h := c_ishr x 0 0 (by decide)
  apply Int32.toInt_inj.mp
  rw [h]; simp
theorem own_le255 {c : Int32} (h : 0 ≤ c.toInt ∧ c.toInt ≤ 255) : ¬ (255 : Int32) < c := by
  rw [Int32.lt_iff_toInt_lt]
  have e : (255 : Int32).toInt = 255 := by decide
  omega
theorem own_getD (us : List Int32) {z : Int32} {i : Nat} (h : z.toNatClampNeg = i) : (us.map Value.int).getD z.toNatClampNeg (.int 0) = .int (us.getD i 0) := by
  rw [h]; simp only [List.getD_eq_getElem?_getD, List.getElem?_map]; cases us[i]? <;> rfl
theorem own_nlt {z n : Int32} {i k : Nat} (h : ¬ z < 0 ∧ z.toNatClampNeg = i) (hn : n.toNatClampNeg = k) (q : k ≤ i) : ¬ z < n := by
  obtain ⟨h1, h⟩ := h
  rw [Int32.lt_iff_toInt_lt] at h1 ⊢
  have e0 : (0 : Int32).toInt = 0 := by decide
  unfold Int32.toNatClampNeg at h hn; omega
theorem own_lt1 {z n : Int32} {i k : Nat} (h : ¬ z < 0 ∧ z.toNatClampNeg = i) (hn : n.toNatClampNeg = k) (hp : ¬ n < 0) (q : i < k) : z < n := by
  have h1 := h.1; have h2 := h.2
  rw [Int32.lt_iff_toInt_lt] at h1 hp ⊢
  have e : (0 : Int32).toInt = 0 := by decide
  rw [e] at h1 hp
  unfold Int32.toNatClampNeg at h2 hn; omega
theorem own_iinc {z n : Int32} {i : Nat} (h : ¬ z < 0 ∧ z.toNatClampNeg = i) (q : i < n.toNatClampNeg) (hp : ¬ n < 0) : ¬ (z + 1) < 0 ∧ (z + 1).toNatClampNeg = i + 1 := by
  have h1 := h.1; have h2 := h.2; have a := c_iadd z 1; have r := rng32 (z + 1); have r2 := rng32 n
  have e1 : (1 : Int32).toInt = 1 := by decide
  have e0 : (0 : Int32).toInt = 0 := by decide
  rw [e1] at a
  rw [Int32.lt_iff_toInt_lt, e0] at h1 hp ⊢
  unfold Int32.toNatClampNeg at h2 q ⊢; omega
theorem own_eqstep {us ws : List Int32} {i : Nat} (hj : ∀ j, j < i → us[j]? = ws[j]?) (hlt : i < us.length) (hle : us.length = ws.length) (q : us.getD i 0 = ws.getD i 0) : ∀ j, j < i + 1 → us[j]? = ws[j]? := by
  intro j h
  by_cases e : j = i
  · subst e
    simp only [List.getD_eq_getElem?_getD] at q
    rw [List.getElem?_eq_getElem hlt, List.getElem?_eq_getElem (by omega)] at q ⊢
    simpa using q
  · exact hj j (by omega)
theorem own_eqall {us ws : List Int32} {i : Nat} (hle : us.length = ws.length) (hi : us.length ≤ i) (hj : ∀ j, j < i → us[j]? = ws[j]?) : us = ws := by
  apply List.ext_getElem?
  intro j
  by_cases h : j < i
  · exact hj j h
  · rw [List.getElem?_eq_none (by omega), List.getElem?_eq_none (by omega)]
theorem own_len_ne {us ws : List Int32} {n1 n2 : Int32} (q : us = ws) (h1 : n1.toNatClampNeg = us.length) (h2 : n2.toNatClampNeg = ws.length) (p1 : ¬ n1 < 0) (p2 : ¬ n2 < 0) : n1 = n2 := by
  have e : n1.toNatClampNeg = n2.toNatClampNeg := by rw [h1, h2, q]
  rw [← (back32 p1).1, ← (back32 p2).1, e]
theorem own_eqsame {Z : State} {h : Heap} {a1 a2 b1 b2 : Addr} {k1 k2 : ClassId} {us ws : List Int32} {n1 n2 : Int32} {C n d : String} (e : a1 = a2) (F1 : Fld Z h a1 C n d (.ref b1)) (F2 : Fld Z h a2 C n d (.ref b2)) (V1 : Arv Z h b1 k1 .byte n1 (us.map Value.int) (.int 0)) (V2 : Arv Z h b2 k2 .byte n2 (ws.map Value.int) (.int 0)) (h1 : n1.toNatClampNeg = us.length) (h2 : n2.toNatClampNeg = ws.length) : us = ws := by
  subst e
  have eb : b1 = b2 := Classical.byContradiction fun q => Fld.ne F1 F2 (fun z => q (Value.ref.inj z)) rfl
  subst eb
  obtain ⟨c1, A1, -, S1, -, H1, -⟩ := V1
  obtain ⟨c2, A2, -, S2, -, H2, -⟩ := V2
  cases A1.1.symm.trans A2.1
  have hle : us.length = ws.length := by rw [← h1, ← h2, ← S1, ← S2]
  refine own_eqall (i := us.length) hle (Nat.le_refl _) fun j hj => ?_
  have q := (H1 j (by omega)).symm.trans (H2 j (by omega))
  simp only [List.getD_eq_getElem?_getD, List.getElem?_map] at q
  rw [List.getElem?_eq_getElem hj, List.getElem?_eq_getElem (by omega)] at q ⊢
  simpa using q
def own_dr (l c0 c1 c2 : Int32) : List Int32 := if l = 0 then [] else if l = 1 then [c0.toInt8.toInt32] else if l = 2 then [c0.toInt8.toInt32, c1.toInt8.toInt32] else [c0.toInt8.toInt32, c1.toInt8.toInt32, c2.toInt8.toInt32]
def own_ns (k l c0 c1 c2 : Int32) : List Int32 := if k = 0 then [106, 97, 98, 98, 101, 114, 58, 99, 108, 105, 101, 110, 116] else if k = 1 then [106, 97, 98, 98, 101, 114, 58, 115, 101, 114, 118, 101, 114] else if k = 2 then [106, 97, 98, 98, 101, 114, 58, 99, 108, 105, 101, 110, 84] else own_dr l c0 c1 c2
def own_nm (k l c0 c1 c2 : Int32) : List Int32 := if k = 0 then [109, 101, 115, 115, 97, 103, 101] else if k = 1 then [112, 114, 101, 115, 101, 110, 99, 101] else if k = 2 then [105, 113] else if k = 3 then [77, 101, 115, 115, 97, 103, 101] else if k = 4 then [109, 101, 115, 115, 97, 103, 101, 115] else if k = 5 then [112, 114, 101, 115, 101, 110, 99] else if k = 6 then [105, 81] else own_dr l c0 c1 c2
def own_st (us ws : List Int32) : Prop := us = [106, 97, 98, 98, 101, 114, 58, 99, 108, 105, 101, 110, 116] ∧ (ws = [109, 101, 115, 115, 97, 103, 101] ∨ ws = [112, 114, 101, 115, 101, 110, 99, 101] ∨ ws = [105, 113])
instance (us ws : List Int32) : Decidable (own_st us ws) := by unfold own_st; exact inferInstance
def own_ex (k m l x0 x1 : Int32) : Prop := k = 0 ∧ (¬ 2 < m ∨ (m = 7 ∧ l = 2 ∧ x0 = 105 ∧ x1 = 113))
instance (k m l x0 x1 : Int32) : Decidable (own_ex k m l x0 x1) := by unfold own_ex; exact inferInstance
theorem own_sty {us ws : List Int32} (h : (us = [106, 97, 98, 98, 101, 114, 58, 99, 108, 105, 101, 110, 116] ∧ ws = [109, 101, 115, 115, 97, 103, 101]) ∨ (us = [106, 97, 98, 98, 101, 114, 58, 99, 108, 105, 101, 110, 116] ∧ ws = [112, 114, 101, 115, 101, 110, 99, 101]) ∨ (us = [106, 97, 98, 98, 101, 114, 58, 99, 108, 105, 101, 110, 116] ∧ ws = [105, 113])) : own_st us ws := by
  rcases h with ⟨h1, h2⟩ | ⟨h1, h2⟩ | ⟨h1, h2⟩
  · exact ⟨h1, Or.inl h2⟩
  · exact ⟨h1, Or.inr (Or.inl h2)⟩
  · exact ⟨h1, Or.inr (Or.inr h2)⟩
theorem own_stn {us ws : List Int32} (h1 : ¬ (us = [106, 97, 98, 98, 101, 114, 58, 99, 108, 105, 101, 110, 116] ∧ ws = [109, 101, 115, 115, 97, 103, 101])) (h2 : ¬ (us = [106, 97, 98, 98, 101, 114, 58, 99, 108, 105, 101, 110, 116] ∧ ws = [112, 114, 101, 115, 101, 110, 99, 101])) (h3 : ¬ (us = [106, 97, 98, 98, 101, 114, 58, 99, 108, 105, 101, 110, 116] ∧ ws = [105, 113])) : ¬ own_st us ws := by
  rintro ⟨a, b | b | b⟩
  · exact h1 ⟨a, b⟩
  · exact h2 ⟨a, b⟩
  · exact h3 ⟨a, b⟩
theorem own_chi (x : Int32) : 0 ≤ ((x &&& 255).toUInt32.toUInt16.toUInt32.toInt32).toInt ∧ ((x &&& 255).toUInt32.toUInt16.toUInt32.toInt32).toInt ≤ 255 := by
  have h1 := c_mask x 255 8 (by decide) (by decide)
  have h : 0 ≤ (x &&& 255).toInt ∧ (x &&& 255).toInt ≤ 255 := by omega
  have e : (x &&& 255).toUInt32.toUInt16.toUInt32.toInt32 = x &&& 255 := own_nc h
  rw [e]; exact h
theorem own_chz {z x : Int32} (h : z = (x &&& 255).toUInt32.toUInt16.toUInt32.toInt32) : 0 ≤ z.toInt ∧ z.toInt ≤ 255 := h ▸ own_chi x
theorem own_m3 {z x : Int32} (h : z = x &&& 3) : z = 0 ∨ z = 1 ∨ z = 2 ∨ z = 3 := by
  have h1 := c_mask x 3 2 (by decide) (by decide)
  rw [← h] at h1
  have q : z.toInt = 0 ∨ z.toInt = 1 ∨ z.toInt = 2 ∨ z.toInt = 3 := by omega
  rcases q with q | q | q | q
  · exact Or.inl (Int32.toInt_inj.mp q)
  · exact Or.inr (Or.inl (Int32.toInt_inj.mp q))
  · exact Or.inr (Or.inr (Or.inl (Int32.toInt_inj.mp q)))
  · exact Or.inr (Or.inr (Or.inr (Int32.toInt_inj.mp q)))
theorem own_m7 {z x : Int32} (h : z = x &&& 7) : z = 0 ∨ z = 1 ∨ z = 2 ∨ z = 3 ∨ z = 4 ∨ z = 5 ∨ z = 6 ∨ z = 7 := by
  have h1 := c_mask x 7 3 (by decide) (by decide)
  rw [← h] at h1
  have q : z.toInt = 0 ∨ z.toInt = 1 ∨ z.toInt = 2 ∨ z.toInt = 3 ∨ z.toInt = 4 ∨ z.toInt = 5 ∨ z.toInt = 6 ∨ z.toInt = 7 := by omega
  rcases q with q | q | q | q | q | q | q | q
  · exact Or.inl (Int32.toInt_inj.mp q)
  · exact Or.inr (Or.inl (Int32.toInt_inj.mp q))
  · exact Or.inr (Or.inr (Or.inl (Int32.toInt_inj.mp q)))
  · exact Or.inr (Or.inr (Or.inr (Or.inl (Int32.toInt_inj.mp q))))
  · exact Or.inr (Or.inr (Or.inr (Or.inr (Or.inl (Int32.toInt_inj.mp q)))))
  · exact Or.inr (Or.inr (Or.inr (Or.inr (Or.inr (Or.inl (Int32.toInt_inj.mp q))))))
  · exact Or.inr (Or.inr (Or.inr (Or.inr (Or.inr (Or.inr (Or.inl (Int32.toInt_inj.mp q)))))))
  · exact Or.inr (Or.inr (Or.inr (Or.inr (Or.inr (Or.inr (Or.inr (Int32.toInt_inj.mp q)))))))
theorem own_drl {l c0 c1 c2 : Int32} : (own_dr l c0 c1 c2).length ≤ 3 := by
  unfold own_dr
  split
  · simp
  split
  · simp
  split <;> simp
theorem own_nsl {k l c0 c1 c2 : Int32} (hk : k = 0 ∨ k = 1 ∨ k = 2 ∨ k = 3) (hl : l = 0 ∨ l = 1 ∨ l = 2 ∨ l = 3) : (own_ns k l c0 c1 c2).length ≤ 13 := by
  have := own_drl (l := l) (c0 := c0) (c1 := c1) (c2 := c2)
  unfold own_ns; split; · simp
  split; · simp
  split; · simp
  omega
theorem own_nml {k l c0 c1 c2 : Int32} (hk : k = 0 ∨ k = 1 ∨ k = 2 ∨ k = 3 ∨ k = 4 ∨ k = 5 ∨ k = 6 ∨ k = 7) (hl : l = 0 ∨ l = 1 ∨ l = 2 ∨ l = 3) : (own_nm k l c0 c1 c2).length ≤ 13 := by
  have := own_drl (l := l) (c0 := c0) (c1 := c1) (c2 := c2)
  unfold own_nm; split; · simp
  split; · simp
  split; · simp
  split; · simp
  split; · simp
  split; · simp
  split; · simp
  omega
theorem own_ofn {us : List Int32} (h : us.length ≤ 13) : (Int32.ofNat us.length).toNatClampNeg = us.length := by
  unfold Int32.toNatClampNeg; rw [Int32.toInt_ofNat_of_lt (by omega)]; omega
theorem own_pos {us : List Int32} (h : us.length ≤ 13) : ¬ Int32.ofNat us.length < 0 := by
  rw [Int32.lt_iff_toInt_lt, Int32.toInt_ofNat_of_lt (by omega)]
  have e : (0 : Int32).toInt = 0 := by decide
  rw [e]; omega
theorem own_bv {c : Int32} (h : 0 ≤ c.toInt ∧ c.toInt ≤ 255) (v : Int32) (hv : 0 ≤ v.toInt ∧ v.toInt ≤ 255) : c.toInt8.toInt32 = v.toInt8.toInt32 ↔ c = v := by
  constructor
  · intro q
    have e := own_ch h
    rw [q, own_ch hv] at e
    exact e.symm
  · intro q; rw [q]
theorem own_fin {kk mm l7 l5 x0 x1 x2 y0 y1 y2 : Int32} (hkk : kk = 0 ∨ kk = 1 ∨ kk = 2 ∨ kk = 3) (hmm : mm = 0 ∨ mm = 1 ∨ mm = 2 ∨ mm = 3 ∨ mm = 4 ∨ mm = 5 ∨ mm = 6 ∨ mm = 7) (hl7 : l7 = 0 ∨ l7 = 1 ∨ l7 = 2 ∨ l7 = 3) (hl5 : l5 = 0 ∨ l5 = 1 ∨ l5 = 2 ∨ l5 = 3) (hx0 : 0 ≤ x0.toInt ∧ x0.toInt ≤ 255) (hx1 : 0 ≤ x1.toInt ∧ x1.toInt ≤ 255) (hx2 : 0 ≤ x2.toInt ∧ x2.toInt ≤ 255) (hy0 : 0 ≤ y0.toInt ∧ y0.toInt ≤ 255) (hy1 : 0 ≤ y1.toInt ∧ y1.toInt ≤ 255) (hy2 : 0 ≤ y2.toInt ∧ y2.toInt ≤ 255) :
    (if own_ex kk mm l7 x0 x1 then (1 : Int32) else 0) = if own_st (own_ns kk l5 y0 y1 y2) (own_nm mm l7 x0 x1 x2) then 1 else 0 := by
  have a : x0.toInt8.toInt32 = 105 ↔ x0 = 105 := own_bv hx0 105 (by decide)
  have b : x1.toInt8.toInt32 = 113 ↔ x1 = 113 := own_bv hx1 113 (by decide)
  rcases hkk with rfl | rfl | rfl | rfl
  · rcases hmm with rfl | rfl | rfl | rfl | rfl | rfl | rfl | rfl
    all_goals first | (simp [own_ex, own_st, own_ns, own_nm]; done) | skip
    rcases hl7 with rfl | rfl | rfl | rfl <;> simp [own_ex, own_st, own_ns, own_nm, own_dr, a, b]
  · simp [own_ex, own_st, own_ns]
  · simp [own_ex, own_st, own_ns]
  · rcases hl5 with rfl | rfl | rfl | rfl <;> simp [own_ex, own_st, own_ns, own_dr]
theorem own_held {tb : Tables} {e : Env} {args : Array Value} {s : State} (h : call_1_1 tb e args s) : ∀ p ∈ own_EL, Jvm.Lit.constHeld s p.1 p.2 := fun p hp => h p ((by decide : ∀ p ∈ own_EL, p ∈ consts_1) p hp)
theorem rm_am (l : Launch) (Z : State) (a0 : Array Value) (hw : HW a0 Z) (a1 : Addr) (h0 : Heap) (n0 : Nat) (O : Old Z n0 h0) :
    Con l Z (⟨"java/util/AbstractMap", "<init>", "()V"⟩ : MethodName) jdk_71_method_1_code 1 none ({ frames := 1, cells := 0, slots := 0, locals := 12 } : Room) #[(.ref a1)] h0 (fun v h L => v = none ∧ Fr n0 L ∧ h = h0) := by
  refine own_startC opn_7 ?_
  intro p e s m below meth c T0 X0 hx hby hml hZ hown hnm hret hlk e0
  have N := Fr.nil n0; have K := Keep.refl h0 []
  refine OG.cast (oef0 m a1) ?_
  refine og_aloadN (pc' := 1) X0 hx rfl rfl (hb hby d7_0) rfl ?_
  refine og_initO (pc' := 4) X0 hx hZ (W := 0) (by rw [hml]; rfl) hown (ow43 hw) (ow23 hw) (ow24 hw) e0 rfl (by decide) (by decide) (hb hby d7_1) rfl (fun T11 X11 e11 => ?_)
  refine og_retV X11 hx hlk hret (hb hby d7_4) (by decide) (by decide) ?_
  rw [e11]; exact ⟨rfl, N, rfl⟩
theorem rm_ac (l : Launch) (Z : State) (a0 : Array Value) (hw : HW a0 Z) (a1 : Addr) (h0 : Heap) (n0 : Nat) (O : Old Z n0 h0) :
    Con l Z (⟨"java/util/AbstractCollection", "<init>", "()V"⟩ : MethodName) jdk_22_method_1_code 1 none ({ frames := 1, cells := 0, slots := 0, locals := 12 } : Room) #[(.ref a1)] h0 (fun v h L => v = none ∧ Fr n0 L ∧ h = h0) := by
  refine own_startC opn_10 ?_
  intro p e s m below meth c T0 X0 hx hby hml hZ hown hnm hret hlk e0
  have N := Fr.nil n0; have K := Keep.refl h0 []
  refine OG.cast (oef0 m a1) ?_
  refine og_aloadN (pc' := 1) X0 hx rfl rfl (hb hby d10_0) rfl ?_
  refine og_initO (pc' := 4) X0 hx hZ (W := 0) (by rw [hml]; rfl) hown (ow71 hw) (ow23 hw) (ow24 hw) e0 rfl (by decide) (by decide) (hb hby d10_1) rfl (fun T11 X11 e11 => ?_)
  refine og_retV X11 hx hlk hret (hb hby d10_4) (by decide) (by decide) ?_
  rw [e11]; exact ⟨rfl, N, rfl⟩
theorem rm_hm2 (l : Launch) (Z : State) (a0 : Array Value) (hw : HW a0 Z) (a1 : Addr) (h0 : Heap) (n0 : Nat) (O : Old Z n0 h0) (E_a1 : Exa Z h0 a1 "java/util/LinkedHashMap") (F_loadFactor_a1 : Fld Z h0 a1 "java/util/HashMap" "loadFactor" "F" (.float (0 : UInt32))) (F_putMode_a1 : Fld Z h0 a1 "java/util/LinkedHashMap" "putMode" "I" (.int (0 : Int32))) (F_accessOrder_a1 : Fld Z h0 a1 "java/util/LinkedHashMap" "accessOrder" "Z" (.int (0 : Int32))) (g_a1 : n0 ≤ a1) :
    Con l Z (⟨"java/util/HashMap", "<init>", "()V"⟩ : MethodName) jdk_69_method_7_code 1 none ({ frames := 2, cells := 0, slots := 0, locals := 24 } : Room) #[(.ref a1)] h0 (fun v h L => v = none ∧ Fr n0 L ∧ Keep h0 h [a1] ∧ Fld Z h a1 "java/util/LinkedHashMap" "putMode" "I" (.int (0 : Int32)) ∧ Fld Z h a1 "java/util/LinkedHashMap" "accessOrder" "Z" (.int (0 : Int32))) := by
  refine own_startC opn_6 ?_
  intro p e s m below meth c T0 X0 hx hby hml hZ hown hnm hret hlk e0
  have N := Fr.nil n0; have K := Keep.refl h0 [a1]
  refine OG.cast (oef0 m a1) ?_
  refine og_aloadN (pc' := 1) X0 hx rfl rfl (hb hby d6_0) rfl ?_
  refine og_special (pc' := 4) (cells' := 0) (slots' := 0) (W := 0) X0 hx hZ (rm_am l Z a0 hw a1 h0 n0 O) rfl hown (ow37 hw) (ow38 hw) (ow41 hw) (ow42 hw) (by decide) (by rw [hml]; rfl) e0 opd_0 [] [] rfl rfl rfl rfl (by decide) (by decide) rfl rfl (by decide) (by decide) (hb hby d6_1) rfl (fun v11 T11 h11 L11 X11 e11 z11 => ?_)
  obtain ⟨rfl, Nq11, hq11⟩ := z11; replace e11 := e11.trans hq11; have N := Fr.app N Nq11
  show OG p e below _ (T11.setTop (mkF m 4 #[.val (.ref a1)] []))
  refine og_aloadN (pc' := 5) X11 hx rfl rfl (hb hby d6_4) rfl ?_
  refine og_ldcF (pc' := 7) X11 hx hZ hown (ow44 hw) (hb hby d6_5) rfl ?_
  refine og_putfield (pc' := 10) X11 hx hZ (ty := .float) (host := "") hown (Or.inl (ow45 hw)) Via.refl e11 F_loadFactor_a1 E_a1 (Or.inr ⟨(ow46 hw), rfl, hnm⟩) (ow26 hw) (by decide) rfl rfl (hb hby d6_7) rfl (fun T12 h12 X12 e12 W12 => ?_)
  have F_loadFactor_a1_ := F_loadFactor_a1.same W12
  have E_a1 := E_a1.wr W12; have F_putMode_a1 := F_putMode_a1.other W12 (Or.inr (slot_ne (Or.inl (ow48 hw)) (Or.inr (ow46 hw)) (by decide) (t := .int) (t' := .float) (by decide) (by decide))); have F_accessOrder_a1 := F_accessOrder_a1.other W12 (Or.inr (slot_ne (Or.inr (ow50 hw)) (Or.inr (ow46 hw)) (by decide) (t := .boolean) (t' := .float) (by decide) (by decide))); have O := O.wr W12 g_a1; have K := K.wr W12 (Or.inl (List.mem_of_getElem? (i := 0) rfl))
  have N := Fr.snoc X12 N g_a1; have F_loadFactor_a1 := F_loadFactor_a1_
  refine og_retV X12 hx hlk hret (hb hby d6_10) (by decide) (by decide) ?_
  rw [e12]; exact ⟨rfl, N, K, F_putMode_a1, F_accessOrder_a1⟩
theorem rm_lh (l : Launch) (Z : State) (a0 : Array Value) (hw : HW a0 Z) (a1 : Addr) (h0 : Heap) (n0 : Nat) (O : Old Z n0 h0) (E_a1 : Exa Z h0 a1 "java/util/LinkedHashMap") (F_loadFactor_a1 : Fld Z h0 a1 "java/util/HashMap" "loadFactor" "F" (.float (0 : UInt32))) (F_putMode_a1 : Fld Z h0 a1 "java/util/LinkedHashMap" "putMode" "I" (.int (0 : Int32))) (F_accessOrder_a1 : Fld Z h0 a1 "java/util/LinkedHashMap" "accessOrder" "Z" (.int (0 : Int32))) (g_a1 : n0 ≤ a1) :
    Con l Z (⟨"java/util/LinkedHashMap", "<init>", "()V"⟩ : MethodName) jdk_94_method_16_code 1 none ({ frames := 3, cells := 0, slots := 0, locals := 36 } : Room) #[(.ref a1)] h0 (fun v h L => v = none ∧ Fr n0 L ∧ Keep h0 h [a1]) := by
  refine own_startC opn_5 ?_
  intro p e s m below meth c T0 X0 hx hby hml hZ hown hnm hret hlk e0
  have N := Fr.nil n0; have K := Keep.refl h0 [a1]
  refine OG.cast (oef0 m a1) ?_
  refine og_aloadN (pc' := 1) X0 hx rfl rfl (hb hby d5_0) rfl ?_
  refine og_special (pc' := 4) (cells' := 0) (slots' := 0) (W := 0) X0 hx hZ (rm_hm2 l Z a0 hw a1 h0 n0 O E_a1 F_loadFactor_a1 F_putMode_a1 F_accessOrder_a1 g_a1) rfl hown (ow31 hw) (ow32 hw) (ow35 hw) (ow36 hw) (by decide) (by rw [hml]; rfl) e0 opd_0 [] [] rfl rfl rfl rfl (by decide) (by decide) rfl rfl (by decide) (by decide) (hb hby d5_1) rfl (fun v11 T11 h11 L11 X11 e11 z11 => ?_)
  obtain ⟨rfl, Nq11, K11, F_putMode_a1', F_accessOrder_a1'⟩ := z11; have N := Fr.app N Nq11
  have E_a1 := E_a1.keep K11; have O := O.keep K11 (allS g_a1 all0); have K := K.trans K11 (allS (Or.inl (List.mem_of_getElem? (i := 0) rfl)) all0)
  have F_putMode_a1 := F_putMode_a1'; have F_accessOrder_a1 := F_accessOrder_a1'
  show OG p e below _ (T11.setTop (mkF m 4 #[.val (.ref a1)] []))
  refine og_aloadN (pc' := 5) X11 hx rfl rfl (hb hby d5_4) rfl ?_
  refine og_iconst (pc' := 6) (v := (0 : Int32)) X11 hx rfl (hb hby d5_5) rfl ?_
  refine og_putfield (pc' := 9) X11 hx hZ (ty := .int) (host := "") hown (Or.inl (ow47 hw)) Via.refl e11 F_putMode_a1 E_a1 (Or.inl (ow48 hw)) (ow26 hw) (by decide) rfl rfl (hb hby d5_6) rfl (fun T12 h12 X12 e12 W12 => ?_)
  have F_putMode_a1_ := F_putMode_a1.same W12
  have E_a1 := E_a1.wr W12; have F_accessOrder_a1 := F_accessOrder_a1.other W12 (Or.inr (slot_ne (Or.inr (ow50 hw)) (Or.inl (ow48 hw)) (by decide) (t := .boolean) (t' := .int) (by decide) (by decide))); have O := O.wr W12 g_a1; have K := K.wr W12 (Or.inl (List.mem_of_getElem? (i := 0) rfl))
  have N := Fr.snoc X12 N g_a1; have F_putMode_a1 := F_putMode_a1_
  refine og_aloadN (pc' := 10) X12 hx rfl rfl (hb hby d5_9) rfl ?_
  refine og_iconst (pc' := 11) (v := (0 : Int32)) X12 hx rfl (hb hby d5_10) rfl ?_
  refine og_putfield (pc' := 14) X12 hx hZ (ty := .boolean) (host := "") hown (Or.inl (ow49 hw)) Via.refl e12 F_accessOrder_a1 E_a1 (Or.inr ⟨(ow50 hw), rfl, hnm⟩) (ow26 hw) (by decide) rfl rfl (hb hby d5_11) rfl (fun T13 h13 X13 e13 W13 => ?_)
  have F_accessOrder_a1_ := F_accessOrder_a1.same W13
  have E_a1 := E_a1.wr W13; have F_putMode_a1 := F_putMode_a1.other W13 (Or.inr (slot_ne (Or.inl (ow48 hw)) (Or.inr (ow50 hw)) (by decide) (t := .int) (t' := .boolean) (by decide) (by decide))); have O := O.wr W13 g_a1; have K := K.wr W13 (Or.inl (List.mem_of_getElem? (i := 0) rfl))
  have N := Fr.snoc X13 N g_a1; have F_accessOrder_a1 := F_accessOrder_a1_
  refine og_retV X13 hx hlk hret (hb hby d5_14) (by decide) (by decide) ?_
  rw [e13]; exact ⟨rfl, N, K⟩
theorem rm_ab (l : Launch) (Z : State) (a0 : Array Value) (hw : HW a0 Z) (a1 : Addr) (h0 : Heap) (n0 : Nat) (O : Old Z n0 h0) (E_a1 : Exa Z h0 a1 "java/util/ArrayList") (F_modCount_a1 : Fld Z h0 a1 "java/util/AbstractList" "modCount" "I" (.int (0 : Int32))) (F_elementData_a1 : Fld Z h0 a1 "java/util/ArrayList" "elementData" "[Ljava/lang/Object;" .null) (g_a1 : n0 ≤ a1) :
    Con l Z (⟨"java/util/AbstractList", "<init>", "()V"⟩ : MethodName) jdk_39_method_1_code 1 none ({ frames := 2, cells := 0, slots := 0, locals := 24 } : Room) #[(.ref a1)] h0 (fun v h L => v = none ∧ Fr n0 L ∧ Keep h0 h [a1] ∧ Fld Z h a1 "java/util/AbstractList" "modCount" "I" (.int (0 : Int32)) ∧ Fld Z h a1 "java/util/ArrayList" "elementData" "[Ljava/lang/Object;" .null) := by
  refine own_startC opn_9 ?_
  intro p e s m below meth c T0 X0 hx hby hml hZ hown hnm hret hlk e0
  have N := Fr.nil n0; have K := Keep.refl h0 [a1]
  refine OG.cast (oef0 m a1) ?_
  refine og_aloadN (pc' := 1) X0 hx rfl rfl (hb hby d9_0) rfl ?_
  refine og_special (pc' := 4) (cells' := 0) (slots' := 0) (W := 0) X0 hx hZ (rm_ac l Z a0 hw a1 h0 n0 O) rfl hown (ow65 hw) (ow66 hw) (ow69 hw) (ow70 hw) (by decide) (by rw [hml]; rfl) e0 opd_0 [] [] rfl rfl rfl rfl (by decide) (by decide) rfl rfl (by decide) (by decide) (hb hby d9_1) rfl (fun v11 T11 h11 L11 X11 e11 z11 => ?_)
  obtain ⟨rfl, Nq11, hq11⟩ := z11; replace e11 := e11.trans hq11; have N := Fr.app N Nq11
  show OG p e below _ (T11.setTop (mkF m 4 #[.val (.ref a1)] []))
  refine og_aloadN (pc' := 5) X11 hx rfl rfl (hb hby d9_4) rfl ?_
  refine og_iconst (pc' := 6) (v := (0 : Int32)) X11 hx rfl (hb hby d9_5) rfl ?_
  refine og_putfield (pc' := 9) X11 hx hZ (ty := .int) (host := "") hown (Or.inl (ow72 hw)) Via.refl e11 F_modCount_a1 E_a1 (Or.inl (ow73 hw)) (ow54 hw) (by decide) rfl rfl (hb hby d9_6) rfl (fun T12 h12 X12 e12 W12 => ?_)
  have F_modCount_a1_ := F_modCount_a1.same W12
  have E_a1 := E_a1.wr W12; have F_elementData_a1 := F_elementData_a1.other W12 (Or.inr (slot_ne (Or.inl (ow76 hw)) (Or.inl (ow73 hw)) (by decide) (t := (.array (.object "java/lang/Object"))) (t' := .int) (by decide) (by decide))); have O := O.wr W12 g_a1; have K := K.wr W12 (Or.inl (List.mem_of_getElem? (i := 0) rfl))
  have N := Fr.snoc X12 N g_a1; have F_modCount_a1 := F_modCount_a1_
  refine og_retV X12 hx hlk hret (hb hby d9_9) (by decide) (by decide) ?_
  rw [e12]; exact ⟨rfl, N, K, F_modCount_a1, F_elementData_a1⟩
theorem rm_al (l : Launch) (Z : State) (a0 : Array Value) (hw : HW a0 Z) (a1 de : Addr) (h0 : Heap) (n0 : Nat) (O : Old Z n0 h0) (E_a1 : Exa Z h0 a1 "java/util/ArrayList") (F_modCount_a1 : Fld Z h0 a1 "java/util/AbstractList" "modCount" "I" (.int (0 : Int32))) (F_elementData_a1 : Fld Z h0 a1 "java/util/ArrayList" "elementData" "[Ljava/lang/Object;" .null) (S_DE : Sta Z Z.heap "java/util/ArrayList" "DEFAULTCAPACITY_EMPTY_ELEMENTDATA" "[Ljava/lang/Object;" (.ref de)) (g_a1 : n0 ≤ a1) :
    Con l Z (⟨"java/util/ArrayList", "<init>", "()V"⟩ : MethodName) jdk_38_method_2_code 1 none ({ frames := 3, cells := 0, slots := 0, locals := 36 } : Room) #[(.ref a1)] h0 (fun v h L => v = none ∧ Fr n0 L ∧ Keep h0 h [a1] ∧ Fld Z h a1 "java/util/AbstractList" "modCount" "I" (.int (0 : Int32)) ∧ Fld Z h a1 "java/util/ArrayList" "elementData" "[Ljava/lang/Object;" (.ref de)) := by
  refine own_startC opn_8 ?_
  intro p e s m below meth c T0 X0 hx hby hml hZ hown hnm hret hlk e0
  have N := Fr.nil n0; have K := Keep.refl h0 [a1]
  refine OG.cast (oef0 m a1) ?_
  refine og_aloadN (pc' := 1) X0 hx rfl rfl (hb hby d8_0) rfl ?_
  refine og_special (pc' := 4) (cells' := 0) (slots' := 0) (W := 0) X0 hx hZ (rm_ab l Z a0 hw a1 h0 n0 O E_a1 F_modCount_a1 F_elementData_a1 g_a1) rfl hown (ow59 hw) (ow60 hw) (ow63 hw) (ow64 hw) (by decide) (by rw [hml]; rfl) e0 opd_0 [] [] rfl rfl rfl rfl (by decide) (by decide) rfl rfl (by decide) (by decide) (hb hby d8_1) rfl (fun v11 T11 h11 L11 X11 e11 z11 => ?_)
  obtain ⟨rfl, Nq11, K11, F_modCount_a1', F_elementData_a1'⟩ := z11; have N := Fr.app N Nq11
  have E_a1 := E_a1.keep K11; have O := O.keep K11 (allS g_a1 all0); have K := K.trans K11 (allS (Or.inl (List.mem_of_getElem? (i := 0) rfl)) all0)
  have F_modCount_a1 := F_modCount_a1'; have F_elementData_a1 := F_elementData_a1'
  show OG p e below _ (T11.setTop (mkF m 4 #[.val (.ref a1)] []))
  refine og_aloadN (pc' := 5) X11 hx rfl rfl (hb hby d8_4) rfl ?_
  refine og_getstatic (pc' := 8) X11 hx hZ (host := "") hown (Or.inl (ow74 hw)) Via.refl e11 (S_DE.ext O.2) (hb hby d8_5) rfl (fun T12 X12 e12 => ?_)
  refine og_putfield (pc' := 11) X12 hx hZ (ty := (.array (.object "java/lang/Object"))) (host := "") hown (Or.inl (ow75 hw)) Via.refl e12 F_elementData_a1 E_a1 (Or.inl (ow76 hw)) (ow54 hw) (by decide) rfl rfl (hb hby d8_8) rfl (fun T13 h13 X13 e13 W13 => ?_)
  have F_elementData_a1_ := F_elementData_a1.same W13
  have E_a1 := E_a1.wr W13; have F_modCount_a1 := F_modCount_a1.other W13 (Or.inr (slot_ne (Or.inl (ow73 hw)) (Or.inl (ow76 hw)) (by decide) (t := .int) (t' := (.array (.object "java/lang/Object"))) (by decide) (by decide))); have O := O.wr W13 g_a1; have K := K.wr W13 (Or.inl (List.mem_of_getElem? (i := 0) rfl))
  have N := Fr.snoc X13 N g_a1; have F_elementData_a1 := F_elementData_a1_
  refine og_retV X13 hx hlk hret (hb hby d8_11) (by decide) (by decide) ?_
  rw [e13]; exact ⟨rfl, N, K, F_modCount_a1, F_elementData_a1⟩
theorem rm_rnn (l : Launch) (Z : State) (a0 : Array Value) (hw : HW a0 Z) (a1 a2 : Addr) (h0 : Heap) (n0 : Nat) (O : Old Z n0 h0) :
    Con l Z (⟨"java/util/Objects", "requireNonNull", "(Ljava/lang/Object;Ljava/lang/String;)Ljava/lang/Object;"⟩ : MethodName) jdk_31_method_11_code 2 (some (.object "java/lang/Object")) ({ frames := 0, cells := 0, slots := 0, locals := 0 } : Room) #[(.ref a1), (.ref a2)] h0 (fun v h L => v = some (.ref a1) ∧ Fr n0 L ∧ h = h0) := by
  refine own_startC opn_11 ?_
  intro p e s m below meth c T0 X0 hx hby hml hZ hown hnm hret hlk e0
  have N := Fr.nil n0; have K := Keep.refl h0 []
  refine OG.cast (oef1 m a1 a2) ?_
  refine og_aloadN (pc' := 1) X0 hx rfl rfl (hb hby d11_0) rfl ?_
  refine og_ifnonnull (pc1 := 13) (pc2 := 4) X0 hx rfl (hb hby d11_1) (by decide) (by decide) rfl (fun _ => ?_) (fun q => absurd q nofun)
  refine og_aloadN (pc' := 14) X0 hx rfl rfl (hb hby d11_13) rfl ?_
  refine og_retR X0 hx hlk hret rfl rfl rfl (hb hby d11_14) (by decide) (by decide) ?_
  rw [e0]; exact ⟨rfl, N, rfl⟩
theorem rm_el (l : Launch) (Z : State) (a0 : Array Value) (hw : HW a0 Z) (t1 s1 s2 de : Addr) (h0 : Heap) (n0 : Nat) (O : Old Z n0 h0) (hEL : EW Z a0 own_EL) (E_t1 : Exa Z h0 t1 "com/example/marsh_tit/marshtit/stanza/Element") (F__attributes_t1 : Fld Z h0 t1 "com/example/marsh_tit/marshtit/stanza/Element" "_attributes" "Ljava/util/Map;" .null) (F__children_t1 : Fld Z h0 t1 "com/example/marsh_tit/marshtit/stanza/Element" "_children" "Ljava/util/List;" .null) (F__namespace_t1 : Fld Z h0 t1 "com/example/marsh_tit/marshtit/stanza/Element" "_namespace" "Ljava/lang/String;" .null) (F__name_t1 : Fld Z h0 t1 "com/example/marsh_tit/marshtit/stanza/Element" "_name" "Ljava/lang/String;" .null) (E_s1 : Exa Z h0 s1 "java/lang/String") (E_s2 : Exa Z h0 s2 "java/lang/String") (S_DE : Sta Z Z.heap "java/util/ArrayList" "DEFAULTCAPACITY_EMPTY_ELEMENTDATA" "[Ljava/lang/Object;" (.ref de)) (g_t1 : n0 ≤ t1) (ne_s1_t1 : s1 ≠ t1) (ne_s2_t1 : s2 ≠ t1) :
    ConW l Z own_EL [] (⟨"com/example/marsh_tit/marshtit/stanza/Element", "<init>", "(Ljava/lang/String;Ljava/lang/String;)V"⟩ : MethodName) prog_19_method_1_code 3 none ({ frames := 4, cells := 6, slots := 75, locals := 50 } : Room) #[(.ref t1), (.ref s1), (.ref s2)] h0 (fun v h L => v = none ∧ Fr n0 L ∧ Keep h0 h [t1] ∧ Fld Z h t1 "com/example/marsh_tit/marshtit/stanza/Element" "_namespace" "Ljava/lang/String;" (.ref s1) ∧ Fld Z h t1 "com/example/marsh_tit/marshtit/stanza/Element" "_name" "Ljava/lang/String;" (.ref s2)) := by
  refine own_startWC opn_3 ?_
  intro p e s m below meth c T0 X0 hx hby hml hZ hown hnm hret hlk e0 es hS CR hsf
  have N := Fr.nil n0; have K := Keep.refl h0 [t1]; have hk := Nat.le_refl h0.size
  refine OG.cast (oef2 m t1 s1 s2) ?_
  refine og_aloadN (pc' := 1) X0 hx rfl rfl (hb hby d3_0) rfl ?_
  refine og_initO (pc' := 4) X0 hx hZ (W := 0) (by rw [hml]; rfl) hown (ow22 hw) (ow23 hw) (ow24 hw) e0 rfl (by decide) (by decide) (hb hby d3_1) rfl (fun T11 X11 e11 => ?_)
  refine og_aloadN (pc' := 5) X11 hx rfl rfl (hb hby d3_4) rfl ?_
  refine og_new (pc' := 8) (cells' := 1) (slots' := 12) X11 hx hZ hown (ow25 hw) (ow26 hw) (ow27 hw) e11 (hb hby d3_5) rfl rfl rfl (by decide) (by decide) (fun T12 h12 nb12 X12 e12 E12 q12 E_nb12 D12 B12 => ?_)
  have s_nb12 : h0.size ≤ nb12 := Nat.le_of_eq q12.symm; have g_nb12 : n0 ≤ nb12 := Nat.le_trans (own_n0 O) s_nb12; have sz_nb12 : h0.size ≤ nb12 := Nat.le_trans K.1 s_nb12; have ne_t1_nb12 : t1 ≠ nb12 := Nat.ne_of_lt (Nat.lt_of_lt_of_le E_t1.lt s_nb12); have ne_s1_nb12 : s1 ≠ nb12 := Nat.ne_of_lt (Nat.lt_of_lt_of_le E_s1.lt s_nb12); have ne_s2_nb12 : s2 ≠ nb12 := Nat.ne_of_lt (Nat.lt_of_lt_of_le E_s2.lt s_nb12)
  have Q_nb12 : Safe Z own_EL _ _ nb12 := Safe.new (Z := Z) (EL := own_EL) (vm := s.vm) s_nb12
  have Q_nb12 := Safe.ext E12 CR.1 Q_nb12; have E_t1 := E_t1.ext E12; have F__attributes_t1 := F__attributes_t1.ext E12; have F__children_t1 := F__children_t1.ext E12; have F__namespace_t1 := F__namespace_t1.ext E12; have F__name_t1 := F__name_t1.ext E12
  have E_s1 := E_s1.ext E12; have E_s2 := E_s2.ext E12; have O := O.ext E12; have K := K.ext E12; have hk := Nat.le_trans hk E12.1; have CR := CR.trans (CHr.ext E12 CR.1)
  have F_loadFactor_nb12 : Fld Z h12 nb12 "java/util/HashMap" "loadFactor" "F" (.float (0 : UInt32)) := D12 (Or.inr (ow46 hw)) (ty := .float) (by decide)
  have F_putMode_nb12 : Fld Z h12 nb12 "java/util/LinkedHashMap" "putMode" "I" (.int (0 : Int32)) := D12 (Or.inl (ow48 hw)) (ty := .int) (by decide)
  have F_accessOrder_nb12 : Fld Z h12 nb12 "java/util/LinkedHashMap" "accessOrder" "Z" (.int (0 : Int32)) := D12 (Or.inr (ow50 hw)) (ty := .boolean) (by decide)
  refine og_dup (pc' := 9) X12 hx rfl (hb hby d3_8) rfl ?_
  refine og_special (pc' := 12) (cells' := 1) (slots' := 12) (W := 2) X12 hx hZ (rm_lh l Z a0 hw nb12 h12 n0 O E_nb12 F_loadFactor_nb12 F_putMode_nb12 F_accessOrder_nb12 g_nb12) rfl hown (ow28 hw) (ow29 hw) (ow27 hw) (ow30 hw) (by decide) (by rw [hml]; rfl) e12 opd_0 [] [(.ref nb12), (.ref t1)] rfl rfl rfl rfl (by decide) (by decide) rfl rfl (by decide) (by decide) (hb hby d3_9) rfl (fun v13 T13 h13 L13 X13 e13 z13 => ?_)
  obtain ⟨rfl, Nq13, K13⟩ := z13; have N := Fr.app N Nq13
  have sf13 : ∀ x ∈ ([nb12] : List Addr), Safe Z own_EL s.vm h12 x := (sfS Q_nb12 sf0); have Q_nb12 := Safe.keep K13 sf13 CR.1 Q_nb12; have E_t1 := E_t1.keep K13; have F__attributes_t1 := F__attributes_t1.keep K13 (ninS ne_t1_nb12 nin0); have F__children_t1 := F__children_t1.keep K13 (ninS ne_t1_nb12 nin0); have F__namespace_t1 := F__namespace_t1.keep K13 (ninS ne_t1_nb12 nin0)
  have F__name_t1 := F__name_t1.keep K13 (ninS ne_t1_nb12 nin0); have E_s1 := E_s1.keep K13; have E_s2 := E_s2.keep K13; have E_nb12 := E_nb12.keep K13; have O := O.keep K13 (allS g_nb12 all0); have K := K.trans K13 (allS (Or.inr sz_nb12) all0)
  have hk := Nat.le_trans hk K13.1; have CR := CR.trans (CHr.keep K13 sf13 CR.1)
  show OG p e below _ (T13.setTop (mkF m 12 #[.val (.ref t1), .val (.ref s1), .val (.ref s2)] [(.ref nb12), (.ref t1)]))
  refine og_putfield (pc' := 15) X13 hx hZ (ty := (.object "java/util/Map")) (host := "") hown (Or.inl (ow51 hw)) Via.refl e13 F__attributes_t1 E_t1 (Or.inr ⟨(ow52 hw), rfl, hnm⟩) (ow17 hw) (by decide) rfl rfl (hb hby d3_12) rfl (fun T14 h14 X14 e14 W14 => ?_)
  have F__attributes_t1_ := F__attributes_t1.same W14
  have sf14 : Safe Z own_EL s.vm h13 t1 := (Safe.exa hZ.alike E_t1 (by decide) (by decide)); have Q_nb12 := Safe.wr W14 sf14 CR.1 Q_nb12; have E_t1 := E_t1.wr W14; have F__children_t1 := F__children_t1.other W14 (Or.inr (slot_ne (Or.inr (ow78 hw)) (Or.inr (ow52 hw)) (by decide) (t := (.object "java/util/List")) (t' := (.object "java/util/Map")) (by decide) (by decide))); have F__namespace_t1 := F__namespace_t1.other W14 (Or.inr (slot_ne (Or.inr (ow87 hw)) (Or.inr (ow52 hw)) (by decide) (t := (.object "java/lang/String")) (t' := (.object "java/util/Map")) (by decide) (by decide))); have F__name_t1 := F__name_t1.other W14 (Or.inr (slot_ne (Or.inr (ow90 hw)) (Or.inr (ow52 hw)) (by decide) (t := (.object "java/lang/String")) (t' := (.object "java/util/Map")) (by decide) (by decide)))
  have E_s1 := E_s1.wr W14; have E_s2 := E_s2.wr W14; have E_nb12 := E_nb12.wr W14; have O := O.wr W14 g_t1; have K := K.wr W14 (Or.inl (List.mem_of_getElem? (i := 0) rfl)); have hk := Nat.le_trans hk (Keep.of_wr W14).1
  have CR := CR.trans (CHr.wr W14 sf14 CR.1)
  have N := Fr.snoc X14 N g_t1; have F__attributes_t1 := F__attributes_t1_
  refine og_aloadN (pc' := 16) X14 hx rfl rfl (hb hby d3_15) rfl ?_
  refine og_new (pc' := 19) (cells' := 2) (slots' := 15) X14 hx hZ hown (ow53 hw) (ow54 hw) (ow55 hw) e14 (hb hby d3_16) rfl rfl rfl (by decide) (by decide) (fun T15 h15 nb15 X15 e15 E15 q15 E_nb15 D15 B15 => ?_)
  have s_nb15 : h14.size ≤ nb15 := Nat.le_of_eq q15.symm; have g_nb15 : n0 ≤ nb15 := Nat.le_trans (own_n0 O) s_nb15; have sz_nb15 : h0.size ≤ nb15 := Nat.le_trans K.1 s_nb15; have ne_t1_nb15 : t1 ≠ nb15 := Nat.ne_of_lt (Nat.lt_of_lt_of_le E_t1.lt s_nb15); have ne_s1_nb15 : s1 ≠ nb15 := Nat.ne_of_lt (Nat.lt_of_lt_of_le E_s1.lt s_nb15); have ne_s2_nb15 : s2 ≠ nb15 := Nat.ne_of_lt (Nat.lt_of_lt_of_le E_s2.lt s_nb15)
  have ne_nb12_nb15 : nb12 ≠ nb15 := Nat.ne_of_lt (Nat.lt_of_lt_of_le E_nb12.lt s_nb15); have Q_nb15 : Safe Z own_EL _ _ nb15 := Safe.new (Z := Z) (EL := own_EL) (vm := s.vm) s_nb15
  have Q_nb12 := Safe.ext E15 CR.1 Q_nb12; have Q_nb15 := Safe.ext E15 CR.1 Q_nb15; have E_t1 := E_t1.ext E15; have F__children_t1 := F__children_t1.ext E15; have F__namespace_t1 := F__namespace_t1.ext E15; have F__name_t1 := F__name_t1.ext E15
  have E_s1 := E_s1.ext E15; have E_s2 := E_s2.ext E15; have E_nb12 := E_nb12.ext E15; have F__attributes_t1 := F__attributes_t1.ext E15; have O := O.ext E15; have K := K.ext E15
  have hk := Nat.le_trans hk E15.1; have CR := CR.trans (CHr.ext E15 CR.1)
  have F_modCount_nb15 : Fld Z h15 nb15 "java/util/AbstractList" "modCount" "I" (.int (0 : Int32)) := D15 (Or.inl (ow73 hw)) (ty := .int) (by decide)
  have F_elementData_nb15 : Fld Z h15 nb15 "java/util/ArrayList" "elementData" "[Ljava/lang/Object;" .null := D15 (Or.inl (ow76 hw)) (ty := (.array (.object "java/lang/Object"))) (by decide)
  refine og_dup (pc' := 20) X15 hx rfl (hb hby d3_19) rfl ?_
  refine og_special (pc' := 23) (cells' := 2) (slots' := 15) (W := 2) X15 hx hZ (rm_al l Z a0 hw nb15 de h15 n0 O E_nb15 F_modCount_nb15 F_elementData_nb15 S_DE g_nb15) rfl hown (ow56 hw) (ow57 hw) (ow55 hw) (ow58 hw) (by decide) (by rw [hml]; rfl) e15 opd_0 [] [(.ref nb15), (.ref t1)] rfl rfl rfl rfl (by decide) (by decide) rfl rfl (by decide) (by decide) (hb hby d3_20) rfl (fun v16 T16 h16 L16 X16 e16 z16 => ?_)
  obtain ⟨rfl, Nq16, K16, F_modCount_nb15', F_elementData_nb15'⟩ := z16; have N := Fr.app N Nq16
  have sf16 : ∀ x ∈ ([nb15] : List Addr), Safe Z own_EL s.vm h15 x := (sfS Q_nb15 sf0); have Q_nb12 := Safe.keep K16 sf16 CR.1 Q_nb12; have Q_nb15 := Safe.keep K16 sf16 CR.1 Q_nb15; have E_t1 := E_t1.keep K16; have F__children_t1 := F__children_t1.keep K16 (ninS ne_t1_nb15 nin0); have F__namespace_t1 := F__namespace_t1.keep K16 (ninS ne_t1_nb15 nin0)
  have F__name_t1 := F__name_t1.keep K16 (ninS ne_t1_nb15 nin0); have E_s1 := E_s1.keep K16; have E_s2 := E_s2.keep K16; have E_nb12 := E_nb12.keep K16; have F__attributes_t1 := F__attributes_t1.keep K16 (ninS ne_t1_nb15 nin0); have E_nb15 := E_nb15.keep K16
  have O := O.keep K16 (allS g_nb15 all0); have K := K.trans K16 (allS (Or.inr sz_nb15) all0); have hk := Nat.le_trans hk K16.1; have CR := CR.trans (CHr.keep K16 sf16 CR.1)
  have F_modCount_nb15 := F_modCount_nb15'; have F_elementData_nb15 := F_elementData_nb15'
  show OG p e below _ (T16.setTop (mkF m 23 #[.val (.ref t1), .val (.ref s1), .val (.ref s2)] [(.ref nb15), (.ref t1)]))
  refine og_putfield (pc' := 26) X16 hx hZ (ty := (.object "java/util/List")) (host := "") hown (Or.inl (ow77 hw)) Via.refl e16 F__children_t1 E_t1 (Or.inr ⟨(ow78 hw), rfl, hnm⟩) (ow17 hw) (by decide) rfl rfl (hb hby d3_23) rfl (fun T17 h17 X17 e17 W17 => ?_)
  have F__children_t1_ := F__children_t1.same W17
  have sf17 : Safe Z own_EL s.vm h16 t1 := (Safe.exa hZ.alike E_t1 (by decide) (by decide)); have Q_nb12 := Safe.wr W17 sf17 CR.1 Q_nb12; have Q_nb15 := Safe.wr W17 sf17 CR.1 Q_nb15; have E_t1 := E_t1.wr W17; have F__namespace_t1 := F__namespace_t1.other W17 (Or.inr (slot_ne (Or.inr (ow87 hw)) (Or.inr (ow78 hw)) (by decide) (t := (.object "java/lang/String")) (t' := (.object "java/util/List")) (by decide) (by decide))); have F__name_t1 := F__name_t1.other W17 (Or.inr (slot_ne (Or.inr (ow90 hw)) (Or.inr (ow78 hw)) (by decide) (t := (.object "java/lang/String")) (t' := (.object "java/util/List")) (by decide) (by decide)))
  have E_s1 := E_s1.wr W17; have E_s2 := E_s2.wr W17; have E_nb12 := E_nb12.wr W17; have F__attributes_t1 := F__attributes_t1.other W17 (Or.inr (slot_ne (Or.inr (ow52 hw)) (Or.inr (ow78 hw)) (by decide) (t := (.object "java/util/Map")) (t' := (.object "java/util/List")) (by decide) (by decide))); have E_nb15 := E_nb15.wr W17; have F_modCount_nb15 := F_modCount_nb15.other W17 (Or.inl (Ne.symm ne_t1_nb15))
  have F_elementData_nb15 := F_elementData_nb15.other W17 (Or.inl (Ne.symm ne_t1_nb15)); have O := O.wr W17 g_t1; have K := K.wr W17 (Or.inl (List.mem_of_getElem? (i := 0) rfl)); have hk := Nat.le_trans hk (Keep.of_wr W17).1; have CR := CR.trans (CHr.wr W17 sf17 CR.1)
  have N := Fr.snoc X17 N g_t1; have F__children_t1 := F__children_t1_
  refine og_aloadN (pc' := 27) X17 hx rfl rfl (hb hby d3_26) rfl ?_
  refine og_aloadN (pc' := 28) X17 hx rfl rfl (hb hby d3_27) rfl ?_
  refine og_ldcO (pc' := 30) (cells' := 4) (slots' := 55) (n := 36) X17 hx hZ hown (hw _ (List.mem_of_getElem? (i := 79) rfl)) (own_wS hw) e17 hS hk hEL CR.1 (by decide) (by decide) (hb hby d3_28) rfl rfl rfl (by decide) (by decide) (fun na18 T18 h18 kk18 X18 e18 E18 hS hk hZ hown cr18 => ?_)
  have Q_nb12 := cr18.safe E_nb12.lt Q_nb12; have Q_nb15 := cr18.safe E_nb15.lt Q_nb15; have E_t1 := E_t1.ext E18; have F__namespace_t1 := F__namespace_t1.ext E18; have F__name_t1 := F__name_t1.ext E18; have E_s1 := E_s1.ext E18
  have E_s2 := E_s2.ext E18; have E_nb12 := E_nb12.ext E18; have F__attributes_t1 := F__attributes_t1.ext E18; have E_nb15 := E_nb15.ext E18; have F_modCount_nb15 := F_modCount_nb15.ext E18; have F_elementData_nb15 := F_elementData_nb15.ext E18
  have F__children_t1 := F__children_t1.ext E18; have O := O.ext E18; have K := K.ext E18; have CR := CR.trans cr18
  refine og_static (pc' := 33) (cells' := 4) (slots' := 55) (W := 1) X18 hx hZ (rm_rnn l Z a0 hw s1 na18 h18 n0 O) hown (ow80 hw) (ow81 hw) (ow82 hw) (ow83 hw) (by decide) (by rw [hml]; rfl) e18 opd_1 [(.ref s1), (.ref na18)] [(.ref t1)] rfl rfl rfl rfl (by decide) (by decide) rfl rfl (by decide) (by decide) (hb hby d3_30) rfl (fun v19 T19 h19 L19 X19 e19 z19 => ?_)
  obtain ⟨rfl, Nq19, hq19⟩ := z19; replace e19 := e19.trans hq19; have N := Fr.app N Nq19
  show OG p e below _ (T19.setTop (mkF m 33 #[.val (.ref t1), .val (.ref s1), .val (.ref s2)] [(.ref s1), (.ref t1)]))
  obtain ⟨T20, X20, e20, st20⟩ := castY X19 hx hZ hown (ow84 hw) e19 (Ins.self E_s1) (g := (mkF m 33 #[.val (.ref t1), .val (.ref s1), .val (.ref s2)] [(.ref s1), (.ref t1)])) rfl rfl (hb hby d3_33)
  refine OG.of st20 ?_
  show OG p e below _ (T20.setTop (mkF m 36 #[.val (.ref t1), .val (.ref s1), .val (.ref s2)] [(.ref s1), (.ref t1)]))
  refine og_putfield (pc' := 39) X20 hx hZ (ty := (.object "java/lang/String")) (host := "") hown (Or.inl (ow86 hw)) Via.refl e20 F__namespace_t1 E_t1 (Or.inr ⟨(ow87 hw), rfl, hnm⟩) (ow17 hw) (by decide) rfl rfl (hb hby d3_36) rfl (fun T21 h21 X21 e21 W21 => ?_)
  have F__namespace_t1_ := F__namespace_t1.same W21
  have sf21 : Safe Z own_EL T18.vm h18 t1 := (Safe.exa hZ.alike E_t1 (by decide) (by decide)); have Q_nb12 := Safe.wr W21 sf21 CR.1 Q_nb12; have Q_nb15 := Safe.wr W21 sf21 CR.1 Q_nb15; have E_t1 := E_t1.wr W21; have F__name_t1 := F__name_t1.other W21 (Or.inr (slot_ne (Or.inr (ow90 hw)) (Or.inr (ow87 hw)) (by decide) (t := (.object "java/lang/String")) (t' := (.object "java/lang/String")) (by decide) (by decide))); have E_s1 := E_s1.wr W21
  have E_s2 := E_s2.wr W21; have E_nb12 := E_nb12.wr W21; have F__attributes_t1 := F__attributes_t1.other W21 (Or.inr (slot_ne (Or.inr (ow52 hw)) (Or.inr (ow87 hw)) (by decide) (t := (.object "java/util/Map")) (t' := (.object "java/lang/String")) (by decide) (by decide))); have E_nb15 := E_nb15.wr W21; have F_modCount_nb15 := F_modCount_nb15.other W21 (Or.inl (Ne.symm ne_t1_nb15)); have F_elementData_nb15 := F_elementData_nb15.other W21 (Or.inl (Ne.symm ne_t1_nb15))
  have F__children_t1 := F__children_t1.other W21 (Or.inr (slot_ne (Or.inr (ow78 hw)) (Or.inr (ow87 hw)) (by decide) (t := (.object "java/util/List")) (t' := (.object "java/lang/String")) (by decide) (by decide))); have O := O.wr W21 g_t1; have K := K.wr W21 (Or.inl (List.mem_of_getElem? (i := 0) rfl)); have hk := Nat.le_trans hk (Keep.of_wr W21).1; have CR := CR.trans (CHr.wr W21 sf21 CR.1)
  have N := Fr.snoc X21 N g_t1; have F__namespace_t1 := F__namespace_t1_
  refine og_aloadN (pc' := 40) X21 hx rfl rfl (hb hby d3_39) rfl ?_
  refine og_aloadN (pc' := 41) X21 hx rfl rfl (hb hby d3_40) rfl ?_
  refine og_ldcO (pc' := 43) (cells' := 6) (slots' := 75) (n := 16) X21 hx hZ hown (hw _ (List.mem_of_getElem? (i := 88) rfl)) (own_wS hw) e21 hS hk hEL CR.1 (by decide) (by decide) (hb hby d3_41) rfl rfl rfl (by decide) (by decide) (fun na22 T22 h22 kk22 X22 e22 E22 hS hk hZ hown cr22 => ?_)
  have Q_nb12 := cr22.safe E_nb12.lt Q_nb12; have Q_nb15 := cr22.safe E_nb15.lt Q_nb15; have E_t1 := E_t1.ext E22; have F__name_t1 := F__name_t1.ext E22; have E_s1 := E_s1.ext E22; have E_s2 := E_s2.ext E22
  have E_nb12 := E_nb12.ext E22; have F__attributes_t1 := F__attributes_t1.ext E22; have E_nb15 := E_nb15.ext E22; have F_modCount_nb15 := F_modCount_nb15.ext E22; have F_elementData_nb15 := F_elementData_nb15.ext E22; have F__children_t1 := F__children_t1.ext E22
  have F__namespace_t1 := F__namespace_t1.ext E22; have O := O.ext E22; have K := K.ext E22; have CR := CR.trans cr22
  refine og_static (pc' := 46) (cells' := 6) (slots' := 75) (W := 1) X22 hx hZ (rm_rnn l Z a0 hw s2 na22 h22 n0 O) hown (ow80 hw) (ow81 hw) (ow82 hw) (ow83 hw) (by decide) (by rw [hml]; rfl) e22 opd_1 [(.ref s2), (.ref na22)] [(.ref t1)] rfl rfl rfl rfl (by decide) (by decide) rfl rfl (by decide) (by decide) (hb hby d3_43) rfl (fun v23 T23 h23 L23 X23 e23 z23 => ?_)
  obtain ⟨rfl, Nq23, hq23⟩ := z23; replace e23 := e23.trans hq23; have N := Fr.app N Nq23
  show OG p e below _ (T23.setTop (mkF m 46 #[.val (.ref t1), .val (.ref s1), .val (.ref s2)] [(.ref s2), (.ref t1)]))
  obtain ⟨T24, X24, e24, st24⟩ := castY X23 hx hZ hown (ow84 hw) e23 (Ins.self E_s2) (g := (mkF m 46 #[.val (.ref t1), .val (.ref s1), .val (.ref s2)] [(.ref s2), (.ref t1)])) rfl rfl (hb hby d3_46)
  refine OG.of st24 ?_
  show OG p e below _ (T24.setTop (mkF m 49 #[.val (.ref t1), .val (.ref s1), .val (.ref s2)] [(.ref s2), (.ref t1)]))
  refine og_putfield (pc' := 52) X24 hx hZ (ty := (.object "java/lang/String")) (host := "") hown (Or.inl (ow89 hw)) Via.refl e24 F__name_t1 E_t1 (Or.inr ⟨(ow90 hw), rfl, hnm⟩) (ow17 hw) (by decide) rfl rfl (hb hby d3_49) rfl (fun T25 h25 X25 e25 W25 => ?_)
  have F__name_t1_ := F__name_t1.same W25
  have sf25 : Safe Z own_EL T22.vm h22 t1 := (Safe.exa hZ.alike E_t1 (by decide) (by decide)); have Q_nb12 := Safe.wr W25 sf25 CR.1 Q_nb12; have Q_nb15 := Safe.wr W25 sf25 CR.1 Q_nb15; have E_t1 := E_t1.wr W25; have E_s1 := E_s1.wr W25; have E_s2 := E_s2.wr W25
  have E_nb12 := E_nb12.wr W25; have F__attributes_t1 := F__attributes_t1.other W25 (Or.inr (slot_ne (Or.inr (ow52 hw)) (Or.inr (ow90 hw)) (by decide) (t := (.object "java/util/Map")) (t' := (.object "java/lang/String")) (by decide) (by decide))); have E_nb15 := E_nb15.wr W25; have F_modCount_nb15 := F_modCount_nb15.other W25 (Or.inl (Ne.symm ne_t1_nb15)); have F_elementData_nb15 := F_elementData_nb15.other W25 (Or.inl (Ne.symm ne_t1_nb15)); have F__children_t1 := F__children_t1.other W25 (Or.inr (slot_ne (Or.inr (ow78 hw)) (Or.inr (ow90 hw)) (by decide) (t := (.object "java/util/List")) (t' := (.object "java/lang/String")) (by decide) (by decide)))
  have F__namespace_t1 := F__namespace_t1.other W25 (Or.inr (slot_ne (Or.inr (ow87 hw)) (Or.inr (ow90 hw)) (by decide) (t := (.object "java/lang/String")) (t' := (.object "java/lang/String")) (by decide) (by decide))); have O := O.wr W25 g_t1; have K := K.wr W25 (Or.inl (List.mem_of_getElem? (i := 0) rfl)); have hk := Nat.le_trans hk (Keep.of_wr W25).1; have CR := CR.trans (CHr.wr W25 sf25 CR.1)
  have N := Fr.snoc X25 N g_t1; have F__name_t1 := F__name_t1_
  refine og_retVW X25 hx hZ hlk hEL hS e25 es hk CR hret (hb hby d3_52) (by decide) (by decide) ?_
  rw [e25]; exact ⟨rfl, N, K, F__namespace_t1, F__name_t1⟩
theorem rm_sv_0 (l : Launch) (Z : State) (a0 : Array Value) (hw : HW a0 Z) (a1 ca : Addr) (h0 : Heap) (n0 : Nat) (O : Old Z n0 h0) (hEL : EW Z a0 own_EL) (E_a1 : Exa Z h0 a1 "java/lang/String") (F_value_a1 : Fld Z h0 a1 "java/lang/String" "value" "[B" .null) (F_coder_a1 : Fld Z h0 a1 "java/lang/String" "coder" "B" (.int (0 : Int32))) (g_a1 : n0 ≤ a1) :
    ConW l Z own_EL [a1] (⟨"java/lang/String", "<init>", "([CIILjava/lang/Void;)V"⟩ : MethodName) jdk_42_method_149_code 6 none ({ frames := 1, cells := 4, slots := 8, locals := 12 } : Room) #[(.ref a1), (.ref ca), (.int (0 : Int32)), (.int (0 : Int32)), .null] h0 (fun v h L => ∃ b k, v = none ∧ Fr n0 L ∧ Keep h0 h [a1] ∧ Exa Z h a1 "java/lang/String" ∧ Fld Z h a1 "java/lang/String" "value" "[B" (.ref b) ∧ Fld Z h a1 "java/lang/String" "coder" "B" (.int (0 : Int32)) ∧ Arv Z h b k .byte (0 : Int32) [] (.int (0 : Int32))) := by
  refine own_startWC opn_18 ?_
  intro p e s m below meth c T0 X0 hx hby hml hZ hown hnm hret hlk e0 es hS CR hsf
  have N := Fr.nil n0; have K := Keep.refl h0 [a1]; have hk := Nat.le_refl h0.size; have Q_a1 := hsf _ (List.mem_of_getElem? (i := 0) rfl)
  refine OG.cast (oef3 m a1 ca (0 : Int32) (0 : Int32)) ?_
  refine og_aloadN (pc' := 1) X0 hx rfl rfl (hb hby d18_0) rfl ?_
  refine og_initO (pc' := 4) X0 hx hZ (W := 0) (by rw [hml]; rfl) hown (ow128 hw) (ow23 hw) (ow24 hw) e0 rfl (by decide) (by decide) (hb hby d18_1) rfl (fun T11 X11 e11 => ?_)
  refine og_iloadN (pc' := 5) X11 hx rfl (hb hby d18_4) rfl ?_
  refine og_if_ne (pc1 := 27) (pc2 := 8) X11 hx (hb hby d18_5) (by decide) (by decide) rfl (fun q => absurd q (by decide)) (fun _ => ?_)
  refine og_aloadN (pc' := 9) X11 hx rfl rfl (hb hby d18_8) rfl ?_
  refine og_ldcS (pc' := 11) (cells' := 2) (slots' := 4) (n := 0) (z := (0 : Int32)) (vs := []) X11 hx hZ hown (hw _ (List.mem_of_getElem? (i := 139) rfl)) (own_wS hw) e11 hS hk hEL (by decide) CR.1 ⟨by decide, by decide⟩ (by decide) (by decide) (by decide) (by decide) (hb hby d18_9) rfl rfl rfl (by decide) (by decide) (fun na12 T12 h12 kk12 nb12 k12 X12 e12 E12 hS hk hZ hown E_na12 F_coder_na12 F_value_na12 V_nb12 cr12 hne12 => ?_)
  have Q_a1 := cr12.safe E_a1.lt Q_a1; have E_a1 := E_a1.ext E12; have F_value_a1 := F_value_a1.ext E12; have F_coder_a1 := F_coder_a1.ext E12; have O := O.ext E12; have K := K.ext E12
  have CR := CR.trans cr12
  have ne_a1_na12 := (hne12 _ Q_a1).1; have ne_a1_nb12 := (hne12 _ Q_a1).2
  refine og_getfield (pc' := 14) X12 hx hZ (host := "") hown (Or.inl (ow110 hw)) Via.refl e12 F_value_na12 (hb hby d18_11) rfl (fun T13 X13 e13 => ?_)
  refine og_putfield (pc' := 17) X13 hx hZ (ty := (.array .byte)) (host := "") hown (Or.inl (ow110 hw)) Via.refl e13 F_value_a1 E_a1 (Or.inr ⟨(ow8 hw), rfl, hnm⟩) (ow6 hw) (by decide) rfl rfl (hb hby d18_14) rfl (fun T14 h14 X14 e14 W14 => ?_)
  have F_value_a1_ := F_value_a1.same W14
  have sf14 : Safe Z own_EL T12.vm h12 a1 := Q_a1; have Q_a1 := Safe.wr W14 sf14 CR.1 Q_a1; have E_a1 := E_a1.wr W14; have F_coder_a1 := F_coder_a1.other W14 (Or.inr (slot_ne (Or.inr (ow9 hw)) (Or.inr (ow8 hw)) (by decide) (t := .byte) (t' := (.array .byte)) (by decide) (by decide))); have E_na12 := E_na12.wr W14; have F_value_na12 := F_value_na12.other W14 (Or.inl (Ne.symm ne_a1_na12))
  have F_coder_na12 := F_coder_na12.other W14 (Or.inl (Ne.symm ne_a1_na12)); have V_nb12 := V_nb12.other W14 (Ne.symm ne_a1_nb12); have O := O.wr W14 g_a1; have K := K.wr W14 (Or.inl (List.mem_of_getElem? (i := 0) rfl)); have hk := Nat.le_trans hk (Keep.of_wr W14).1; have CR := CR.trans (CHr.wr W14 sf14 CR.1)
  have N := Fr.snoc X14 N g_a1; have F_value_a1 := F_value_a1_
  refine og_aloadN (pc' := 18) X14 hx rfl rfl (hb hby d18_17) rfl ?_
  refine og_ldcS (pc' := 20) (cells' := 4) (slots' := 8) (n := 0) (z := (0 : Int32)) (vs := []) X14 hx hZ hown (hw _ (List.mem_of_getElem? (i := 139) rfl)) (own_wS hw) e14 hS hk hEL (by decide) CR.1 ⟨by decide, by decide⟩ (by decide) (by decide) (by decide) (by decide) (hb hby d18_18) rfl rfl rfl (by decide) (by decide) (fun na15 T15 h15 kk15 nb15 k15 X15 e15 E15 hS hk hZ hown E_na15 F_coder_na15 F_value_na15 V_nb15 cr15 hne15 => ?_)
  have Q_a1 := cr15.safe E_a1.lt Q_a1; have E_a1 := E_a1.ext E15; have F_coder_a1 := F_coder_a1.ext E15; have E_na12 := E_na12.ext E15; have F_value_na12 := F_value_na12.ext E15; have F_coder_na12 := F_coder_na12.ext E15
  have V_nb12 := V_nb12.ext E15; have F_value_a1 := F_value_a1.ext E15; have O := O.ext E15; have K := K.ext E15; have CR := CR.trans cr15
  have ne_a1_na15 := (hne15 _ Q_a1).1; have ne_a1_nb15 := (hne15 _ Q_a1).2
  refine og_getfield (pc' := 23) X15 hx hZ (host := "") hown (Or.inl (ow109 hw)) Via.refl e15 F_coder_na15 (hb hby d18_20) rfl (fun T16 X16 e16 => ?_)
  refine og_putfield (pc' := 26) X16 hx hZ (ty := .byte) (host := "") hown (Or.inl (ow109 hw)) Via.refl e16 F_coder_a1 E_a1 (Or.inr ⟨(ow9 hw), rfl, hnm⟩) (ow6 hw) (by decide) rfl rfl (hb hby d18_23) rfl (fun T17 h17 X17 e17 W17 => ?_)
  have F_coder_a1_ := F_coder_a1.same W17
  have sf17 : Safe Z own_EL T15.vm h15 a1 := Q_a1; have Q_a1 := Safe.wr W17 sf17 CR.1 Q_a1; have E_a1 := E_a1.wr W17; have E_na12 := E_na12.wr W17; have F_value_na12 := F_value_na12.other W17 (Or.inl (Ne.symm ne_a1_na12)); have F_coder_na12 := F_coder_na12.other W17 (Or.inl (Ne.symm ne_a1_na12))
  have V_nb12 := V_nb12.other W17 (Ne.symm ne_a1_nb12); have F_value_a1 := F_value_a1.other W17 (Or.inr (slot_ne (Or.inr (ow8 hw)) (Or.inr (ow9 hw)) (by decide) (t := (.array .byte)) (t' := .byte) (by decide) (by decide))); have E_na15 := E_na15.wr W17; have F_value_na15 := F_value_na15.other W17 (Or.inl (Ne.symm ne_a1_na15)); have F_coder_na15 := F_coder_na15.other W17 (Or.inl (Ne.symm ne_a1_na15)); have V_nb15 := V_nb15.other W17 (Ne.symm ne_a1_nb15)
  have O := O.wr W17 g_a1; have K := K.wr W17 (Or.inl (List.mem_of_getElem? (i := 0) rfl)); have hk := Nat.le_trans hk (Keep.of_wr W17).1; have CR := CR.trans (CHr.wr W17 sf17 CR.1)
  have N := Fr.snoc X17 N g_a1; have F_coder_a1 := F_coder_a1_
  refine og_retVW X17 hx hZ hlk hEL hS e17 es hk CR hret (hb hby d18_26) (by decide) (by decide) ?_
  rw [e17]; exact ⟨_, _, rfl, N, K, E_a1, F_value_a1, F_coder_a1, V_nb12⟩
theorem rm_sn_0 (l : Launch) (Z : State) (a0 : Array Value) (hw : HW a0 Z) (a1 ca : Addr) (kc : ClassId) (h0 : Heap) (n0 : Nat) (O : Old Z n0 h0) (hEL : EW Z a0 own_EL) (E_a1 : Exa Z h0 a1 "java/lang/String") (F_value_a1 : Fld Z h0 a1 "java/lang/String" "value" "[B" .null) (F_coder_a1 : Fld Z h0 a1 "java/lang/String" "coder" "B" (.int (0 : Int32))) (V_ca : Arv Z h0 ca kc .char (0 : Int32) [] (.int (0 : Int32))) (g_a1 : n0 ≤ a1) (ne_ca_a1 : ca ≠ a1) :
    ConW l Z own_EL [a1] (⟨"java/lang/String", "<init>", "([C)V"⟩ : MethodName) jdk_42_method_3_code 2 none ({ frames := 2, cells := 4, slots := 8, locals := 29 } : Room) #[(.ref a1), (.ref ca)] h0 (fun v h L => ∃ b k, v = none ∧ Fr n0 L ∧ Keep h0 h [a1] ∧ Exa Z h a1 "java/lang/String" ∧ Fld Z h a1 "java/lang/String" "value" "[B" (.ref b) ∧ Fld Z h a1 "java/lang/String" "coder" "B" (.int (0 : Int32)) ∧ Arv Z h b k .byte (0 : Int32) [] (.int (0 : Int32))) := by
  refine own_startWC opn_17 ?_
  intro p e s m below meth c T0 X0 hx hby hml hZ hown hnm hret hlk e0 es hS CR hsf
  have N := Fr.nil n0; have K := Keep.refl h0 [a1]; have hk := Nat.le_refl h0.size; have Q_a1 := hsf _ (List.mem_of_getElem? (i := 0) rfl)
  refine OG.cast (oef1 m a1 ca) ?_
  refine og_aloadN (pc' := 1) X0 hx rfl rfl (hb hby d17_0) rfl ?_
  refine og_aloadN (pc' := 2) X0 hx rfl rfl (hb hby d17_1) rfl ?_
  refine og_iconst (pc' := 3) (v := (0 : Int32)) X0 hx rfl (hb hby d17_2) rfl ?_
  refine og_aloadN (pc' := 4) X0 hx rfl rfl (hb hby d17_3) rfl ?_
  refine og_arraylength (pc' := 5) X0 hx hZ e0 V_ca (hb hby d17_4) rfl ?_
  refine og_aconst_null (pc' := 6) X0 hx (hb hby d17_5) rfl ?_
  refine og_specialW (pc' := 9) (cells' := 4) (slots' := 8) (W := 0) X0 hx hZ (rm_sv_0 l Z a0 hw a1 ca h0 n0 O hEL E_a1 F_value_a1 F_coder_a1 g_a1) hEL hS hk CR.1 (allS (P := fun x => x < _ ∧ Safe Z own_EL _ _ x) ⟨E_a1.lt, Q_a1⟩ all0) rfl hown (ow125 hw) (ow126 hw) (ow5 hw) (ow127 hw) (by decide) (by rw [hml]; rfl) e0 opd_2 [(.ref ca), (.int (0 : Int32)), (.int (0 : Int32)), .null] [] rfl rfl rfl rfl (by decide) (by decide) rfl rfl (by decide) (by decide) (hb hby d17_6) rfl (fun v11 T11 h11 L11 kk11 X11 e11 hS hk hZ hown cr11 z11 => ?_)
  obtain ⟨nb11, k11, rfl, Nq11, K11, E_a1', F_value_a1', F_coder_a1', V_nb11⟩ := z11; have N := Fr.app N Nq11
  have Q_a1 := cr11.safe E_a1.lt Q_a1; have E_a1 := E_a1.keep K11; have V_ca := V_ca.keep K11 (ninS ne_ca_a1 nin0); have O := O.keep K11 (allS g_a1 all0); have K := K.trans K11 (allS (Or.inl (List.mem_of_getElem? (i := 0) rfl)) all0); have CR := CR.trans cr11
  have E_a1 := E_a1'; have F_value_a1 := F_value_a1'; have F_coder_a1 := F_coder_a1'
  show OG p e below _ (T11.setTop (mkF m 9 #[.val (.ref a1), .val (.ref ca)] []))
  refine og_retVW X11 hx hZ hlk hEL hS e11 es hk CR hret (hb hby d17_9) (by decide) (by decide) ?_
  rw [e11]; exact ⟨_, _, rfl, N, K, E_a1, F_value_a1, F_coder_a1, V_nb11⟩
theorem rm_can (l : Launch) (Z : State) (a0 : Array Value) (hw : HW a0 Z) (cc : Int32) (hcc : ¬ 255 < cc) (h0 : Heap) (n0 : Nat) (O : Old Z n0 h0) :
    Con l Z (⟨"java/lang/StringLatin1", "canEncode", "(C)Z"⟩ : MethodName) jdk_43_method_3_code 1 (some .boolean) ({ frames := 0, cells := 0, slots := 0, locals := 0 } : Room) #[(.int cc)] h0 (fun v h L => v = some (.int 1) ∧ Fr n0 L ∧ h = h0) := by
  refine own_startC opn_23 ?_
  intro p e s m below meth c T0 X0 hx hby hml hZ hown hnm hret hlk e0
  have N := Fr.nil n0; have K := Keep.refl h0 []
  refine OG.cast (oef4 m cc) ?_
  refine og_iloadN (pc' := 1) X0 hx rfl (hb hby d23_0) rfl ?_
  refine og_sipush (pc' := 4) (v := (255 : Int32)) X0 hx rfl (hb hby d23_1) rfl ?_
  refine og_icmp_gt (pc1 := 11) (pc2 := 7) X0 hx (hb hby d23_4) (by decide) (by decide) rfl (fun q => absurd q hcc) (fun _ => ?_)
  refine og_iconst (pc' := 8) (v := (1 : Int32)) X0 hx rfl (hb hby d23_7) rfl ?_
  refine og_goto (pc' := 12) X0 hx (hb hby d23_8) (by decide) (by decide) ?_
  refine og_retN X0 hx hlk hret (by simp) (hb hby d23_12) (by decide) (by decide) ?_
  rw [e0]; exact ⟨rfl, N, rfl⟩
theorem rm_tb (l : Launch) (Z : State) (a0 : Array Value) (hw : HW a0 Z) (cc : Int32) (h0 : Heap) (n0 : Nat) (O : Old Z n0 h0) :
    Con l Z (⟨"java/lang/StringLatin1", "toBytes", "(C)[B"⟩ : MethodName) jdk_43_method_46_code 1 (some (.array .byte)) ({ frames := 0, cells := 1, slots := 1, locals := 0 } : Room) #[(.int cc)] h0 (fun v h L => ∃ b k, v = some (.ref b) ∧ Fr n0 L ∧ Keep h0 h [] ∧ h0.size ≤ b ∧ Arv Z h b k .byte 1 [.int cc.toInt8.toInt32] (.int 0)) := by
  refine own_startC opn_24 ?_
  intro p e s m below meth c T0 X0 hx hby hml hZ hown hnm hret hlk e0
  have N := Fr.nil n0; have K := Keep.refl h0 []
  refine OG.cast (oef4 m cc) ?_
  refine og_iconst (pc' := 1) (v := (1 : Int32)) X0 hx rfl (hb hby d24_0) rfl ?_
  refine og_newarray (pc' := 3) (cells' := 1) (slots' := 1) (cap := 1) (ty := .byte) X0 hx hZ rfl (ow7 hw) e0 (by decide) (by decide) (by decide) (hb hby d24_1) rfl rfl rfl (by decide) (by decide) (fun T11 h11 nb11 kA11 X11 e11 E11 q11 V_nb11 => ?_)
  have s_nb11 : h0.size ≤ nb11 := Nat.le_of_eq q11.symm; have g_nb11 : n0 ≤ nb11 := Nat.le_trans (own_n0 O) s_nb11; have sz_nb11 : h0.size ≤ nb11 := Nat.le_trans K.1 s_nb11
  have O := O.ext E11; have K := K.ext E11
  have V_nb11 : Arv Z h11 nb11 kA11 .byte (1 : Int32) [(.int (0 : Int32))] (.int (0 : Int32)) := V_nb11.pad (pad_rep [] (.int (0 : Int32)) 1)
  refine og_dup (pc' := 4) X11 hx rfl (hb hby d24_3) rfl ?_
  refine og_iconst (pc' := 5) (v := (0 : Int32)) X11 hx rfl (hb hby d24_4) rfl ?_
  refine og_iloadN (pc' := 6) X11 hx rfl (hb hby d24_5) rfl ?_
  refine og_i2b (pc' := 7) X11 hx (hb hby d24_6) rfl ?_
  refine og_bastore (pc' := 8) X11 hx hZ e11 V_nb11 ⟨by decide, by decide⟩ 0 (by decide) (Nat.le_of_ble_eq_true rfl) (hb hby d24_7) rfl (fun T12 h12 X12 e12 W12 V12 => ?_)
  have O := O.wr W12 g_nb11; have K := K.wr W12 (Or.inr sz_nb11)
  have N := Fr.snoc X12 N g_nb11
  have V_nb11 : Arv Z h12 nb11 kA11 .byte (1 : Int32) [(.int (nar .byte (cc.toInt8.toInt32)))] (.int (0 : Int32)) := V12
  rw [own_nb] at V_nb11
  refine og_retR X12 hx hlk hret rfl rfl rfl (hb hby d24_8) (by decide) (by decide) ?_
  rw [e12]; exact ⟨_, _, rfl, N, K, sz_nb11, V_nb11⟩
theorem rm_si (l : Launch) (Z : State) (a0 : Array Value) (hw : HW a0 Z) (a1 b1 : Addr) (h0 : Heap) (n0 : Nat) (O : Old Z n0 h0) (E_a1 : Exa Z h0 a1 "java/lang/String") (F_value_a1 : Fld Z h0 a1 "java/lang/String" "value" "[B" .null) (F_coder_a1 : Fld Z h0 a1 "java/lang/String" "coder" "B" (.int (0 : Int32))) (g_a1 : n0 ≤ a1) :
    Con l Z (⟨"java/lang/String", "<init>", "([BB)V"⟩ : MethodName) jdk_42_method_151_code 3 none ({ frames := 1, cells := 0, slots := 0, locals := 12 } : Room) #[(.ref a1), (.ref b1), (.int (0 : Int32))] h0 (fun v h L => v = none ∧ Fr n0 L ∧ Keep h0 h [a1] ∧ Exa Z h a1 "java/lang/String" ∧ Fld Z h a1 "java/lang/String" "value" "[B" (.ref b1) ∧ Fld Z h a1 "java/lang/String" "coder" "B" (.int (0 : Int32))) := by
  refine own_startC opn_25 ?_
  intro p e s m below meth c T0 X0 hx hby hml hZ hown hnm hret hlk e0
  have N := Fr.nil n0; have K := Keep.refl h0 [a1]
  refine OG.cast (oef5 m a1 b1 (0 : Int32)) ?_
  refine og_aloadN (pc' := 1) X0 hx rfl rfl (hb hby d25_0) rfl ?_
  refine og_initO (pc' := 4) X0 hx hZ (W := 0) (by rw [hml]; rfl) hown (ow128 hw) (ow23 hw) (ow24 hw) e0 rfl (by decide) (by decide) (hb hby d25_1) rfl (fun T11 X11 e11 => ?_)
  refine og_aloadN (pc' := 5) X11 hx rfl rfl (hb hby d25_4) rfl ?_
  refine og_aloadN (pc' := 6) X11 hx rfl rfl (hb hby d25_5) rfl ?_
  refine og_putfield (pc' := 9) X11 hx hZ (ty := (.array .byte)) (host := "") hown (Or.inl (ow110 hw)) Via.refl e11 F_value_a1 E_a1 (Or.inr ⟨(ow8 hw), rfl, hnm⟩) (ow6 hw) (by decide) rfl rfl (hb hby d25_6) rfl (fun T12 h12 X12 e12 W12 => ?_)
  have F_value_a1_ := F_value_a1.same W12
  have E_a1 := E_a1.wr W12; have F_coder_a1 := F_coder_a1.other W12 (Or.inr (slot_ne (Or.inr (ow9 hw)) (Or.inr (ow8 hw)) (by decide) (t := .byte) (t' := (.array .byte)) (by decide) (by decide))); have O := O.wr W12 g_a1; have K := K.wr W12 (Or.inl (List.mem_of_getElem? (i := 0) rfl))
  have N := Fr.snoc X12 N g_a1; have F_value_a1 := F_value_a1_
  refine og_aloadN (pc' := 10) X12 hx rfl rfl (hb hby d25_9) rfl ?_
  refine og_iloadN (pc' := 11) X12 hx rfl (hb hby d25_10) rfl ?_
  refine og_putfield (pc' := 14) X12 hx hZ (ty := .byte) (host := "") hown (Or.inl (ow109 hw)) Via.refl e12 F_coder_a1 E_a1 (Or.inr ⟨(ow9 hw), rfl, hnm⟩) (ow6 hw) (by decide) rfl rfl (hb hby d25_11) rfl (fun T13 h13 X13 e13 W13 => ?_)
  have F_coder_a1_ := F_coder_a1.same W13
  have E_a1 := E_a1.wr W13; have F_value_a1 := F_value_a1.other W13 (Or.inr (slot_ne (Or.inr (ow8 hw)) (Or.inr (ow9 hw)) (by decide) (t := (.array .byte)) (t' := .byte) (by decide) (by decide))); have O := O.wr W13 g_a1; have K := K.wr W13 (Or.inl (List.mem_of_getElem? (i := 0) rfl))
  have N := Fr.snoc X13 N g_a1; have F_coder_a1 := F_coder_a1_
  refine og_retV X13 hx hlk hret (hb hby d25_14) (by decide) (by decide) ?_
  rw [e13]; exact ⟨rfl, N, K, E_a1, F_value_a1, F_coder_a1⟩
theorem rm_vo (l : Launch) (Z : State) (a0 : Array Value) (hw : HW a0 Z) (cc : Int32) (hcc : ¬ 255 < cc) (cs : Int32) (hcs : ¬ cs = 0) (h0 : Heap) (n0 : Nat) (O : Old Z n0 h0) (S_CS : Sta Z Z.heap "java/lang/String" "COMPACT_STRINGS" "Z" (.int cs)) :
    Con l Z (⟨"java/lang/String", "valueOf", "(C)Ljava/lang/String;"⟩ : MethodName) jdk_42_method_139_code 1 (some (.object "java/lang/String")) ({ frames := 2, cells := 2, slots := 5, locals := 27 } : Room) #[(.int cc)] h0 (fun v h L => ∃ a b k, v = some (.ref a) ∧ Fr n0 L ∧ Keep h0 h [] ∧ h0.size ≤ a ∧ h0.size ≤ b ∧ Exa Z h a "java/lang/String" ∧ Fld Z h a "java/lang/String" "value" "[B" (.ref b) ∧ Fld Z h a "java/lang/String" "coder" "B" (.int (0 : Int32)) ∧ Arv Z h b k .byte 1 [.int cc.toInt8.toInt32] (.int (0 : Int32))) := by
  refine own_startC opn_22 ?_
  intro p e s m below meth c T0 X0 hx hby hml hZ hown hnm hret hlk e0
  have N := Fr.nil n0; have K := Keep.refl h0 []
  refine OG.cast (oef4 m cc) ?_
  refine og_getstatic (pc' := 3) X0 hx hZ (host := "") hown (Or.inl (ow108 hw)) Via.refl e0 (S_CS.ext O.2) (hb hby d22_0) rfl (fun T11 X11 e11 => ?_)
  refine og_if_eq (pc1 := 26) (pc2 := 6) X11 hx (hb hby d22_3) (by decide) (by decide) rfl (fun q => absurd q hcs) (fun _ => ?_)
  refine og_iloadN (pc' := 7) X11 hx rfl (hb hby d22_6) rfl ?_
  refine og_static (pc' := 10) (cells' := 0) (slots' := 0) (W := 0) X11 hx hZ (rm_can l Z a0 hw cc hcc h0 n0 O) hown (ow149 hw) (ow150 hw) (ow113 hw) (ow151 hw) (by decide) (by rw [hml]; rfl) e11 opd_3 [(.int cc)] [] rfl rfl rfl rfl (by decide) (by decide) rfl rfl (by decide) (by decide) (hb hby d22_7) rfl (fun v12 T12 h12 L12 X12 e12 z12 => ?_)
  obtain ⟨rfl, Nq12, hq12⟩ := z12; replace e12 := e12.trans hq12; have N := Fr.app N Nq12
  show OG p e below _ (T12.setTop (mkF m 10 #[.val (.int cc)] [(.int (1 : Int32))]))
  refine og_if_eq (pc1 := 26) (pc2 := 13) X12 hx (hb hby d22_10) (by decide) (by decide) rfl (fun q => absurd q (by decide)) (fun _ => ?_)
  refine og_new (pc' := 16) (cells' := 1) (slots' := 4) X12 hx hZ hown (ow107 hw) (ow6 hw) (ow5 hw) e12 (hb hby d22_13) rfl rfl rfl (by decide) (by decide) (fun T13 h13 nb13 X13 e13 E13 q13 E_nb13 D13 B13 => ?_)
  have s_nb13 : h0.size ≤ nb13 := Nat.le_of_eq q13.symm; have g_nb13 : n0 ≤ nb13 := Nat.le_trans (own_n0 O) s_nb13; have sz_nb13 : h0.size ≤ nb13 := Nat.le_trans K.1 s_nb13
  have O := O.ext E13; have K := K.ext E13
  have F_value_nb13 : Fld Z h13 nb13 "java/lang/String" "value" "[B" .null := D13 (Or.inr (ow8 hw)) (ty := (.array .byte)) (by decide)
  have F_coder_nb13 : Fld Z h13 nb13 "java/lang/String" "coder" "B" (.int (0 : Int32)) := D13 (Or.inr (ow9 hw)) (ty := .byte) (by decide)
  refine og_dup (pc' := 17) X13 hx rfl (hb hby d22_16) rfl ?_
  refine og_iloadN (pc' := 18) X13 hx rfl (hb hby d22_17) rfl ?_
  refine og_static (pc' := 21) (cells' := 2) (slots' := 5) (W := 2) X13 hx hZ (rm_tb l Z a0 hw cc h13 n0 O) hown (ow152 hw) (ow153 hw) (ow113 hw) (ow154 hw) (by decide) (by rw [hml]; rfl) e13 opd_4 [(.int cc)] [(.ref nb13), (.ref nb13)] rfl rfl rfl rfl (by decide) (by decide) rfl rfl (by decide) (by decide) (hb hby d22_18) rfl (fun v14 T14 h14 L14 X14 e14 z14 => ?_)
  obtain ⟨nb14, k14, rfl, Nq14, K14, sb14, V_nb14⟩ := z14; have N := Fr.app N Nq14
  have s_nb14 : h13.size ≤ nb14 := sb14; have g_nb14 : n0 ≤ nb14 := Nat.le_trans (own_n0 O) s_nb14; have sz_nb14 : h0.size ≤ nb14 := Nat.le_trans K.1 s_nb14; have ne_nb13_nb14 : nb13 ≠ nb14 := Nat.ne_of_lt (Nat.lt_of_lt_of_le E_nb13.lt s_nb14)
  have E_nb13 := E_nb13.keep K14; have F_value_nb13 := F_value_nb13.keep K14 nin0; have F_coder_nb13 := F_coder_nb13.keep K14 nin0; have O := O.keep K14 all0; have K := K.trans K14 all0
  show OG p e below _ (T14.setTop (mkF m 21 #[.val (.int cc)] [(.ref nb14), (.ref nb13), (.ref nb13)]))
  refine og_iconst (pc' := 22) (v := (0 : Int32)) X14 hx rfl (hb hby d22_21) rfl ?_
  refine og_special (pc' := 25) (cells' := 2) (slots' := 5) (W := 1) X14 hx hZ (rm_si l Z a0 hw nb13 nb14 h14 n0 O E_nb13 F_value_nb13 F_coder_nb13 g_nb13) rfl hown (ow155 hw) (ow156 hw) (ow5 hw) (ow157 hw) (by decide) (by rw [hml]; rfl) e14 opd_5 [(.ref nb14), (.int (0 : Int32))] [(.ref nb13)] rfl rfl rfl rfl (by decide) (by decide) rfl rfl (by decide) (by decide) (hb hby d22_22) rfl (fun v15 T15 h15 L15 X15 e15 z15 => ?_)
  obtain ⟨rfl, Nq15, K15, E_nb13', F_value_nb13', F_coder_nb13'⟩ := z15; have N := Fr.app N Nq15
  have E_nb13 := E_nb13.keep K15; have V_nb14 := V_nb14.keep K15 (ninS (Ne.symm ne_nb13_nb14) nin0); have O := O.keep K15 (allS g_nb13 all0); have K := K.trans K15 (allS (Or.inr sz_nb13) all0)
  have E_nb13 := E_nb13'; have F_value_nb13 := F_value_nb13'; have F_coder_nb13 := F_coder_nb13'
  show OG p e below _ (T15.setTop (mkF m 25 #[.val (.int cc)] [(.ref nb13)]))
  refine og_retR X15 hx hlk hret rfl rfl rfl (hb hby d22_25) (by decide) (by decide) ?_
  rw [e15]; exact ⟨_, _, _, rfl, N, K, sz_nb13, sz_nb14, E_nb13, F_value_nb13, F_coder_nb13, V_nb14⟩
theorem rm_c2_2 (l : Launch) (Z : State) (a0 : Array Value) (hw : HW a0 Z) (ca ba : Addr) (kc kb : ClassId) (c0 c1 : Int32) (hb0 : ¬ 255 < c0) (hb1 : ¬ 255 < c1) (h0 : Heap) (n0 : Nat) (O : Old Z n0 h0) (V_ca : Arv Z h0 ca kc .char (2 : Int32) [(.int c0), (.int c1)] (.int (0 : Int32))) (V_ba : Arv Z h0 ba kb .byte (2 : Int32) [(.int (0 : Int32)), (.int (0 : Int32))] (.int (0 : Int32))) (g_ba : n0 ≤ ba) (ne_ca_ba : ca ≠ ba) :
    Con l Z (⟨"java/lang/StringUTF16", "compress", "([CI[BII)I"⟩ : MethodName) jdk_52_method_21_code 7 (some .int) ({ frames := 0, cells := 0, slots := 0, locals := 0 } : Room) #[(.ref ca), (.int (0 : Int32)), (.ref ba), (.int (0 : Int32)), (.int (2 : Int32))] h0 (fun v h L => v = some (.int (2 : Int32)) ∧ Fr n0 L ∧ Keep h0 h [ba] ∧ Arv Z h ba kb .byte (2 : Int32) [(.int c0.toInt8.toInt32), (.int c1.toInt8.toInt32)] (.int (0 : Int32))) := by
  refine own_startC opn_20 ?_
  intro p e s m below meth c T0 X0 hx hby hml hZ hown hnm hret hlk e0
  have N := Fr.nil n0; have K := Keep.refl h0 [ba]
  refine OG.cast (oef6 m ca (0 : Int32) ba (0 : Int32) (2 : Int32)) ?_
  refine og_iconst (pc' := 1) (v := (0 : Int32)) X0 hx rfl (hb hby d20_0) rfl ?_
  refine og_istore (pc' := 3) (L' := #[.val (.ref ca), .val (.int (0 : Int32)), .val (.ref ba), .val (.int (0 : Int32)), .val (.int (2 : Int32)), .val (.int (0 : Int32)), .unset]) X0 hx rfl (hb hby d20_1) rfl ?_
  refine og_iload (pc' := 5) X0 hx rfl (hb hby d20_3) rfl ?_
  refine og_iload (pc' := 7) X0 hx rfl (hb hby d20_5) rfl ?_
  refine og_icmp_ge (pc1 := 44) (pc2 := 10) X0 hx (hb hby d20_7) (by decide) (by decide) rfl (fun q => absurd q (by decide)) (fun _ => ?_)
  refine og_aloadN (pc' := 11) X0 hx rfl rfl (hb hby d20_10) rfl ?_
  refine og_iloadN (pc' := 12) X0 hx rfl (hb hby d20_11) rfl ?_
  refine og_caload (pc' := 13) (v := (.int c0)) X0 hx hZ e0 V_ca ⟨by decide, by decide⟩ rfl (hb hby d20_12) rfl ?_
  refine og_istore (pc' := 15) (L' := #[.val (.ref ca), .val (.int (0 : Int32)), .val (.ref ba), .val (.int (0 : Int32)), .val (.int (2 : Int32)), .val (.int (0 : Int32)), .val (.int c0)]) X0 hx rfl (hb hby d20_13) rfl ?_
  refine og_iload (pc' := 17) X0 hx rfl (hb hby d20_15) rfl ?_
  refine og_sipush (pc' := 20) (v := (255 : Int32)) X0 hx rfl (hb hby d20_17) rfl ?_
  refine og_icmp_le (pc1 := 26) (pc2 := 23) X0 hx (hb hby d20_20) (by decide) (by decide) rfl (fun _ => ?_) (fun q => absurd q hb0)
  refine og_aloadN (pc' := 27) X0 hx rfl rfl (hb hby d20_26) rfl ?_
  refine og_iloadN (pc' := 28) X0 hx rfl (hb hby d20_27) rfl ?_
  refine og_iload (pc' := 30) X0 hx rfl (hb hby d20_28) rfl ?_
  refine og_i2b (pc' := 31) X0 hx (hb hby d20_30) rfl ?_
  refine og_bastore (pc' := 32) X0 hx hZ e0 V_ba ⟨by decide, by decide⟩ 0 (by decide) (Nat.le_of_ble_eq_true rfl) (hb hby d20_31) rfl (fun T11 h11 X11 e11 W11 V11 => ?_)
  have V_ca := V_ca.other W11 ne_ca_ba; have O := O.wr W11 g_ba; have K := K.wr W11 (Or.inl (List.mem_of_getElem? (i := 0) rfl))
  have N := Fr.snoc X11 N g_ba
  have V_ba : Arv Z h11 ba kb .byte (2 : Int32) [(.int (nar .byte (c0.toInt8.toInt32))), (.int (0 : Int32))] (.int (0 : Int32)) := V11
  rw [own_nb] at V_ba
  refine og_iinc (pc' := 35) (L' := #[.val (.ref ca), .val (.int (1 : Int32)), .val (.ref ba), .val (.int (0 : Int32)), .val (.int (2 : Int32)), .val (.int (0 : Int32)), .val (.int c0)]) (w := (1 : Int32)) X11 hx rfl rfl rfl (hb hby d20_32) rfl ?_
  refine og_iinc (pc' := 38) (L' := #[.val (.ref ca), .val (.int (1 : Int32)), .val (.ref ba), .val (.int (1 : Int32)), .val (.int (2 : Int32)), .val (.int (0 : Int32)), .val (.int c0)]) (w := (1 : Int32)) X11 hx rfl rfl rfl (hb hby d20_35) rfl ?_
  refine og_iinc (pc' := 41) (L' := #[.val (.ref ca), .val (.int (1 : Int32)), .val (.ref ba), .val (.int (1 : Int32)), .val (.int (2 : Int32)), .val (.int (1 : Int32)), .val (.int c0)]) (w := (1 : Int32)) X11 hx rfl rfl rfl (hb hby d20_38) rfl ?_
  refine og_goto (pc' := 3) X11 hx (hb hby d20_41) (by decide) (by decide) ?_
  refine og_iload (pc' := 5) X11 hx rfl (hb hby d20_3) rfl ?_
  refine og_iload (pc' := 7) X11 hx rfl (hb hby d20_5) rfl ?_
  refine og_icmp_ge (pc1 := 44) (pc2 := 10) X11 hx (hb hby d20_7) (by decide) (by decide) rfl (fun q => absurd q (by decide)) (fun _ => ?_)
  refine og_aloadN (pc' := 11) X11 hx rfl rfl (hb hby d20_10) rfl ?_
  refine og_iloadN (pc' := 12) X11 hx rfl (hb hby d20_11) rfl ?_
  refine og_caload (pc' := 13) (v := (.int c1)) X11 hx hZ e11 V_ca ⟨by decide, by decide⟩ rfl (hb hby d20_12) rfl ?_
  refine og_istore (pc' := 15) (L' := #[.val (.ref ca), .val (.int (1 : Int32)), .val (.ref ba), .val (.int (1 : Int32)), .val (.int (2 : Int32)), .val (.int (1 : Int32)), .val (.int c1)]) X11 hx rfl (hb hby d20_13) rfl ?_
  refine og_iload (pc' := 17) X11 hx rfl (hb hby d20_15) rfl ?_
  refine og_sipush (pc' := 20) (v := (255 : Int32)) X11 hx rfl (hb hby d20_17) rfl ?_
  refine og_icmp_le (pc1 := 26) (pc2 := 23) X11 hx (hb hby d20_20) (by decide) (by decide) rfl (fun _ => ?_) (fun q => absurd q hb1)
  refine og_aloadN (pc' := 27) X11 hx rfl rfl (hb hby d20_26) rfl ?_
  refine og_iloadN (pc' := 28) X11 hx rfl (hb hby d20_27) rfl ?_
  refine og_iload (pc' := 30) X11 hx rfl (hb hby d20_28) rfl ?_
  refine og_i2b (pc' := 31) X11 hx (hb hby d20_30) rfl ?_
  refine og_bastore (pc' := 32) X11 hx hZ e11 V_ba ⟨by decide, by decide⟩ 1 (by decide) (Nat.le_of_ble_eq_true rfl) (hb hby d20_31) rfl (fun T12 h12 X12 e12 W12 V12 => ?_)
  have V_ca := V_ca.other W12 ne_ca_ba; have O := O.wr W12 g_ba; have K := K.wr W12 (Or.inl (List.mem_of_getElem? (i := 0) rfl))
  have N := Fr.snoc X12 N g_ba
  have V_ba : Arv Z h12 ba kb .byte (2 : Int32) [(.int c0.toInt8.toInt32), (.int (nar .byte (c1.toInt8.toInt32)))] (.int (0 : Int32)) := V12
  rw [own_nb] at V_ba
  refine og_iinc (pc' := 35) (L' := #[.val (.ref ca), .val (.int (2 : Int32)), .val (.ref ba), .val (.int (1 : Int32)), .val (.int (2 : Int32)), .val (.int (1 : Int32)), .val (.int c1)]) (w := (1 : Int32)) X12 hx rfl rfl rfl (hb hby d20_32) rfl ?_
  refine og_iinc (pc' := 38) (L' := #[.val (.ref ca), .val (.int (2 : Int32)), .val (.ref ba), .val (.int (2 : Int32)), .val (.int (2 : Int32)), .val (.int (1 : Int32)), .val (.int c1)]) (w := (1 : Int32)) X12 hx rfl rfl rfl (hb hby d20_35) rfl ?_
  refine og_iinc (pc' := 41) (L' := #[.val (.ref ca), .val (.int (2 : Int32)), .val (.ref ba), .val (.int (2 : Int32)), .val (.int (2 : Int32)), .val (.int (2 : Int32)), .val (.int c1)]) (w := (1 : Int32)) X12 hx rfl rfl rfl (hb hby d20_38) rfl ?_
  refine og_goto (pc' := 3) X12 hx (hb hby d20_41) (by decide) (by decide) ?_
  refine og_iload (pc' := 5) X12 hx rfl (hb hby d20_3) rfl ?_
  refine og_iload (pc' := 7) X12 hx rfl (hb hby d20_5) rfl ?_
  refine og_icmp_ge (pc1 := 44) (pc2 := 10) X12 hx (hb hby d20_7) (by decide) (by decide) rfl (fun _ => ?_) (fun q => absurd q (by decide))
  refine og_iload (pc' := 46) X12 hx rfl (hb hby d20_44) rfl ?_
  refine og_retI X12 hx hlk hret (hb hby d20_46) (by decide) (by decide) ?_
  rw [e12]; exact ⟨rfl, N, K, V_ba⟩
theorem rm_c1_2 (l : Launch) (Z : State) (a0 : Array Value) (hw : HW a0 Z) (ca : Addr) (kc : ClassId) (c0 c1 : Int32) (hb0 : ¬ 255 < c0) (hb1 : ¬ 255 < c1) (h0 : Heap) (n0 : Nat) (O : Old Z n0 h0) (V_ca : Arv Z h0 ca kc .char (2 : Int32) [(.int c0), (.int c1)] (.int (0 : Int32))) :
    Con l Z (⟨"java/lang/StringUTF16", "compress", "([CII)[B"⟩ : MethodName) jdk_52_method_16_code 6 (some (.array .byte)) ({ frames := 1, cells := 1, slots := 2, locals := 18 } : Room) #[(.ref ca), (.int (0 : Int32)), (.int (2 : Int32))] h0 (fun v h L => ∃ b k, v = some (.ref b) ∧ Fr n0 L ∧ Keep h0 h [] ∧ h0.size ≤ b ∧ Arv Z h b k .byte (2 : Int32) [(.int c0.toInt8.toInt32), (.int c1.toInt8.toInt32)] (.int (0 : Int32))) := by
  refine own_startC opn_19 ?_
  intro p e s m below meth c T0 X0 hx hby hml hZ hown hnm hret hlk e0
  have N := Fr.nil n0; have K := Keep.refl h0 []
  refine OG.cast (oef7 m ca (0 : Int32) (2 : Int32)) ?_
  refine og_iloadN (pc' := 1) X0 hx rfl (hb hby d19_0) rfl ?_
  refine og_newarray (pc' := 3) (cells' := 1) (slots' := 2) (cap := 2) (ty := .byte) X0 hx hZ rfl (ow7 hw) e0 (by decide) (by decide) (by decide) (hb hby d19_1) rfl rfl rfl (by decide) (by decide) (fun T11 h11 nb11 kA11 X11 e11 E11 q11 V_nb11 => ?_)
  have s_nb11 : h0.size ≤ nb11 := Nat.le_of_eq q11.symm; have g_nb11 : n0 ≤ nb11 := Nat.le_trans (own_n0 O) s_nb11; have sz_nb11 : h0.size ≤ nb11 := Nat.le_trans K.1 s_nb11; have ne_ca_nb11 : ca ≠ nb11 := Nat.ne_of_lt (Nat.lt_of_lt_of_le V_ca.lt s_nb11)
  have V_ca := V_ca.ext E11; have O := O.ext E11; have K := K.ext E11
  have V_nb11 : Arv Z h11 nb11 kA11 .byte (2 : Int32) [(.int (0 : Int32)), (.int (0 : Int32))] (.int (0 : Int32)) := V_nb11.pad (pad_rep [] (.int (0 : Int32)) 2)
  refine og_astoreN (pc' := 4) (L' := #[.val (.ref ca), .val (.int (0 : Int32)), .val (.int (2 : Int32)), .val (.ref nb11), .unset, .unset]) X11 hx rfl rfl (hb hby d19_3) rfl ?_
  refine og_aloadN (pc' := 5) X11 hx rfl rfl (hb hby d19_4) rfl ?_
  refine og_iloadN (pc' := 6) X11 hx rfl (hb hby d19_5) rfl ?_
  refine og_aloadN (pc' := 7) X11 hx rfl rfl (hb hby d19_6) rfl ?_
  refine og_iconst (pc' := 8) (v := (0 : Int32)) X11 hx rfl (hb hby d19_7) rfl ?_
  refine og_iloadN (pc' := 9) X11 hx rfl (hb hby d19_8) rfl ?_
  refine og_static (pc' := 12) (cells' := 1) (slots' := 2) (W := 0) X11 hx hZ (rm_c2_2 l Z a0 hw ca nb11 kc kA11 c0 c1 hb0 hb1 h11 n0 O V_ca V_nb11 g_nb11 ne_ca_nb11) hown (ow133 hw) (ow134 hw) (ow131 hw) (ow135 hw) (by decide) (by rw [hml]; rfl) e11 opd_6 [(.ref ca), (.int (0 : Int32)), (.ref nb11), (.int (0 : Int32)), (.int (2 : Int32))] [] rfl rfl rfl rfl (by decide) (by decide) rfl rfl (by decide) (by decide) (hb hby d19_9) rfl (fun v12 T12 h12 L12 X12 e12 z12 => ?_)
  obtain ⟨rfl, Nq12, K12, V_nb11'⟩ := z12; have N := Fr.app N Nq12
  have V_ca := V_ca.keep K12 (ninS ne_ca_nb11 nin0); have O := O.keep K12 (allS g_nb11 all0); have K := K.trans K12 (allS (Or.inr sz_nb11) all0)
  have V_nb11 := V_nb11'
  show OG p e below _ (T12.setTop (mkF m 12 #[.val (.ref ca), .val (.int (0 : Int32)), .val (.int (2 : Int32)), .val (.ref nb11), .unset, .unset] [(.int (2 : Int32))]))
  refine og_istore (pc' := 14) (L' := #[.val (.ref ca), .val (.int (0 : Int32)), .val (.int (2 : Int32)), .val (.ref nb11), .val (.int (2 : Int32)), .unset]) X12 hx rfl (hb hby d19_12) rfl ?_
  refine og_iload (pc' := 16) X12 hx rfl (hb hby d19_14) rfl ?_
  refine og_iloadN (pc' := 17) X12 hx rfl (hb hby d19_16) rfl ?_
  refine og_icmp_eq (pc1 := 57) (pc2 := 20) X12 hx (hb hby d19_17) (by decide) (by decide) rfl (fun _ => ?_) (fun q => absurd q (by decide))
  refine og_aloadN (pc' := 58) X12 hx rfl rfl (hb hby d19_57) rfl ?_
  refine og_retR X12 hx hlk hret rfl rfl rfl (hb hby d19_58) (by decide) (by decide) ?_
  rw [e12]; exact ⟨_, _, rfl, N, K, sz_nb11, V_nb11⟩
theorem rm_cfa_2 (l : Launch) (Z : State) (a0 : Array Value) (hw : HW a0 Z) (ba : Addr) (kb : ClassId) (vs : List Value) (h0 : Heap) (n0 : Nat) (O : Old Z n0 h0) (V_ba : Arv Z h0 ba kb .byte (2 : Int32) vs (.int (0 : Int32))) :
    Con l Z (⟨"java/lang/StringUTF16", "coderFromArrayLen", "([BI)B"⟩ : MethodName) jdk_52_method_15_code 2 (some .byte) ({ frames := 0, cells := 0, slots := 0, locals := 0 } : Room) #[(.ref ba), (.int (2 : Int32))] h0 (fun v h L => v = some (.int (0 : Int32)) ∧ Fr n0 L ∧ h = h0) := by
  refine own_startC opn_21 ?_
  intro p e s m below meth c T0 X0 hx hby hml hZ hown hnm hret hlk e0
  have N := Fr.nil n0; have K := Keep.refl h0 []
  refine OG.cast (oef8 m ba (2 : Int32)) ?_
  refine og_iloadN (pc' := 1) X0 hx rfl (hb hby d21_0) rfl ?_
  refine og_aloadN (pc' := 2) X0 hx rfl rfl (hb hby d21_1) rfl ?_
  refine og_arraylength (pc' := 3) X0 hx hZ e0 V_ba (hb hby d21_2) rfl ?_
  refine og_isub (pc' := 4) X0 hx (hb hby d21_3) rfl ?_
  show OG p e below _ (T0.setTop (mkF m 4 #[.val (.ref ba), .val (.int (2 : Int32))] [(.int (0 : Int32))]))
  refine og_bipush (pc' := 6) (v := (31 : Int32)) X0 hx rfl (hb hby d21_4) rfl ?_
  refine og_iushr (pc' := 7) X0 hx (hb hby d21_6) rfl ?_
  show OG p e below _ (T0.setTop (mkF m 7 #[.val (.ref ba), .val (.int (2 : Int32))] [(.int (0 : Int32))]))
  refine og_i2b (pc' := 8) X0 hx (hb hby d21_7) rfl ?_
  show OG p e below _ (T0.setTop (mkF m 8 #[.val (.ref ba), .val (.int (2 : Int32))] [(.int (0 : Int32))]))
  refine og_retN X0 hx hlk hret (by simp) (hb hby d21_8) (by decide) (by decide) ?_
  rw [e0]; exact ⟨rfl, N, rfl⟩
theorem rm_sv_2 (l : Launch) (Z : State) (a0 : Array Value) (hw : HW a0 Z) (a1 ca : Addr) (kc : ClassId) (c0 c1 : Int32) (hb0 : ¬ 255 < c0) (hb1 : ¬ 255 < c1) (cs : Int32) (hcs : ¬ cs = 0) (h0 : Heap) (n0 : Nat) (O : Old Z n0 h0) (E_a1 : Exa Z h0 a1 "java/lang/String") (F_value_a1 : Fld Z h0 a1 "java/lang/String" "value" "[B" .null) (F_coder_a1 : Fld Z h0 a1 "java/lang/String" "coder" "B" (.int (0 : Int32))) (V_ca : Arv Z h0 ca kc .char (2 : Int32) [(.int c0), (.int c1)] (.int (0 : Int32))) (S_CS : Sta Z Z.heap "java/lang/String" "COMPACT_STRINGS" "Z" (.int cs)) (g_a1 : n0 ≤ a1) (ne_ca_a1 : ca ≠ a1) :
    Con l Z (⟨"java/lang/String", "<init>", "([CIILjava/lang/Void;)V"⟩ : MethodName) jdk_42_method_149_code 6 none ({ frames := 2, cells := 1, slots := 2, locals := 35 } : Room) #[(.ref a1), (.ref ca), (.int (0 : Int32)), (.int (2 : Int32)), .null] h0 (fun v h L => ∃ b k, v = none ∧ Fr n0 L ∧ Keep h0 h [a1] ∧ h0.size ≤ b ∧ Exa Z h a1 "java/lang/String" ∧ Fld Z h a1 "java/lang/String" "value" "[B" (.ref b) ∧ Fld Z h a1 "java/lang/String" "coder" "B" (.int (0 : Int32)) ∧ Arv Z h b k .byte (2 : Int32) [(.int c0.toInt8.toInt32), (.int c1.toInt8.toInt32)] (.int (0 : Int32))) := by
  refine own_startC opn_18 ?_
  intro p e s m below meth c T0 X0 hx hby hml hZ hown hnm hret hlk e0
  have N := Fr.nil n0; have K := Keep.refl h0 [a1]
  refine OG.cast (oef3 m a1 ca (0 : Int32) (2 : Int32)) ?_
  refine og_aloadN (pc' := 1) X0 hx rfl rfl (hb hby d18_0) rfl ?_
  refine og_initO (pc' := 4) X0 hx hZ (W := 0) (by rw [hml]; rfl) hown (ow128 hw) (ow23 hw) (ow24 hw) e0 rfl (by decide) (by decide) (hb hby d18_1) rfl (fun T11 X11 e11 => ?_)
  refine og_iloadN (pc' := 5) X11 hx rfl (hb hby d18_4) rfl ?_
  refine og_if_ne (pc1 := 27) (pc2 := 8) X11 hx (hb hby d18_5) (by decide) (by decide) rfl (fun _ => ?_) (fun q => absurd q (by decide))
  refine og_getstatic (pc' := 30) X11 hx hZ (host := "") hown (Or.inl (ow108 hw)) Via.refl e11 (S_CS.ext O.2) (hb hby d18_27) rfl (fun T12 X12 e12 => ?_)
  refine og_if_eq (pc1 := 58) (pc2 := 33) X12 hx (hb hby d18_30) (by decide) (by decide) rfl (fun q => absurd q hcs) (fun _ => ?_)
  refine og_aloadN (pc' := 34) X12 hx rfl rfl (hb hby d18_33) rfl ?_
  refine og_iloadN (pc' := 35) X12 hx rfl (hb hby d18_34) rfl ?_
  refine og_iloadN (pc' := 36) X12 hx rfl (hb hby d18_35) rfl ?_
  refine og_static (pc' := 39) (cells' := 1) (slots' := 2) (W := 0) X12 hx hZ (rm_c1_2 l Z a0 hw ca kc c0 c1 hb0 hb1 h0 n0 O V_ca) hown (ow129 hw) (ow130 hw) (ow131 hw) (ow132 hw) (by decide) (by rw [hml]; rfl) e12 opd_7 [(.ref ca), (.int (0 : Int32)), (.int (2 : Int32))] [] rfl rfl rfl rfl (by decide) (by decide) rfl rfl (by decide) (by decide) (hb hby d18_36) rfl (fun v13 T13 h13 L13 X13 e13 z13 => ?_)
  obtain ⟨nb13, k13, rfl, Nq13, K13, sb13, V_nb13⟩ := z13; have N := Fr.app N Nq13
  have s_nb13 : h0.size ≤ nb13 := sb13; have g_nb13 : n0 ≤ nb13 := Nat.le_trans (own_n0 O) s_nb13; have sz_nb13 : h0.size ≤ nb13 := Nat.le_trans K.1 s_nb13; have ne_a1_nb13 : a1 ≠ nb13 := Nat.ne_of_lt (Nat.lt_of_lt_of_le E_a1.lt s_nb13); have ne_ca_nb13 : ca ≠ nb13 := Nat.ne_of_lt (Nat.lt_of_lt_of_le V_ca.lt s_nb13)
  have E_a1 := E_a1.keep K13; have F_value_a1 := F_value_a1.keep K13 nin0; have F_coder_a1 := F_coder_a1.keep K13 nin0; have V_ca := V_ca.keep K13 nin0; have O := O.keep K13 all0; have K := K.trans K13 all0
  show OG p e below _ (T13.setTop (mkF m 39 #[.val (.ref a1), .val (.ref ca), .val (.int (0 : Int32)), .val (.int (2 : Int32)), .val .null, .unset] [(.ref nb13)]))
  refine og_astore (pc' := 41) (L' := #[.val (.ref a1), .val (.ref ca), .val (.int (0 : Int32)), .val (.int (2 : Int32)), .val .null, .val (.ref nb13)]) X13 hx rfl rfl (hb hby d18_39) rfl ?_
  refine og_aloadN (pc' := 42) X13 hx rfl rfl (hb hby d18_41) rfl ?_
  refine og_aload (pc' := 44) X13 hx rfl rfl (hb hby d18_42) rfl ?_
  refine og_iloadN (pc' := 45) X13 hx rfl (hb hby d18_44) rfl ?_
  refine og_static (pc' := 48) (cells' := 1) (slots' := 2) (W := 1) X13 hx hZ (rm_cfa_2 l Z a0 hw nb13 k13 _ h13 n0 O V_nb13) hown (ow136 hw) (ow137 hw) (ow131 hw) (ow138 hw) (by decide) (by rw [hml]; rfl) e13 opd_8 [(.ref nb13), (.int (2 : Int32))] [(.ref a1)] rfl rfl rfl rfl (by decide) (by decide) rfl rfl (by decide) (by decide) (hb hby d18_45) rfl (fun v14 T14 h14 L14 X14 e14 z14 => ?_)
  obtain ⟨rfl, Nq14, hq14⟩ := z14; replace e14 := e14.trans hq14; have N := Fr.app N Nq14
  show OG p e below _ (T14.setTop (mkF m 48 #[.val (.ref a1), .val (.ref ca), .val (.int (0 : Int32)), .val (.int (2 : Int32)), .val .null, .val (.ref nb13)] [(.int (0 : Int32)), (.ref a1)]))
  refine og_putfield (pc' := 51) X14 hx hZ (ty := .byte) (host := "") hown (Or.inl (ow109 hw)) Via.refl e14 F_coder_a1 E_a1 (Or.inr ⟨(ow9 hw), rfl, hnm⟩) (ow6 hw) (by decide) rfl rfl (hb hby d18_48) rfl (fun T15 h15 X15 e15 W15 => ?_)
  have F_coder_a1_ := F_coder_a1.same W15
  have E_a1 := E_a1.wr W15; have F_value_a1 := F_value_a1.other W15 (Or.inr (slot_ne (Or.inr (ow8 hw)) (Or.inr (ow9 hw)) (by decide) (t := (.array .byte)) (t' := .byte) (by decide) (by decide))); have V_ca := V_ca.other W15 ne_ca_a1; have V_nb13 := V_nb13.other W15 (Ne.symm ne_a1_nb13); have O := O.wr W15 g_a1; have K := K.wr W15 (Or.inl (List.mem_of_getElem? (i := 0) rfl))
  have N := Fr.snoc X15 N g_a1; have F_coder_a1 := F_coder_a1_
  refine og_aloadN (pc' := 52) X15 hx rfl rfl (hb hby d18_51) rfl ?_
  refine og_aload (pc' := 54) X15 hx rfl rfl (hb hby d18_52) rfl ?_
  refine og_putfield (pc' := 57) X15 hx hZ (ty := (.array .byte)) (host := "") hown (Or.inl (ow110 hw)) Via.refl e15 F_value_a1 E_a1 (Or.inr ⟨(ow8 hw), rfl, hnm⟩) (ow6 hw) (by decide) rfl rfl (hb hby d18_54) rfl (fun T16 h16 X16 e16 W16 => ?_)
  have F_value_a1_ := F_value_a1.same W16
  have E_a1 := E_a1.wr W16; have V_ca := V_ca.other W16 ne_ca_a1; have V_nb13 := V_nb13.other W16 (Ne.symm ne_a1_nb13); have F_coder_a1 := F_coder_a1.other W16 (Or.inr (slot_ne (Or.inr (ow9 hw)) (Or.inr (ow8 hw)) (by decide) (t := .byte) (t' := (.array .byte)) (by decide) (by decide))); have O := O.wr W16 g_a1; have K := K.wr W16 (Or.inl (List.mem_of_getElem? (i := 0) rfl))
  have N := Fr.snoc X16 N g_a1; have F_value_a1 := F_value_a1_
  refine og_retV X16 hx hlk hret (hb hby d18_57) (by decide) (by decide) ?_
  rw [e16]; exact ⟨_, _, rfl, N, K, sz_nb13, E_a1, F_value_a1, F_coder_a1, V_nb13⟩
theorem rm_sn_2 (l : Launch) (Z : State) (a0 : Array Value) (hw : HW a0 Z) (a1 ca : Addr) (kc : ClassId) (c0 c1 : Int32) (hb0 : ¬ 255 < c0) (hb1 : ¬ 255 < c1) (cs : Int32) (hcs : ¬ cs = 0) (h0 : Heap) (n0 : Nat) (O : Old Z n0 h0) (E_a1 : Exa Z h0 a1 "java/lang/String") (F_value_a1 : Fld Z h0 a1 "java/lang/String" "value" "[B" .null) (F_coder_a1 : Fld Z h0 a1 "java/lang/String" "coder" "B" (.int (0 : Int32))) (V_ca : Arv Z h0 ca kc .char (2 : Int32) [(.int c0), (.int c1)] (.int (0 : Int32))) (S_CS : Sta Z Z.heap "java/lang/String" "COMPACT_STRINGS" "Z" (.int cs)) (g_a1 : n0 ≤ a1) (ne_ca_a1 : ca ≠ a1) :
    Con l Z (⟨"java/lang/String", "<init>", "([C)V"⟩ : MethodName) jdk_42_method_3_code 2 none ({ frames := 3, cells := 1, slots := 2, locals := 52 } : Room) #[(.ref a1), (.ref ca)] h0 (fun v h L => ∃ b k, v = none ∧ Fr n0 L ∧ Keep h0 h [a1] ∧ h0.size ≤ b ∧ Exa Z h a1 "java/lang/String" ∧ Fld Z h a1 "java/lang/String" "value" "[B" (.ref b) ∧ Fld Z h a1 "java/lang/String" "coder" "B" (.int (0 : Int32)) ∧ Arv Z h b k .byte (2 : Int32) [(.int c0.toInt8.toInt32), (.int c1.toInt8.toInt32)] (.int (0 : Int32))) := by
  refine own_startC opn_17 ?_
  intro p e s m below meth c T0 X0 hx hby hml hZ hown hnm hret hlk e0
  have N := Fr.nil n0; have K := Keep.refl h0 [a1]
  refine OG.cast (oef1 m a1 ca) ?_
  refine og_aloadN (pc' := 1) X0 hx rfl rfl (hb hby d17_0) rfl ?_
  refine og_aloadN (pc' := 2) X0 hx rfl rfl (hb hby d17_1) rfl ?_
  refine og_iconst (pc' := 3) (v := (0 : Int32)) X0 hx rfl (hb hby d17_2) rfl ?_
  refine og_aloadN (pc' := 4) X0 hx rfl rfl (hb hby d17_3) rfl ?_
  refine og_arraylength (pc' := 5) X0 hx hZ e0 V_ca (hb hby d17_4) rfl ?_
  refine og_aconst_null (pc' := 6) X0 hx (hb hby d17_5) rfl ?_
  refine og_special (pc' := 9) (cells' := 1) (slots' := 2) (W := 0) X0 hx hZ (rm_sv_2 l Z a0 hw a1 ca kc c0 c1 hb0 hb1 cs hcs h0 n0 O E_a1 F_value_a1 F_coder_a1 V_ca S_CS g_a1 ne_ca_a1) rfl hown (ow125 hw) (ow126 hw) (ow5 hw) (ow127 hw) (by decide) (by rw [hml]; rfl) e0 opd_2 [(.ref ca), (.int (0 : Int32)), (.int (2 : Int32)), .null] [] rfl rfl rfl rfl (by decide) (by decide) rfl rfl (by decide) (by decide) (hb hby d17_6) rfl (fun v11 T11 h11 L11 X11 e11 z11 => ?_)
  obtain ⟨nb11, k11, rfl, Nq11, K11, sb11, E_a1', F_value_a1', F_coder_a1', V_nb11⟩ := z11; have N := Fr.app N Nq11
  have s_nb11 : h0.size ≤ nb11 := sb11; have g_nb11 : n0 ≤ nb11 := Nat.le_trans (own_n0 O) s_nb11; have sz_nb11 : h0.size ≤ nb11 := Nat.le_trans K.1 s_nb11; have ne_a1_nb11 : a1 ≠ nb11 := Nat.ne_of_lt (Nat.lt_of_lt_of_le E_a1.lt s_nb11); have ne_ca_nb11 : ca ≠ nb11 := Nat.ne_of_lt (Nat.lt_of_lt_of_le V_ca.lt s_nb11)
  have E_a1 := E_a1.keep K11; have V_ca := V_ca.keep K11 (ninS ne_ca_a1 nin0); have O := O.keep K11 (allS g_a1 all0); have K := K.trans K11 (allS (Or.inl (List.mem_of_getElem? (i := 0) rfl)) all0)
  have E_a1 := E_a1'; have F_value_a1 := F_value_a1'; have F_coder_a1 := F_coder_a1'
  show OG p e below _ (T11.setTop (mkF m 9 #[.val (.ref a1), .val (.ref ca)] []))
  refine og_retV X11 hx hlk hret (hb hby d17_9) (by decide) (by decide) ?_
  rw [e11]; exact ⟨_, _, rfl, N, K, sz_nb11, E_a1, F_value_a1, F_coder_a1, V_nb11⟩
theorem rm_c2_3 (l : Launch) (Z : State) (a0 : Array Value) (hw : HW a0 Z) (ca ba : Addr) (kc kb : ClassId) (c0 c1 c2 : Int32) (hb0 : ¬ 255 < c0) (hb1 : ¬ 255 < c1) (hb2 : ¬ 255 < c2) (h0 : Heap) (n0 : Nat) (O : Old Z n0 h0) (V_ca : Arv Z h0 ca kc .char (3 : Int32) [(.int c0), (.int c1), (.int c2)] (.int (0 : Int32))) (V_ba : Arv Z h0 ba kb .byte (3 : Int32) [(.int (0 : Int32)), (.int (0 : Int32)), (.int (0 : Int32))] (.int (0 : Int32))) (g_ba : n0 ≤ ba) (ne_ca_ba : ca ≠ ba) :
    Con l Z (⟨"java/lang/StringUTF16", "compress", "([CI[BII)I"⟩ : MethodName) jdk_52_method_21_code 7 (some .int) ({ frames := 0, cells := 0, slots := 0, locals := 0 } : Room) #[(.ref ca), (.int (0 : Int32)), (.ref ba), (.int (0 : Int32)), (.int (3 : Int32))] h0 (fun v h L => v = some (.int (3 : Int32)) ∧ Fr n0 L ∧ Keep h0 h [ba] ∧ Arv Z h ba kb .byte (3 : Int32) [(.int c0.toInt8.toInt32), (.int c1.toInt8.toInt32), (.int c2.toInt8.toInt32)] (.int (0 : Int32))) := by
  refine own_startC opn_20 ?_
  intro p e s m below meth c T0 X0 hx hby hml hZ hown hnm hret hlk e0
  have N := Fr.nil n0; have K := Keep.refl h0 [ba]
  refine OG.cast (oef6 m ca (0 : Int32) ba (0 : Int32) (3 : Int32)) ?_
  refine og_iconst (pc' := 1) (v := (0 : Int32)) X0 hx rfl (hb hby d20_0) rfl ?_
  refine og_istore (pc' := 3) (L' := #[.val (.ref ca), .val (.int (0 : Int32)), .val (.ref ba), .val (.int (0 : Int32)), .val (.int (3 : Int32)), .val (.int (0 : Int32)), .unset]) X0 hx rfl (hb hby d20_1) rfl ?_
  refine og_iload (pc' := 5) X0 hx rfl (hb hby d20_3) rfl ?_
  refine og_iload (pc' := 7) X0 hx rfl (hb hby d20_5) rfl ?_
  refine og_icmp_ge (pc1 := 44) (pc2 := 10) X0 hx (hb hby d20_7) (by decide) (by decide) rfl (fun q => absurd q (by decide)) (fun _ => ?_)
  refine og_aloadN (pc' := 11) X0 hx rfl rfl (hb hby d20_10) rfl ?_
  refine og_iloadN (pc' := 12) X0 hx rfl (hb hby d20_11) rfl ?_
  refine og_caload (pc' := 13) (v := (.int c0)) X0 hx hZ e0 V_ca ⟨by decide, by decide⟩ rfl (hb hby d20_12) rfl ?_
  refine og_istore (pc' := 15) (L' := #[.val (.ref ca), .val (.int (0 : Int32)), .val (.ref ba), .val (.int (0 : Int32)), .val (.int (3 : Int32)), .val (.int (0 : Int32)), .val (.int c0)]) X0 hx rfl (hb hby d20_13) rfl ?_
  refine og_iload (pc' := 17) X0 hx rfl (hb hby d20_15) rfl ?_
  refine og_sipush (pc' := 20) (v := (255 : Int32)) X0 hx rfl (hb hby d20_17) rfl ?_
  refine og_icmp_le (pc1 := 26) (pc2 := 23) X0 hx (hb hby d20_20) (by decide) (by decide) rfl (fun _ => ?_) (fun q => absurd q hb0)
  refine og_aloadN (pc' := 27) X0 hx rfl rfl (hb hby d20_26) rfl ?_
  refine og_iloadN (pc' := 28) X0 hx rfl (hb hby d20_27) rfl ?_
  refine og_iload (pc' := 30) X0 hx rfl (hb hby d20_28) rfl ?_
  refine og_i2b (pc' := 31) X0 hx (hb hby d20_30) rfl ?_
  refine og_bastore (pc' := 32) X0 hx hZ e0 V_ba ⟨by decide, by decide⟩ 0 (by decide) (Nat.le_of_ble_eq_true rfl) (hb hby d20_31) rfl (fun T11 h11 X11 e11 W11 V11 => ?_)
  have V_ca := V_ca.other W11 ne_ca_ba; have O := O.wr W11 g_ba; have K := K.wr W11 (Or.inl (List.mem_of_getElem? (i := 0) rfl))
  have N := Fr.snoc X11 N g_ba
  have V_ba : Arv Z h11 ba kb .byte (3 : Int32) [(.int (nar .byte (c0.toInt8.toInt32))), (.int (0 : Int32)), (.int (0 : Int32))] (.int (0 : Int32)) := V11
  rw [own_nb] at V_ba
  refine og_iinc (pc' := 35) (L' := #[.val (.ref ca), .val (.int (1 : Int32)), .val (.ref ba), .val (.int (0 : Int32)), .val (.int (3 : Int32)), .val (.int (0 : Int32)), .val (.int c0)]) (w := (1 : Int32)) X11 hx rfl rfl rfl (hb hby d20_32) rfl ?_
  refine og_iinc (pc' := 38) (L' := #[.val (.ref ca), .val (.int (1 : Int32)), .val (.ref ba), .val (.int (1 : Int32)), .val (.int (3 : Int32)), .val (.int (0 : Int32)), .val (.int c0)]) (w := (1 : Int32)) X11 hx rfl rfl rfl (hb hby d20_35) rfl ?_
  refine og_iinc (pc' := 41) (L' := #[.val (.ref ca), .val (.int (1 : Int32)), .val (.ref ba), .val (.int (1 : Int32)), .val (.int (3 : Int32)), .val (.int (1 : Int32)), .val (.int c0)]) (w := (1 : Int32)) X11 hx rfl rfl rfl (hb hby d20_38) rfl ?_
  refine og_goto (pc' := 3) X11 hx (hb hby d20_41) (by decide) (by decide) ?_
  refine og_iload (pc' := 5) X11 hx rfl (hb hby d20_3) rfl ?_
  refine og_iload (pc' := 7) X11 hx rfl (hb hby d20_5) rfl ?_
  refine og_icmp_ge (pc1 := 44) (pc2 := 10) X11 hx (hb hby d20_7) (by decide) (by decide) rfl (fun q => absurd q (by decide)) (fun _ => ?_)
  refine og_aloadN (pc' := 11) X11 hx rfl rfl (hb hby d20_10) rfl ?_
  refine og_iloadN (pc' := 12) X11 hx rfl (hb hby d20_11) rfl ?_
  refine og_caload (pc' := 13) (v := (.int c1)) X11 hx hZ e11 V_ca ⟨by decide, by decide⟩ rfl (hb hby d20_12) rfl ?_
  refine og_istore (pc' := 15) (L' := #[.val (.ref ca), .val (.int (1 : Int32)), .val (.ref ba), .val (.int (1 : Int32)), .val (.int (3 : Int32)), .val (.int (1 : Int32)), .val (.int c1)]) X11 hx rfl (hb hby d20_13) rfl ?_
  refine og_iload (pc' := 17) X11 hx rfl (hb hby d20_15) rfl ?_
  refine og_sipush (pc' := 20) (v := (255 : Int32)) X11 hx rfl (hb hby d20_17) rfl ?_
  refine og_icmp_le (pc1 := 26) (pc2 := 23) X11 hx (hb hby d20_20) (by decide) (by decide) rfl (fun _ => ?_) (fun q => absurd q hb1)
  refine og_aloadN (pc' := 27) X11 hx rfl rfl (hb hby d20_26) rfl ?_
  refine og_iloadN (pc' := 28) X11 hx rfl (hb hby d20_27) rfl ?_
  refine og_iload (pc' := 30) X11 hx rfl (hb hby d20_28) rfl ?_
  refine og_i2b (pc' := 31) X11 hx (hb hby d20_30) rfl ?_
  refine og_bastore (pc' := 32) X11 hx hZ e11 V_ba ⟨by decide, by decide⟩ 1 (by decide) (Nat.le_of_ble_eq_true rfl) (hb hby d20_31) rfl (fun T12 h12 X12 e12 W12 V12 => ?_)
  have V_ca := V_ca.other W12 ne_ca_ba; have O := O.wr W12 g_ba; have K := K.wr W12 (Or.inl (List.mem_of_getElem? (i := 0) rfl))
  have N := Fr.snoc X12 N g_ba
  have V_ba : Arv Z h12 ba kb .byte (3 : Int32) [(.int c0.toInt8.toInt32), (.int (nar .byte (c1.toInt8.toInt32))), (.int (0 : Int32))] (.int (0 : Int32)) := V12
  rw [own_nb] at V_ba
  refine og_iinc (pc' := 35) (L' := #[.val (.ref ca), .val (.int (2 : Int32)), .val (.ref ba), .val (.int (1 : Int32)), .val (.int (3 : Int32)), .val (.int (1 : Int32)), .val (.int c1)]) (w := (1 : Int32)) X12 hx rfl rfl rfl (hb hby d20_32) rfl ?_
  refine og_iinc (pc' := 38) (L' := #[.val (.ref ca), .val (.int (2 : Int32)), .val (.ref ba), .val (.int (2 : Int32)), .val (.int (3 : Int32)), .val (.int (1 : Int32)), .val (.int c1)]) (w := (1 : Int32)) X12 hx rfl rfl rfl (hb hby d20_35) rfl ?_
  refine og_iinc (pc' := 41) (L' := #[.val (.ref ca), .val (.int (2 : Int32)), .val (.ref ba), .val (.int (2 : Int32)), .val (.int (3 : Int32)), .val (.int (2 : Int32)), .val (.int c1)]) (w := (1 : Int32)) X12 hx rfl rfl rfl (hb hby d20_38) rfl ?_
  refine og_goto (pc' := 3) X12 hx (hb hby d20_41) (by decide) (by decide) ?_
  refine og_iload (pc' := 5) X12 hx rfl (hb hby d20_3) rfl ?_
  refine og_iload (pc' := 7) X12 hx rfl (hb hby d20_5) rfl ?_
  refine og_icmp_ge (pc1 := 44) (pc2 := 10) X12 hx (hb hby d20_7) (by decide) (by decide) rfl (fun q => absurd q (by decide)) (fun _ => ?_)
  refine og_aloadN (pc' := 11) X12 hx rfl rfl (hb hby d20_10) rfl ?_
  refine og_iloadN (pc' := 12) X12 hx rfl (hb hby d20_11) rfl ?_
  refine og_caload (pc' := 13) (v := (.int c2)) X12 hx hZ e12 V_ca ⟨by decide, by decide⟩ rfl (hb hby d20_12) rfl ?_
  refine og_istore (pc' := 15) (L' := #[.val (.ref ca), .val (.int (2 : Int32)), .val (.ref ba), .val (.int (2 : Int32)), .val (.int (3 : Int32)), .val (.int (2 : Int32)), .val (.int c2)]) X12 hx rfl (hb hby d20_13) rfl ?_
  refine og_iload (pc' := 17) X12 hx rfl (hb hby d20_15) rfl ?_
  refine og_sipush (pc' := 20) (v := (255 : Int32)) X12 hx rfl (hb hby d20_17) rfl ?_
  refine og_icmp_le (pc1 := 26) (pc2 := 23) X12 hx (hb hby d20_20) (by decide) (by decide) rfl (fun _ => ?_) (fun q => absurd q hb2)
  refine og_aloadN (pc' := 27) X12 hx rfl rfl (hb hby d20_26) rfl ?_
  refine og_iloadN (pc' := 28) X12 hx rfl (hb hby d20_27) rfl ?_
  refine og_iload (pc' := 30) X12 hx rfl (hb hby d20_28) rfl ?_
  refine og_i2b (pc' := 31) X12 hx (hb hby d20_30) rfl ?_
  refine og_bastore (pc' := 32) X12 hx hZ e12 V_ba ⟨by decide, by decide⟩ 2 (by decide) (Nat.le_of_ble_eq_true rfl) (hb hby d20_31) rfl (fun T13 h13 X13 e13 W13 V13 => ?_)
  have V_ca := V_ca.other W13 ne_ca_ba; have O := O.wr W13 g_ba; have K := K.wr W13 (Or.inl (List.mem_of_getElem? (i := 0) rfl))
  have N := Fr.snoc X13 N g_ba
  have V_ba : Arv Z h13 ba kb .byte (3 : Int32) [(.int c0.toInt8.toInt32), (.int c1.toInt8.toInt32), (.int (nar .byte (c2.toInt8.toInt32)))] (.int (0 : Int32)) := V13
  rw [own_nb] at V_ba
  refine og_iinc (pc' := 35) (L' := #[.val (.ref ca), .val (.int (3 : Int32)), .val (.ref ba), .val (.int (2 : Int32)), .val (.int (3 : Int32)), .val (.int (2 : Int32)), .val (.int c2)]) (w := (1 : Int32)) X13 hx rfl rfl rfl (hb hby d20_32) rfl ?_
  refine og_iinc (pc' := 38) (L' := #[.val (.ref ca), .val (.int (3 : Int32)), .val (.ref ba), .val (.int (3 : Int32)), .val (.int (3 : Int32)), .val (.int (2 : Int32)), .val (.int c2)]) (w := (1 : Int32)) X13 hx rfl rfl rfl (hb hby d20_35) rfl ?_
  refine og_iinc (pc' := 41) (L' := #[.val (.ref ca), .val (.int (3 : Int32)), .val (.ref ba), .val (.int (3 : Int32)), .val (.int (3 : Int32)), .val (.int (3 : Int32)), .val (.int c2)]) (w := (1 : Int32)) X13 hx rfl rfl rfl (hb hby d20_38) rfl ?_
  refine og_goto (pc' := 3) X13 hx (hb hby d20_41) (by decide) (by decide) ?_
  refine og_iload (pc' := 5) X13 hx rfl (hb hby d20_3) rfl ?_
  refine og_iload (pc' := 7) X13 hx rfl (hb hby d20_5) rfl ?_
  refine og_icmp_ge (pc1 := 44) (pc2 := 10) X13 hx (hb hby d20_7) (by decide) (by decide) rfl (fun _ => ?_) (fun q => absurd q (by decide))
  refine og_iload (pc' := 46) X13 hx rfl (hb hby d20_44) rfl ?_
  refine og_retI X13 hx hlk hret (hb hby d20_46) (by decide) (by decide) ?_
  rw [e13]; exact ⟨rfl, N, K, V_ba⟩
theorem rm_c1_3 (l : Launch) (Z : State) (a0 : Array Value) (hw : HW a0 Z) (ca : Addr) (kc : ClassId) (c0 c1 c2 : Int32) (hb0 : ¬ 255 < c0) (hb1 : ¬ 255 < c1) (hb2 : ¬ 255 < c2) (h0 : Heap) (n0 : Nat) (O : Old Z n0 h0) (V_ca : Arv Z h0 ca kc .char (3 : Int32) [(.int c0), (.int c1), (.int c2)] (.int (0 : Int32))) :
    Con l Z (⟨"java/lang/StringUTF16", "compress", "([CII)[B"⟩ : MethodName) jdk_52_method_16_code 6 (some (.array .byte)) ({ frames := 1, cells := 1, slots := 3, locals := 18 } : Room) #[(.ref ca), (.int (0 : Int32)), (.int (3 : Int32))] h0 (fun v h L => ∃ b k, v = some (.ref b) ∧ Fr n0 L ∧ Keep h0 h [] ∧ h0.size ≤ b ∧ Arv Z h b k .byte (3 : Int32) [(.int c0.toInt8.toInt32), (.int c1.toInt8.toInt32), (.int c2.toInt8.toInt32)] (.int (0 : Int32))) := by
  refine own_startC opn_19 ?_
  intro p e s m below meth c T0 X0 hx hby hml hZ hown hnm hret hlk e0
  have N := Fr.nil n0; have K := Keep.refl h0 []
  refine OG.cast (oef7 m ca (0 : Int32) (3 : Int32)) ?_
  refine og_iloadN (pc' := 1) X0 hx rfl (hb hby d19_0) rfl ?_
  refine og_newarray (pc' := 3) (cells' := 1) (slots' := 3) (cap := 3) (ty := .byte) X0 hx hZ rfl (ow7 hw) e0 (by decide) (by decide) (by decide) (hb hby d19_1) rfl rfl rfl (by decide) (by decide) (fun T11 h11 nb11 kA11 X11 e11 E11 q11 V_nb11 => ?_)
  have s_nb11 : h0.size ≤ nb11 := Nat.le_of_eq q11.symm; have g_nb11 : n0 ≤ nb11 := Nat.le_trans (own_n0 O) s_nb11; have sz_nb11 : h0.size ≤ nb11 := Nat.le_trans K.1 s_nb11; have ne_ca_nb11 : ca ≠ nb11 := Nat.ne_of_lt (Nat.lt_of_lt_of_le V_ca.lt s_nb11)
  have V_ca := V_ca.ext E11; have O := O.ext E11; have K := K.ext E11
  have V_nb11 : Arv Z h11 nb11 kA11 .byte (3 : Int32) [(.int (0 : Int32)), (.int (0 : Int32)), (.int (0 : Int32))] (.int (0 : Int32)) := V_nb11.pad (pad_rep [] (.int (0 : Int32)) 3)
  refine og_astoreN (pc' := 4) (L' := #[.val (.ref ca), .val (.int (0 : Int32)), .val (.int (3 : Int32)), .val (.ref nb11), .unset, .unset]) X11 hx rfl rfl (hb hby d19_3) rfl ?_
  refine og_aloadN (pc' := 5) X11 hx rfl rfl (hb hby d19_4) rfl ?_
  refine og_iloadN (pc' := 6) X11 hx rfl (hb hby d19_5) rfl ?_
  refine og_aloadN (pc' := 7) X11 hx rfl rfl (hb hby d19_6) rfl ?_
  refine og_iconst (pc' := 8) (v := (0 : Int32)) X11 hx rfl (hb hby d19_7) rfl ?_
  refine og_iloadN (pc' := 9) X11 hx rfl (hb hby d19_8) rfl ?_
  refine og_static (pc' := 12) (cells' := 1) (slots' := 3) (W := 0) X11 hx hZ (rm_c2_3 l Z a0 hw ca nb11 kc kA11 c0 c1 c2 hb0 hb1 hb2 h11 n0 O V_ca V_nb11 g_nb11 ne_ca_nb11) hown (ow133 hw) (ow134 hw) (ow131 hw) (ow135 hw) (by decide) (by rw [hml]; rfl) e11 opd_6 [(.ref ca), (.int (0 : Int32)), (.ref nb11), (.int (0 : Int32)), (.int (3 : Int32))] [] rfl rfl rfl rfl (by decide) (by decide) rfl rfl (by decide) (by decide) (hb hby d19_9) rfl (fun v12 T12 h12 L12 X12 e12 z12 => ?_)
  obtain ⟨rfl, Nq12, K12, V_nb11'⟩ := z12; have N := Fr.app N Nq12
  have V_ca := V_ca.keep K12 (ninS ne_ca_nb11 nin0); have O := O.keep K12 (allS g_nb11 all0); have K := K.trans K12 (allS (Or.inr sz_nb11) all0)
  have V_nb11 := V_nb11'
  show OG p e below _ (T12.setTop (mkF m 12 #[.val (.ref ca), .val (.int (0 : Int32)), .val (.int (3 : Int32)), .val (.ref nb11), .unset, .unset] [(.int (3 : Int32))]))
  refine og_istore (pc' := 14) (L' := #[.val (.ref ca), .val (.int (0 : Int32)), .val (.int (3 : Int32)), .val (.ref nb11), .val (.int (3 : Int32)), .unset]) X12 hx rfl (hb hby d19_12) rfl ?_
  refine og_iload (pc' := 16) X12 hx rfl (hb hby d19_14) rfl ?_
  refine og_iloadN (pc' := 17) X12 hx rfl (hb hby d19_16) rfl ?_
  refine og_icmp_eq (pc1 := 57) (pc2 := 20) X12 hx (hb hby d19_17) (by decide) (by decide) rfl (fun _ => ?_) (fun q => absurd q (by decide))
  refine og_aloadN (pc' := 58) X12 hx rfl rfl (hb hby d19_57) rfl ?_
  refine og_retR X12 hx hlk hret rfl rfl rfl (hb hby d19_58) (by decide) (by decide) ?_
  rw [e12]; exact ⟨_, _, rfl, N, K, sz_nb11, V_nb11⟩
theorem rm_cfa_3 (l : Launch) (Z : State) (a0 : Array Value) (hw : HW a0 Z) (ba : Addr) (kb : ClassId) (vs : List Value) (h0 : Heap) (n0 : Nat) (O : Old Z n0 h0) (V_ba : Arv Z h0 ba kb .byte (3 : Int32) vs (.int (0 : Int32))) :
    Con l Z (⟨"java/lang/StringUTF16", "coderFromArrayLen", "([BI)B"⟩ : MethodName) jdk_52_method_15_code 2 (some .byte) ({ frames := 0, cells := 0, slots := 0, locals := 0 } : Room) #[(.ref ba), (.int (3 : Int32))] h0 (fun v h L => v = some (.int (0 : Int32)) ∧ Fr n0 L ∧ h = h0) := by
  refine own_startC opn_21 ?_
  intro p e s m below meth c T0 X0 hx hby hml hZ hown hnm hret hlk e0
  have N := Fr.nil n0; have K := Keep.refl h0 []
  refine OG.cast (oef8 m ba (3 : Int32)) ?_
  refine og_iloadN (pc' := 1) X0 hx rfl (hb hby d21_0) rfl ?_
  refine og_aloadN (pc' := 2) X0 hx rfl rfl (hb hby d21_1) rfl ?_
  refine og_arraylength (pc' := 3) X0 hx hZ e0 V_ba (hb hby d21_2) rfl ?_
  refine og_isub (pc' := 4) X0 hx (hb hby d21_3) rfl ?_
  show OG p e below _ (T0.setTop (mkF m 4 #[.val (.ref ba), .val (.int (3 : Int32))] [(.int (0 : Int32))]))
  refine og_bipush (pc' := 6) (v := (31 : Int32)) X0 hx rfl (hb hby d21_4) rfl ?_
  refine og_iushr (pc' := 7) X0 hx (hb hby d21_6) rfl ?_
  show OG p e below _ (T0.setTop (mkF m 7 #[.val (.ref ba), .val (.int (3 : Int32))] [(.int (0 : Int32))]))
  refine og_i2b (pc' := 8) X0 hx (hb hby d21_7) rfl ?_
  show OG p e below _ (T0.setTop (mkF m 8 #[.val (.ref ba), .val (.int (3 : Int32))] [(.int (0 : Int32))]))
  refine og_retN X0 hx hlk hret (by simp) (hb hby d21_8) (by decide) (by decide) ?_
  rw [e0]; exact ⟨rfl, N, rfl⟩
theorem rm_sv_3 (l : Launch) (Z : State) (a0 : Array Value) (hw : HW a0 Z) (a1 ca : Addr) (kc : ClassId) (c0 c1 c2 : Int32) (hb0 : ¬ 255 < c0) (hb1 : ¬ 255 < c1) (hb2 : ¬ 255 < c2) (cs : Int32) (hcs : ¬ cs = 0) (h0 : Heap) (n0 : Nat) (O : Old Z n0 h0) (E_a1 : Exa Z h0 a1 "java/lang/String") (F_value_a1 : Fld Z h0 a1 "java/lang/String" "value" "[B" .null) (F_coder_a1 : Fld Z h0 a1 "java/lang/String" "coder" "B" (.int (0 : Int32))) (V_ca : Arv Z h0 ca kc .char (3 : Int32) [(.int c0), (.int c1), (.int c2)] (.int (0 : Int32))) (S_CS : Sta Z Z.heap "java/lang/String" "COMPACT_STRINGS" "Z" (.int cs)) (g_a1 : n0 ≤ a1) (ne_ca_a1 : ca ≠ a1) :
    Con l Z (⟨"java/lang/String", "<init>", "([CIILjava/lang/Void;)V"⟩ : MethodName) jdk_42_method_149_code 6 none ({ frames := 2, cells := 1, slots := 3, locals := 35 } : Room) #[(.ref a1), (.ref ca), (.int (0 : Int32)), (.int (3 : Int32)), .null] h0 (fun v h L => ∃ b k, v = none ∧ Fr n0 L ∧ Keep h0 h [a1] ∧ h0.size ≤ b ∧ Exa Z h a1 "java/lang/String" ∧ Fld Z h a1 "java/lang/String" "value" "[B" (.ref b) ∧ Fld Z h a1 "java/lang/String" "coder" "B" (.int (0 : Int32)) ∧ Arv Z h b k .byte (3 : Int32) [(.int c0.toInt8.toInt32), (.int c1.toInt8.toInt32), (.int c2.toInt8.toInt32)] (.int (0 : Int32))) := by
  refine own_startC opn_18 ?_
  intro p e s m below meth c T0 X0 hx hby hml hZ hown hnm hret hlk e0
  have N := Fr.nil n0; have K := Keep.refl h0 [a1]
  refine OG.cast (oef3 m a1 ca (0 : Int32) (3 : Int32)) ?_
  refine og_aloadN (pc' := 1) X0 hx rfl rfl (hb hby d18_0) rfl ?_
  refine og_initO (pc' := 4) X0 hx hZ (W := 0) (by rw [hml]; rfl) hown (ow128 hw) (ow23 hw) (ow24 hw) e0 rfl (by decide) (by decide) (hb hby d18_1) rfl (fun T11 X11 e11 => ?_)
  refine og_iloadN (pc' := 5) X11 hx rfl (hb hby d18_4) rfl ?_
  refine og_if_ne (pc1 := 27) (pc2 := 8) X11 hx (hb hby d18_5) (by decide) (by decide) rfl (fun _ => ?_) (fun q => absurd q (by decide))
  refine og_getstatic (pc' := 30) X11 hx hZ (host := "") hown (Or.inl (ow108 hw)) Via.refl e11 (S_CS.ext O.2) (hb hby d18_27) rfl (fun T12 X12 e12 => ?_)
  refine og_if_eq (pc1 := 58) (pc2 := 33) X12 hx (hb hby d18_30) (by decide) (by decide) rfl (fun q => absurd q hcs) (fun _ => ?_)
  refine og_aloadN (pc' := 34) X12 hx rfl rfl (hb hby d18_33) rfl ?_
  refine og_iloadN (pc' := 35) X12 hx rfl (hb hby d18_34) rfl ?_
  refine og_iloadN (pc' := 36) X12 hx rfl (hb hby d18_35) rfl ?_
  refine og_static (pc' := 39) (cells' := 1) (slots' := 3) (W := 0) X12 hx hZ (rm_c1_3 l Z a0 hw ca kc c0 c1 c2 hb0 hb1 hb2 h0 n0 O V_ca) hown (ow129 hw) (ow130 hw) (ow131 hw) (ow132 hw) (by decide) (by rw [hml]; rfl) e12 opd_7 [(.ref ca), (.int (0 : Int32)), (.int (3 : Int32))] [] rfl rfl rfl rfl (by decide) (by decide) rfl rfl (by decide) (by decide) (hb hby d18_36) rfl (fun v13 T13 h13 L13 X13 e13 z13 => ?_)
  obtain ⟨nb13, k13, rfl, Nq13, K13, sb13, V_nb13⟩ := z13; have N := Fr.app N Nq13
  have s_nb13 : h0.size ≤ nb13 := sb13; have g_nb13 : n0 ≤ nb13 := Nat.le_trans (own_n0 O) s_nb13; have sz_nb13 : h0.size ≤ nb13 := Nat.le_trans K.1 s_nb13; have ne_a1_nb13 : a1 ≠ nb13 := Nat.ne_of_lt (Nat.lt_of_lt_of_le E_a1.lt s_nb13); have ne_ca_nb13 : ca ≠ nb13 := Nat.ne_of_lt (Nat.lt_of_lt_of_le V_ca.lt s_nb13)
  have E_a1 := E_a1.keep K13; have F_value_a1 := F_value_a1.keep K13 nin0; have F_coder_a1 := F_coder_a1.keep K13 nin0; have V_ca := V_ca.keep K13 nin0; have O := O.keep K13 all0; have K := K.trans K13 all0
  show OG p e below _ (T13.setTop (mkF m 39 #[.val (.ref a1), .val (.ref ca), .val (.int (0 : Int32)), .val (.int (3 : Int32)), .val .null, .unset] [(.ref nb13)]))
  refine og_astore (pc' := 41) (L' := #[.val (.ref a1), .val (.ref ca), .val (.int (0 : Int32)), .val (.int (3 : Int32)), .val .null, .val (.ref nb13)]) X13 hx rfl rfl (hb hby d18_39) rfl ?_
  refine og_aloadN (pc' := 42) X13 hx rfl rfl (hb hby d18_41) rfl ?_
  refine og_aload (pc' := 44) X13 hx rfl rfl (hb hby d18_42) rfl ?_
  refine og_iloadN (pc' := 45) X13 hx rfl (hb hby d18_44) rfl ?_
  refine og_static (pc' := 48) (cells' := 1) (slots' := 3) (W := 1) X13 hx hZ (rm_cfa_3 l Z a0 hw nb13 k13 _ h13 n0 O V_nb13) hown (ow136 hw) (ow137 hw) (ow131 hw) (ow138 hw) (by decide) (by rw [hml]; rfl) e13 opd_8 [(.ref nb13), (.int (3 : Int32))] [(.ref a1)] rfl rfl rfl rfl (by decide) (by decide) rfl rfl (by decide) (by decide) (hb hby d18_45) rfl (fun v14 T14 h14 L14 X14 e14 z14 => ?_)
  obtain ⟨rfl, Nq14, hq14⟩ := z14; replace e14 := e14.trans hq14; have N := Fr.app N Nq14
  show OG p e below _ (T14.setTop (mkF m 48 #[.val (.ref a1), .val (.ref ca), .val (.int (0 : Int32)), .val (.int (3 : Int32)), .val .null, .val (.ref nb13)] [(.int (0 : Int32)), (.ref a1)]))
  refine og_putfield (pc' := 51) X14 hx hZ (ty := .byte) (host := "") hown (Or.inl (ow109 hw)) Via.refl e14 F_coder_a1 E_a1 (Or.inr ⟨(ow9 hw), rfl, hnm⟩) (ow6 hw) (by decide) rfl rfl (hb hby d18_48) rfl (fun T15 h15 X15 e15 W15 => ?_)
  have F_coder_a1_ := F_coder_a1.same W15
  have E_a1 := E_a1.wr W15; have F_value_a1 := F_value_a1.other W15 (Or.inr (slot_ne (Or.inr (ow8 hw)) (Or.inr (ow9 hw)) (by decide) (t := (.array .byte)) (t' := .byte) (by decide) (by decide))); have V_ca := V_ca.other W15 ne_ca_a1; have V_nb13 := V_nb13.other W15 (Ne.symm ne_a1_nb13); have O := O.wr W15 g_a1; have K := K.wr W15 (Or.inl (List.mem_of_getElem? (i := 0) rfl))
  have N := Fr.snoc X15 N g_a1; have F_coder_a1 := F_coder_a1_
  refine og_aloadN (pc' := 52) X15 hx rfl rfl (hb hby d18_51) rfl ?_
  refine og_aload (pc' := 54) X15 hx rfl rfl (hb hby d18_52) rfl ?_
  refine og_putfield (pc' := 57) X15 hx hZ (ty := (.array .byte)) (host := "") hown (Or.inl (ow110 hw)) Via.refl e15 F_value_a1 E_a1 (Or.inr ⟨(ow8 hw), rfl, hnm⟩) (ow6 hw) (by decide) rfl rfl (hb hby d18_54) rfl (fun T16 h16 X16 e16 W16 => ?_)
  have F_value_a1_ := F_value_a1.same W16
  have E_a1 := E_a1.wr W16; have V_ca := V_ca.other W16 ne_ca_a1; have V_nb13 := V_nb13.other W16 (Ne.symm ne_a1_nb13); have F_coder_a1 := F_coder_a1.other W16 (Or.inr (slot_ne (Or.inr (ow9 hw)) (Or.inr (ow8 hw)) (by decide) (t := .byte) (t' := (.array .byte)) (by decide) (by decide))); have O := O.wr W16 g_a1; have K := K.wr W16 (Or.inl (List.mem_of_getElem? (i := 0) rfl))
  have N := Fr.snoc X16 N g_a1; have F_value_a1 := F_value_a1_
  refine og_retV X16 hx hlk hret (hb hby d18_57) (by decide) (by decide) ?_
  rw [e16]; exact ⟨_, _, rfl, N, K, sz_nb13, E_a1, F_value_a1, F_coder_a1, V_nb13⟩
theorem rm_sn_3 (l : Launch) (Z : State) (a0 : Array Value) (hw : HW a0 Z) (a1 ca : Addr) (kc : ClassId) (c0 c1 c2 : Int32) (hb0 : ¬ 255 < c0) (hb1 : ¬ 255 < c1) (hb2 : ¬ 255 < c2) (cs : Int32) (hcs : ¬ cs = 0) (h0 : Heap) (n0 : Nat) (O : Old Z n0 h0) (E_a1 : Exa Z h0 a1 "java/lang/String") (F_value_a1 : Fld Z h0 a1 "java/lang/String" "value" "[B" .null) (F_coder_a1 : Fld Z h0 a1 "java/lang/String" "coder" "B" (.int (0 : Int32))) (V_ca : Arv Z h0 ca kc .char (3 : Int32) [(.int c0), (.int c1), (.int c2)] (.int (0 : Int32))) (S_CS : Sta Z Z.heap "java/lang/String" "COMPACT_STRINGS" "Z" (.int cs)) (g_a1 : n0 ≤ a1) (ne_ca_a1 : ca ≠ a1) :
    Con l Z (⟨"java/lang/String", "<init>", "([C)V"⟩ : MethodName) jdk_42_method_3_code 2 none ({ frames := 3, cells := 1, slots := 3, locals := 52 } : Room) #[(.ref a1), (.ref ca)] h0 (fun v h L => ∃ b k, v = none ∧ Fr n0 L ∧ Keep h0 h [a1] ∧ h0.size ≤ b ∧ Exa Z h a1 "java/lang/String" ∧ Fld Z h a1 "java/lang/String" "value" "[B" (.ref b) ∧ Fld Z h a1 "java/lang/String" "coder" "B" (.int (0 : Int32)) ∧ Arv Z h b k .byte (3 : Int32) [(.int c0.toInt8.toInt32), (.int c1.toInt8.toInt32), (.int c2.toInt8.toInt32)] (.int (0 : Int32))) := by
  refine own_startC opn_17 ?_
  intro p e s m below meth c T0 X0 hx hby hml hZ hown hnm hret hlk e0
  have N := Fr.nil n0; have K := Keep.refl h0 [a1]
  refine OG.cast (oef1 m a1 ca) ?_
  refine og_aloadN (pc' := 1) X0 hx rfl rfl (hb hby d17_0) rfl ?_
  refine og_aloadN (pc' := 2) X0 hx rfl rfl (hb hby d17_1) rfl ?_
  refine og_iconst (pc' := 3) (v := (0 : Int32)) X0 hx rfl (hb hby d17_2) rfl ?_
  refine og_aloadN (pc' := 4) X0 hx rfl rfl (hb hby d17_3) rfl ?_
  refine og_arraylength (pc' := 5) X0 hx hZ e0 V_ca (hb hby d17_4) rfl ?_
  refine og_aconst_null (pc' := 6) X0 hx (hb hby d17_5) rfl ?_
  refine og_special (pc' := 9) (cells' := 1) (slots' := 3) (W := 0) X0 hx hZ (rm_sv_3 l Z a0 hw a1 ca kc c0 c1 c2 hb0 hb1 hb2 cs hcs h0 n0 O E_a1 F_value_a1 F_coder_a1 V_ca S_CS g_a1 ne_ca_a1) rfl hown (ow125 hw) (ow126 hw) (ow5 hw) (ow127 hw) (by decide) (by rw [hml]; rfl) e0 opd_2 [(.ref ca), (.int (0 : Int32)), (.int (3 : Int32)), .null] [] rfl rfl rfl rfl (by decide) (by decide) rfl rfl (by decide) (by decide) (hb hby d17_6) rfl (fun v11 T11 h11 L11 X11 e11 z11 => ?_)
  obtain ⟨nb11, k11, rfl, Nq11, K11, sb11, E_a1', F_value_a1', F_coder_a1', V_nb11⟩ := z11; have N := Fr.app N Nq11
  have s_nb11 : h0.size ≤ nb11 := sb11; have g_nb11 : n0 ≤ nb11 := Nat.le_trans (own_n0 O) s_nb11; have sz_nb11 : h0.size ≤ nb11 := Nat.le_trans K.1 s_nb11; have ne_a1_nb11 : a1 ≠ nb11 := Nat.ne_of_lt (Nat.lt_of_lt_of_le E_a1.lt s_nb11); have ne_ca_nb11 : ca ≠ nb11 := Nat.ne_of_lt (Nat.lt_of_lt_of_le V_ca.lt s_nb11)
  have E_a1 := E_a1.keep K11; have V_ca := V_ca.keep K11 (ninS ne_ca_a1 nin0); have O := O.keep K11 (allS g_a1 all0); have K := K.trans K11 (allS (Or.inl (List.mem_of_getElem? (i := 0) rfl)) all0)
  have E_a1 := E_a1'; have F_value_a1 := F_value_a1'; have F_coder_a1 := F_coder_a1'
  show OG p e below _ (T11.setTop (mkF m 9 #[.val (.ref a1), .val (.ref ca)] []))
  refine og_retV X11 hx hlk hret (hb hby d17_9) (by decide) (by decide) ?_
  rw [e11]; exact ⟨_, _, rfl, N, K, sz_nb11, E_a1, F_value_a1, F_coder_a1, V_nb11⟩
theorem rm_leG (l : Launch) (Z : State) (a0 : Array Value) (hw : HW a0 Z) (b1 b2 : Addr) (k1 k2 : ClassId) (us ws : List Int32) (n1 n2 : Int32) (hn1 : n1.toNatClampNeg = us.length) (hn2 : n2.toNatClampNeg = ws.length) (hp1 : ¬ n1 < 0) (hp2 : ¬ n2 < 0) (r : Int32) (hr : r = if us = ws then 1 else 0) (h0 : Heap) (n0 : Nat) (O : Old Z n0 h0) (V_b1 : Arv Z h0 b1 k1 .byte n1 (us.map Value.int) (.int (0 : Int32))) (V_b2 : Arv Z h0 b2 k2 .byte n2 (ws.map Value.int) (.int (0 : Int32))) :
    Con l Z (⟨"java/lang/StringLatin1", "equals", "([B[B)Z"⟩ : MethodName) jdk_43_method_13_code 3 (some .boolean) ({ frames := 0, cells := 0, slots := 0, locals := 0 } : Room) #[(.ref b1), (.ref b2)] h0 (fun v h L => v = some (.int r) ∧ Fr n0 L ∧ h = h0) := by
  refine own_startC opn_15 ?_
  intro p e s m below meth c T0 X0 hx hby hml hZ hown hnm hret hlk e0
  have N := Fr.nil n0; have K := Keep.refl h0 []
  refine OG.cast (oef9 m b1 b2) ?_
  refine og_aloadN (pc' := 1) X0 hx rfl rfl (hb hby d15_0) rfl ?_
  refine og_arraylength (pc' := 2) X0 hx hZ e0 V_b1 (hb hby d15_1) rfl ?_
  refine og_aloadN (pc' := 3) X0 hx rfl rfl (hb hby d15_2) rfl ?_
  refine og_arraylength (pc' := 4) X0 hx hZ e0 V_b2 (hb hby d15_3) rfl ?_
  refine og_icmp_ne (pc1 := 34) (pc2 := 7) X0 hx (hb hby d15_4) (by decide) (by decide) rfl (fun hc4 => ?_) (fun hc4 => ?_)
  · -- pc 34
    refine og_iconst (pc' := 35) (v := (0 : Int32)) X0 hx rfl (hb hby d15_34) rfl ?_
    refine og_retN X0 hx hlk hret (by simp) (hb hby d15_35) (by decide) (by decide) ?_
    rw [e0]; refine ⟨?_, N, rfl⟩
    show some (Value.int (0 : Int32)) = _
    rw [hr, if_neg (fun q => hc4 (own_len_ne q hn1 hn2 hp1 hp2))]
  · -- pc 7
    have hnn : n1 = n2 := hc4
    have hle : us.length = ws.length := by rw [← hn1, ← hn2, hnn]
    refine og_iconst (pc' := 8) (v := (0 : Int32)) X0 hx rfl (hb hby d15_7) rfl ?_
    refine og_istoreN (pc' := 9) (L' := #[.val (.ref b1), .val (.ref b2), .val (.int (0 : Int32))]) X0 hx rfl (hb hby d15_8) rfl ?_
    have LOOP : ∀ (k i : Nat) (T11 : State) (l11 : List Loc) (X11 : Stand p l e ({ frames := 0, cells := 0, slots := 0, locals := 0 } : Room) s m #[(.ref b1), (.ref b2)] below meth c T11 l11 0 0) (e11 : T11.heap = h0) (N : Fr n0 l11), i + k = us.length → (∀ j, j < i → us[j]? = ws[j]?) → ∀ z : Int32, (¬ z < 0 ∧ z.toNatClampNeg = i) → OG p e below (OFin s (fun v h L => v = some (.int r) ∧ Fr n0 L ∧ h = h0) 0 0) (T11.setTop (mkF m 9 #[.val (.ref b1), .val (.ref b2), .val (.int z)] [])) := by
      intro k
      induction k with
      | zero =>
        intro i T11 l11 X11 e11 N hik hj z hi
        have hlt : ¬ z < n1 := own_nlt hi hn1 (by omega)
        refine og_iloadN (pc' := 10) X11 hx rfl (hb hby d15_9) rfl ?_
        refine og_aloadN (pc' := 11) X11 hx rfl rfl (hb hby d15_10) rfl ?_
        refine og_arraylength (pc' := 12) X11 hx hZ e11 V_b1 (hb hby d15_11) rfl ?_
        refine og_icmp_ge (pc1 := 32) (pc2 := 15) X11 hx (hb hby d15_12) (by decide) (by decide) rfl (fun _ => ?_) (fun q => absurd q hlt)
        refine og_iconst (pc' := 33) (v := (1 : Int32)) X11 hx rfl (hb hby d15_32) rfl ?_
        refine og_retN X11 hx hlk hret (by simp) (hb hby d15_33) (by decide) (by decide) ?_
        rw [e11]; refine ⟨?_, N, rfl⟩
        show some (Value.int (1 : Int32)) = _
        rw [hr, if_pos (own_eqall hle (by omega) hj)]
      | succ k ih =>
        intro i T11 l11 X11 e11 N hik hj z hi
        have hlt : i < us.length := by omega
        have hlt1 : z < n1 := own_lt1 hi hn1 hp1 hlt
        have hlt2 : z < n2 := hnn ▸ hlt1
        refine og_iloadN (pc' := 10) X11 hx rfl (hb hby d15_9) rfl ?_
        refine og_aloadN (pc' := 11) X11 hx rfl rfl (hb hby d15_10) rfl ?_
        refine og_arraylength (pc' := 12) X11 hx hZ e11 V_b1 (hb hby d15_11) rfl ?_
        refine og_icmp_ge (pc1 := 32) (pc2 := 15) X11 hx (hb hby d15_12) (by decide) (by decide) rfl (fun q => absurd hlt1 q) (fun _ => ?_)
        refine og_aloadN (pc' := 16) X11 hx rfl rfl (hb hby d15_15) rfl ?_
        refine og_iloadN (pc' := 17) X11 hx rfl (hb hby d15_16) rfl ?_
        refine og_baload (pc' := 18) (v := (.int (us.getD i 0))) X11 hx hZ e11 V_b1 ⟨hi.1, hlt1⟩ (own_getD us hi.2) (hb hby d15_17) rfl ?_
        refine og_aloadN (pc' := 19) X11 hx rfl rfl (hb hby d15_18) rfl ?_
        refine og_iloadN (pc' := 20) X11 hx rfl (hb hby d15_19) rfl ?_
        refine og_baload (pc' := 21) (v := (.int (ws.getD i 0))) X11 hx hZ e11 V_b2 ⟨hi.1, hlt2⟩ (own_getD ws hi.2) (hb hby d15_20) rfl ?_
        refine og_icmp_eq (pc1 := 26) (pc2 := 24) X11 hx (hb hby d15_21) (by decide) (by decide) rfl (fun hc21 => ?_) (fun hc21 => ?_)
        · -- pc 26
          refine og_iinc (pc' := 29) (L' := #[.val (.ref b1), .val (.ref b2), .val (.int (z + (1 : Int32)))]) (w := (1 : Int32)) X11 hx rfl rfl rfl (hb hby d15_26) rfl ?_
          refine og_goto (pc' := 9) X11 hx (hb hby d15_29) (by decide) (by decide) ?_
          exact ih (i + 1) T11 _ X11 e11 N (by omega) (own_eqstep hj hlt hle hc21) _ (own_iinc hi (by rw [← hn1] at hlt; exact hlt) hp1)
        · -- pc 24
          refine og_iconst (pc' := 25) (v := (0 : Int32)) X11 hx rfl (hb hby d15_24) rfl ?_
          refine og_retN X11 hx hlk hret (by simp) (hb hby d15_25) (by decide) (by decide) ?_
          rw [e11]; refine ⟨?_, N, rfl⟩
          show some (Value.int (0 : Int32)) = _
          rw [hr, if_neg (fun q => hc21 (by rw [q]))]
    exact LOOP us.length 0 T0 _ X0 e0 N (by omega) (fun j hj => absurd hj (Nat.not_lt_zero j)) 0 (by decide)
theorem rm_eqG (l : Launch) (Z : State) (a0 : Array Value) (hw : HW a0 Z) (a1 a2 b1 b2 : Addr) (k1 k2 : ClassId) (us ws : List Int32) (n1 n2 : Int32) (hn1 : n1.toNatClampNeg = us.length) (hn2 : n2.toNatClampNeg = ws.length) (hp1 : ¬ n1 < 0) (hp2 : ¬ n2 < 0) (r : Int32) (hr : r = if us = ws then 1 else 0) (cs : Int32) (hcs : ¬ cs = 0) (h0 : Heap) (n0 : Nat) (O : Old Z n0 h0) (E_a1 : Exa Z h0 a1 "java/lang/String") (F_value_a1 : Fld Z h0 a1 "java/lang/String" "value" "[B" (.ref b1)) (F_coder_a1 : Fld Z h0 a1 "java/lang/String" "coder" "B" (.int (0 : Int32))) (V_b1 : Arv Z h0 b1 k1 .byte n1 (us.map Value.int) (.int (0 : Int32))) (E_a2 : Exa Z h0 a2 "java/lang/String") (F_value_a2 : Fld Z h0 a2 "java/lang/String" "value" "[B" (.ref b2)) (F_coder_a2 : Fld Z h0 a2 "java/lang/String" "coder" "B" (.int (0 : Int32))) (V_b2 : Arv Z h0 b2 k2 .byte n2 (ws.map Value.int) (.int (0 : Int32))) (S_CS : Sta Z Z.heap "java/lang/String" "COMPACT_STRINGS" "Z" (.int cs)) :
    Con l Z (⟨"java/lang/String", "equals", "(Ljava/lang/Object;)Z"⟩ : MethodName) jdk_42_method_66_code 3 (some .boolean) ({ frames := 1, cells := 0, slots := 0, locals := 14 } : Room) #[(.ref a1), (.ref a2)] h0 (fun v h L => v = some (.int r) ∧ Fr n0 L ∧ h = h0) := by
  refine own_startC opn_14 ?_
  intro p e s m below meth c T0 X0 hx hby hml hZ hown hnm hret hlk e0
  have N := Fr.nil n0; have K := Keep.refl h0 []
  refine OG.cast (oef9 m a1 a2) ?_
  refine og_aloadN (pc' := 1) X0 hx rfl rfl (hb hby d14_0) rfl ?_
  refine og_aloadN (pc' := 2) X0 hx rfl rfl (hb hby d14_1) rfl ?_
  refine og_acmp_ne (pc1 := 7) (pc2 := 5) X0 hx rfl rfl (hb hby d14_2) (by decide) (by decide) rfl (fun hc2 => ?_) (fun hc2 => ?_)
  · -- pc 7
    refine og_aloadN (pc' := 8) X0 hx rfl rfl (hb hby d14_7) rfl ?_
    obtain ⟨T11, X11, e11, st11⟩ := instY X0 hx hZ hown (ow107 hw) e0 (Ins.self E_a2) (g := (mkF m 8 #[.val (.ref a1), .val (.ref a2), .unset] [(.ref a2)])) rfl rfl (hb hby d14_8)
    refine OG.of st11 ?_
    show OG p e below _ (T11.setTop (mkF m 11 #[.val (.ref a1), .val (.ref a2), .unset] [(.int (1 : Int32))]))
    refine og_if_eq (pc1 := 54) (pc2 := 14) X11 hx (hb hby d14_11) (by decide) (by decide) rfl (fun q => absurd q (by decide)) (fun _ => ?_)
    refine og_aloadN (pc' := 15) X11 hx rfl rfl (hb hby d14_14) rfl ?_
    obtain ⟨T12, X12, e12, st12⟩ := castY X11 hx hZ hown (ow107 hw) e11 (Ins.self E_a2) (g := (mkF m 15 #[.val (.ref a1), .val (.ref a2), .unset] [(.ref a2)])) rfl rfl (hb hby d14_15)
    refine OG.of st12 ?_
    show OG p e below _ (T12.setTop (mkF m 18 #[.val (.ref a1), .val (.ref a2), .unset] [(.ref a2)]))
    refine og_astoreN (pc' := 19) (L' := #[.val (.ref a1), .val (.ref a2), .val (.ref a2)]) X12 hx rfl rfl (hb hby d14_18) rfl ?_
    refine og_getstatic (pc' := 22) X12 hx hZ (host := "") hown (Or.inl (ow108 hw)) Via.refl e12 (S_CS.ext O.2) (hb hby d14_19) rfl (fun T13 X13 e13 => ?_)
    refine og_if_eq (pc1 := 36) (pc2 := 25) X13 hx (hb hby d14_22) (by decide) (by decide) rfl (fun q => absurd q hcs) (fun _ => ?_)
    refine og_aloadN (pc' := 26) X13 hx rfl rfl (hb hby d14_25) rfl ?_
    refine og_getfield (pc' := 29) X13 hx hZ (host := "") hown (Or.inl (ow109 hw)) Via.refl e13 F_coder_a1 (hb hby d14_26) rfl (fun T14 X14 e14 => ?_)
    refine og_aloadN (pc' := 30) X14 hx rfl rfl (hb hby d14_29) rfl ?_
    refine og_getfield (pc' := 33) X14 hx hZ (host := "") hown (Or.inl (ow109 hw)) Via.refl e14 F_coder_a2 (hb hby d14_30) rfl (fun T15 X15 e15 => ?_)
    refine og_icmp_ne (pc1 := 54) (pc2 := 36) X15 hx (hb hby d14_33) (by decide) (by decide) rfl (fun q => absurd q (by decide)) (fun _ => ?_)
    refine og_aloadN (pc' := 37) X15 hx rfl rfl (hb hby d14_36) rfl ?_
    refine og_getfield (pc' := 40) X15 hx hZ (host := "") hown (Or.inl (ow110 hw)) Via.refl e15 F_value_a1 (hb hby d14_37) rfl (fun T16 X16 e16 => ?_)
    refine og_aloadN (pc' := 41) X16 hx rfl rfl (hb hby d14_40) rfl ?_
    refine og_getfield (pc' := 44) X16 hx hZ (host := "") hown (Or.inl (ow110 hw)) Via.refl e16 F_value_a2 (hb hby d14_41) rfl (fun T17 X17 e17 => ?_)
    by_cases hQ : us = ws
    ·
      refine og_static (pc' := 47) (cells' := 0) (slots' := 0) (W := 0) X17 hx hZ (rm_leG l Z a0 hw b1 b2 k1 k2 us ws n1 n2 hn1 hn2 hp1 hp2 1 (if_pos hQ).symm h0 n0 O V_b1 V_b2) hown (ow111 hw) (ow112 hw) (ow113 hw) (ow114 hw) (by decide) (by rw [hml]; rfl) e17 opd_9 [(.ref b1), (.ref b2)] [] rfl rfl rfl rfl (by decide) (by decide) rfl rfl (by decide) (by decide) (hb hby d14_44) rfl (fun v18 T18 h18 L18 X18 e18 z18 => ?_)
      obtain ⟨rfl, Nq18, hq18⟩ := z18; replace e18 := e18.trans hq18; have N := Fr.app N Nq18
      show OG p e below _ (T18.setTop (mkF m 47 #[.val (.ref a1), .val (.ref a2), .val (.ref a2)] [(.int (1 : Int32))]))
      refine og_if_eq (pc1 := 54) (pc2 := 50) X18 hx (hb hby d14_47) (by decide) (by decide) rfl (fun q => absurd q (by decide)) (fun _ => ?_)
      refine og_iconst (pc' := 51) (v := (1 : Int32)) X18 hx rfl (hb hby d14_50) rfl ?_
      refine og_goto (pc' := 55) X18 hx (hb hby d14_51) (by decide) (by decide) ?_
      refine og_retN X18 hx hlk hret (by simp) (hb hby d14_55) (by decide) (by decide) ?_
      rw [e18]; refine ⟨?_, N, rfl⟩
      show some (Value.int (1 : Int32)) = _
      rw [hr, if_pos hQ]
    ·
      refine og_static (pc' := 47) (cells' := 0) (slots' := 0) (W := 0) X17 hx hZ (rm_leG l Z a0 hw b1 b2 k1 k2 us ws n1 n2 hn1 hn2 hp1 hp2 0 (if_neg hQ).symm h0 n0 O V_b1 V_b2) hown (ow111 hw) (ow112 hw) (ow113 hw) (ow114 hw) (by decide) (by rw [hml]; rfl) e17 opd_9 [(.ref b1), (.ref b2)] [] rfl rfl rfl rfl (by decide) (by decide) rfl rfl (by decide) (by decide) (hb hby d14_44) rfl (fun v19 T19 h19 L19 X19 e19 z19 => ?_)
      obtain ⟨rfl, Nq19, hq19⟩ := z19; replace e19 := e19.trans hq19; have N := Fr.app N Nq19
      show OG p e below _ (T19.setTop (mkF m 47 #[.val (.ref a1), .val (.ref a2), .val (.ref a2)] [(.int (0 : Int32))]))
      refine og_if_eq (pc1 := 54) (pc2 := 50) X19 hx (hb hby d14_47) (by decide) (by decide) rfl (fun _ => ?_) (fun q => absurd q (by decide))
      refine og_iconst (pc' := 55) (v := (0 : Int32)) X19 hx rfl (hb hby d14_54) rfl ?_
      refine og_retN X19 hx hlk hret (by simp) (hb hby d14_55) (by decide) (by decide) ?_
      rw [e19]; refine ⟨?_, N, rfl⟩
      show some (Value.int (0 : Int32)) = _
      rw [hr, if_neg hQ]
  · -- pc 5
    refine og_iconst (pc' := 6) (v := (1 : Int32)) X0 hx rfl (hb hby d14_5) rfl ?_
    refine og_retN X0 hx hlk hret (by simp) (hb hby d14_6) (by decide) (by decide) ?_
    rw [e0]; refine ⟨?_, N, rfl⟩
    show some (Value.int (1 : Int32)) = _
    rw [hr, if_pos (own_eqsame (Value.ref.inj hc2) F_value_a1 F_value_a2 V_b1 V_b2 hn1 hn2)]
theorem rm_dr0 (l : Launch) (Z : State) (a0 : Array Value) (hw : HW a0 Z) (c0 c1 c2 : Int32) (hc0 : 0 ≤ c0.toInt ∧ c0.toInt ≤ 255) (hc1 : 0 ≤ c1.toInt ∧ c1.toInt ≤ 255) (hc2 : 0 ≤ c2.toInt ∧ c2.toInt ≤ 255) (cs : Int32) (hcs : ¬ cs = 0) (h0 : Heap) (n0 : Nat) (O : Old Z n0 h0) (hEL : EW Z a0 own_EL) (S_CS : Sta Z Z.heap "java/lang/String" "COMPACT_STRINGS" "Z" (.int cs)) :
    ConW l Z own_EL [] (⟨"com/example/marsh_tit/marshtit/stanza/StanzasIsStanzaPinLaw", "drawn", "(ICCC)Ljava/lang/String;"⟩ : MethodName) method_5_code 4 (some (.object "java/lang/String")) ({ frames := 4, cells := 6, slots := 12, locals := 66 } : Room) #[(.int (0 : Int32)), (.int c0), (.int c1), (.int c2)] h0 (fun v h L => ∃ a b k, v = some (.ref a) ∧ Fr n0 L ∧ Keep h0 h [] ∧ Exa Z h a "java/lang/String" ∧ Fld Z h a "java/lang/String" "value" "[B" (.ref b) ∧ Fld Z h a "java/lang/String" "coder" "B" (.int (0 : Int32)) ∧ Arv Z h b k .byte (Int32.ofNat (own_dr 0 c0 c1 c2).length) ((own_dr 0 c0 c1 c2).map Value.int) (.int (0 : Int32))) := by
  refine own_startWC opn_16 ?_
  intro p e s m below meth c T0 X0 hx hby hml hZ hown hnm hret hlk e0 es hS CR hsf
  have N := Fr.nil n0; have K := Keep.refl h0 []; have hk := Nat.le_refl h0.size
  refine OG.cast (oef10 m (0 : Int32) c0 c1 c2) ?_
  refine og_iloadN (pc' := 1) X0 hx rfl (hb hby d16_0) rfl ?_
  refine og_if_ne (pc1 := 15) (pc2 := 4) X0 hx (hb hby d16_1) (by decide) (by decide) rfl (fun q => absurd q (by decide)) (fun _ => ?_)
  refine og_new (pc' := 7) (cells' := 1) (slots' := 4) X0 hx hZ hown (ow120 hw) (ow6 hw) (ow5 hw) e0 (hb hby d16_4) rfl rfl rfl (by decide) (by decide) (fun T11 h11 nb11 X11 e11 E11 q11 E_nb11 D11 B11 => ?_)
  have s_nb11 : h0.size ≤ nb11 := Nat.le_of_eq q11.symm; have g_nb11 : n0 ≤ nb11 := Nat.le_trans (own_n0 O) s_nb11; have sz_nb11 : h0.size ≤ nb11 := Nat.le_trans K.1 s_nb11; have Q_nb11 : Safe Z own_EL _ _ nb11 := Safe.new (Z := Z) (EL := own_EL) (vm := s.vm) s_nb11
  have Q_nb11 := Safe.ext E11 CR.1 Q_nb11; have O := O.ext E11; have K := K.ext E11; have hk := Nat.le_trans hk E11.1; have CR := CR.trans (CHr.ext E11 CR.1)
  have F_value_nb11 : Fld Z h11 nb11 "java/lang/String" "value" "[B" .null := D11 (Or.inr (ow8 hw)) (ty := (.array .byte)) (by decide)
  have F_coder_nb11 : Fld Z h11 nb11 "java/lang/String" "coder" "B" (.int (0 : Int32)) := D11 (Or.inr (ow9 hw)) (ty := .byte) (by decide)
  refine og_dup (pc' := 8) X11 hx rfl (hb hby d16_7) rfl ?_
  refine og_iconst (pc' := 9) (v := (0 : Int32)) X11 hx rfl (hb hby d16_8) rfl ?_
  refine og_newarray (pc' := 11) (cells' := 2) (slots' := 4) (cap := 0) (ty := .char) X11 hx hZ rfl (ow121 hw) e11 (by decide) (by decide) (by decide) (hb hby d16_9) rfl rfl rfl (by decide) (by decide) (fun T12 h12 nb12 kA12 X12 e12 E12 q12 V_nb12 => ?_)
  have s_nb12 : h11.size ≤ nb12 := Nat.le_of_eq q12.symm; have g_nb12 : n0 ≤ nb12 := Nat.le_trans (own_n0 O) s_nb12; have sz_nb12 : h0.size ≤ nb12 := Nat.le_trans K.1 s_nb12; have ne_nb11_nb12 : nb11 ≠ nb12 := Nat.ne_of_lt (Nat.lt_of_lt_of_le E_nb11.lt s_nb12); have Q_nb12 : Safe Z own_EL _ _ nb12 := Safe.new (Z := Z) (EL := own_EL) (vm := s.vm) s_nb12
  have Q_nb11 := Safe.ext E12 CR.1 Q_nb11; have Q_nb12 := Safe.ext E12 CR.1 Q_nb12; have E_nb11 := E_nb11.ext E12; have F_value_nb11 := F_value_nb11.ext E12; have F_coder_nb11 := F_coder_nb11.ext E12; have O := O.ext E12
  have K := K.ext E12; have hk := Nat.le_trans hk E12.1; have CR := CR.trans (CHr.ext E12 CR.1)
  refine og_specialW (pc' := 14) (cells' := 6) (slots' := 12) (W := 1) X12 hx hZ (rm_sn_0 l Z a0 hw nb11 nb12 kA12 h12 n0 O hEL E_nb11 F_value_nb11 F_coder_nb11 V_nb12 g_nb11 (Ne.symm ne_nb11_nb12)) hEL hS hk CR.1 (allS (P := fun x => x < _ ∧ Safe Z own_EL _ _ x) ⟨E_nb11.lt, Q_nb11⟩ all0) rfl hown (ow122 hw) (ow123 hw) (ow5 hw) (ow124 hw) (by decide) (by rw [hml]; rfl) e12 opd_10 [(.ref nb12)] [(.ref nb11)] rfl rfl rfl rfl (by decide) (by decide) rfl rfl (by decide) (by decide) (hb hby d16_11) rfl (fun v13 T13 h13 L13 kk13 X13 e13 hS hk hZ hown cr13 z13 => ?_)
  obtain ⟨nb13, k13, rfl, Nq13, K13, E_nb11', F_value_nb11', F_coder_nb11', V_nb13⟩ := z13; have N := Fr.app N Nq13
  have Q_nb11 := cr13.safe E_nb11.lt Q_nb11; have Q_nb12 := cr13.safe V_nb12.lt Q_nb12; have E_nb11 := E_nb11.keep K13; have V_nb12 := V_nb12.keep K13 (ninS (Ne.symm ne_nb11_nb12) nin0); have O := O.keep K13 (allS g_nb11 all0); have K := K.trans K13 (allS (Or.inr sz_nb11) all0)
  have CR := CR.trans cr13
  have E_nb11 := E_nb11'; have F_value_nb11 := F_value_nb11'; have F_coder_nb11 := F_coder_nb11'
  show OG p e below _ (T13.setTop (mkF m 14 #[.val (.int (0 : Int32)), .val (.int c0), .val (.int c1), .val (.int c2)] [(.ref nb11)]))
  refine og_retRW X13 hx hZ hlk hEL hS e13 es hk CR hret rfl rfl rfl (hb hby d16_14) (by decide) (by decide) ?_
  rw [e13]; exact ⟨_, _, _, rfl, N, K, E_nb11, F_value_nb11, F_coder_nb11, V_nb13⟩
theorem rm_dr1 (l : Launch) (Z : State) (a0 : Array Value) (hw : HW a0 Z) (c0 c1 c2 : Int32) (hc0 : 0 ≤ c0.toInt ∧ c0.toInt ≤ 255) (hc1 : 0 ≤ c1.toInt ∧ c1.toInt ≤ 255) (hc2 : 0 ≤ c2.toInt ∧ c2.toInt ≤ 255) (cs : Int32) (hcs : ¬ cs = 0) (h0 : Heap) (n0 : Nat) (O : Old Z n0 h0) (hEL : EW Z a0 own_EL) (S_CS : Sta Z Z.heap "java/lang/String" "COMPACT_STRINGS" "Z" (.int cs)) :
    ConW l Z own_EL [] (⟨"com/example/marsh_tit/marshtit/stanza/StanzasIsStanzaPinLaw", "drawn", "(ICCC)Ljava/lang/String;"⟩ : MethodName) method_5_code 4 (some (.object "java/lang/String")) ({ frames := 4, cells := 6, slots := 12, locals := 66 } : Room) #[(.int (1 : Int32)), (.int c0), (.int c1), (.int c2)] h0 (fun v h L => ∃ a b k, v = some (.ref a) ∧ Fr n0 L ∧ Keep h0 h [] ∧ Exa Z h a "java/lang/String" ∧ Fld Z h a "java/lang/String" "value" "[B" (.ref b) ∧ Fld Z h a "java/lang/String" "coder" "B" (.int (0 : Int32)) ∧ Arv Z h b k .byte (Int32.ofNat (own_dr 1 c0 c1 c2).length) ((own_dr 1 c0 c1 c2).map Value.int) (.int (0 : Int32))) := by
  refine own_startWC opn_16 ?_
  intro p e s m below meth c T0 X0 hx hby hml hZ hown hnm hret hlk e0 es hS CR hsf
  have N := Fr.nil n0; have K := Keep.refl h0 []; have hk := Nat.le_refl h0.size
  refine OG.cast (oef10 m (1 : Int32) c0 c1 c2) ?_
  refine og_iloadN (pc' := 1) X0 hx rfl (hb hby d16_0) rfl ?_
  refine og_if_ne (pc1 := 15) (pc2 := 4) X0 hx (hb hby d16_1) (by decide) (by decide) rfl (fun _ => ?_) (fun q => absurd q (by decide))
  refine og_iloadN (pc' := 16) X0 hx rfl (hb hby d16_15) rfl ?_
  refine og_iconst (pc' := 17) (v := (1 : Int32)) X0 hx rfl (hb hby d16_16) rfl ?_
  refine og_icmp_ne (pc1 := 25) (pc2 := 20) X0 hx (hb hby d16_17) (by decide) (by decide) rfl (fun q => absurd q (by decide)) (fun _ => ?_)
  refine og_iloadN (pc' := 21) X0 hx rfl (hb hby d16_20) rfl ?_
  refine og_static (pc' := 24) (cells' := 2) (slots' := 5) (W := 0) X0 hx hZ (rm_vo l Z a0 hw c0 (own_le255 hc0) cs hcs h0 n0 O S_CS) hown (ow146 hw) (ow147 hw) (ow5 hw) (ow148 hw) (by decide) (by rw [hml]; rfl) e0 opd_11 [(.int c0)] [] rfl rfl rfl rfl (by decide) (by decide) rfl rfl (by decide) (by decide) (hb hby d16_21) rfl (fun v11 T11 h11 L11 X11 e11 z11 => ?_)
  obtain ⟨na11, nb11, k11, rfl, Nq11, K11, sa11, sb11, E_na11, F_value_na11, F_coder_na11, V_nb11⟩ := z11; have N := Fr.app N Nq11
  have s_na11 : h0.size ≤ na11 := sa11; have g_na11 : n0 ≤ na11 := Nat.le_trans (own_n0 O) s_na11; have sz_na11 : h0.size ≤ na11 := Nat.le_trans K.1 s_na11; have Q_na11 : Safe Z own_EL _ _ na11 := Safe.new (Z := Z) (EL := own_EL) (vm := s.vm) s_na11
  have s_nb11 : h0.size ≤ nb11 := sb11; have g_nb11 : n0 ≤ nb11 := Nat.le_trans (own_n0 O) s_nb11; have sz_nb11 : h0.size ≤ nb11 := Nat.le_trans K.1 s_nb11; have Q_nb11 : Safe Z own_EL _ _ nb11 := Safe.new (Z := Z) (EL := own_EL) (vm := s.vm) s_nb11
  have Q_na11 := Safe.keep K11 sf0 CR.1 Q_na11; have Q_nb11 := Safe.keep K11 sf0 CR.1 Q_nb11; have O := O.keep K11 all0; have K := K.trans K11 all0; have hk := Nat.le_trans hk K11.1; have CR := CR.trans (CHr.keep K11 sf0 CR.1)
  have ne_na11_nb11 : na11 ≠ nb11 := fun q => own_strarr E_na11 V_nb11 (ow6 hw) q
  show OG p e below _ (T11.setTop (mkF m 24 #[.val (.int (1 : Int32)), .val (.int c0), .val (.int c1), .val (.int c2)] [(.ref na11)]))
  refine og_retRW X11 hx hZ hlk hEL hS e11 es hk CR hret rfl rfl rfl (hb hby d16_24) (by decide) (by decide) ?_
  rw [e11]; exact ⟨_, _, _, rfl, N, K, E_na11, F_value_na11, F_coder_na11, V_nb11⟩
theorem rm_dr2 (l : Launch) (Z : State) (a0 : Array Value) (hw : HW a0 Z) (c0 c1 c2 : Int32) (hc0 : 0 ≤ c0.toInt ∧ c0.toInt ≤ 255) (hc1 : 0 ≤ c1.toInt ∧ c1.toInt ≤ 255) (hc2 : 0 ≤ c2.toInt ∧ c2.toInt ≤ 255) (cs : Int32) (hcs : ¬ cs = 0) (h0 : Heap) (n0 : Nat) (O : Old Z n0 h0) (hEL : EW Z a0 own_EL) (S_CS : Sta Z Z.heap "java/lang/String" "COMPACT_STRINGS" "Z" (.int cs)) :
    ConW l Z own_EL [] (⟨"com/example/marsh_tit/marshtit/stanza/StanzasIsStanzaPinLaw", "drawn", "(ICCC)Ljava/lang/String;"⟩ : MethodName) method_5_code 4 (some (.object "java/lang/String")) ({ frames := 4, cells := 6, slots := 12, locals := 66 } : Room) #[(.int (2 : Int32)), (.int c0), (.int c1), (.int c2)] h0 (fun v h L => ∃ a b k, v = some (.ref a) ∧ Fr n0 L ∧ Keep h0 h [] ∧ Exa Z h a "java/lang/String" ∧ Fld Z h a "java/lang/String" "value" "[B" (.ref b) ∧ Fld Z h a "java/lang/String" "coder" "B" (.int (0 : Int32)) ∧ Arv Z h b k .byte (Int32.ofNat (own_dr 2 c0 c1 c2).length) ((own_dr 2 c0 c1 c2).map Value.int) (.int (0 : Int32))) := by
  refine own_startWC opn_16 ?_
  intro p e s m below meth c T0 X0 hx hby hml hZ hown hnm hret hlk e0 es hS CR hsf
  have N := Fr.nil n0; have K := Keep.refl h0 []; have hk := Nat.le_refl h0.size
  refine OG.cast (oef10 m (2 : Int32) c0 c1 c2) ?_
  refine og_iloadN (pc' := 1) X0 hx rfl (hb hby d16_0) rfl ?_
  refine og_if_ne (pc1 := 15) (pc2 := 4) X0 hx (hb hby d16_1) (by decide) (by decide) rfl (fun _ => ?_) (fun q => absurd q (by decide))
  refine og_iloadN (pc' := 16) X0 hx rfl (hb hby d16_15) rfl ?_
  refine og_iconst (pc' := 17) (v := (1 : Int32)) X0 hx rfl (hb hby d16_16) rfl ?_
  refine og_icmp_ne (pc1 := 25) (pc2 := 20) X0 hx (hb hby d16_17) (by decide) (by decide) rfl (fun _ => ?_) (fun q => absurd q (by decide))
  refine og_iloadN (pc' := 26) X0 hx rfl (hb hby d16_25) rfl ?_
  refine og_iconst (pc' := 27) (v := (2 : Int32)) X0 hx rfl (hb hby d16_26) rfl ?_
  refine og_icmp_ne (pc1 := 49) (pc2 := 30) X0 hx (hb hby d16_27) (by decide) (by decide) rfl (fun q => absurd q (by decide)) (fun _ => ?_)
  refine og_new (pc' := 33) (cells' := 1) (slots' := 4) X0 hx hZ hown (ow120 hw) (ow6 hw) (ow5 hw) e0 (hb hby d16_30) rfl rfl rfl (by decide) (by decide) (fun T11 h11 nb11 X11 e11 E11 q11 E_nb11 D11 B11 => ?_)
  have s_nb11 : h0.size ≤ nb11 := Nat.le_of_eq q11.symm; have g_nb11 : n0 ≤ nb11 := Nat.le_trans (own_n0 O) s_nb11; have sz_nb11 : h0.size ≤ nb11 := Nat.le_trans K.1 s_nb11; have Q_nb11 : Safe Z own_EL _ _ nb11 := Safe.new (Z := Z) (EL := own_EL) (vm := s.vm) s_nb11
  have Q_nb11 := Safe.ext E11 CR.1 Q_nb11; have O := O.ext E11; have K := K.ext E11; have hk := Nat.le_trans hk E11.1; have CR := CR.trans (CHr.ext E11 CR.1)
  have F_value_nb11 : Fld Z h11 nb11 "java/lang/String" "value" "[B" .null := D11 (Or.inr (ow8 hw)) (ty := (.array .byte)) (by decide)
  have F_coder_nb11 : Fld Z h11 nb11 "java/lang/String" "coder" "B" (.int (0 : Int32)) := D11 (Or.inr (ow9 hw)) (ty := .byte) (by decide)
  refine og_dup (pc' := 34) X11 hx rfl (hb hby d16_33) rfl ?_
  refine og_iconst (pc' := 35) (v := (2 : Int32)) X11 hx rfl (hb hby d16_34) rfl ?_
  refine og_newarray (pc' := 37) (cells' := 2) (slots' := 6) (cap := 2) (ty := .char) X11 hx hZ rfl (ow121 hw) e11 (by decide) (by decide) (by decide) (hb hby d16_35) rfl rfl rfl (by decide) (by decide) (fun T12 h12 nb12 kA12 X12 e12 E12 q12 V_nb12 => ?_)
  have s_nb12 : h11.size ≤ nb12 := Nat.le_of_eq q12.symm; have g_nb12 : n0 ≤ nb12 := Nat.le_trans (own_n0 O) s_nb12; have sz_nb12 : h0.size ≤ nb12 := Nat.le_trans K.1 s_nb12; have ne_nb11_nb12 : nb11 ≠ nb12 := Nat.ne_of_lt (Nat.lt_of_lt_of_le E_nb11.lt s_nb12); have Q_nb12 : Safe Z own_EL _ _ nb12 := Safe.new (Z := Z) (EL := own_EL) (vm := s.vm) s_nb12
  have Q_nb11 := Safe.ext E12 CR.1 Q_nb11; have Q_nb12 := Safe.ext E12 CR.1 Q_nb12; have E_nb11 := E_nb11.ext E12; have F_value_nb11 := F_value_nb11.ext E12; have F_coder_nb11 := F_coder_nb11.ext E12; have O := O.ext E12
  have K := K.ext E12; have hk := Nat.le_trans hk E12.1; have CR := CR.trans (CHr.ext E12 CR.1)
  have V_nb12 : Arv Z h12 nb12 kA12 .char (2 : Int32) [(.int (0 : Int32)), (.int (0 : Int32))] (.int (0 : Int32)) := V_nb12.pad (pad_rep [] (.int (0 : Int32)) 2)
  refine og_dup (pc' := 38) X12 hx rfl (hb hby d16_37) rfl ?_
  refine og_iconst (pc' := 39) (v := (0 : Int32)) X12 hx rfl (hb hby d16_38) rfl ?_
  refine og_iloadN (pc' := 40) X12 hx rfl (hb hby d16_39) rfl ?_
  refine og_castore (pc' := 41) X12 hx hZ e12 V_nb12 ⟨by decide, by decide⟩ 0 (by decide) (Nat.le_of_ble_eq_true rfl) (hb hby d16_40) rfl (fun T13 h13 X13 e13 W13 V13 => ?_)
  have sf13 : Safe Z own_EL s.vm h12 nb12 := Q_nb12; have Q_nb11 := Safe.wr W13 sf13 CR.1 Q_nb11; have Q_nb12 := Safe.wr W13 sf13 CR.1 Q_nb12; have E_nb11 := E_nb11.wr W13; have F_value_nb11 := F_value_nb11.other W13 (Or.inl ne_nb11_nb12); have F_coder_nb11 := F_coder_nb11.other W13 (Or.inl ne_nb11_nb12)
  have O := O.wr W13 g_nb12; have K := K.wr W13 (Or.inr sz_nb12); have hk := Nat.le_trans hk (Keep.of_wr W13).1; have CR := CR.trans (CHr.wr W13 sf13 CR.1)
  have N := Fr.snoc X13 N g_nb12
  have V_nb12 : Arv Z h13 nb12 kA12 .char (2 : Int32) [(.int (nar .char c0)), (.int (0 : Int32))] (.int (0 : Int32)) := V13
  rw [own_nc hc0] at V_nb12
  refine og_dup (pc' := 42) X13 hx rfl (hb hby d16_41) rfl ?_
  refine og_iconst (pc' := 43) (v := (1 : Int32)) X13 hx rfl (hb hby d16_42) rfl ?_
  refine og_iloadN (pc' := 44) X13 hx rfl (hb hby d16_43) rfl ?_
  refine og_castore (pc' := 45) X13 hx hZ e13 V_nb12 ⟨by decide, by decide⟩ 1 (by decide) (Nat.le_of_ble_eq_true rfl) (hb hby d16_44) rfl (fun T14 h14 X14 e14 W14 V14 => ?_)
  have sf14 : Safe Z own_EL s.vm h13 nb12 := Q_nb12; have Q_nb11 := Safe.wr W14 sf14 CR.1 Q_nb11; have Q_nb12 := Safe.wr W14 sf14 CR.1 Q_nb12; have E_nb11 := E_nb11.wr W14; have F_value_nb11 := F_value_nb11.other W14 (Or.inl ne_nb11_nb12); have F_coder_nb11 := F_coder_nb11.other W14 (Or.inl ne_nb11_nb12)
  have O := O.wr W14 g_nb12; have K := K.wr W14 (Or.inr sz_nb12); have hk := Nat.le_trans hk (Keep.of_wr W14).1; have CR := CR.trans (CHr.wr W14 sf14 CR.1)
  have N := Fr.snoc X14 N g_nb12
  have V_nb12 : Arv Z h14 nb12 kA12 .char (2 : Int32) [(.int c0), (.int (nar .char c1))] (.int (0 : Int32)) := V14
  rw [own_nc hc1] at V_nb12
  refine og_special (pc' := 48) (cells' := 3) (slots' := 8) (W := 1) X14 hx hZ (rm_sn_2 l Z a0 hw nb11 nb12 kA12 c0 c1 (own_le255 hc0) (own_le255 hc1) cs hcs h14 n0 O E_nb11 F_value_nb11 F_coder_nb11 V_nb12 S_CS g_nb11 (Ne.symm ne_nb11_nb12)) rfl hown (ow122 hw) (ow123 hw) (ow5 hw) (ow124 hw) (by decide) (by rw [hml]; rfl) e14 opd_10 [(.ref nb12)] [(.ref nb11)] rfl rfl rfl rfl (by decide) (by decide) rfl rfl (by decide) (by decide) (hb hby d16_45) rfl (fun v15 T15 h15 L15 X15 e15 z15 => ?_)
  obtain ⟨nb15, k15, rfl, Nq15, K15, sb15, E_nb11', F_value_nb11', F_coder_nb11', V_nb15⟩ := z15; have N := Fr.app N Nq15
  have s_nb15 : h14.size ≤ nb15 := sb15; have g_nb15 : n0 ≤ nb15 := Nat.le_trans (own_n0 O) s_nb15; have sz_nb15 : h0.size ≤ nb15 := Nat.le_trans K.1 s_nb15; have ne_nb11_nb15 : nb11 ≠ nb15 := Nat.ne_of_lt (Nat.lt_of_lt_of_le E_nb11.lt s_nb15); have ne_nb12_nb15 : nb12 ≠ nb15 := Nat.ne_of_lt (Nat.lt_of_lt_of_le V_nb12.lt s_nb15); have Q_nb15 : Safe Z own_EL _ _ nb15 := Safe.new (Z := Z) (EL := own_EL) (vm := s.vm) s_nb15
  have sf15 : ∀ x ∈ ([nb11] : List Addr), Safe Z own_EL s.vm h14 x := (sfS Q_nb11 sf0); have Q_nb11 := Safe.keep K15 sf15 CR.1 Q_nb11; have Q_nb12 := Safe.keep K15 sf15 CR.1 Q_nb12; have Q_nb15 := Safe.keep K15 sf15 CR.1 Q_nb15; have E_nb11 := E_nb11.keep K15; have V_nb12 := V_nb12.keep K15 (ninS (Ne.symm ne_nb11_nb12) nin0)
  have O := O.keep K15 (allS g_nb11 all0); have K := K.trans K15 (allS (Or.inr sz_nb11) all0); have hk := Nat.le_trans hk K15.1; have CR := CR.trans (CHr.keep K15 sf15 CR.1)
  have E_nb11 := E_nb11'; have F_value_nb11 := F_value_nb11'; have F_coder_nb11 := F_coder_nb11'
  show OG p e below _ (T15.setTop (mkF m 48 #[.val (.int (2 : Int32)), .val (.int c0), .val (.int c1), .val (.int c2)] [(.ref nb11)]))
  refine og_retRW X15 hx hZ hlk hEL hS e15 es hk CR hret rfl rfl rfl (hb hby d16_48) (by decide) (by decide) ?_
  rw [e15]; exact ⟨_, _, _, rfl, N, K, E_nb11, F_value_nb11, F_coder_nb11, V_nb15⟩
theorem rm_dr3 (l : Launch) (Z : State) (a0 : Array Value) (hw : HW a0 Z) (c0 c1 c2 : Int32) (hc0 : 0 ≤ c0.toInt ∧ c0.toInt ≤ 255) (hc1 : 0 ≤ c1.toInt ∧ c1.toInt ≤ 255) (hc2 : 0 ≤ c2.toInt ∧ c2.toInt ≤ 255) (cs : Int32) (hcs : ¬ cs = 0) (h0 : Heap) (n0 : Nat) (O : Old Z n0 h0) (hEL : EW Z a0 own_EL) (S_CS : Sta Z Z.heap "java/lang/String" "COMPACT_STRINGS" "Z" (.int cs)) :
    ConW l Z own_EL [] (⟨"com/example/marsh_tit/marshtit/stanza/StanzasIsStanzaPinLaw", "drawn", "(ICCC)Ljava/lang/String;"⟩ : MethodName) method_5_code 4 (some (.object "java/lang/String")) ({ frames := 4, cells := 6, slots := 12, locals := 66 } : Room) #[(.int (3 : Int32)), (.int c0), (.int c1), (.int c2)] h0 (fun v h L => ∃ a b k, v = some (.ref a) ∧ Fr n0 L ∧ Keep h0 h [] ∧ Exa Z h a "java/lang/String" ∧ Fld Z h a "java/lang/String" "value" "[B" (.ref b) ∧ Fld Z h a "java/lang/String" "coder" "B" (.int (0 : Int32)) ∧ Arv Z h b k .byte (Int32.ofNat (own_dr 3 c0 c1 c2).length) ((own_dr 3 c0 c1 c2).map Value.int) (.int (0 : Int32))) := by
  refine own_startWC opn_16 ?_
  intro p e s m below meth c T0 X0 hx hby hml hZ hown hnm hret hlk e0 es hS CR hsf
  have N := Fr.nil n0; have K := Keep.refl h0 []; have hk := Nat.le_refl h0.size
  refine OG.cast (oef10 m (3 : Int32) c0 c1 c2) ?_
  refine og_iloadN (pc' := 1) X0 hx rfl (hb hby d16_0) rfl ?_
  refine og_if_ne (pc1 := 15) (pc2 := 4) X0 hx (hb hby d16_1) (by decide) (by decide) rfl (fun _ => ?_) (fun q => absurd q (by decide))
  refine og_iloadN (pc' := 16) X0 hx rfl (hb hby d16_15) rfl ?_
  refine og_iconst (pc' := 17) (v := (1 : Int32)) X0 hx rfl (hb hby d16_16) rfl ?_
  refine og_icmp_ne (pc1 := 25) (pc2 := 20) X0 hx (hb hby d16_17) (by decide) (by decide) rfl (fun _ => ?_) (fun q => absurd q (by decide))
  refine og_iloadN (pc' := 26) X0 hx rfl (hb hby d16_25) rfl ?_
  refine og_iconst (pc' := 27) (v := (2 : Int32)) X0 hx rfl (hb hby d16_26) rfl ?_
  refine og_icmp_ne (pc1 := 49) (pc2 := 30) X0 hx (hb hby d16_27) (by decide) (by decide) rfl (fun _ => ?_) (fun q => absurd q (by decide))
  refine og_new (pc' := 52) (cells' := 1) (slots' := 4) X0 hx hZ hown (ow120 hw) (ow6 hw) (ow5 hw) e0 (hb hby d16_49) rfl rfl rfl (by decide) (by decide) (fun T11 h11 nb11 X11 e11 E11 q11 E_nb11 D11 B11 => ?_)
  have s_nb11 : h0.size ≤ nb11 := Nat.le_of_eq q11.symm; have g_nb11 : n0 ≤ nb11 := Nat.le_trans (own_n0 O) s_nb11; have sz_nb11 : h0.size ≤ nb11 := Nat.le_trans K.1 s_nb11; have Q_nb11 : Safe Z own_EL _ _ nb11 := Safe.new (Z := Z) (EL := own_EL) (vm := s.vm) s_nb11
  have Q_nb11 := Safe.ext E11 CR.1 Q_nb11; have O := O.ext E11; have K := K.ext E11; have hk := Nat.le_trans hk E11.1; have CR := CR.trans (CHr.ext E11 CR.1)
  have F_value_nb11 : Fld Z h11 nb11 "java/lang/String" "value" "[B" .null := D11 (Or.inr (ow8 hw)) (ty := (.array .byte)) (by decide)
  have F_coder_nb11 : Fld Z h11 nb11 "java/lang/String" "coder" "B" (.int (0 : Int32)) := D11 (Or.inr (ow9 hw)) (ty := .byte) (by decide)
  refine og_dup (pc' := 53) X11 hx rfl (hb hby d16_52) rfl ?_
  refine og_iconst (pc' := 54) (v := (3 : Int32)) X11 hx rfl (hb hby d16_53) rfl ?_
  refine og_newarray (pc' := 56) (cells' := 2) (slots' := 7) (cap := 3) (ty := .char) X11 hx hZ rfl (ow121 hw) e11 (by decide) (by decide) (by decide) (hb hby d16_54) rfl rfl rfl (by decide) (by decide) (fun T12 h12 nb12 kA12 X12 e12 E12 q12 V_nb12 => ?_)
  have s_nb12 : h11.size ≤ nb12 := Nat.le_of_eq q12.symm; have g_nb12 : n0 ≤ nb12 := Nat.le_trans (own_n0 O) s_nb12; have sz_nb12 : h0.size ≤ nb12 := Nat.le_trans K.1 s_nb12; have ne_nb11_nb12 : nb11 ≠ nb12 := Nat.ne_of_lt (Nat.lt_of_lt_of_le E_nb11.lt s_nb12); have Q_nb12 : Safe Z own_EL _ _ nb12 := Safe.new (Z := Z) (EL := own_EL) (vm := s.vm) s_nb12
  have Q_nb11 := Safe.ext E12 CR.1 Q_nb11; have Q_nb12 := Safe.ext E12 CR.1 Q_nb12; have E_nb11 := E_nb11.ext E12; have F_value_nb11 := F_value_nb11.ext E12; have F_coder_nb11 := F_coder_nb11.ext E12; have O := O.ext E12
  have K := K.ext E12; have hk := Nat.le_trans hk E12.1; have CR := CR.trans (CHr.ext E12 CR.1)
  have V_nb12 : Arv Z h12 nb12 kA12 .char (3 : Int32) [(.int (0 : Int32)), (.int (0 : Int32)), (.int (0 : Int32))] (.int (0 : Int32)) := V_nb12.pad (pad_rep [] (.int (0 : Int32)) 3)
  refine og_dup (pc' := 57) X12 hx rfl (hb hby d16_56) rfl ?_
  refine og_iconst (pc' := 58) (v := (0 : Int32)) X12 hx rfl (hb hby d16_57) rfl ?_
  refine og_iloadN (pc' := 59) X12 hx rfl (hb hby d16_58) rfl ?_
  refine og_castore (pc' := 60) X12 hx hZ e12 V_nb12 ⟨by decide, by decide⟩ 0 (by decide) (Nat.le_of_ble_eq_true rfl) (hb hby d16_59) rfl (fun T13 h13 X13 e13 W13 V13 => ?_)
  have sf13 : Safe Z own_EL s.vm h12 nb12 := Q_nb12; have Q_nb11 := Safe.wr W13 sf13 CR.1 Q_nb11; have Q_nb12 := Safe.wr W13 sf13 CR.1 Q_nb12; have E_nb11 := E_nb11.wr W13; have F_value_nb11 := F_value_nb11.other W13 (Or.inl ne_nb11_nb12); have F_coder_nb11 := F_coder_nb11.other W13 (Or.inl ne_nb11_nb12)
  have O := O.wr W13 g_nb12; have K := K.wr W13 (Or.inr sz_nb12); have hk := Nat.le_trans hk (Keep.of_wr W13).1; have CR := CR.trans (CHr.wr W13 sf13 CR.1)
  have N := Fr.snoc X13 N g_nb12
  have V_nb12 : Arv Z h13 nb12 kA12 .char (3 : Int32) [(.int (nar .char c0)), (.int (0 : Int32)), (.int (0 : Int32))] (.int (0 : Int32)) := V13
  rw [own_nc hc0] at V_nb12
  refine og_dup (pc' := 61) X13 hx rfl (hb hby d16_60) rfl ?_
  refine og_iconst (pc' := 62) (v := (1 : Int32)) X13 hx rfl (hb hby d16_61) rfl ?_
  refine og_iloadN (pc' := 63) X13 hx rfl (hb hby d16_62) rfl ?_
  refine og_castore (pc' := 64) X13 hx hZ e13 V_nb12 ⟨by decide, by decide⟩ 1 (by decide) (Nat.le_of_ble_eq_true rfl) (hb hby d16_63) rfl (fun T14 h14 X14 e14 W14 V14 => ?_)
  have sf14 : Safe Z own_EL s.vm h13 nb12 := Q_nb12; have Q_nb11 := Safe.wr W14 sf14 CR.1 Q_nb11; have Q_nb12 := Safe.wr W14 sf14 CR.1 Q_nb12; have E_nb11 := E_nb11.wr W14; have F_value_nb11 := F_value_nb11.other W14 (Or.inl ne_nb11_nb12); have F_coder_nb11 := F_coder_nb11.other W14 (Or.inl ne_nb11_nb12)
  have O := O.wr W14 g_nb12; have K := K.wr W14 (Or.inr sz_nb12); have hk := Nat.le_trans hk (Keep.of_wr W14).1; have CR := CR.trans (CHr.wr W14 sf14 CR.1)
  have N := Fr.snoc X14 N g_nb12
  have V_nb12 : Arv Z h14 nb12 kA12 .char (3 : Int32) [(.int c0), (.int (nar .char c1)), (.int (0 : Int32))] (.int (0 : Int32)) := V14
  rw [own_nc hc1] at V_nb12
  refine og_dup (pc' := 65) X14 hx rfl (hb hby d16_64) rfl ?_
  refine og_iconst (pc' := 66) (v := (2 : Int32)) X14 hx rfl (hb hby d16_65) rfl ?_
  refine og_iloadN (pc' := 67) X14 hx rfl (hb hby d16_66) rfl ?_
  refine og_castore (pc' := 68) X14 hx hZ e14 V_nb12 ⟨by decide, by decide⟩ 2 (by decide) (Nat.le_of_ble_eq_true rfl) (hb hby d16_67) rfl (fun T15 h15 X15 e15 W15 V15 => ?_)
  have sf15 : Safe Z own_EL s.vm h14 nb12 := Q_nb12; have Q_nb11 := Safe.wr W15 sf15 CR.1 Q_nb11; have Q_nb12 := Safe.wr W15 sf15 CR.1 Q_nb12; have E_nb11 := E_nb11.wr W15; have F_value_nb11 := F_value_nb11.other W15 (Or.inl ne_nb11_nb12); have F_coder_nb11 := F_coder_nb11.other W15 (Or.inl ne_nb11_nb12)
  have O := O.wr W15 g_nb12; have K := K.wr W15 (Or.inr sz_nb12); have hk := Nat.le_trans hk (Keep.of_wr W15).1; have CR := CR.trans (CHr.wr W15 sf15 CR.1)
  have N := Fr.snoc X15 N g_nb12
  have V_nb12 : Arv Z h15 nb12 kA12 .char (3 : Int32) [(.int c0), (.int c1), (.int (nar .char c2))] (.int (0 : Int32)) := V15
  rw [own_nc hc2] at V_nb12
  refine og_special (pc' := 71) (cells' := 3) (slots' := 10) (W := 1) X15 hx hZ (rm_sn_3 l Z a0 hw nb11 nb12 kA12 c0 c1 c2 (own_le255 hc0) (own_le255 hc1) (own_le255 hc2) cs hcs h15 n0 O E_nb11 F_value_nb11 F_coder_nb11 V_nb12 S_CS g_nb11 (Ne.symm ne_nb11_nb12)) rfl hown (ow122 hw) (ow123 hw) (ow5 hw) (ow124 hw) (by decide) (by rw [hml]; rfl) e15 opd_10 [(.ref nb12)] [(.ref nb11)] rfl rfl rfl rfl (by decide) (by decide) rfl rfl (by decide) (by decide) (hb hby d16_68) rfl (fun v16 T16 h16 L16 X16 e16 z16 => ?_)
  obtain ⟨nb16, k16, rfl, Nq16, K16, sb16, E_nb11', F_value_nb11', F_coder_nb11', V_nb16⟩ := z16; have N := Fr.app N Nq16
  have s_nb16 : h15.size ≤ nb16 := sb16; have g_nb16 : n0 ≤ nb16 := Nat.le_trans (own_n0 O) s_nb16; have sz_nb16 : h0.size ≤ nb16 := Nat.le_trans K.1 s_nb16; have ne_nb11_nb16 : nb11 ≠ nb16 := Nat.ne_of_lt (Nat.lt_of_lt_of_le E_nb11.lt s_nb16); have ne_nb12_nb16 : nb12 ≠ nb16 := Nat.ne_of_lt (Nat.lt_of_lt_of_le V_nb12.lt s_nb16); have Q_nb16 : Safe Z own_EL _ _ nb16 := Safe.new (Z := Z) (EL := own_EL) (vm := s.vm) s_nb16
  have sf16 : ∀ x ∈ ([nb11] : List Addr), Safe Z own_EL s.vm h15 x := (sfS Q_nb11 sf0); have Q_nb11 := Safe.keep K16 sf16 CR.1 Q_nb11; have Q_nb12 := Safe.keep K16 sf16 CR.1 Q_nb12; have Q_nb16 := Safe.keep K16 sf16 CR.1 Q_nb16; have E_nb11 := E_nb11.keep K16; have V_nb12 := V_nb12.keep K16 (ninS (Ne.symm ne_nb11_nb12) nin0)
  have O := O.keep K16 (allS g_nb11 all0); have K := K.trans K16 (allS (Or.inr sz_nb11) all0); have hk := Nat.le_trans hk K16.1; have CR := CR.trans (CHr.keep K16 sf16 CR.1)
  have E_nb11 := E_nb11'; have F_value_nb11 := F_value_nb11'; have F_coder_nb11 := F_coder_nb11'
  show OG p e below _ (T16.setTop (mkF m 71 #[.val (.int (3 : Int32)), .val (.int c0), .val (.int c1), .val (.int c2)] [(.ref nb11)]))
  refine og_retRW X16 hx hZ hlk hEL hS e16 es hk CR hret rfl rfl rfl (hb hby d16_71) (by decide) (by decide) ?_
  rw [e16]; exact ⟨_, _, _, rfl, N, K, E_nb11, F_value_nb11, F_coder_nb11, V_nb16⟩
theorem rm_dr (l : Launch) (Z : State) (a0 : Array Value) (hw : ∀ d ∈ tables_1, d.before a0 Z = true) (ll : Int32) (hl : ll = 0 ∨ ll = 1 ∨ ll = 2 ∨ ll = 3) (c0 c1 c2 : Int32) (hc0 : 0 ≤ c0.toInt ∧ c0.toInt ≤ 255) (hc1 : 0 ≤ c1.toInt ∧ c1.toInt ≤ 255) (hc2 : 0 ≤ c2.toInt ∧ c2.toInt ≤ 255) (cs : Int32) (hcs : ¬ cs = 0) (h0 : Heap) (n0 : Nat) (O : Old Z n0 h0) (hEL : EW Z a0 own_EL) (S_CS : Sta Z Z.heap "java/lang/String" "COMPACT_STRINGS" "Z" (.int cs)) :
    ConW l Z own_EL [] (⟨"com/example/marsh_tit/marshtit/stanza/StanzasIsStanzaPinLaw", "drawn", "(ICCC)Ljava/lang/String;"⟩ : MethodName) method_5_code 4 (some (.object "java/lang/String")) ({ frames := 4, cells := 6, slots := 12, locals := 66 } : Room) #[(.int ll), (.int c0), (.int c1), (.int c2)] h0 (fun v h L => ∃ a b k, v = some (.ref a) ∧ Fr n0 L ∧ Keep h0 h [] ∧ Exa Z h a "java/lang/String" ∧ Fld Z h a "java/lang/String" "value" "[B" (.ref b) ∧ Fld Z h a "java/lang/String" "coder" "B" (.int (0 : Int32)) ∧ Arv Z h b k .byte (Int32.ofNat (own_dr ll c0 c1 c2).length) ((own_dr ll c0 c1 c2).map Value.int) (.int (0 : Int32))) := by
  rcases hl with rfl | rfl | rfl | rfl
  · exact rm_dr0 l Z a0 hw c0 c1 c2 hc0 hc1 hc2 cs hcs h0 n0 O hEL S_CS
  · exact rm_dr1 l Z a0 hw c0 c1 c2 hc0 hc1 hc2 cs hcs h0 n0 O hEL S_CS
  · exact rm_dr2 l Z a0 hw c0 c1 c2 hc0 hc1 hc2 cs hcs h0 n0 O hEL S_CS
  · exact rm_dr3 l Z a0 hw c0 c1 c2 hc0 hc1 hc2 cs hcs h0 n0 O hEL S_CS
theorem rm_ns0 (l : Launch) (Z : State) (a0 : Array Value) (hw : HW a0 Z) (ll : Int32) (hl : ll = 0 ∨ ll = 1 ∨ ll = 2 ∨ ll = 3) (c0 c1 c2 : Int32) (hc0 : 0 ≤ c0.toInt ∧ c0.toInt ≤ 255) (hc1 : 0 ≤ c1.toInt ∧ c1.toInt ≤ 255) (hc2 : 0 ≤ c2.toInt ∧ c2.toInt ≤ 255) (cs : Int32) (hcs : ¬ cs = 0) (h0 : Heap) (n0 : Nat) (O : Old Z n0 h0) (hEL : EW Z a0 own_EL) (S_CS : Sta Z Z.heap "java/lang/String" "COMPACT_STRINGS" "Z" (.int cs)) :
    ConW l Z own_EL [] (⟨"com/example/marsh_tit/marshtit/stanza/StanzasIsStanzaPinLaw", "nsFor", "(IICCC)Ljava/lang/String;"⟩ : MethodName) method_3_code 5 (some (.object "java/lang/String")) ({ frames := 5, cells := 6, slots := 56, locals := 81 } : Room) #[(.int (0 : Int32)), (.int ll), (.int c0), (.int c1), (.int c2)] h0 (fun v h L => ∃ a b k, v = some (.ref a) ∧ Fr n0 L ∧ Keep h0 h [] ∧ Exa Z h a "java/lang/String" ∧ Fld Z h a "java/lang/String" "value" "[B" (.ref b) ∧ Fld Z h a "java/lang/String" "coder" "B" (.int (0 : Int32)) ∧ Arv Z h b k .byte (Int32.ofNat (own_ns 0 ll c0 c1 c2).length) ((own_ns 0 ll c0 c1 c2).map Value.int) (.int (0 : Int32))) := by
  refine own_startWC opn_1 ?_
  intro p e s m below meth c T0 X0 hx hby hml hZ hown hnm hret hlk e0 es hS CR hsf
  have N := Fr.nil n0; have K := Keep.refl h0 []; have hk := Nat.le_refl h0.size
  refine OG.cast (oef11 m (0 : Int32) ll c0 c1 c2) ?_
  refine og_iloadN (pc' := 1) X0 hx rfl (hb hby d1_0) rfl ?_
  refine og_if_ne (pc1 := 7) (pc2 := 4) X0 hx (hb hby d1_1) (by decide) (by decide) rfl (fun q => absurd q (by decide)) (fun _ => ?_)
  refine og_ldcS (pc' := 6) (cells' := 2) (slots' := 56) (n := 52) (z := (13 : Int32)) (vs := [(.int (106 : Int32)), (.int (97 : Int32)), (.int (98 : Int32)), (.int (98 : Int32)), (.int (101 : Int32)), (.int (114 : Int32)), (.int (58 : Int32)), (.int (99 : Int32)), (.int (108 : Int32)), (.int (105 : Int32)), (.int (101 : Int32)), (.int (110 : Int32)), (.int (116 : Int32))]) X0 hx hZ hown (hw _ (List.mem_of_getElem? (i := 4) rfl)) (own_wS hw) e0 hS hk hEL (by decide) CR.1 ⟨by decide, by decide⟩ (by decide) (by decide) (by decide) (by decide) (hb hby d1_4) rfl rfl rfl (by decide) (by decide) (fun na11 T11 h11 kk11 nb11 k11 X11 e11 E11 hS hk hZ hown E_na11 F_coder_na11 F_value_na11 V_nb11 cr11 hne11 => ?_)
  have O := O.ext E11; have K := K.ext E11; have CR := CR.trans cr11
  refine og_retRW X11 hx hZ hlk hEL hS e11 es hk CR hret rfl rfl rfl (hb hby d1_6) (by decide) (by decide) ?_
  rw [e11]; exact ⟨_, _, _, rfl, N, K, E_na11, F_value_na11, F_coder_na11, V_nb11⟩
theorem rm_ns1 (l : Launch) (Z : State) (a0 : Array Value) (hw : HW a0 Z) (ll : Int32) (hl : ll = 0 ∨ ll = 1 ∨ ll = 2 ∨ ll = 3) (c0 c1 c2 : Int32) (hc0 : 0 ≤ c0.toInt ∧ c0.toInt ≤ 255) (hc1 : 0 ≤ c1.toInt ∧ c1.toInt ≤ 255) (hc2 : 0 ≤ c2.toInt ∧ c2.toInt ≤ 255) (cs : Int32) (hcs : ¬ cs = 0) (h0 : Heap) (n0 : Nat) (O : Old Z n0 h0) (hEL : EW Z a0 own_EL) (S_CS : Sta Z Z.heap "java/lang/String" "COMPACT_STRINGS" "Z" (.int cs)) :
    ConW l Z own_EL [] (⟨"com/example/marsh_tit/marshtit/stanza/StanzasIsStanzaPinLaw", "nsFor", "(IICCC)Ljava/lang/String;"⟩ : MethodName) method_3_code 5 (some (.object "java/lang/String")) ({ frames := 5, cells := 6, slots := 56, locals := 81 } : Room) #[(.int (1 : Int32)), (.int ll), (.int c0), (.int c1), (.int c2)] h0 (fun v h L => ∃ a b k, v = some (.ref a) ∧ Fr n0 L ∧ Keep h0 h [] ∧ Exa Z h a "java/lang/String" ∧ Fld Z h a "java/lang/String" "value" "[B" (.ref b) ∧ Fld Z h a "java/lang/String" "coder" "B" (.int (0 : Int32)) ∧ Arv Z h b k .byte (Int32.ofNat (own_ns 1 ll c0 c1 c2).length) ((own_ns 1 ll c0 c1 c2).map Value.int) (.int (0 : Int32))) := by
  refine own_startWC opn_1 ?_
  intro p e s m below meth c T0 X0 hx hby hml hZ hown hnm hret hlk e0 es hS CR hsf
  have N := Fr.nil n0; have K := Keep.refl h0 []; have hk := Nat.le_refl h0.size
  refine OG.cast (oef11 m (1 : Int32) ll c0 c1 c2) ?_
  refine og_iloadN (pc' := 1) X0 hx rfl (hb hby d1_0) rfl ?_
  refine og_if_ne (pc1 := 7) (pc2 := 4) X0 hx (hb hby d1_1) (by decide) (by decide) rfl (fun _ => ?_) (fun q => absurd q (by decide))
  refine og_iloadN (pc' := 8) X0 hx rfl (hb hby d1_7) rfl ?_
  refine og_iconst (pc' := 9) (v := (1 : Int32)) X0 hx rfl (hb hby d1_8) rfl ?_
  refine og_icmp_ne (pc1 := 15) (pc2 := 12) X0 hx (hb hby d1_9) (by decide) (by decide) rfl (fun q => absurd q (by decide)) (fun _ => ?_)
  refine og_ldcS (pc' := 14) (cells' := 2) (slots' := 56) (n := 52) (z := (13 : Int32)) (vs := [(.int (106 : Int32)), (.int (97 : Int32)), (.int (98 : Int32)), (.int (98 : Int32)), (.int (101 : Int32)), (.int (114 : Int32)), (.int (58 : Int32)), (.int (115 : Int32)), (.int (101 : Int32)), (.int (114 : Int32)), (.int (118 : Int32)), (.int (101 : Int32)), (.int (114 : Int32))]) X0 hx hZ hown (hw _ (List.mem_of_getElem? (i := 142) rfl)) (own_wS hw) e0 hS hk hEL (by decide) CR.1 ⟨by decide, by decide⟩ (by decide) (by decide) (by decide) (by decide) (hb hby d1_12) rfl rfl rfl (by decide) (by decide) (fun na11 T11 h11 kk11 nb11 k11 X11 e11 E11 hS hk hZ hown E_na11 F_coder_na11 F_value_na11 V_nb11 cr11 hne11 => ?_)
  have O := O.ext E11; have K := K.ext E11; have CR := CR.trans cr11
  refine og_retRW X11 hx hZ hlk hEL hS e11 es hk CR hret rfl rfl rfl (hb hby d1_14) (by decide) (by decide) ?_
  rw [e11]; exact ⟨_, _, _, rfl, N, K, E_na11, F_value_na11, F_coder_na11, V_nb11⟩
theorem rm_ns2 (l : Launch) (Z : State) (a0 : Array Value) (hw : HW a0 Z) (ll : Int32) (hl : ll = 0 ∨ ll = 1 ∨ ll = 2 ∨ ll = 3) (c0 c1 c2 : Int32) (hc0 : 0 ≤ c0.toInt ∧ c0.toInt ≤ 255) (hc1 : 0 ≤ c1.toInt ∧ c1.toInt ≤ 255) (hc2 : 0 ≤ c2.toInt ∧ c2.toInt ≤ 255) (cs : Int32) (hcs : ¬ cs = 0) (h0 : Heap) (n0 : Nat) (O : Old Z n0 h0) (hEL : EW Z a0 own_EL) (S_CS : Sta Z Z.heap "java/lang/String" "COMPACT_STRINGS" "Z" (.int cs)) :
    ConW l Z own_EL [] (⟨"com/example/marsh_tit/marshtit/stanza/StanzasIsStanzaPinLaw", "nsFor", "(IICCC)Ljava/lang/String;"⟩ : MethodName) method_3_code 5 (some (.object "java/lang/String")) ({ frames := 5, cells := 6, slots := 56, locals := 81 } : Room) #[(.int (2 : Int32)), (.int ll), (.int c0), (.int c1), (.int c2)] h0 (fun v h L => ∃ a b k, v = some (.ref a) ∧ Fr n0 L ∧ Keep h0 h [] ∧ Exa Z h a "java/lang/String" ∧ Fld Z h a "java/lang/String" "value" "[B" (.ref b) ∧ Fld Z h a "java/lang/String" "coder" "B" (.int (0 : Int32)) ∧ Arv Z h b k .byte (Int32.ofNat (own_ns 2 ll c0 c1 c2).length) ((own_ns 2 ll c0 c1 c2).map Value.int) (.int (0 : Int32))) := by
  refine own_startWC opn_1 ?_
  intro p e s m below meth c T0 X0 hx hby hml hZ hown hnm hret hlk e0 es hS CR hsf
  have N := Fr.nil n0; have K := Keep.refl h0 []; have hk := Nat.le_refl h0.size
  refine OG.cast (oef11 m (2 : Int32) ll c0 c1 c2) ?_
  refine og_iloadN (pc' := 1) X0 hx rfl (hb hby d1_0) rfl ?_
  refine og_if_ne (pc1 := 7) (pc2 := 4) X0 hx (hb hby d1_1) (by decide) (by decide) rfl (fun _ => ?_) (fun q => absurd q (by decide))
  refine og_iloadN (pc' := 8) X0 hx rfl (hb hby d1_7) rfl ?_
  refine og_iconst (pc' := 9) (v := (1 : Int32)) X0 hx rfl (hb hby d1_8) rfl ?_
  refine og_icmp_ne (pc1 := 15) (pc2 := 12) X0 hx (hb hby d1_9) (by decide) (by decide) rfl (fun _ => ?_) (fun q => absurd q (by decide))
  refine og_iloadN (pc' := 16) X0 hx rfl (hb hby d1_15) rfl ?_
  refine og_iconst (pc' := 17) (v := (2 : Int32)) X0 hx rfl (hb hby d1_16) rfl ?_
  refine og_icmp_ne (pc1 := 23) (pc2 := 20) X0 hx (hb hby d1_17) (by decide) (by decide) rfl (fun q => absurd q (by decide)) (fun _ => ?_)
  refine og_ldcS (pc' := 22) (cells' := 2) (slots' := 56) (n := 52) (z := (13 : Int32)) (vs := [(.int (106 : Int32)), (.int (97 : Int32)), (.int (98 : Int32)), (.int (98 : Int32)), (.int (101 : Int32)), (.int (114 : Int32)), (.int (58 : Int32)), (.int (99 : Int32)), (.int (108 : Int32)), (.int (105 : Int32)), (.int (101 : Int32)), (.int (110 : Int32)), (.int (84 : Int32))]) X0 hx hZ hown (hw _ (List.mem_of_getElem? (i := 140) rfl)) (own_wS hw) e0 hS hk hEL (by decide) CR.1 ⟨by decide, by decide⟩ (by decide) (by decide) (by decide) (by decide) (hb hby d1_20) rfl rfl rfl (by decide) (by decide) (fun na11 T11 h11 kk11 nb11 k11 X11 e11 E11 hS hk hZ hown E_na11 F_coder_na11 F_value_na11 V_nb11 cr11 hne11 => ?_)
  have O := O.ext E11; have K := K.ext E11; have CR := CR.trans cr11
  refine og_retRW X11 hx hZ hlk hEL hS e11 es hk CR hret rfl rfl rfl (hb hby d1_22) (by decide) (by decide) ?_
  rw [e11]; exact ⟨_, _, _, rfl, N, K, E_na11, F_value_na11, F_coder_na11, V_nb11⟩
theorem rm_ns3 (l : Launch) (Z : State) (a0 : Array Value) (hw : HW a0 Z) (ll : Int32) (hl : ll = 0 ∨ ll = 1 ∨ ll = 2 ∨ ll = 3) (c0 c1 c2 : Int32) (hc0 : 0 ≤ c0.toInt ∧ c0.toInt ≤ 255) (hc1 : 0 ≤ c1.toInt ∧ c1.toInt ≤ 255) (hc2 : 0 ≤ c2.toInt ∧ c2.toInt ≤ 255) (cs : Int32) (hcs : ¬ cs = 0) (h0 : Heap) (n0 : Nat) (O : Old Z n0 h0) (hEL : EW Z a0 own_EL) (S_CS : Sta Z Z.heap "java/lang/String" "COMPACT_STRINGS" "Z" (.int cs)) :
    ConW l Z own_EL [] (⟨"com/example/marsh_tit/marshtit/stanza/StanzasIsStanzaPinLaw", "nsFor", "(IICCC)Ljava/lang/String;"⟩ : MethodName) method_3_code 5 (some (.object "java/lang/String")) ({ frames := 5, cells := 6, slots := 56, locals := 81 } : Room) #[(.int (3 : Int32)), (.int ll), (.int c0), (.int c1), (.int c2)] h0 (fun v h L => ∃ a b k, v = some (.ref a) ∧ Fr n0 L ∧ Keep h0 h [] ∧ Exa Z h a "java/lang/String" ∧ Fld Z h a "java/lang/String" "value" "[B" (.ref b) ∧ Fld Z h a "java/lang/String" "coder" "B" (.int (0 : Int32)) ∧ Arv Z h b k .byte (Int32.ofNat (own_ns 3 ll c0 c1 c2).length) ((own_ns 3 ll c0 c1 c2).map Value.int) (.int (0 : Int32))) := by
  refine own_startWC opn_1 ?_
  intro p e s m below meth c T0 X0 hx hby hml hZ hown hnm hret hlk e0 es hS CR hsf
  have N := Fr.nil n0; have K := Keep.refl h0 []; have hk := Nat.le_refl h0.size
  refine OG.cast (oef11 m (3 : Int32) ll c0 c1 c2) ?_
  refine og_iloadN (pc' := 1) X0 hx rfl (hb hby d1_0) rfl ?_
  refine og_if_ne (pc1 := 7) (pc2 := 4) X0 hx (hb hby d1_1) (by decide) (by decide) rfl (fun _ => ?_) (fun q => absurd q (by decide))
  refine og_iloadN (pc' := 8) X0 hx rfl (hb hby d1_7) rfl ?_
  refine og_iconst (pc' := 9) (v := (1 : Int32)) X0 hx rfl (hb hby d1_8) rfl ?_
  refine og_icmp_ne (pc1 := 15) (pc2 := 12) X0 hx (hb hby d1_9) (by decide) (by decide) rfl (fun _ => ?_) (fun q => absurd q (by decide))
  refine og_iloadN (pc' := 16) X0 hx rfl (hb hby d1_15) rfl ?_
  refine og_iconst (pc' := 17) (v := (2 : Int32)) X0 hx rfl (hb hby d1_16) rfl ?_
  refine og_icmp_ne (pc1 := 23) (pc2 := 20) X0 hx (hb hby d1_17) (by decide) (by decide) rfl (fun _ => ?_) (fun q => absurd q (by decide))
  refine og_iloadN (pc' := 24) X0 hx rfl (hb hby d1_23) rfl ?_
  refine og_iloadN (pc' := 25) X0 hx rfl (hb hby d1_24) rfl ?_
  refine og_iloadN (pc' := 26) X0 hx rfl (hb hby d1_25) rfl ?_
  refine og_iload (pc' := 28) X0 hx rfl (hb hby d1_26) rfl ?_
  refine og_staticW (pc' := 31) (cells' := 6) (slots' := 12) (W := 0) X0 hx hZ (rm_dr l Z a0 hw ll hl c0 c1 c2 hc0 hc1 hc2 cs hcs h0 n0 O hEL S_CS) hEL hS hk CR.1 all0 hown (ow117 hw) (ow118 hw) (ow2 hw) (ow119 hw) (by decide) (by rw [hml]; rfl) e0 opd_12 [(.int ll), (.int c0), (.int c1), (.int c2)] [] rfl rfl rfl rfl (by decide) (by decide) rfl rfl (by decide) (by decide) (hb hby d1_28) rfl (fun v11 T11 h11 L11 kk11 X11 e11 hS hk hZ hown cr11 z11 => ?_)
  obtain ⟨na11, nb11, k11, rfl, Nq11, K11, E_na11, F_value_na11, F_coder_na11, V_nb11⟩ := z11; have N := Fr.app N Nq11
  have O := O.keep K11 all0; have K := K.trans K11 all0; have CR := CR.trans cr11
  show OG p e below _ (T11.setTop (mkF m 31 #[.val (.int (3 : Int32)), .val (.int ll), .val (.int c0), .val (.int c1), .val (.int c2)] [(.ref na11)]))
  refine og_retRW X11 hx hZ hlk hEL hS e11 es hk CR hret rfl rfl rfl (hb hby d1_31) (by decide) (by decide) ?_
  rw [e11]; exact ⟨_, _, _, rfl, N, K, E_na11, F_value_na11, F_coder_na11, V_nb11⟩
theorem rm_ns (l : Launch) (Z : State) (a0 : Array Value) (hw : ∀ d ∈ tables_1, d.before a0 Z = true) (kk : Int32) (hkk : kk = 0 ∨ kk = 1 ∨ kk = 2 ∨ kk = 3) (ll : Int32) (hl : ll = 0 ∨ ll = 1 ∨ ll = 2 ∨ ll = 3) (c0 c1 c2 : Int32) (hc0 : 0 ≤ c0.toInt ∧ c0.toInt ≤ 255) (hc1 : 0 ≤ c1.toInt ∧ c1.toInt ≤ 255) (hc2 : 0 ≤ c2.toInt ∧ c2.toInt ≤ 255) (cs : Int32) (hcs : ¬ cs = 0) (h0 : Heap) (n0 : Nat) (O : Old Z n0 h0) (hEL : EW Z a0 own_EL) (S_CS : Sta Z Z.heap "java/lang/String" "COMPACT_STRINGS" "Z" (.int cs)) :
    ConW l Z own_EL [] (⟨"com/example/marsh_tit/marshtit/stanza/StanzasIsStanzaPinLaw", "nsFor", "(IICCC)Ljava/lang/String;"⟩ : MethodName) method_3_code 5 (some (.object "java/lang/String")) ({ frames := 5, cells := 6, slots := 56, locals := 81 } : Room) #[(.int kk), (.int ll), (.int c0), (.int c1), (.int c2)] h0 (fun v h L => ∃ a b k, v = some (.ref a) ∧ Fr n0 L ∧ Keep h0 h [] ∧ Exa Z h a "java/lang/String" ∧ Fld Z h a "java/lang/String" "value" "[B" (.ref b) ∧ Fld Z h a "java/lang/String" "coder" "B" (.int (0 : Int32)) ∧ Arv Z h b k .byte (Int32.ofNat (own_ns kk ll c0 c1 c2).length) ((own_ns kk ll c0 c1 c2).map Value.int) (.int (0 : Int32))) := by
  rcases hkk with rfl | rfl | rfl | rfl
  · exact rm_ns0 l Z a0 hw ll hl c0 c1 c2 hc0 hc1 hc2 cs hcs h0 n0 O hEL S_CS
  · exact rm_ns1 l Z a0 hw ll hl c0 c1 c2 hc0 hc1 hc2 cs hcs h0 n0 O hEL S_CS
  · exact rm_ns2 l Z a0 hw ll hl c0 c1 c2 hc0 hc1 hc2 cs hcs h0 n0 O hEL S_CS
  · exact rm_ns3 l Z a0 hw ll hl c0 c1 c2 hc0 hc1 hc2 cs hcs h0 n0 O hEL S_CS
theorem rm_nm0 (l : Launch) (Z : State) (a0 : Array Value) (hw : HW a0 Z) (ll : Int32) (hl : ll = 0 ∨ ll = 1 ∨ ll = 2 ∨ ll = 3) (c0 c1 c2 : Int32) (hc0 : 0 ≤ c0.toInt ∧ c0.toInt ≤ 255) (hc1 : 0 ≤ c1.toInt ∧ c1.toInt ≤ 255) (hc2 : 0 ≤ c2.toInt ∧ c2.toInt ≤ 255) (cs : Int32) (hcs : ¬ cs = 0) (h0 : Heap) (n0 : Nat) (O : Old Z n0 h0) (hEL : EW Z a0 own_EL) (S_CS : Sta Z Z.heap "java/lang/String" "COMPACT_STRINGS" "Z" (.int cs)) :
    ConW l Z own_EL [] (⟨"com/example/marsh_tit/marshtit/stanza/StanzasIsStanzaPinLaw", "nameFor", "(IICCC)Ljava/lang/String;"⟩ : MethodName) method_4_code 5 (some (.object "java/lang/String")) ({ frames := 5, cells := 6, slots := 36, locals := 81 } : Room) #[(.int (0 : Int32)), (.int ll), (.int c0), (.int c1), (.int c2)] h0 (fun v h L => ∃ a b k, v = some (.ref a) ∧ Fr n0 L ∧ Keep h0 h [] ∧ Exa Z h a "java/lang/String" ∧ Fld Z h a "java/lang/String" "value" "[B" (.ref b) ∧ Fld Z h a "java/lang/String" "coder" "B" (.int (0 : Int32)) ∧ Arv Z h b k .byte (Int32.ofNat (own_nm 0 ll c0 c1 c2).length) ((own_nm 0 ll c0 c1 c2).map Value.int) (.int (0 : Int32))) := by
  refine own_startWC opn_2 ?_
  intro p e s m below meth c T0 X0 hx hby hml hZ hown hnm hret hlk e0 es hS CR hsf
  have N := Fr.nil n0; have K := Keep.refl h0 []; have hk := Nat.le_refl h0.size
  refine OG.cast (oef11 m (0 : Int32) ll c0 c1 c2) ?_
  refine og_iloadN (pc' := 1) X0 hx rfl (hb hby d2_0) rfl ?_
  refine og_if_ne (pc1 := 7) (pc2 := 4) X0 hx (hb hby d2_1) (by decide) (by decide) rfl (fun q => absurd q (by decide)) (fun _ => ?_)
  refine og_ldcS (pc' := 6) (cells' := 2) (slots' := 32) (n := 28) (z := (7 : Int32)) (vs := [(.int (109 : Int32)), (.int (101 : Int32)), (.int (115 : Int32)), (.int (115 : Int32)), (.int (97 : Int32)), (.int (103 : Int32)), (.int (101 : Int32))]) X0 hx hZ hown (hw _ (List.mem_of_getElem? (i := 143) rfl)) (own_wS hw) e0 hS hk hEL (by decide) CR.1 ⟨by decide, by decide⟩ (by decide) (by decide) (by decide) (by decide) (hb hby d2_4) rfl rfl rfl (by decide) (by decide) (fun na11 T11 h11 kk11 nb11 k11 X11 e11 E11 hS hk hZ hown E_na11 F_coder_na11 F_value_na11 V_nb11 cr11 hne11 => ?_)
  have O := O.ext E11; have K := K.ext E11; have CR := CR.trans cr11
  refine og_retRW X11 hx hZ hlk hEL hS e11 es hk CR hret rfl rfl rfl (hb hby d2_6) (by decide) (by decide) ?_
  rw [e11]; exact ⟨_, _, _, rfl, N, K, E_na11, F_value_na11, F_coder_na11, V_nb11⟩
theorem rm_nm1 (l : Launch) (Z : State) (a0 : Array Value) (hw : HW a0 Z) (ll : Int32) (hl : ll = 0 ∨ ll = 1 ∨ ll = 2 ∨ ll = 3) (c0 c1 c2 : Int32) (hc0 : 0 ≤ c0.toInt ∧ c0.toInt ≤ 255) (hc1 : 0 ≤ c1.toInt ∧ c1.toInt ≤ 255) (hc2 : 0 ≤ c2.toInt ∧ c2.toInt ≤ 255) (cs : Int32) (hcs : ¬ cs = 0) (h0 : Heap) (n0 : Nat) (O : Old Z n0 h0) (hEL : EW Z a0 own_EL) (S_CS : Sta Z Z.heap "java/lang/String" "COMPACT_STRINGS" "Z" (.int cs)) :
    ConW l Z own_EL [] (⟨"com/example/marsh_tit/marshtit/stanza/StanzasIsStanzaPinLaw", "nameFor", "(IICCC)Ljava/lang/String;"⟩ : MethodName) method_4_code 5 (some (.object "java/lang/String")) ({ frames := 5, cells := 6, slots := 36, locals := 81 } : Room) #[(.int (1 : Int32)), (.int ll), (.int c0), (.int c1), (.int c2)] h0 (fun v h L => ∃ a b k, v = some (.ref a) ∧ Fr n0 L ∧ Keep h0 h [] ∧ Exa Z h a "java/lang/String" ∧ Fld Z h a "java/lang/String" "value" "[B" (.ref b) ∧ Fld Z h a "java/lang/String" "coder" "B" (.int (0 : Int32)) ∧ Arv Z h b k .byte (Int32.ofNat (own_nm 1 ll c0 c1 c2).length) ((own_nm 1 ll c0 c1 c2).map Value.int) (.int (0 : Int32))) := by
  refine own_startWC opn_2 ?_
  intro p e s m below meth c T0 X0 hx hby hml hZ hown hnm hret hlk e0 es hS CR hsf
  have N := Fr.nil n0; have K := Keep.refl h0 []; have hk := Nat.le_refl h0.size
  refine OG.cast (oef11 m (1 : Int32) ll c0 c1 c2) ?_
  refine og_iloadN (pc' := 1) X0 hx rfl (hb hby d2_0) rfl ?_
  refine og_if_ne (pc1 := 7) (pc2 := 4) X0 hx (hb hby d2_1) (by decide) (by decide) rfl (fun _ => ?_) (fun q => absurd q (by decide))
  refine og_iloadN (pc' := 8) X0 hx rfl (hb hby d2_7) rfl ?_
  refine og_iconst (pc' := 9) (v := (1 : Int32)) X0 hx rfl (hb hby d2_8) rfl ?_
  refine og_icmp_ne (pc1 := 15) (pc2 := 12) X0 hx (hb hby d2_9) (by decide) (by decide) rfl (fun q => absurd q (by decide)) (fun _ => ?_)
  refine og_ldcS (pc' := 14) (cells' := 2) (slots' := 36) (n := 32) (z := (8 : Int32)) (vs := [(.int (112 : Int32)), (.int (114 : Int32)), (.int (101 : Int32)), (.int (115 : Int32)), (.int (101 : Int32)), (.int (110 : Int32)), (.int (99 : Int32)), (.int (101 : Int32))]) X0 hx hZ hown (hw _ (List.mem_of_getElem? (i := 145) rfl)) (own_wS hw) e0 hS hk hEL (by decide) CR.1 ⟨by decide, by decide⟩ (by decide) (by decide) (by decide) (by decide) (hb hby d2_12) rfl rfl rfl (by decide) (by decide) (fun na11 T11 h11 kk11 nb11 k11 X11 e11 E11 hS hk hZ hown E_na11 F_coder_na11 F_value_na11 V_nb11 cr11 hne11 => ?_)
  have O := O.ext E11; have K := K.ext E11; have CR := CR.trans cr11
  refine og_retRW X11 hx hZ hlk hEL hS e11 es hk CR hret rfl rfl rfl (hb hby d2_14) (by decide) (by decide) ?_
  rw [e11]; exact ⟨_, _, _, rfl, N, K, E_na11, F_value_na11, F_coder_na11, V_nb11⟩
theorem rm_nm2 (l : Launch) (Z : State) (a0 : Array Value) (hw : HW a0 Z) (ll : Int32) (hl : ll = 0 ∨ ll = 1 ∨ ll = 2 ∨ ll = 3) (c0 c1 c2 : Int32) (hc0 : 0 ≤ c0.toInt ∧ c0.toInt ≤ 255) (hc1 : 0 ≤ c1.toInt ∧ c1.toInt ≤ 255) (hc2 : 0 ≤ c2.toInt ∧ c2.toInt ≤ 255) (cs : Int32) (hcs : ¬ cs = 0) (h0 : Heap) (n0 : Nat) (O : Old Z n0 h0) (hEL : EW Z a0 own_EL) (S_CS : Sta Z Z.heap "java/lang/String" "COMPACT_STRINGS" "Z" (.int cs)) :
    ConW l Z own_EL [] (⟨"com/example/marsh_tit/marshtit/stanza/StanzasIsStanzaPinLaw", "nameFor", "(IICCC)Ljava/lang/String;"⟩ : MethodName) method_4_code 5 (some (.object "java/lang/String")) ({ frames := 5, cells := 6, slots := 36, locals := 81 } : Room) #[(.int (2 : Int32)), (.int ll), (.int c0), (.int c1), (.int c2)] h0 (fun v h L => ∃ a b k, v = some (.ref a) ∧ Fr n0 L ∧ Keep h0 h [] ∧ Exa Z h a "java/lang/String" ∧ Fld Z h a "java/lang/String" "value" "[B" (.ref b) ∧ Fld Z h a "java/lang/String" "coder" "B" (.int (0 : Int32)) ∧ Arv Z h b k .byte (Int32.ofNat (own_nm 2 ll c0 c1 c2).length) ((own_nm 2 ll c0 c1 c2).map Value.int) (.int (0 : Int32))) := by
  refine own_startWC opn_2 ?_
  intro p e s m below meth c T0 X0 hx hby hml hZ hown hnm hret hlk e0 es hS CR hsf
  have N := Fr.nil n0; have K := Keep.refl h0 []; have hk := Nat.le_refl h0.size
  refine OG.cast (oef11 m (2 : Int32) ll c0 c1 c2) ?_
  refine og_iloadN (pc' := 1) X0 hx rfl (hb hby d2_0) rfl ?_
  refine og_if_ne (pc1 := 7) (pc2 := 4) X0 hx (hb hby d2_1) (by decide) (by decide) rfl (fun _ => ?_) (fun q => absurd q (by decide))
  refine og_iloadN (pc' := 8) X0 hx rfl (hb hby d2_7) rfl ?_
  refine og_iconst (pc' := 9) (v := (1 : Int32)) X0 hx rfl (hb hby d2_8) rfl ?_
  refine og_icmp_ne (pc1 := 15) (pc2 := 12) X0 hx (hb hby d2_9) (by decide) (by decide) rfl (fun _ => ?_) (fun q => absurd q (by decide))
  refine og_iloadN (pc' := 16) X0 hx rfl (hb hby d2_15) rfl ?_
  refine og_iconst (pc' := 17) (v := (2 : Int32)) X0 hx rfl (hb hby d2_16) rfl ?_
  refine og_icmp_ne (pc1 := 23) (pc2 := 20) X0 hx (hb hby d2_17) (by decide) (by decide) rfl (fun q => absurd q (by decide)) (fun _ => ?_)
  refine og_ldcS (pc' := 22) (cells' := 2) (slots' := 12) (n := 8) (z := (2 : Int32)) (vs := [(.int (105 : Int32)), (.int (113 : Int32))]) X0 hx hZ hown (hw _ (List.mem_of_getElem? (i := 158) rfl)) (own_wS hw) e0 hS hk hEL (by decide) CR.1 ⟨by decide, by decide⟩ (by decide) (by decide) (by decide) (by decide) (hb hby d2_20) rfl rfl rfl (by decide) (by decide) (fun na11 T11 h11 kk11 nb11 k11 X11 e11 E11 hS hk hZ hown E_na11 F_coder_na11 F_value_na11 V_nb11 cr11 hne11 => ?_)
  have O := O.ext E11; have K := K.ext E11; have CR := CR.trans cr11
  refine og_retRW X11 hx hZ hlk hEL hS e11 es hk CR hret rfl rfl rfl (hb hby d2_22) (by decide) (by decide) ?_
  rw [e11]; exact ⟨_, _, _, rfl, N, K, E_na11, F_value_na11, F_coder_na11, V_nb11⟩
theorem rm_nm3 (l : Launch) (Z : State) (a0 : Array Value) (hw : HW a0 Z) (ll : Int32) (hl : ll = 0 ∨ ll = 1 ∨ ll = 2 ∨ ll = 3) (c0 c1 c2 : Int32) (hc0 : 0 ≤ c0.toInt ∧ c0.toInt ≤ 255) (hc1 : 0 ≤ c1.toInt ∧ c1.toInt ≤ 255) (hc2 : 0 ≤ c2.toInt ∧ c2.toInt ≤ 255) (cs : Int32) (hcs : ¬ cs = 0) (h0 : Heap) (n0 : Nat) (O : Old Z n0 h0) (hEL : EW Z a0 own_EL) (S_CS : Sta Z Z.heap "java/lang/String" "COMPACT_STRINGS" "Z" (.int cs)) :
    ConW l Z own_EL [] (⟨"com/example/marsh_tit/marshtit/stanza/StanzasIsStanzaPinLaw", "nameFor", "(IICCC)Ljava/lang/String;"⟩ : MethodName) method_4_code 5 (some (.object "java/lang/String")) ({ frames := 5, cells := 6, slots := 36, locals := 81 } : Room) #[(.int (3 : Int32)), (.int ll), (.int c0), (.int c1), (.int c2)] h0 (fun v h L => ∃ a b k, v = some (.ref a) ∧ Fr n0 L ∧ Keep h0 h [] ∧ Exa Z h a "java/lang/String" ∧ Fld Z h a "java/lang/String" "value" "[B" (.ref b) ∧ Fld Z h a "java/lang/String" "coder" "B" (.int (0 : Int32)) ∧ Arv Z h b k .byte (Int32.ofNat (own_nm 3 ll c0 c1 c2).length) ((own_nm 3 ll c0 c1 c2).map Value.int) (.int (0 : Int32))) := by
  refine own_startWC opn_2 ?_
  intro p e s m below meth c T0 X0 hx hby hml hZ hown hnm hret hlk e0 es hS CR hsf
  have N := Fr.nil n0; have K := Keep.refl h0 []; have hk := Nat.le_refl h0.size
  refine OG.cast (oef11 m (3 : Int32) ll c0 c1 c2) ?_
  refine og_iloadN (pc' := 1) X0 hx rfl (hb hby d2_0) rfl ?_
  refine og_if_ne (pc1 := 7) (pc2 := 4) X0 hx (hb hby d2_1) (by decide) (by decide) rfl (fun _ => ?_) (fun q => absurd q (by decide))
  refine og_iloadN (pc' := 8) X0 hx rfl (hb hby d2_7) rfl ?_
  refine og_iconst (pc' := 9) (v := (1 : Int32)) X0 hx rfl (hb hby d2_8) rfl ?_
  refine og_icmp_ne (pc1 := 15) (pc2 := 12) X0 hx (hb hby d2_9) (by decide) (by decide) rfl (fun _ => ?_) (fun q => absurd q (by decide))
  refine og_iloadN (pc' := 16) X0 hx rfl (hb hby d2_15) rfl ?_
  refine og_iconst (pc' := 17) (v := (2 : Int32)) X0 hx rfl (hb hby d2_16) rfl ?_
  refine og_icmp_ne (pc1 := 23) (pc2 := 20) X0 hx (hb hby d2_17) (by decide) (by decide) rfl (fun _ => ?_) (fun q => absurd q (by decide))
  refine og_iloadN (pc' := 24) X0 hx rfl (hb hby d2_23) rfl ?_
  refine og_iconst (pc' := 25) (v := (3 : Int32)) X0 hx rfl (hb hby d2_24) rfl ?_
  refine og_icmp_ne (pc1 := 31) (pc2 := 28) X0 hx (hb hby d2_25) (by decide) (by decide) rfl (fun q => absurd q (by decide)) (fun _ => ?_)
  refine og_ldcS (pc' := 30) (cells' := 2) (slots' := 32) (n := 28) (z := (7 : Int32)) (vs := [(.int (77 : Int32)), (.int (101 : Int32)), (.int (115 : Int32)), (.int (115 : Int32)), (.int (97 : Int32)), (.int (103 : Int32)), (.int (101 : Int32))]) X0 hx hZ hown (hw _ (List.mem_of_getElem? (i := 15) rfl)) (own_wS hw) e0 hS hk hEL (by decide) CR.1 ⟨by decide, by decide⟩ (by decide) (by decide) (by decide) (by decide) (hb hby d2_28) rfl rfl rfl (by decide) (by decide) (fun na11 T11 h11 kk11 nb11 k11 X11 e11 E11 hS hk hZ hown E_na11 F_coder_na11 F_value_na11 V_nb11 cr11 hne11 => ?_)
  have O := O.ext E11; have K := K.ext E11; have CR := CR.trans cr11
  refine og_retRW X11 hx hZ hlk hEL hS e11 es hk CR hret rfl rfl rfl (hb hby d2_30) (by decide) (by decide) ?_
  rw [e11]; exact ⟨_, _, _, rfl, N, K, E_na11, F_value_na11, F_coder_na11, V_nb11⟩
theorem rm_nm4 (l : Launch) (Z : State) (a0 : Array Value) (hw : HW a0 Z) (ll : Int32) (hl : ll = 0 ∨ ll = 1 ∨ ll = 2 ∨ ll = 3) (c0 c1 c2 : Int32) (hc0 : 0 ≤ c0.toInt ∧ c0.toInt ≤ 255) (hc1 : 0 ≤ c1.toInt ∧ c1.toInt ≤ 255) (hc2 : 0 ≤ c2.toInt ∧ c2.toInt ≤ 255) (cs : Int32) (hcs : ¬ cs = 0) (h0 : Heap) (n0 : Nat) (O : Old Z n0 h0) (hEL : EW Z a0 own_EL) (S_CS : Sta Z Z.heap "java/lang/String" "COMPACT_STRINGS" "Z" (.int cs)) :
    ConW l Z own_EL [] (⟨"com/example/marsh_tit/marshtit/stanza/StanzasIsStanzaPinLaw", "nameFor", "(IICCC)Ljava/lang/String;"⟩ : MethodName) method_4_code 5 (some (.object "java/lang/String")) ({ frames := 5, cells := 6, slots := 36, locals := 81 } : Room) #[(.int (4 : Int32)), (.int ll), (.int c0), (.int c1), (.int c2)] h0 (fun v h L => ∃ a b k, v = some (.ref a) ∧ Fr n0 L ∧ Keep h0 h [] ∧ Exa Z h a "java/lang/String" ∧ Fld Z h a "java/lang/String" "value" "[B" (.ref b) ∧ Fld Z h a "java/lang/String" "coder" "B" (.int (0 : Int32)) ∧ Arv Z h b k .byte (Int32.ofNat (own_nm 4 ll c0 c1 c2).length) ((own_nm 4 ll c0 c1 c2).map Value.int) (.int (0 : Int32))) := by
  refine own_startWC opn_2 ?_
  intro p e s m below meth c T0 X0 hx hby hml hZ hown hnm hret hlk e0 es hS CR hsf
  have N := Fr.nil n0; have K := Keep.refl h0 []; have hk := Nat.le_refl h0.size
  refine OG.cast (oef11 m (4 : Int32) ll c0 c1 c2) ?_
  refine og_iloadN (pc' := 1) X0 hx rfl (hb hby d2_0) rfl ?_
  refine og_if_ne (pc1 := 7) (pc2 := 4) X0 hx (hb hby d2_1) (by decide) (by decide) rfl (fun _ => ?_) (fun q => absurd q (by decide))
  refine og_iloadN (pc' := 8) X0 hx rfl (hb hby d2_7) rfl ?_
  refine og_iconst (pc' := 9) (v := (1 : Int32)) X0 hx rfl (hb hby d2_8) rfl ?_
  refine og_icmp_ne (pc1 := 15) (pc2 := 12) X0 hx (hb hby d2_9) (by decide) (by decide) rfl (fun _ => ?_) (fun q => absurd q (by decide))
  refine og_iloadN (pc' := 16) X0 hx rfl (hb hby d2_15) rfl ?_
  refine og_iconst (pc' := 17) (v := (2 : Int32)) X0 hx rfl (hb hby d2_16) rfl ?_
  refine og_icmp_ne (pc1 := 23) (pc2 := 20) X0 hx (hb hby d2_17) (by decide) (by decide) rfl (fun _ => ?_) (fun q => absurd q (by decide))
  refine og_iloadN (pc' := 24) X0 hx rfl (hb hby d2_23) rfl ?_
  refine og_iconst (pc' := 25) (v := (3 : Int32)) X0 hx rfl (hb hby d2_24) rfl ?_
  refine og_icmp_ne (pc1 := 31) (pc2 := 28) X0 hx (hb hby d2_25) (by decide) (by decide) rfl (fun _ => ?_) (fun q => absurd q (by decide))
  refine og_iloadN (pc' := 32) X0 hx rfl (hb hby d2_31) rfl ?_
  refine og_iconst (pc' := 33) (v := (4 : Int32)) X0 hx rfl (hb hby d2_32) rfl ?_
  refine og_icmp_ne (pc1 := 39) (pc2 := 36) X0 hx (hb hby d2_33) (by decide) (by decide) rfl (fun q => absurd q (by decide)) (fun _ => ?_)
  refine og_ldcS (pc' := 38) (cells' := 2) (slots' := 36) (n := 32) (z := (8 : Int32)) (vs := [(.int (109 : Int32)), (.int (101 : Int32)), (.int (115 : Int32)), (.int (115 : Int32)), (.int (97 : Int32)), (.int (103 : Int32)), (.int (101 : Int32)), (.int (115 : Int32))]) X0 hx hZ hown (hw _ (List.mem_of_getElem? (i := 159) rfl)) (own_wS hw) e0 hS hk hEL (by decide) CR.1 ⟨by decide, by decide⟩ (by decide) (by decide) (by decide) (by decide) (hb hby d2_36) rfl rfl rfl (by decide) (by decide) (fun na11 T11 h11 kk11 nb11 k11 X11 e11 E11 hS hk hZ hown E_na11 F_coder_na11 F_value_na11 V_nb11 cr11 hne11 => ?_)
  have O := O.ext E11; have K := K.ext E11; have CR := CR.trans cr11
  refine og_retRW X11 hx hZ hlk hEL hS e11 es hk CR hret rfl rfl rfl (hb hby d2_38) (by decide) (by decide) ?_
  rw [e11]; exact ⟨_, _, _, rfl, N, K, E_na11, F_value_na11, F_coder_na11, V_nb11⟩
theorem rm_nm5 (l : Launch) (Z : State) (a0 : Array Value) (hw : HW a0 Z) (ll : Int32) (hl : ll = 0 ∨ ll = 1 ∨ ll = 2 ∨ ll = 3) (c0 c1 c2 : Int32) (hc0 : 0 ≤ c0.toInt ∧ c0.toInt ≤ 255) (hc1 : 0 ≤ c1.toInt ∧ c1.toInt ≤ 255) (hc2 : 0 ≤ c2.toInt ∧ c2.toInt ≤ 255) (cs : Int32) (hcs : ¬ cs = 0) (h0 : Heap) (n0 : Nat) (O : Old Z n0 h0) (hEL : EW Z a0 own_EL) (S_CS : Sta Z Z.heap "java/lang/String" "COMPACT_STRINGS" "Z" (.int cs)) :
    ConW l Z own_EL [] (⟨"com/example/marsh_tit/marshtit/stanza/StanzasIsStanzaPinLaw", "nameFor", "(IICCC)Ljava/lang/String;"⟩ : MethodName) method_4_code 5 (some (.object "java/lang/String")) ({ frames := 5, cells := 6, slots := 36, locals := 81 } : Room) #[(.int (5 : Int32)), (.int ll), (.int c0), (.int c1), (.int c2)] h0 (fun v h L => ∃ a b k, v = some (.ref a) ∧ Fr n0 L ∧ Keep h0 h [] ∧ Exa Z h a "java/lang/String" ∧ Fld Z h a "java/lang/String" "value" "[B" (.ref b) ∧ Fld Z h a "java/lang/String" "coder" "B" (.int (0 : Int32)) ∧ Arv Z h b k .byte (Int32.ofNat (own_nm 5 ll c0 c1 c2).length) ((own_nm 5 ll c0 c1 c2).map Value.int) (.int (0 : Int32))) := by
  refine own_startWC opn_2 ?_
  intro p e s m below meth c T0 X0 hx hby hml hZ hown hnm hret hlk e0 es hS CR hsf
  have N := Fr.nil n0; have K := Keep.refl h0 []; have hk := Nat.le_refl h0.size
  refine OG.cast (oef11 m (5 : Int32) ll c0 c1 c2) ?_
  refine og_iloadN (pc' := 1) X0 hx rfl (hb hby d2_0) rfl ?_
  refine og_if_ne (pc1 := 7) (pc2 := 4) X0 hx (hb hby d2_1) (by decide) (by decide) rfl (fun _ => ?_) (fun q => absurd q (by decide))
  refine og_iloadN (pc' := 8) X0 hx rfl (hb hby d2_7) rfl ?_
  refine og_iconst (pc' := 9) (v := (1 : Int32)) X0 hx rfl (hb hby d2_8) rfl ?_
  refine og_icmp_ne (pc1 := 15) (pc2 := 12) X0 hx (hb hby d2_9) (by decide) (by decide) rfl (fun _ => ?_) (fun q => absurd q (by decide))
  refine og_iloadN (pc' := 16) X0 hx rfl (hb hby d2_15) rfl ?_
  refine og_iconst (pc' := 17) (v := (2 : Int32)) X0 hx rfl (hb hby d2_16) rfl ?_
  refine og_icmp_ne (pc1 := 23) (pc2 := 20) X0 hx (hb hby d2_17) (by decide) (by decide) rfl (fun _ => ?_) (fun q => absurd q (by decide))
  refine og_iloadN (pc' := 24) X0 hx rfl (hb hby d2_23) rfl ?_
  refine og_iconst (pc' := 25) (v := (3 : Int32)) X0 hx rfl (hb hby d2_24) rfl ?_
  refine og_icmp_ne (pc1 := 31) (pc2 := 28) X0 hx (hb hby d2_25) (by decide) (by decide) rfl (fun _ => ?_) (fun q => absurd q (by decide))
  refine og_iloadN (pc' := 32) X0 hx rfl (hb hby d2_31) rfl ?_
  refine og_iconst (pc' := 33) (v := (4 : Int32)) X0 hx rfl (hb hby d2_32) rfl ?_
  refine og_icmp_ne (pc1 := 39) (pc2 := 36) X0 hx (hb hby d2_33) (by decide) (by decide) rfl (fun _ => ?_) (fun q => absurd q (by decide))
  refine og_iloadN (pc' := 40) X0 hx rfl (hb hby d2_39) rfl ?_
  refine og_iconst (pc' := 41) (v := (5 : Int32)) X0 hx rfl (hb hby d2_40) rfl ?_
  refine og_icmp_ne (pc1 := 47) (pc2 := 44) X0 hx (hb hby d2_41) (by decide) (by decide) rfl (fun q => absurd q (by decide)) (fun _ => ?_)
  refine og_ldcS (pc' := 46) (cells' := 2) (slots' := 32) (n := 28) (z := (7 : Int32)) (vs := [(.int (112 : Int32)), (.int (114 : Int32)), (.int (101 : Int32)), (.int (115 : Int32)), (.int (101 : Int32)), (.int (110 : Int32)), (.int (99 : Int32))]) X0 hx hZ hown (hw _ (List.mem_of_getElem? (i := 144) rfl)) (own_wS hw) e0 hS hk hEL (by decide) CR.1 ⟨by decide, by decide⟩ (by decide) (by decide) (by decide) (by decide) (hb hby d2_44) rfl rfl rfl (by decide) (by decide) (fun na11 T11 h11 kk11 nb11 k11 X11 e11 E11 hS hk hZ hown E_na11 F_coder_na11 F_value_na11 V_nb11 cr11 hne11 => ?_)
  have O := O.ext E11; have K := K.ext E11; have CR := CR.trans cr11
  refine og_retRW X11 hx hZ hlk hEL hS e11 es hk CR hret rfl rfl rfl (hb hby d2_46) (by decide) (by decide) ?_
  rw [e11]; exact ⟨_, _, _, rfl, N, K, E_na11, F_value_na11, F_coder_na11, V_nb11⟩
theorem rm_nm6 (l : Launch) (Z : State) (a0 : Array Value) (hw : HW a0 Z) (ll : Int32) (hl : ll = 0 ∨ ll = 1 ∨ ll = 2 ∨ ll = 3) (c0 c1 c2 : Int32) (hc0 : 0 ≤ c0.toInt ∧ c0.toInt ≤ 255) (hc1 : 0 ≤ c1.toInt ∧ c1.toInt ≤ 255) (hc2 : 0 ≤ c2.toInt ∧ c2.toInt ≤ 255) (cs : Int32) (hcs : ¬ cs = 0) (h0 : Heap) (n0 : Nat) (O : Old Z n0 h0) (hEL : EW Z a0 own_EL) (S_CS : Sta Z Z.heap "java/lang/String" "COMPACT_STRINGS" "Z" (.int cs)) :
    ConW l Z own_EL [] (⟨"com/example/marsh_tit/marshtit/stanza/StanzasIsStanzaPinLaw", "nameFor", "(IICCC)Ljava/lang/String;"⟩ : MethodName) method_4_code 5 (some (.object "java/lang/String")) ({ frames := 5, cells := 6, slots := 36, locals := 81 } : Room) #[(.int (6 : Int32)), (.int ll), (.int c0), (.int c1), (.int c2)] h0 (fun v h L => ∃ a b k, v = some (.ref a) ∧ Fr n0 L ∧ Keep h0 h [] ∧ Exa Z h a "java/lang/String" ∧ Fld Z h a "java/lang/String" "value" "[B" (.ref b) ∧ Fld Z h a "java/lang/String" "coder" "B" (.int (0 : Int32)) ∧ Arv Z h b k .byte (Int32.ofNat (own_nm 6 ll c0 c1 c2).length) ((own_nm 6 ll c0 c1 c2).map Value.int) (.int (0 : Int32))) := by
  refine own_startWC opn_2 ?_
  intro p e s m below meth c T0 X0 hx hby hml hZ hown hnm hret hlk e0 es hS CR hsf
  have N := Fr.nil n0; have K := Keep.refl h0 []; have hk := Nat.le_refl h0.size
  refine OG.cast (oef11 m (6 : Int32) ll c0 c1 c2) ?_
  refine og_iloadN (pc' := 1) X0 hx rfl (hb hby d2_0) rfl ?_
  refine og_if_ne (pc1 := 7) (pc2 := 4) X0 hx (hb hby d2_1) (by decide) (by decide) rfl (fun _ => ?_) (fun q => absurd q (by decide))
  refine og_iloadN (pc' := 8) X0 hx rfl (hb hby d2_7) rfl ?_
  refine og_iconst (pc' := 9) (v := (1 : Int32)) X0 hx rfl (hb hby d2_8) rfl ?_
  refine og_icmp_ne (pc1 := 15) (pc2 := 12) X0 hx (hb hby d2_9) (by decide) (by decide) rfl (fun _ => ?_) (fun q => absurd q (by decide))
  refine og_iloadN (pc' := 16) X0 hx rfl (hb hby d2_15) rfl ?_
  refine og_iconst (pc' := 17) (v := (2 : Int32)) X0 hx rfl (hb hby d2_16) rfl ?_
  refine og_icmp_ne (pc1 := 23) (pc2 := 20) X0 hx (hb hby d2_17) (by decide) (by decide) rfl (fun _ => ?_) (fun q => absurd q (by decide))
  refine og_iloadN (pc' := 24) X0 hx rfl (hb hby d2_23) rfl ?_
  refine og_iconst (pc' := 25) (v := (3 : Int32)) X0 hx rfl (hb hby d2_24) rfl ?_
  refine og_icmp_ne (pc1 := 31) (pc2 := 28) X0 hx (hb hby d2_25) (by decide) (by decide) rfl (fun _ => ?_) (fun q => absurd q (by decide))
  refine og_iloadN (pc' := 32) X0 hx rfl (hb hby d2_31) rfl ?_
  refine og_iconst (pc' := 33) (v := (4 : Int32)) X0 hx rfl (hb hby d2_32) rfl ?_
  refine og_icmp_ne (pc1 := 39) (pc2 := 36) X0 hx (hb hby d2_33) (by decide) (by decide) rfl (fun _ => ?_) (fun q => absurd q (by decide))
  refine og_iloadN (pc' := 40) X0 hx rfl (hb hby d2_39) rfl ?_
  refine og_iconst (pc' := 41) (v := (5 : Int32)) X0 hx rfl (hb hby d2_40) rfl ?_
  refine og_icmp_ne (pc1 := 47) (pc2 := 44) X0 hx (hb hby d2_41) (by decide) (by decide) rfl (fun _ => ?_) (fun q => absurd q (by decide))
  refine og_iloadN (pc' := 48) X0 hx rfl (hb hby d2_47) rfl ?_
  refine og_bipush (pc' := 50) (v := (6 : Int32)) X0 hx rfl (hb hby d2_48) rfl ?_
  refine og_icmp_ne (pc1 := 56) (pc2 := 53) X0 hx (hb hby d2_50) (by decide) (by decide) rfl (fun q => absurd q (by decide)) (fun _ => ?_)
  refine og_ldcS (pc' := 55) (cells' := 2) (slots' := 12) (n := 8) (z := (2 : Int32)) (vs := [(.int (105 : Int32)), (.int (81 : Int32))]) X0 hx hZ hown (hw _ (List.mem_of_getElem? (i := 141) rfl)) (own_wS hw) e0 hS hk hEL (by decide) CR.1 ⟨by decide, by decide⟩ (by decide) (by decide) (by decide) (by decide) (hb hby d2_53) rfl rfl rfl (by decide) (by decide) (fun na11 T11 h11 kk11 nb11 k11 X11 e11 E11 hS hk hZ hown E_na11 F_coder_na11 F_value_na11 V_nb11 cr11 hne11 => ?_)
  have O := O.ext E11; have K := K.ext E11; have CR := CR.trans cr11
  refine og_retRW X11 hx hZ hlk hEL hS e11 es hk CR hret rfl rfl rfl (hb hby d2_55) (by decide) (by decide) ?_
  rw [e11]; exact ⟨_, _, _, rfl, N, K, E_na11, F_value_na11, F_coder_na11, V_nb11⟩
theorem rm_nm7 (l : Launch) (Z : State) (a0 : Array Value) (hw : HW a0 Z) (ll : Int32) (hl : ll = 0 ∨ ll = 1 ∨ ll = 2 ∨ ll = 3) (c0 c1 c2 : Int32) (hc0 : 0 ≤ c0.toInt ∧ c0.toInt ≤ 255) (hc1 : 0 ≤ c1.toInt ∧ c1.toInt ≤ 255) (hc2 : 0 ≤ c2.toInt ∧ c2.toInt ≤ 255) (cs : Int32) (hcs : ¬ cs = 0) (h0 : Heap) (n0 : Nat) (O : Old Z n0 h0) (hEL : EW Z a0 own_EL) (S_CS : Sta Z Z.heap "java/lang/String" "COMPACT_STRINGS" "Z" (.int cs)) :
    ConW l Z own_EL [] (⟨"com/example/marsh_tit/marshtit/stanza/StanzasIsStanzaPinLaw", "nameFor", "(IICCC)Ljava/lang/String;"⟩ : MethodName) method_4_code 5 (some (.object "java/lang/String")) ({ frames := 5, cells := 6, slots := 36, locals := 81 } : Room) #[(.int (7 : Int32)), (.int ll), (.int c0), (.int c1), (.int c2)] h0 (fun v h L => ∃ a b k, v = some (.ref a) ∧ Fr n0 L ∧ Keep h0 h [] ∧ Exa Z h a "java/lang/String" ∧ Fld Z h a "java/lang/String" "value" "[B" (.ref b) ∧ Fld Z h a "java/lang/String" "coder" "B" (.int (0 : Int32)) ∧ Arv Z h b k .byte (Int32.ofNat (own_nm 7 ll c0 c1 c2).length) ((own_nm 7 ll c0 c1 c2).map Value.int) (.int (0 : Int32))) := by
  refine own_startWC opn_2 ?_
  intro p e s m below meth c T0 X0 hx hby hml hZ hown hnm hret hlk e0 es hS CR hsf
  have N := Fr.nil n0; have K := Keep.refl h0 []; have hk := Nat.le_refl h0.size
  refine OG.cast (oef11 m (7 : Int32) ll c0 c1 c2) ?_
  refine og_iloadN (pc' := 1) X0 hx rfl (hb hby d2_0) rfl ?_
  refine og_if_ne (pc1 := 7) (pc2 := 4) X0 hx (hb hby d2_1) (by decide) (by decide) rfl (fun _ => ?_) (fun q => absurd q (by decide))
  refine og_iloadN (pc' := 8) X0 hx rfl (hb hby d2_7) rfl ?_
  refine og_iconst (pc' := 9) (v := (1 : Int32)) X0 hx rfl (hb hby d2_8) rfl ?_
  refine og_icmp_ne (pc1 := 15) (pc2 := 12) X0 hx (hb hby d2_9) (by decide) (by decide) rfl (fun _ => ?_) (fun q => absurd q (by decide))
  refine og_iloadN (pc' := 16) X0 hx rfl (hb hby d2_15) rfl ?_
  refine og_iconst (pc' := 17) (v := (2 : Int32)) X0 hx rfl (hb hby d2_16) rfl ?_
  refine og_icmp_ne (pc1 := 23) (pc2 := 20) X0 hx (hb hby d2_17) (by decide) (by decide) rfl (fun _ => ?_) (fun q => absurd q (by decide))
  refine og_iloadN (pc' := 24) X0 hx rfl (hb hby d2_23) rfl ?_
  refine og_iconst (pc' := 25) (v := (3 : Int32)) X0 hx rfl (hb hby d2_24) rfl ?_
  refine og_icmp_ne (pc1 := 31) (pc2 := 28) X0 hx (hb hby d2_25) (by decide) (by decide) rfl (fun _ => ?_) (fun q => absurd q (by decide))
  refine og_iloadN (pc' := 32) X0 hx rfl (hb hby d2_31) rfl ?_
  refine og_iconst (pc' := 33) (v := (4 : Int32)) X0 hx rfl (hb hby d2_32) rfl ?_
  refine og_icmp_ne (pc1 := 39) (pc2 := 36) X0 hx (hb hby d2_33) (by decide) (by decide) rfl (fun _ => ?_) (fun q => absurd q (by decide))
  refine og_iloadN (pc' := 40) X0 hx rfl (hb hby d2_39) rfl ?_
  refine og_iconst (pc' := 41) (v := (5 : Int32)) X0 hx rfl (hb hby d2_40) rfl ?_
  refine og_icmp_ne (pc1 := 47) (pc2 := 44) X0 hx (hb hby d2_41) (by decide) (by decide) rfl (fun _ => ?_) (fun q => absurd q (by decide))
  refine og_iloadN (pc' := 48) X0 hx rfl (hb hby d2_47) rfl ?_
  refine og_bipush (pc' := 50) (v := (6 : Int32)) X0 hx rfl (hb hby d2_48) rfl ?_
  refine og_icmp_ne (pc1 := 56) (pc2 := 53) X0 hx (hb hby d2_50) (by decide) (by decide) rfl (fun _ => ?_) (fun q => absurd q (by decide))
  refine og_iloadN (pc' := 57) X0 hx rfl (hb hby d2_56) rfl ?_
  refine og_iloadN (pc' := 58) X0 hx rfl (hb hby d2_57) rfl ?_
  refine og_iloadN (pc' := 59) X0 hx rfl (hb hby d2_58) rfl ?_
  refine og_iload (pc' := 61) X0 hx rfl (hb hby d2_59) rfl ?_
  refine og_staticW (pc' := 64) (cells' := 6) (slots' := 12) (W := 0) X0 hx hZ (rm_dr l Z a0 hw ll hl c0 c1 c2 hc0 hc1 hc2 cs hcs h0 n0 O hEL S_CS) hEL hS hk CR.1 all0 hown (ow117 hw) (ow118 hw) (ow2 hw) (ow119 hw) (by decide) (by rw [hml]; rfl) e0 opd_12 [(.int ll), (.int c0), (.int c1), (.int c2)] [] rfl rfl rfl rfl (by decide) (by decide) rfl rfl (by decide) (by decide) (hb hby d2_61) rfl (fun v11 T11 h11 L11 kk11 X11 e11 hS hk hZ hown cr11 z11 => ?_)
  obtain ⟨na11, nb11, k11, rfl, Nq11, K11, E_na11, F_value_na11, F_coder_na11, V_nb11⟩ := z11; have N := Fr.app N Nq11
  have O := O.keep K11 all0; have K := K.trans K11 all0; have CR := CR.trans cr11
  show OG p e below _ (T11.setTop (mkF m 64 #[.val (.int (7 : Int32)), .val (.int ll), .val (.int c0), .val (.int c1), .val (.int c2)] [(.ref na11)]))
  refine og_retRW X11 hx hZ hlk hEL hS e11 es hk CR hret rfl rfl rfl (hb hby d2_64) (by decide) (by decide) ?_
  rw [e11]; exact ⟨_, _, _, rfl, N, K, E_na11, F_value_na11, F_coder_na11, V_nb11⟩
theorem rm_nm (l : Launch) (Z : State) (a0 : Array Value) (hw : ∀ d ∈ tables_1, d.before a0 Z = true) (kk : Int32) (hkk : kk = 0 ∨ kk = 1 ∨ kk = 2 ∨ kk = 3 ∨ kk = 4 ∨ kk = 5 ∨ kk = 6 ∨ kk = 7) (ll : Int32) (hl : ll = 0 ∨ ll = 1 ∨ ll = 2 ∨ ll = 3) (c0 c1 c2 : Int32) (hc0 : 0 ≤ c0.toInt ∧ c0.toInt ≤ 255) (hc1 : 0 ≤ c1.toInt ∧ c1.toInt ≤ 255) (hc2 : 0 ≤ c2.toInt ∧ c2.toInt ≤ 255) (cs : Int32) (hcs : ¬ cs = 0) (h0 : Heap) (n0 : Nat) (O : Old Z n0 h0) (hEL : EW Z a0 own_EL) (S_CS : Sta Z Z.heap "java/lang/String" "COMPACT_STRINGS" "Z" (.int cs)) :
    ConW l Z own_EL [] (⟨"com/example/marsh_tit/marshtit/stanza/StanzasIsStanzaPinLaw", "nameFor", "(IICCC)Ljava/lang/String;"⟩ : MethodName) method_4_code 5 (some (.object "java/lang/String")) ({ frames := 5, cells := 6, slots := 36, locals := 81 } : Room) #[(.int kk), (.int ll), (.int c0), (.int c1), (.int c2)] h0 (fun v h L => ∃ a b k, v = some (.ref a) ∧ Fr n0 L ∧ Keep h0 h [] ∧ Exa Z h a "java/lang/String" ∧ Fld Z h a "java/lang/String" "value" "[B" (.ref b) ∧ Fld Z h a "java/lang/String" "coder" "B" (.int (0 : Int32)) ∧ Arv Z h b k .byte (Int32.ofNat (own_nm kk ll c0 c1 c2).length) ((own_nm kk ll c0 c1 c2).map Value.int) (.int (0 : Int32))) := by
  rcases hkk with rfl | rfl | rfl | rfl | rfl | rfl | rfl | rfl
  · exact rm_nm0 l Z a0 hw ll hl c0 c1 c2 hc0 hc1 hc2 cs hcs h0 n0 O hEL S_CS
  · exact rm_nm1 l Z a0 hw ll hl c0 c1 c2 hc0 hc1 hc2 cs hcs h0 n0 O hEL S_CS
  · exact rm_nm2 l Z a0 hw ll hl c0 c1 c2 hc0 hc1 hc2 cs hcs h0 n0 O hEL S_CS
  · exact rm_nm3 l Z a0 hw ll hl c0 c1 c2 hc0 hc1 hc2 cs hcs h0 n0 O hEL S_CS
  · exact rm_nm4 l Z a0 hw ll hl c0 c1 c2 hc0 hc1 hc2 cs hcs h0 n0 O hEL S_CS
  · exact rm_nm5 l Z a0 hw ll hl c0 c1 c2 hc0 hc1 hc2 cs hcs h0 n0 O hEL S_CS
  · exact rm_nm6 l Z a0 hw ll hl c0 c1 c2 hc0 hc1 hc2 cs hcs h0 n0 O hEL S_CS
  · exact rm_nm7 l Z a0 hw ll hl c0 c1 c2 hc0 hc1 hc2 cs hcs h0 n0 O hEL S_CS
theorem rm_isG (l : Launch) (Z : State) (a0 : Array Value) (hw : HW a0 Z) (t1 : Addr) (s1 q1 b1 d1 : Addr) (k1 j1 : ClassId) (us1 ws1 : List Int32) (n1 m1 : Int32) (hn1 : n1.toNatClampNeg = us1.length) (hm1 : m1.toNatClampNeg = ws1.length) (pn1 : ¬ n1 < 0) (pm1 : ¬ m1 < 0) (s2 q2 b2 d2 : Addr) (k2 j2 : ClassId) (us2 ws2 : List Int32) (n2 m2 : Int32) (hn2 : n2.toNatClampNeg = us2.length) (hm2 : m2.toNatClampNeg = ws2.length) (pn2 : ¬ n2 < 0) (pm2 : ¬ m2 < 0) (r : Int32) (hr : r = if us1 = ws1 ∧ us2 = ws2 then 1 else 0) (cs : Int32) (hcs : ¬ cs = 0) (h0 : Heap) (n0 : Nat) (O : Old Z n0 h0) (F__namespace_t1 : Fld Z h0 t1 "com/example/marsh_tit/marshtit/stanza/Element" "_namespace" "Ljava/lang/String;" (.ref s1)) (F__name_t1 : Fld Z h0 t1 "com/example/marsh_tit/marshtit/stanza/Element" "_name" "Ljava/lang/String;" (.ref s2)) (E_s1 : Exa Z h0 s1 "java/lang/String") (F_value_s1 : Fld Z h0 s1 "java/lang/String" "value" "[B" (.ref b1)) (F_coder_s1 : Fld Z h0 s1 "java/lang/String" "coder" "B" (.int (0 : Int32))) (V_b1 : Arv Z h0 b1 k1 .byte n1 (us1.map Value.int) (.int (0 : Int32))) (E_q1 : Exa Z h0 q1 "java/lang/String") (F_value_q1 : Fld Z h0 q1 "java/lang/String" "value" "[B" (.ref d1)) (F_coder_q1 : Fld Z h0 q1 "java/lang/String" "coder" "B" (.int (0 : Int32))) (V_d1 : Arv Z h0 d1 j1 .byte m1 (ws1.map Value.int) (.int (0 : Int32))) (E_s2 : Exa Z h0 s2 "java/lang/String") (F_value_s2 : Fld Z h0 s2 "java/lang/String" "value" "[B" (.ref b2)) (F_coder_s2 : Fld Z h0 s2 "java/lang/String" "coder" "B" (.int (0 : Int32))) (V_b2 : Arv Z h0 b2 k2 .byte n2 (us2.map Value.int) (.int (0 : Int32))) (E_q2 : Exa Z h0 q2 "java/lang/String") (F_value_q2 : Fld Z h0 q2 "java/lang/String" "value" "[B" (.ref d2)) (F_coder_q2 : Fld Z h0 q2 "java/lang/String" "coder" "B" (.int (0 : Int32))) (V_d2 : Arv Z h0 d2 j2 .byte m2 (ws2.map Value.int) (.int (0 : Int32))) (S_CS : Sta Z Z.heap "java/lang/String" "COMPACT_STRINGS" "Z" (.int cs)) :
    Con l Z (⟨"com/example/marsh_tit/marshtit/stanza/Element", "is", "(Ljava/lang/String;Ljava/lang/String;)Z"⟩ : MethodName) prog_19_method_4_code 3 (some .boolean) ({ frames := 2, cells := 0, slots := 0, locals := 28 } : Room) #[(.ref t1), (.ref q1), (.ref q2)] h0 (fun v h L => v = some (.int r) ∧ Fr n0 L ∧ h = h0) := by
  refine own_startC opn_13 ?_
  intro p e s m below meth c T0 X0 hx hby hml hZ hown hnm hret hlk e0
  have N := Fr.nil n0; have K := Keep.refl h0 []
  refine OG.cast (oef2 m t1 q1 q2) ?_
  refine og_aloadN (pc' := 1) X0 hx rfl rfl (hb hby d13_0) rfl ?_
  refine og_getfield (pc' := 4) X0 hx hZ (host := "") hown (Or.inl (ow86 hw)) Via.refl e0 F__namespace_t1 (hb hby d13_1) rfl (fun T11 X11 e11 => ?_)
  refine og_aloadN (pc' := 5) X11 hx rfl rfl (hb hby d13_4) rfl ?_
  by_cases hP1 : us1 = ws1
  ·
    refine og_virtual (pc' := 8) (cells' := 0) (slots' := 0) (W := 0) X11 hx hZ (rm_eqG l Z a0 hw s1 q1 b1 d1 k1 j1 us1 ws1 n1 m1 hn1 hm1 pn1 pm1 1 (if_pos hP1).symm cs hcs h0 n0 O E_s1 F_value_s1 F_coder_s1 V_b1 E_q1 F_value_q1 F_coder_q1 V_d1 S_CS) hown (ow102 hw) (ow103 hw) (own_nf hZ (ow105 hw)) (ow105 hw) (ow104 hw) (ow5 hw) (ow106 hw) (by decide) (by rw [hml]; rfl) e11 opd_13 [(.ref q1)] [] rfl rfl rfl rfl (by decide) (by decide) rfl rfl (by decide) (by decide) E_s1 (hb hby d13_5) rfl (fun v12 T12 h12 L12 X12 e12 z12 => ?_)
    obtain ⟨rfl, Nq12, hq12⟩ := z12; replace e12 := e12.trans hq12; have N := Fr.app N Nq12
    show OG p e below _ (T12.setTop (mkF m 8 #[.val (.ref t1), .val (.ref q1), .val (.ref q2)] [(.int (1 : Int32))]))
    refine og_if_eq (pc1 := 26) (pc2 := 11) X12 hx (hb hby d13_8) (by decide) (by decide) rfl (fun q => absurd q (by decide)) (fun _ => ?_)
    refine og_aloadN (pc' := 12) X12 hx rfl rfl (hb hby d13_11) rfl ?_
    refine og_getfield (pc' := 15) X12 hx hZ (host := "") hown (Or.inl (ow89 hw)) Via.refl e12 F__name_t1 (hb hby d13_12) rfl (fun T13 X13 e13 => ?_)
    refine og_aloadN (pc' := 16) X13 hx rfl rfl (hb hby d13_15) rfl ?_
    by_cases hP2 : us2 = ws2
    ·
      refine og_virtual (pc' := 19) (cells' := 0) (slots' := 0) (W := 0) X13 hx hZ (rm_eqG l Z a0 hw s2 q2 b2 d2 k2 j2 us2 ws2 n2 m2 hn2 hm2 pn2 pm2 1 (if_pos hP2).symm cs hcs h0 n0 O E_s2 F_value_s2 F_coder_s2 V_b2 E_q2 F_value_q2 F_coder_q2 V_d2 S_CS) hown (ow102 hw) (ow103 hw) (own_nf hZ (ow105 hw)) (ow105 hw) (ow104 hw) (ow5 hw) (ow106 hw) (by decide) (by rw [hml]; rfl) e13 opd_13 [(.ref q2)] [] rfl rfl rfl rfl (by decide) (by decide) rfl rfl (by decide) (by decide) E_s2 (hb hby d13_16) rfl (fun v14 T14 h14 L14 X14 e14 z14 => ?_)
      obtain ⟨rfl, Nq14, hq14⟩ := z14; replace e14 := e14.trans hq14; have N := Fr.app N Nq14
      show OG p e below _ (T14.setTop (mkF m 19 #[.val (.ref t1), .val (.ref q1), .val (.ref q2)] [(.int (1 : Int32))]))
      refine og_if_eq (pc1 := 26) (pc2 := 22) X14 hx (hb hby d13_19) (by decide) (by decide) rfl (fun q => absurd q (by decide)) (fun _ => ?_)
      refine og_iconst (pc' := 23) (v := (1 : Int32)) X14 hx rfl (hb hby d13_22) rfl ?_
      refine og_goto (pc' := 27) X14 hx (hb hby d13_23) (by decide) (by decide) ?_
      refine og_retN X14 hx hlk hret (by simp) (hb hby d13_27) (by decide) (by decide) ?_
      rw [e14]; refine ⟨?_, N, rfl⟩
      show some (Value.int (1 : Int32)) = _
      rw [hr]; simp [hP1, hP2]
    ·
      refine og_virtual (pc' := 19) (cells' := 0) (slots' := 0) (W := 0) X13 hx hZ (rm_eqG l Z a0 hw s2 q2 b2 d2 k2 j2 us2 ws2 n2 m2 hn2 hm2 pn2 pm2 0 (if_neg hP2).symm cs hcs h0 n0 O E_s2 F_value_s2 F_coder_s2 V_b2 E_q2 F_value_q2 F_coder_q2 V_d2 S_CS) hown (ow102 hw) (ow103 hw) (own_nf hZ (ow105 hw)) (ow105 hw) (ow104 hw) (ow5 hw) (ow106 hw) (by decide) (by rw [hml]; rfl) e13 opd_13 [(.ref q2)] [] rfl rfl rfl rfl (by decide) (by decide) rfl rfl (by decide) (by decide) E_s2 (hb hby d13_16) rfl (fun v15 T15 h15 L15 X15 e15 z15 => ?_)
      obtain ⟨rfl, Nq15, hq15⟩ := z15; replace e15 := e15.trans hq15; have N := Fr.app N Nq15
      show OG p e below _ (T15.setTop (mkF m 19 #[.val (.ref t1), .val (.ref q1), .val (.ref q2)] [(.int (0 : Int32))]))
      refine og_if_eq (pc1 := 26) (pc2 := 22) X15 hx (hb hby d13_19) (by decide) (by decide) rfl (fun _ => ?_) (fun q => absurd q (by decide))
      refine og_iconst (pc' := 27) (v := (0 : Int32)) X15 hx rfl (hb hby d13_26) rfl ?_
      refine og_retN X15 hx hlk hret (by simp) (hb hby d13_27) (by decide) (by decide) ?_
      rw [e15]; refine ⟨?_, N, rfl⟩
      show some (Value.int (0 : Int32)) = _
      rw [hr]; simp [hP1, hP2]
  ·
    refine og_virtual (pc' := 8) (cells' := 0) (slots' := 0) (W := 0) X11 hx hZ (rm_eqG l Z a0 hw s1 q1 b1 d1 k1 j1 us1 ws1 n1 m1 hn1 hm1 pn1 pm1 0 (if_neg hP1).symm cs hcs h0 n0 O E_s1 F_value_s1 F_coder_s1 V_b1 E_q1 F_value_q1 F_coder_q1 V_d1 S_CS) hown (ow102 hw) (ow103 hw) (own_nf hZ (ow105 hw)) (ow105 hw) (ow104 hw) (ow5 hw) (ow106 hw) (by decide) (by rw [hml]; rfl) e11 opd_13 [(.ref q1)] [] rfl rfl rfl rfl (by decide) (by decide) rfl rfl (by decide) (by decide) E_s1 (hb hby d13_5) rfl (fun v16 T16 h16 L16 X16 e16 z16 => ?_)
    obtain ⟨rfl, Nq16, hq16⟩ := z16; replace e16 := e16.trans hq16; have N := Fr.app N Nq16
    show OG p e below _ (T16.setTop (mkF m 8 #[.val (.ref t1), .val (.ref q1), .val (.ref q2)] [(.int (0 : Int32))]))
    refine og_if_eq (pc1 := 26) (pc2 := 11) X16 hx (hb hby d13_8) (by decide) (by decide) rfl (fun _ => ?_) (fun q => absurd q (by decide))
    refine og_iconst (pc' := 27) (v := (0 : Int32)) X16 hx rfl (hb hby d13_26) rfl ?_
    refine og_retN X16 hx hlk hret (by simp) (hb hby d13_27) (by decide) (by decide) ?_
    rw [e16]; refine ⟨?_, N, rfl⟩
    show some (Value.int (0 : Int32)) = _
    rw [hr]; simp [hP1]
theorem rm_st (l : Launch) (Z : State) (a0 : Array Value) (hw : HW a0 Z) (t1 : Addr) (s1 b1 : Addr) (k1 : ClassId) (us1 : List Int32) (n1 : Int32) (hn1 : n1.toNatClampNeg = us1.length) (pn1 : ¬ n1 < 0) (s2 b2 : Addr) (k2 : ClassId) (us2 : List Int32) (n2 : Int32) (hn2 : n2.toNatClampNeg = us2.length) (pn2 : ¬ n2 < 0) (r : Int32) (hr : r = if own_st us1 us2 then 1 else 0) (cs : Int32) (hcs : ¬ cs = 0) (h0 : Heap) (n0 : Nat) (O : Old Z n0 h0) (hEL : EW Z a0 own_EL) (E_t1 : Exa Z h0 t1 "com/example/marsh_tit/marshtit/stanza/Element") (F__namespace_t1 : Fld Z h0 t1 "com/example/marsh_tit/marshtit/stanza/Element" "_namespace" "Ljava/lang/String;" (.ref s1)) (F__name_t1 : Fld Z h0 t1 "com/example/marsh_tit/marshtit/stanza/Element" "_name" "Ljava/lang/String;" (.ref s2)) (E_s1 : Exa Z h0 s1 "java/lang/String") (F_value_s1 : Fld Z h0 s1 "java/lang/String" "value" "[B" (.ref b1)) (F_coder_s1 : Fld Z h0 s1 "java/lang/String" "coder" "B" (.int (0 : Int32))) (V_b1 : Arv Z h0 b1 k1 .byte n1 (us1.map Value.int) (.int (0 : Int32))) (E_s2 : Exa Z h0 s2 "java/lang/String") (F_value_s2 : Fld Z h0 s2 "java/lang/String" "value" "[B" (.ref b2)) (F_coder_s2 : Fld Z h0 s2 "java/lang/String" "coder" "B" (.int (0 : Int32))) (V_b2 : Arv Z h0 b2 k2 .byte n2 (us2.map Value.int) (.int (0 : Int32))) (S_CS : Sta Z Z.heap "java/lang/String" "COMPACT_STRINGS" "Z" (.int cs)) :
    ConW l Z own_EL [] (⟨"com/example/marsh_tit/marshtit/stanza/Stanzas", "isStanza", "(Lcom/example/marsh_tit/marshtit/stanza/Element;)Z"⟩ : MethodName) prog_22_method_2_code 1 (some .boolean) ({ frames := 3, cells := 12, slots := 248, locals := 42 } : Room) #[(.ref t1)] h0 (fun v h L => v = some (.int r) ∧ Fr n0 L) := by
  refine own_startWC opn_12 ?_
  intro p e s m below meth c T0 X0 hx hby hml hZ hown hnm hret hlk e0 es hS CR hsf
  have N := Fr.nil n0; have K := Keep.refl h0 []; have hk := Nat.le_refl h0.size
  refine OG.cast (oef0 m t1) ?_
  refine og_aloadN (pc' := 1) X0 hx rfl rfl (hb hby d12_0) rfl ?_
  refine og_ldcS (pc' := 3) (cells' := 2) (slots' := 56) (n := 52) (z := (13 : Int32)) (vs := [(.int (106 : Int32)), (.int (97 : Int32)), (.int (98 : Int32)), (.int (98 : Int32)), (.int (101 : Int32)), (.int (114 : Int32)), (.int (58 : Int32)), (.int (99 : Int32)), (.int (108 : Int32)), (.int (105 : Int32)), (.int (101 : Int32)), (.int (110 : Int32)), (.int (116 : Int32))]) X0 hx hZ hown (hw _ (List.mem_of_getElem? (i := 95) rfl)) (own_wS hw) e0 hS hk hEL (by decide) CR.1 ⟨by decide, by decide⟩ (by decide) (by decide) (by decide) (by decide) (hb hby d12_1) rfl rfl rfl (by decide) (by decide) (fun na11 T11 h11 kk11 nb11 k11 X11 e11 E11 hS hk hZ hown E_na11 F_coder_na11 F_value_na11 V_nb11 cr11 hne11 => ?_)
  have E_t1 := E_t1.ext E11; have F__namespace_t1 := F__namespace_t1.ext E11; have F__name_t1 := F__name_t1.ext E11; have E_s1 := E_s1.ext E11; have F_value_s1 := F_value_s1.ext E11; have F_coder_s1 := F_coder_s1.ext E11
  have V_b1 := V_b1.ext E11; have E_s2 := E_s2.ext E11; have F_value_s2 := F_value_s2.ext E11; have F_coder_s2 := F_coder_s2.ext E11; have V_b2 := V_b2.ext E11; have O := O.ext E11
  have K := K.ext E11; have CR := CR.trans cr11
  refine og_ldcS (pc' := 5) (cells' := 4) (slots' := 88) (n := 28) (z := (7 : Int32)) (vs := [(.int (109 : Int32)), (.int (101 : Int32)), (.int (115 : Int32)), (.int (115 : Int32)), (.int (97 : Int32)), (.int (103 : Int32)), (.int (101 : Int32))]) X11 hx hZ hown (hw _ (List.mem_of_getElem? (i := 96) rfl)) (own_wS hw) e11 hS hk hEL (by decide) CR.1 ⟨by decide, by decide⟩ (by decide) (by decide) (by decide) (by decide) (hb hby d12_3) rfl rfl rfl (by decide) (by decide) (fun na12 T12 h12 kk12 nb12 k12 X12 e12 E12 hS hk hZ hown E_na12 F_coder_na12 F_value_na12 V_nb12 cr12 hne12 => ?_)
  have E_t1 := E_t1.ext E12; have F__namespace_t1 := F__namespace_t1.ext E12; have F__name_t1 := F__name_t1.ext E12; have E_s1 := E_s1.ext E12; have F_value_s1 := F_value_s1.ext E12; have F_coder_s1 := F_coder_s1.ext E12
  have V_b1 := V_b1.ext E12; have E_s2 := E_s2.ext E12; have F_value_s2 := F_value_s2.ext E12; have F_coder_s2 := F_coder_s2.ext E12; have V_b2 := V_b2.ext E12; have E_na11 := E_na11.ext E12
  have F_value_na11 := F_value_na11.ext E12; have F_coder_na11 := F_coder_na11.ext E12; have V_nb11 := V_nb11.ext E12; have O := O.ext E12; have K := K.ext E12; have CR := CR.trans cr12
  by_cases hT5 : us1 = [106, 97, 98, 98, 101, 114, 58, 99, 108, 105, 101, 110, 116] ∧ us2 = [109, 101, 115, 115, 97, 103, 101]
  ·
    refine og_virtual (pc' := 8) (cells' := 4) (slots' := 88) (W := 0) X12 hx hZ (rm_isG l Z a0 hw t1 s1 na11 b1 nb11 k1 k11 us1 [106, 97, 98, 98, 101, 114, 58, 99, 108, 105, 101, 110, 116] n1 13 hn1 (by decide) pn1 (by decide) s2 na12 b2 nb12 k2 k12 us2 [109, 101, 115, 115, 97, 103, 101] n2 7 hn2 (by decide) pn2 (by decide) 1 (if_pos hT5).symm cs hcs h12 n0 O F__namespace_t1 F__name_t1 E_s1 F_value_s1 F_coder_s1 V_b1 E_na11 F_value_na11 F_coder_na11 V_nb11 E_s2 F_value_s2 F_coder_s2 V_b2 E_na12 F_value_na12 F_coder_na12 V_nb12 S_CS) hown (ow97 hw) (ow98 hw) (own_nf hZ (ow100 hw)) (ow100 hw) (ow99 hw) (ow18 hw) (ow101 hw) (by decide) (by rw [hml]; rfl) e12 opd_14 [(.ref na11), (.ref na12)] [] rfl rfl rfl rfl (by decide) (by decide) rfl rfl (by decide) (by decide) E_t1 (hb hby d12_5) rfl (fun v13 T13 h13 L13 X13 e13 z13 => ?_)
    obtain ⟨rfl, Nq13, hq13⟩ := z13; replace e13 := e13.trans hq13; have N := Fr.app N Nq13
    show OG p e below _ (T13.setTop (mkF m 8 #[.val (.ref t1)] [(.int (1 : Int32))]))
    refine og_if_ne (pc1 := 33) (pc2 := 11) X13 hx (hb hby d12_8) (by decide) (by decide) rfl (fun _ => ?_) (fun q => absurd q (by decide))
    refine og_iconst (pc' := 34) (v := (1 : Int32)) X13 hx rfl (hb hby d12_33) rfl ?_
    refine og_goto (pc' := 38) X13 hx (hb hby d12_34) (by decide) (by decide) ?_
    refine og_retNW X13 hx hZ hlk hEL hS e13 es hk CR hret (by simp) (hb hby d12_38) (by decide) (by decide) ?_
    refine ⟨?_, N⟩
    show some (Value.int (1 : Int32)) = _
    rw [hr, if_pos (own_sty (Or.inl hT5))]
  ·
    refine og_virtual (pc' := 8) (cells' := 4) (slots' := 88) (W := 0) X12 hx hZ (rm_isG l Z a0 hw t1 s1 na11 b1 nb11 k1 k11 us1 [106, 97, 98, 98, 101, 114, 58, 99, 108, 105, 101, 110, 116] n1 13 hn1 (by decide) pn1 (by decide) s2 na12 b2 nb12 k2 k12 us2 [109, 101, 115, 115, 97, 103, 101] n2 7 hn2 (by decide) pn2 (by decide) 0 (if_neg hT5).symm cs hcs h12 n0 O F__namespace_t1 F__name_t1 E_s1 F_value_s1 F_coder_s1 V_b1 E_na11 F_value_na11 F_coder_na11 V_nb11 E_s2 F_value_s2 F_coder_s2 V_b2 E_na12 F_value_na12 F_coder_na12 V_nb12 S_CS) hown (ow97 hw) (ow98 hw) (own_nf hZ (ow100 hw)) (ow100 hw) (ow99 hw) (ow18 hw) (ow101 hw) (by decide) (by rw [hml]; rfl) e12 opd_14 [(.ref na11), (.ref na12)] [] rfl rfl rfl rfl (by decide) (by decide) rfl rfl (by decide) (by decide) E_t1 (hb hby d12_5) rfl (fun v14 T14 h14 L14 X14 e14 z14 => ?_)
    obtain ⟨rfl, Nq14, hq14⟩ := z14; replace e14 := e14.trans hq14; have N := Fr.app N Nq14
    show OG p e below _ (T14.setTop (mkF m 8 #[.val (.ref t1)] [(.int (0 : Int32))]))
    refine og_if_ne (pc1 := 33) (pc2 := 11) X14 hx (hb hby d12_8) (by decide) (by decide) rfl (fun q => absurd q (by decide)) (fun _ => ?_)
    refine og_aloadN (pc' := 12) X14 hx rfl rfl (hb hby d12_11) rfl ?_
    refine og_ldcS (pc' := 14) (cells' := 6) (slots' := 144) (n := 52) (z := (13 : Int32)) (vs := [(.int (106 : Int32)), (.int (97 : Int32)), (.int (98 : Int32)), (.int (98 : Int32)), (.int (101 : Int32)), (.int (114 : Int32)), (.int (58 : Int32)), (.int (99 : Int32)), (.int (108 : Int32)), (.int (105 : Int32)), (.int (101 : Int32)), (.int (110 : Int32)), (.int (116 : Int32))]) X14 hx hZ hown (hw _ (List.mem_of_getElem? (i := 95) rfl)) (own_wS hw) e14 hS hk hEL (by decide) CR.1 ⟨by decide, by decide⟩ (by decide) (by decide) (by decide) (by decide) (hb hby d12_12) rfl rfl rfl (by decide) (by decide) (fun na15 T15 h15 kk15 nb15 k15 X15 e15 E15 hS hk hZ hown E_na15 F_coder_na15 F_value_na15 V_nb15 cr15 hne15 => ?_)
    have E_t1 := E_t1.ext E15; have F__namespace_t1 := F__namespace_t1.ext E15; have F__name_t1 := F__name_t1.ext E15; have E_s1 := E_s1.ext E15; have F_value_s1 := F_value_s1.ext E15; have F_coder_s1 := F_coder_s1.ext E15
    have V_b1 := V_b1.ext E15; have E_s2 := E_s2.ext E15; have F_value_s2 := F_value_s2.ext E15; have F_coder_s2 := F_coder_s2.ext E15; have V_b2 := V_b2.ext E15; have E_na11 := E_na11.ext E15
    have F_value_na11 := F_value_na11.ext E15; have F_coder_na11 := F_coder_na11.ext E15; have V_nb11 := V_nb11.ext E15; have E_na12 := E_na12.ext E15; have F_value_na12 := F_value_na12.ext E15; have F_coder_na12 := F_coder_na12.ext E15
    have V_nb12 := V_nb12.ext E15; have O := O.ext E15; have K := K.ext E15; have CR := CR.trans cr15
    refine og_ldcS (pc' := 16) (cells' := 8) (slots' := 180) (n := 32) (z := (8 : Int32)) (vs := [(.int (112 : Int32)), (.int (114 : Int32)), (.int (101 : Int32)), (.int (115 : Int32)), (.int (101 : Int32)), (.int (110 : Int32)), (.int (99 : Int32)), (.int (101 : Int32))]) X15 hx hZ hown (hw _ (List.mem_of_getElem? (i := 115) rfl)) (own_wS hw) e15 hS hk hEL (by decide) CR.1 ⟨by decide, by decide⟩ (by decide) (by decide) (by decide) (by decide) (hb hby d12_14) rfl rfl rfl (by decide) (by decide) (fun na16 T16 h16 kk16 nb16 k16 X16 e16 E16 hS hk hZ hown E_na16 F_coder_na16 F_value_na16 V_nb16 cr16 hne16 => ?_)
    have E_t1 := E_t1.ext E16; have F__namespace_t1 := F__namespace_t1.ext E16; have F__name_t1 := F__name_t1.ext E16; have E_s1 := E_s1.ext E16; have F_value_s1 := F_value_s1.ext E16; have F_coder_s1 := F_coder_s1.ext E16
    have V_b1 := V_b1.ext E16; have E_s2 := E_s2.ext E16; have F_value_s2 := F_value_s2.ext E16; have F_coder_s2 := F_coder_s2.ext E16; have V_b2 := V_b2.ext E16; have E_na11 := E_na11.ext E16
    have F_value_na11 := F_value_na11.ext E16; have F_coder_na11 := F_coder_na11.ext E16; have V_nb11 := V_nb11.ext E16; have E_na12 := E_na12.ext E16; have F_value_na12 := F_value_na12.ext E16; have F_coder_na12 := F_coder_na12.ext E16
    have V_nb12 := V_nb12.ext E16; have E_na15 := E_na15.ext E16; have F_value_na15 := F_value_na15.ext E16; have F_coder_na15 := F_coder_na15.ext E16; have V_nb15 := V_nb15.ext E16; have O := O.ext E16
    have K := K.ext E16; have CR := CR.trans cr16
    by_cases hT16 : us1 = [106, 97, 98, 98, 101, 114, 58, 99, 108, 105, 101, 110, 116] ∧ us2 = [112, 114, 101, 115, 101, 110, 99, 101]
    ·
      refine og_virtual (pc' := 19) (cells' := 8) (slots' := 180) (W := 0) X16 hx hZ (rm_isG l Z a0 hw t1 s1 na15 b1 nb15 k1 k15 us1 [106, 97, 98, 98, 101, 114, 58, 99, 108, 105, 101, 110, 116] n1 13 hn1 (by decide) pn1 (by decide) s2 na16 b2 nb16 k2 k16 us2 [112, 114, 101, 115, 101, 110, 99, 101] n2 8 hn2 (by decide) pn2 (by decide) 1 (if_pos hT16).symm cs hcs h16 n0 O F__namespace_t1 F__name_t1 E_s1 F_value_s1 F_coder_s1 V_b1 E_na15 F_value_na15 F_coder_na15 V_nb15 E_s2 F_value_s2 F_coder_s2 V_b2 E_na16 F_value_na16 F_coder_na16 V_nb16 S_CS) hown (ow97 hw) (ow98 hw) (own_nf hZ (ow100 hw)) (ow100 hw) (ow99 hw) (ow18 hw) (ow101 hw) (by decide) (by rw [hml]; rfl) e16 opd_14 [(.ref na15), (.ref na16)] [] rfl rfl rfl rfl (by decide) (by decide) rfl rfl (by decide) (by decide) E_t1 (hb hby d12_16) rfl (fun v17 T17 h17 L17 X17 e17 z17 => ?_)
      obtain ⟨rfl, Nq17, hq17⟩ := z17; replace e17 := e17.trans hq17; have N := Fr.app N Nq17
      show OG p e below _ (T17.setTop (mkF m 19 #[.val (.ref t1)] [(.int (1 : Int32))]))
      refine og_if_ne (pc1 := 33) (pc2 := 22) X17 hx (hb hby d12_19) (by decide) (by decide) rfl (fun _ => ?_) (fun q => absurd q (by decide))
      refine og_iconst (pc' := 34) (v := (1 : Int32)) X17 hx rfl (hb hby d12_33) rfl ?_
      refine og_goto (pc' := 38) X17 hx (hb hby d12_34) (by decide) (by decide) ?_
      refine og_retNW X17 hx hZ hlk hEL hS e17 es hk CR hret (by simp) (hb hby d12_38) (by decide) (by decide) ?_
      refine ⟨?_, N⟩
      show some (Value.int (1 : Int32)) = _
      rw [hr, if_pos (own_sty (Or.inr (Or.inl hT16)))]
    ·
      refine og_virtual (pc' := 19) (cells' := 8) (slots' := 180) (W := 0) X16 hx hZ (rm_isG l Z a0 hw t1 s1 na15 b1 nb15 k1 k15 us1 [106, 97, 98, 98, 101, 114, 58, 99, 108, 105, 101, 110, 116] n1 13 hn1 (by decide) pn1 (by decide) s2 na16 b2 nb16 k2 k16 us2 [112, 114, 101, 115, 101, 110, 99, 101] n2 8 hn2 (by decide) pn2 (by decide) 0 (if_neg hT16).symm cs hcs h16 n0 O F__namespace_t1 F__name_t1 E_s1 F_value_s1 F_coder_s1 V_b1 E_na15 F_value_na15 F_coder_na15 V_nb15 E_s2 F_value_s2 F_coder_s2 V_b2 E_na16 F_value_na16 F_coder_na16 V_nb16 S_CS) hown (ow97 hw) (ow98 hw) (own_nf hZ (ow100 hw)) (ow100 hw) (ow99 hw) (ow18 hw) (ow101 hw) (by decide) (by rw [hml]; rfl) e16 opd_14 [(.ref na15), (.ref na16)] [] rfl rfl rfl rfl (by decide) (by decide) rfl rfl (by decide) (by decide) E_t1 (hb hby d12_16) rfl (fun v18 T18 h18 L18 X18 e18 z18 => ?_)
      obtain ⟨rfl, Nq18, hq18⟩ := z18; replace e18 := e18.trans hq18; have N := Fr.app N Nq18
      show OG p e below _ (T18.setTop (mkF m 19 #[.val (.ref t1)] [(.int (0 : Int32))]))
      refine og_if_ne (pc1 := 33) (pc2 := 22) X18 hx (hb hby d12_19) (by decide) (by decide) rfl (fun q => absurd q (by decide)) (fun _ => ?_)
      refine og_aloadN (pc' := 23) X18 hx rfl rfl (hb hby d12_22) rfl ?_
      refine og_ldcS (pc' := 25) (cells' := 10) (slots' := 236) (n := 52) (z := (13 : Int32)) (vs := [(.int (106 : Int32)), (.int (97 : Int32)), (.int (98 : Int32)), (.int (98 : Int32)), (.int (101 : Int32)), (.int (114 : Int32)), (.int (58 : Int32)), (.int (99 : Int32)), (.int (108 : Int32)), (.int (105 : Int32)), (.int (101 : Int32)), (.int (110 : Int32)), (.int (116 : Int32))]) X18 hx hZ hown (hw _ (List.mem_of_getElem? (i := 95) rfl)) (own_wS hw) e18 hS hk hEL (by decide) CR.1 ⟨by decide, by decide⟩ (by decide) (by decide) (by decide) (by decide) (hb hby d12_23) rfl rfl rfl (by decide) (by decide) (fun na19 T19 h19 kk19 nb19 k19 X19 e19 E19 hS hk hZ hown E_na19 F_coder_na19 F_value_na19 V_nb19 cr19 hne19 => ?_)
      have E_t1 := E_t1.ext E19; have F__namespace_t1 := F__namespace_t1.ext E19; have F__name_t1 := F__name_t1.ext E19; have E_s1 := E_s1.ext E19; have F_value_s1 := F_value_s1.ext E19; have F_coder_s1 := F_coder_s1.ext E19
      have V_b1 := V_b1.ext E19; have E_s2 := E_s2.ext E19; have F_value_s2 := F_value_s2.ext E19; have F_coder_s2 := F_coder_s2.ext E19; have V_b2 := V_b2.ext E19; have E_na11 := E_na11.ext E19
      have F_value_na11 := F_value_na11.ext E19; have F_coder_na11 := F_coder_na11.ext E19; have V_nb11 := V_nb11.ext E19; have E_na12 := E_na12.ext E19; have F_value_na12 := F_value_na12.ext E19; have F_coder_na12 := F_coder_na12.ext E19
      have V_nb12 := V_nb12.ext E19; have E_na15 := E_na15.ext E19; have F_value_na15 := F_value_na15.ext E19; have F_coder_na15 := F_coder_na15.ext E19; have V_nb15 := V_nb15.ext E19; have E_na16 := E_na16.ext E19
      have F_value_na16 := F_value_na16.ext E19; have F_coder_na16 := F_coder_na16.ext E19; have V_nb16 := V_nb16.ext E19; have O := O.ext E19; have K := K.ext E19; have CR := CR.trans cr19
      refine og_ldcS (pc' := 27) (cells' := 12) (slots' := 248) (n := 8) (z := (2 : Int32)) (vs := [(.int (105 : Int32)), (.int (113 : Int32))]) X19 hx hZ hown (hw _ (List.mem_of_getElem? (i := 116) rfl)) (own_wS hw) e19 hS hk hEL (by decide) CR.1 ⟨by decide, by decide⟩ (by decide) (by decide) (by decide) (by decide) (hb hby d12_25) rfl rfl rfl (by decide) (by decide) (fun na20 T20 h20 kk20 nb20 k20 X20 e20 E20 hS hk hZ hown E_na20 F_coder_na20 F_value_na20 V_nb20 cr20 hne20 => ?_)
      have E_t1 := E_t1.ext E20; have F__namespace_t1 := F__namespace_t1.ext E20; have F__name_t1 := F__name_t1.ext E20; have E_s1 := E_s1.ext E20; have F_value_s1 := F_value_s1.ext E20; have F_coder_s1 := F_coder_s1.ext E20
      have V_b1 := V_b1.ext E20; have E_s2 := E_s2.ext E20; have F_value_s2 := F_value_s2.ext E20; have F_coder_s2 := F_coder_s2.ext E20; have V_b2 := V_b2.ext E20; have E_na11 := E_na11.ext E20
      have F_value_na11 := F_value_na11.ext E20; have F_coder_na11 := F_coder_na11.ext E20; have V_nb11 := V_nb11.ext E20; have E_na12 := E_na12.ext E20; have F_value_na12 := F_value_na12.ext E20; have F_coder_na12 := F_coder_na12.ext E20
      have V_nb12 := V_nb12.ext E20; have E_na15 := E_na15.ext E20; have F_value_na15 := F_value_na15.ext E20; have F_coder_na15 := F_coder_na15.ext E20; have V_nb15 := V_nb15.ext E20; have E_na16 := E_na16.ext E20
      have F_value_na16 := F_value_na16.ext E20; have F_coder_na16 := F_coder_na16.ext E20; have V_nb16 := V_nb16.ext E20; have E_na19 := E_na19.ext E20; have F_value_na19 := F_value_na19.ext E20; have F_coder_na19 := F_coder_na19.ext E20
      have V_nb19 := V_nb19.ext E20; have O := O.ext E20; have K := K.ext E20; have CR := CR.trans cr20
      by_cases hT27 : us1 = [106, 97, 98, 98, 101, 114, 58, 99, 108, 105, 101, 110, 116] ∧ us2 = [105, 113]
      ·
        refine og_virtual (pc' := 30) (cells' := 12) (slots' := 248) (W := 0) X20 hx hZ (rm_isG l Z a0 hw t1 s1 na19 b1 nb19 k1 k19 us1 [106, 97, 98, 98, 101, 114, 58, 99, 108, 105, 101, 110, 116] n1 13 hn1 (by decide) pn1 (by decide) s2 na20 b2 nb20 k2 k20 us2 [105, 113] n2 2 hn2 (by decide) pn2 (by decide) 1 (if_pos hT27).symm cs hcs h20 n0 O F__namespace_t1 F__name_t1 E_s1 F_value_s1 F_coder_s1 V_b1 E_na19 F_value_na19 F_coder_na19 V_nb19 E_s2 F_value_s2 F_coder_s2 V_b2 E_na20 F_value_na20 F_coder_na20 V_nb20 S_CS) hown (ow97 hw) (ow98 hw) (own_nf hZ (ow100 hw)) (ow100 hw) (ow99 hw) (ow18 hw) (ow101 hw) (by decide) (by rw [hml]; rfl) e20 opd_14 [(.ref na19), (.ref na20)] [] rfl rfl rfl rfl (by decide) (by decide) rfl rfl (by decide) (by decide) E_t1 (hb hby d12_27) rfl (fun v21 T21 h21 L21 X21 e21 z21 => ?_)
        obtain ⟨rfl, Nq21, hq21⟩ := z21; replace e21 := e21.trans hq21; have N := Fr.app N Nq21
        show OG p e below _ (T21.setTop (mkF m 30 #[.val (.ref t1)] [(.int (1 : Int32))]))
        refine og_if_eq (pc1 := 37) (pc2 := 33) X21 hx (hb hby d12_30) (by decide) (by decide) rfl (fun q => absurd q (by decide)) (fun _ => ?_)
        refine og_iconst (pc' := 34) (v := (1 : Int32)) X21 hx rfl (hb hby d12_33) rfl ?_
        refine og_goto (pc' := 38) X21 hx (hb hby d12_34) (by decide) (by decide) ?_
        refine og_retNW X21 hx hZ hlk hEL hS e21 es hk CR hret (by simp) (hb hby d12_38) (by decide) (by decide) ?_
        refine ⟨?_, N⟩
        show some (Value.int (1 : Int32)) = _
        rw [hr, if_pos (own_sty (Or.inr (Or.inr hT27)))]
      ·
        refine og_virtual (pc' := 30) (cells' := 12) (slots' := 248) (W := 0) X20 hx hZ (rm_isG l Z a0 hw t1 s1 na19 b1 nb19 k1 k19 us1 [106, 97, 98, 98, 101, 114, 58, 99, 108, 105, 101, 110, 116] n1 13 hn1 (by decide) pn1 (by decide) s2 na20 b2 nb20 k2 k20 us2 [105, 113] n2 2 hn2 (by decide) pn2 (by decide) 0 (if_neg hT27).symm cs hcs h20 n0 O F__namespace_t1 F__name_t1 E_s1 F_value_s1 F_coder_s1 V_b1 E_na19 F_value_na19 F_coder_na19 V_nb19 E_s2 F_value_s2 F_coder_s2 V_b2 E_na20 F_value_na20 F_coder_na20 V_nb20 S_CS) hown (ow97 hw) (ow98 hw) (own_nf hZ (ow100 hw)) (ow100 hw) (ow99 hw) (ow18 hw) (ow101 hw) (by decide) (by rw [hml]; rfl) e20 opd_14 [(.ref na19), (.ref na20)] [] rfl rfl rfl rfl (by decide) (by decide) rfl rfl (by decide) (by decide) E_t1 (hb hby d12_27) rfl (fun v22 T22 h22 L22 X22 e22 z22 => ?_)
        obtain ⟨rfl, Nq22, hq22⟩ := z22; replace e22 := e22.trans hq22; have N := Fr.app N Nq22
        show OG p e below _ (T22.setTop (mkF m 30 #[.val (.ref t1)] [(.int (0 : Int32))]))
        refine og_if_eq (pc1 := 37) (pc2 := 33) X22 hx (hb hby d12_30) (by decide) (by decide) rfl (fun _ => ?_) (fun q => absurd q (by decide))
        refine og_iconst (pc' := 38) (v := (0 : Int32)) X22 hx rfl (hb hby d12_37) rfl ?_
        refine og_retNW X22 hx hZ hlk hEL hS e22 es hk CR hret (by simp) (hb hby d12_38) (by decide) (by decide) ?_
        refine ⟨?_, N⟩
        show some (Value.int (0 : Int32)) = _
        rw [hr, if_neg (own_stn hT5 hT16 hT27)]
theorem rm0 (l : Launch) (Z : State) (a0 : Array Value) (hw : HW a0 Z) (ws : List Jvm.Cond) (p0 p1 p2 p3 : Int32) (de : Addr) (cs : Int32) (hcs : ¬ cs = 0) (h0 : Heap) (n0 : Nat) (O : Old Z n0 h0) (hEL : EW Z a0 own_EL) (S_CS : Sta Z Z.heap "java/lang/String" "COMPACT_STRINGS" "Z" (.int cs)) (S_DE : Sta Z Z.heap "java/util/ArrayList" "DEFAULTCAPACITY_EMPTY_ELEMENTDATA" "[Ljava/lang/Object;" (.ref de)) :
    MetFree l x (head1 (Jvm.Cond.code x code maxLocals ret :: ws) room_1) (fun a U => a = #[(.int p0), (.int p1), (.int p2), (.int p3)] ∧ Z.Warmed39 U.vm ∧ U.heap = h0 ∧ CHv Z own_EL U.vm h0 ∧ ∀ x ∈ ([] : List Addr), Safe Z own_EL U.vm h0 x) (fun _ _ _ _ _ => True) (fun _ U o U' => ∃ v L, o = .returned v ∧ (fun v h L => v = some (.int 1) ∧ Fr n0 L) v U'.heap L ∧ CHr Z own_EL U.vm U.heap U'.vm U'.heap ∧ ReturnedEndW U o U' L 64 17664) := by
  refine own_startW (Q := fun v h L => v = some (.int 1) ∧ Fr n0 L) opn_0 ?_
  intro p e s m below meth c T0 X0 hx hby hml hZ hown hnm hret hlk e0 es hS CR hsf
  have N := Fr.nil n0; have K := Keep.refl h0 []; have hk := Nat.le_refl h0.size
  refine OG.cast (oef12 m p0 p1 p2 p3) ?_
  refine og_iloadN (pc' := 1) X0 hx rfl (hb hby at_0) rfl ?_
  refine og_iconst (pc' := 2) (v := (3 : Int32)) X0 hx rfl (hb hby at_1) rfl ?_
  refine og_iand (pc' := 3) X0 hx (hb hby at_2) rfl ?_
  refine og_istore (pc' := 5) (L' := #[.val (.int p0), .val (.int p1), .val (.int p2), .val (.int p3), .val (.int (p0 &&& (3 : Int32))), .unset, .unset, .unset, .unset, .unset, .unset, .unset, .unset, .unset, .unset, .unset, .unset]) X0 hx rfl (hb hby at_3) rfl ?_
  refine og_iloadN (pc' := 6) X0 hx rfl (hb hby at_5) rfl ?_
  refine og_iconst (pc' := 7) (v := (2 : Int32)) X0 hx rfl (hb hby at_6) rfl ?_
  refine og_iushr (pc' := 8) X0 hx (hb hby at_7) rfl ?_
  refine og_iconst (pc' := 9) (v := (3 : Int32)) X0 hx rfl (hb hby at_8) rfl ?_
  refine og_iand (pc' := 10) X0 hx (hb hby at_9) rfl ?_
  refine og_istore (pc' := 12) (L' := #[.val (.int p0), .val (.int p1), .val (.int p2), .val (.int p3), .val (.int (p0 &&& (3 : Int32))), .val (.int (((p0.toUInt32 >>> ((2 : Int32) &&& 31).toUInt32).toInt32) &&& (3 : Int32))), .unset, .unset, .unset, .unset, .unset, .unset, .unset, .unset, .unset, .unset, .unset]) X0 hx rfl (hb hby at_10) rfl ?_
  refine og_iloadN (pc' := 13) X0 hx rfl (hb hby at_12) rfl ?_
  refine og_bipush (pc' := 15) (v := (7 : Int32)) X0 hx rfl (hb hby at_13) rfl ?_
  refine og_iand (pc' := 16) X0 hx (hb hby at_15) rfl ?_
  refine og_istore (pc' := 18) (L' := #[.val (.int p0), .val (.int p1), .val (.int p2), .val (.int p3), .val (.int (p0 &&& (3 : Int32))), .val (.int (((p0.toUInt32 >>> ((2 : Int32) &&& 31).toUInt32).toInt32) &&& (3 : Int32))), .val (.int (p1 &&& (7 : Int32))), .unset, .unset, .unset, .unset, .unset, .unset, .unset, .unset, .unset, .unset]) X0 hx rfl (hb hby at_16) rfl ?_
  refine og_iloadN (pc' := 19) X0 hx rfl (hb hby at_18) rfl ?_
  refine og_iconst (pc' := 20) (v := (3 : Int32)) X0 hx rfl (hb hby at_19) rfl ?_
  refine og_iushr (pc' := 21) X0 hx (hb hby at_20) rfl ?_
  refine og_iconst (pc' := 22) (v := (3 : Int32)) X0 hx rfl (hb hby at_21) rfl ?_
  refine og_iand (pc' := 23) X0 hx (hb hby at_22) rfl ?_
  refine og_istore (pc' := 25) (L' := #[.val (.int p0), .val (.int p1), .val (.int p2), .val (.int p3), .val (.int (p0 &&& (3 : Int32))), .val (.int (((p0.toUInt32 >>> ((2 : Int32) &&& 31).toUInt32).toInt32) &&& (3 : Int32))), .val (.int (p1 &&& (7 : Int32))), .val (.int (((p1.toUInt32 >>> ((3 : Int32) &&& 31).toUInt32).toInt32) &&& (3 : Int32))), .unset, .unset, .unset, .unset, .unset, .unset, .unset, .unset, .unset]) X0 hx rfl (hb hby at_23) rfl ?_
  obtain ⟨kk, h_kk⟩ : ∃ z, z = (p0 &&& (3 : Int32)) := ⟨_, rfl⟩
  rw [← h_kk]
  have hkk := own_m3 h_kk
  obtain ⟨l5, h_l5⟩ : ∃ z, z = (((p0.toUInt32 >>> ((2 : Int32) &&& 31).toUInt32).toInt32) &&& (3 : Int32)) := ⟨_, rfl⟩
  rw [← h_l5]
  have hl5 := own_m3 h_l5
  obtain ⟨mm, h_mm⟩ : ∃ z, z = (p1 &&& (7 : Int32)) := ⟨_, rfl⟩
  rw [← h_mm]
  have hmm := own_m7 h_mm
  obtain ⟨l7, h_l7⟩ : ∃ z, z = (((p1.toUInt32 >>> ((3 : Int32) &&& 31).toUInt32).toInt32) &&& (3 : Int32)) := ⟨_, rfl⟩
  rw [← h_l7]
  have hl7 := own_m3 h_l7
  refine og_iloadN (pc' := 26) X0 hx rfl (hb hby at_25) rfl ?_
  refine og_sipush (pc' := 29) (v := (255 : Int32)) X0 hx rfl (hb hby at_26) rfl ?_
  refine og_iand (pc' := 30) X0 hx (hb hby at_29) rfl ?_
  refine og_i2c (pc' := 31) X0 hx (hb hby at_30) rfl ?_
  refine og_istore (pc' := 33) (L' := #[.val (.int p0), .val (.int p1), .val (.int p2), .val (.int p3), .val (.int kk), .val (.int l5), .val (.int mm), .val (.int l7), .val (.int ((p2 &&& (255 : Int32)).toUInt32.toUInt16.toUInt32.toInt32)), .unset, .unset, .unset, .unset, .unset, .unset, .unset, .unset]) X0 hx rfl (hb hby at_31) rfl ?_
  refine og_iloadN (pc' := 34) X0 hx rfl (hb hby at_33) rfl ?_
  refine og_bipush (pc' := 36) (v := (8 : Int32)) X0 hx rfl (hb hby at_34) rfl ?_
  refine og_iushr (pc' := 37) X0 hx (hb hby at_36) rfl ?_
  refine og_sipush (pc' := 40) (v := (255 : Int32)) X0 hx rfl (hb hby at_37) rfl ?_
  refine og_iand (pc' := 41) X0 hx (hb hby at_40) rfl ?_
  refine og_i2c (pc' := 42) X0 hx (hb hby at_41) rfl ?_
  refine og_istore (pc' := 44) (L' := #[.val (.int p0), .val (.int p1), .val (.int p2), .val (.int p3), .val (.int kk), .val (.int l5), .val (.int mm), .val (.int l7), .val (.int ((p2 &&& (255 : Int32)).toUInt32.toUInt16.toUInt32.toInt32)), .val (.int ((((p2.toUInt32 >>> ((8 : Int32) &&& 31).toUInt32).toInt32) &&& (255 : Int32)).toUInt32.toUInt16.toUInt32.toInt32)), .unset, .unset, .unset, .unset, .unset, .unset, .unset]) X0 hx rfl (hb hby at_42) rfl ?_
  refine og_iloadN (pc' := 45) X0 hx rfl (hb hby at_44) rfl ?_
  refine og_bipush (pc' := 47) (v := (16 : Int32)) X0 hx rfl (hb hby at_45) rfl ?_
  refine og_iushr (pc' := 48) X0 hx (hb hby at_47) rfl ?_
  refine og_sipush (pc' := 51) (v := (255 : Int32)) X0 hx rfl (hb hby at_48) rfl ?_
  refine og_iand (pc' := 52) X0 hx (hb hby at_51) rfl ?_
  refine og_i2c (pc' := 53) X0 hx (hb hby at_52) rfl ?_
  refine og_istore (pc' := 55) (L' := #[.val (.int p0), .val (.int p1), .val (.int p2), .val (.int p3), .val (.int kk), .val (.int l5), .val (.int mm), .val (.int l7), .val (.int ((p2 &&& (255 : Int32)).toUInt32.toUInt16.toUInt32.toInt32)), .val (.int ((((p2.toUInt32 >>> ((8 : Int32) &&& 31).toUInt32).toInt32) &&& (255 : Int32)).toUInt32.toUInt16.toUInt32.toInt32)), .val (.int ((((p2.toUInt32 >>> ((16 : Int32) &&& 31).toUInt32).toInt32) &&& (255 : Int32)).toUInt32.toUInt16.toUInt32.toInt32)), .unset, .unset, .unset, .unset, .unset, .unset]) X0 hx rfl (hb hby at_53) rfl ?_
  refine og_iloadN (pc' := 56) X0 hx rfl (hb hby at_55) rfl ?_
  refine og_sipush (pc' := 59) (v := (255 : Int32)) X0 hx rfl (hb hby at_56) rfl ?_
  refine og_iand (pc' := 60) X0 hx (hb hby at_59) rfl ?_
  refine og_i2c (pc' := 61) X0 hx (hb hby at_60) rfl ?_
  refine og_istore (pc' := 63) (L' := #[.val (.int p0), .val (.int p1), .val (.int p2), .val (.int p3), .val (.int kk), .val (.int l5), .val (.int mm), .val (.int l7), .val (.int ((p2 &&& (255 : Int32)).toUInt32.toUInt16.toUInt32.toInt32)), .val (.int ((((p2.toUInt32 >>> ((8 : Int32) &&& 31).toUInt32).toInt32) &&& (255 : Int32)).toUInt32.toUInt16.toUInt32.toInt32)), .val (.int ((((p2.toUInt32 >>> ((16 : Int32) &&& 31).toUInt32).toInt32) &&& (255 : Int32)).toUInt32.toUInt16.toUInt32.toInt32)), .val (.int ((p3 &&& (255 : Int32)).toUInt32.toUInt16.toUInt32.toInt32)), .unset, .unset, .unset, .unset, .unset]) X0 hx rfl (hb hby at_61) rfl ?_
  refine og_iloadN (pc' := 64) X0 hx rfl (hb hby at_63) rfl ?_
  refine og_bipush (pc' := 66) (v := (8 : Int32)) X0 hx rfl (hb hby at_64) rfl ?_
  refine og_iushr (pc' := 67) X0 hx (hb hby at_66) rfl ?_
  refine og_sipush (pc' := 70) (v := (255 : Int32)) X0 hx rfl (hb hby at_67) rfl ?_
  refine og_iand (pc' := 71) X0 hx (hb hby at_70) rfl ?_
  refine og_i2c (pc' := 72) X0 hx (hb hby at_71) rfl ?_
  refine og_istore (pc' := 74) (L' := #[.val (.int p0), .val (.int p1), .val (.int p2), .val (.int p3), .val (.int kk), .val (.int l5), .val (.int mm), .val (.int l7), .val (.int ((p2 &&& (255 : Int32)).toUInt32.toUInt16.toUInt32.toInt32)), .val (.int ((((p2.toUInt32 >>> ((8 : Int32) &&& 31).toUInt32).toInt32) &&& (255 : Int32)).toUInt32.toUInt16.toUInt32.toInt32)), .val (.int ((((p2.toUInt32 >>> ((16 : Int32) &&& 31).toUInt32).toInt32) &&& (255 : Int32)).toUInt32.toUInt16.toUInt32.toInt32)), .val (.int ((p3 &&& (255 : Int32)).toUInt32.toUInt16.toUInt32.toInt32)), .val (.int ((((p3.toUInt32 >>> ((8 : Int32) &&& 31).toUInt32).toInt32) &&& (255 : Int32)).toUInt32.toUInt16.toUInt32.toInt32)), .unset, .unset, .unset, .unset]) X0 hx rfl (hb hby at_72) rfl ?_
  refine og_iloadN (pc' := 75) X0 hx rfl (hb hby at_74) rfl ?_
  refine og_bipush (pc' := 77) (v := (16 : Int32)) X0 hx rfl (hb hby at_75) rfl ?_
  refine og_iushr (pc' := 78) X0 hx (hb hby at_77) rfl ?_
  refine og_sipush (pc' := 81) (v := (255 : Int32)) X0 hx rfl (hb hby at_78) rfl ?_
  refine og_iand (pc' := 82) X0 hx (hb hby at_81) rfl ?_
  refine og_i2c (pc' := 83) X0 hx (hb hby at_82) rfl ?_
  refine og_istore (pc' := 85) (L' := #[.val (.int p0), .val (.int p1), .val (.int p2), .val (.int p3), .val (.int kk), .val (.int l5), .val (.int mm), .val (.int l7), .val (.int ((p2 &&& (255 : Int32)).toUInt32.toUInt16.toUInt32.toInt32)), .val (.int ((((p2.toUInt32 >>> ((8 : Int32) &&& 31).toUInt32).toInt32) &&& (255 : Int32)).toUInt32.toUInt16.toUInt32.toInt32)), .val (.int ((((p2.toUInt32 >>> ((16 : Int32) &&& 31).toUInt32).toInt32) &&& (255 : Int32)).toUInt32.toUInt16.toUInt32.toInt32)), .val (.int ((p3 &&& (255 : Int32)).toUInt32.toUInt16.toUInt32.toInt32)), .val (.int ((((p3.toUInt32 >>> ((8 : Int32) &&& 31).toUInt32).toInt32) &&& (255 : Int32)).toUInt32.toUInt16.toUInt32.toInt32)), .val (.int ((((p3.toUInt32 >>> ((16 : Int32) &&& 31).toUInt32).toInt32) &&& (255 : Int32)).toUInt32.toUInt16.toUInt32.toInt32)), .unset, .unset, .unset]) X0 hx rfl (hb hby at_83) rfl ?_
  obtain ⟨x0, h_x0⟩ : ∃ z, z = ((p2 &&& (255 : Int32)).toUInt32.toUInt16.toUInt32.toInt32) := ⟨_, rfl⟩
  rw [← h_x0]
  have hx0 := own_chz h_x0
  obtain ⟨x1, h_x1⟩ : ∃ z, z = ((((p2.toUInt32 >>> ((8 : Int32) &&& 31).toUInt32).toInt32) &&& (255 : Int32)).toUInt32.toUInt16.toUInt32.toInt32) := ⟨_, rfl⟩
  rw [← h_x1]
  have hx1 := own_chz h_x1
  obtain ⟨x2, h_x2⟩ : ∃ z, z = ((((p2.toUInt32 >>> ((16 : Int32) &&& 31).toUInt32).toInt32) &&& (255 : Int32)).toUInt32.toUInt16.toUInt32.toInt32) := ⟨_, rfl⟩
  rw [← h_x2]
  have hx2 := own_chz h_x2
  obtain ⟨y0, h_y0⟩ : ∃ z, z = ((p3 &&& (255 : Int32)).toUInt32.toUInt16.toUInt32.toInt32) := ⟨_, rfl⟩
  rw [← h_y0]
  have hy0 := own_chz h_y0
  obtain ⟨y1, h_y1⟩ : ∃ z, z = ((((p3.toUInt32 >>> ((8 : Int32) &&& 31).toUInt32).toInt32) &&& (255 : Int32)).toUInt32.toUInt16.toUInt32.toInt32) := ⟨_, rfl⟩
  rw [← h_y1]
  have hy1 := own_chz h_y1
  obtain ⟨y2, h_y2⟩ : ∃ z, z = ((((p3.toUInt32 >>> ((16 : Int32) &&& 31).toUInt32).toInt32) &&& (255 : Int32)).toUInt32.toUInt16.toUInt32.toInt32) := ⟨_, rfl⟩
  rw [← h_y2]
  have hy2 := own_chz h_y2
  refine og_iload (pc' := 87) X0 hx rfl (hb hby at_85) rfl ?_
  refine og_iload (pc' := 89) X0 hx rfl (hb hby at_87) rfl ?_
  refine og_iload (pc' := 91) X0 hx rfl (hb hby at_89) rfl ?_
  refine og_iload (pc' := 93) X0 hx rfl (hb hby at_91) rfl ?_
  refine og_iload (pc' := 95) X0 hx rfl (hb hby at_93) rfl ?_
  refine og_staticW (pc' := 98) (cells' := 6) (slots' := 56) (W := 0) X0 hx hZ (rm_ns l Z a0 hw kk hkk l5 hl5 y0 y1 y2 hy0 hy1 hy2 cs hcs h0 n0 O hEL S_CS) hEL hS hk CR.1 all0 hown (ow0 hw) (ow1 hw) (ow2 hw) (ow3 hw) (by decide) (by rw [hml]; rfl) e0 opd_15 [(.int kk), (.int l5), (.int y0), (.int y1), (.int y2)] [] rfl rfl rfl rfl (by decide) (by decide) rfl rfl (by decide) (by decide) (hb hby at_95) rfl (fun v11 T11 h11 L11 kk11 X11 e11 hS hk hZ hown cr11 z11 => ?_)
  obtain ⟨na11, nb11, k11, rfl, Nq11, K11, E_na11, F_value_na11, F_coder_na11, V_nb11⟩ := z11; have N := Fr.app N Nq11
  have O := O.keep K11 all0; have K := K.trans K11 all0; have CR := CR.trans cr11
  show OG p e below _ (T11.setTop (mkF m 98 #[.val (.int p0), .val (.int p1), .val (.int p2), .val (.int p3), .val (.int kk), .val (.int l5), .val (.int mm), .val (.int l7), .val (.int x0), .val (.int x1), .val (.int x2), .val (.int y0), .val (.int y1), .val (.int y2), .unset, .unset, .unset] [(.ref na11)]))
  refine og_astore (pc' := 100) (L' := #[.val (.int p0), .val (.int p1), .val (.int p2), .val (.int p3), .val (.int kk), .val (.int l5), .val (.int mm), .val (.int l7), .val (.int x0), .val (.int x1), .val (.int x2), .val (.int y0), .val (.int y1), .val (.int y2), .val (.ref na11), .unset, .unset]) X11 hx rfl rfl (hb hby at_98) rfl ?_
  refine og_iload (pc' := 102) X11 hx rfl (hb hby at_100) rfl ?_
  refine og_iload (pc' := 104) X11 hx rfl (hb hby at_102) rfl ?_
  refine og_iload (pc' := 106) X11 hx rfl (hb hby at_104) rfl ?_
  refine og_iload (pc' := 108) X11 hx rfl (hb hby at_106) rfl ?_
  refine og_iload (pc' := 110) X11 hx rfl (hb hby at_108) rfl ?_
  refine og_staticW (pc' := 113) (cells' := 12) (slots' := 92) (W := 0) X11 hx hZ (rm_nm l Z a0 hw mm hmm l7 hl7 x0 x1 x2 hx0 hx1 hx2 cs hcs h11 n0 O hEL S_CS) hEL hS hk CR.1 all0 hown (ow12 hw) (ow13 hw) (ow2 hw) (ow14 hw) (by decide) (by rw [hml]; rfl) e11 opd_15 [(.int mm), (.int l7), (.int x0), (.int x1), (.int x2)] [] rfl rfl rfl rfl (by decide) (by decide) rfl rfl (by decide) (by decide) (hb hby at_110) rfl (fun v12 T12 h12 L12 kk12 X12 e12 hS hk hZ hown cr12 z12 => ?_)
  obtain ⟨na12, nb12, k12, rfl, Nq12, K12, E_na12, F_value_na12, F_coder_na12, V_nb12⟩ := z12; have N := Fr.app N Nq12
  have E_na11 := E_na11.keep K12; have F_value_na11 := F_value_na11.keep K12 nin0; have F_coder_na11 := F_coder_na11.keep K12 nin0; have V_nb11 := V_nb11.keep K12 nin0; have O := O.keep K12 all0; have K := K.trans K12 all0
  have CR := CR.trans cr12
  show OG p e below _ (T12.setTop (mkF m 113 #[.val (.int p0), .val (.int p1), .val (.int p2), .val (.int p3), .val (.int kk), .val (.int l5), .val (.int mm), .val (.int l7), .val (.int x0), .val (.int x1), .val (.int x2), .val (.int y0), .val (.int y1), .val (.int y2), .val (.ref na11), .unset, .unset] [(.ref na12)]))
  refine og_astore (pc' := 115) (L' := #[.val (.int p0), .val (.int p1), .val (.int p2), .val (.int p3), .val (.int kk), .val (.int l5), .val (.int mm), .val (.int l7), .val (.int x0), .val (.int x1), .val (.int x2), .val (.int y0), .val (.int y1), .val (.int y2), .val (.ref na11), .val (.ref na12), .unset]) X12 hx rfl rfl (hb hby at_113) rfl ?_
  have J158 : ∀ (T13 : State) (h13 : Heap) (l13 : List Loc) (vm13 : Vm) (kk13 : Nat) (hS : s.Since vm13 kk13) (hk : kk13 ≤ h13.size) (hZ : Z.Warmed39 vm13) (hown : vm13.findClass "com/example/marsh_tit/marshtit/stanza/StanzasIsStanzaPinLaw" = some m.cls) (CR : CHr Z own_EL s.vm h0 vm13 h13) (X13 : Stand p l e room_1 (s.setVm vm13) m #[(.int p0), (.int p1), (.int p2), (.int p3)] below meth c T13 l13 12 92) (e13 : T13.heap = h13) (N : Fr n0 l13) (O : Old Z n0 h13) (K : Keep h0 h13 []) (ex : Int32) (hex : ex = if own_ex kk mm l7 x0 x1 then 1 else 0) (E_na11 : Exa Z h13 na11 "java/lang/String") (F_value_na11 : Fld Z h13 na11 "java/lang/String" "value" "[B" (.ref nb11)) (F_coder_na11 : Fld Z h13 na11 "java/lang/String" "coder" "B" (.int (0 : Int32))) (V_nb11 : Arv Z h13 nb11 k11 .byte (Int32.ofNat (own_ns kk l5 y0 y1 y2).length) ((own_ns kk l5 y0 y1 y2).map Value.int) (.int (0 : Int32))) (E_na12 : Exa Z h13 na12 "java/lang/String") (F_value_na12 : Fld Z h13 na12 "java/lang/String" "value" "[B" (.ref nb12)) (F_coder_na12 : Fld Z h13 na12 "java/lang/String" "coder" "B" (.int (0 : Int32))) (V_nb12 : Arv Z h13 nb12 k12 .byte (Int32.ofNat (own_nm mm l7 x0 x1 x2).length) ((own_nm mm l7 x0 x1 x2).map Value.int) (.int (0 : Int32))), OG p e below (FinW s Z own_EL (fun v h L => v = some (.int 1) ∧ Fr n0 L) 64 17664) (T13.setTop (mkF m 158 #[.val (.int p0), .val (.int p1), .val (.int p2), .val (.int p3), .val (.int kk), .val (.int l5), .val (.int mm), .val (.int l7), .val (.int x0), .val (.int x1), .val (.int x2), .val (.int y0), .val (.int y1), .val (.int y2), .val (.ref na11), .val (.ref na12), .unset] [(.int ex)])) := by
    intro T13 h13 l13 vm13 kk13 hS hk hZ hown CR X13 e13 N O K ex hex E_na11 F_value_na11 F_coder_na11 V_nb11 E_na12 F_value_na12 F_coder_na12 V_nb12
    refine og_istore (pc' := 160) (L' := #[.val (.int p0), .val (.int p1), .val (.int p2), .val (.int p3), .val (.int kk), .val (.int l5), .val (.int mm), .val (.int l7), .val (.int x0), .val (.int x1), .val (.int x2), .val (.int y0), .val (.int y1), .val (.int y2), .val (.ref na11), .val (.ref na12), .val (.int ex)]) X13 hx rfl (hb hby at_158) rfl ?_
    refine og_new (pc' := 163) (cells' := 13) (slots' := 96) X13 hx hZ hown (ow16 hw) (ow17 hw) (ow18 hw) e13 (hb hby at_160) rfl rfl rfl (by decide) (by decide) (fun T14 h14 nb14 X14 e14 E14 q14 E_nb14 D14 B14 => ?_)
    have s_nb14 : h13.size ≤ nb14 := Nat.le_of_eq q14.symm; have g_nb14 : n0 ≤ nb14 := Nat.le_trans (own_n0 O) s_nb14; have sz_nb14 : h0.size ≤ nb14 := Nat.le_trans K.1 s_nb14; have ne_na11_nb14 : na11 ≠ nb14 := Nat.ne_of_lt (Nat.lt_of_lt_of_le E_na11.lt s_nb14); have ne_nb11_nb14 : nb11 ≠ nb14 := Nat.ne_of_lt (Nat.lt_of_lt_of_le V_nb11.lt s_nb14); have ne_na12_nb14 : na12 ≠ nb14 := Nat.ne_of_lt (Nat.lt_of_lt_of_le E_na12.lt s_nb14)
    have ne_nb12_nb14 : nb12 ≠ nb14 := Nat.ne_of_lt (Nat.lt_of_lt_of_le V_nb12.lt s_nb14); have Q_nb14 : Safe Z own_EL _ _ nb14 := Safe.new (Z := Z) (EL := own_EL) (vm := vm13) s_nb14
    have Q_nb14 := Safe.ext E14 CR.1 Q_nb14; have E_na11 := E_na11.ext E14; have F_value_na11 := F_value_na11.ext E14; have F_coder_na11 := F_coder_na11.ext E14; have V_nb11 := V_nb11.ext E14; have E_na12 := E_na12.ext E14
    have F_value_na12 := F_value_na12.ext E14; have F_coder_na12 := F_coder_na12.ext E14; have V_nb12 := V_nb12.ext E14; have O := O.ext E14; have K := K.ext E14; have hk := Nat.le_trans hk E14.1
    have CR := CR.trans (CHr.ext E14 CR.1)
    have F__attributes_nb14 : Fld Z h14 nb14 "com/example/marsh_tit/marshtit/stanza/Element" "_attributes" "Ljava/util/Map;" .null := D14 (Or.inr (ow52 hw)) (ty := (.object "java/util/Map")) (by decide)
    have F__children_nb14 : Fld Z h14 nb14 "com/example/marsh_tit/marshtit/stanza/Element" "_children" "Ljava/util/List;" .null := D14 (Or.inr (ow78 hw)) (ty := (.object "java/util/List")) (by decide)
    have F__namespace_nb14 : Fld Z h14 nb14 "com/example/marsh_tit/marshtit/stanza/Element" "_namespace" "Ljava/lang/String;" .null := D14 (Or.inr (ow87 hw)) (ty := (.object "java/lang/String")) (by decide)
    have F__name_nb14 : Fld Z h14 nb14 "com/example/marsh_tit/marshtit/stanza/Element" "_name" "Ljava/lang/String;" .null := D14 (Or.inr (ow90 hw)) (ty := (.object "java/lang/String")) (by decide)
    refine og_dup (pc' := 164) X14 hx rfl (hb hby at_163) rfl ?_
    refine og_aload (pc' := 166) X14 hx rfl rfl (hb hby at_164) rfl ?_
    refine og_aload (pc' := 168) X14 hx rfl rfl (hb hby at_166) rfl ?_
    refine og_specialW (pc' := 171) (cells' := 19) (slots' := 171) (W := 1) X14 hx hZ (rm_el l Z a0 hw nb14 na11 na12 de h14 n0 O hEL E_nb14 F__attributes_nb14 F__children_nb14 F__namespace_nb14 F__name_nb14 E_na11 E_na12 S_DE g_nb14 ne_na11_nb14 ne_na12_nb14) hEL hS hk CR.1 all0 rfl hown (ow19 hw) (ow20 hw) (ow18 hw) (ow21 hw) (by decide) (by rw [hml]; rfl) e14 opd_16 [(.ref na11), (.ref na12)] [(.ref nb14)] rfl rfl rfl rfl (by decide) (by decide) rfl rfl (by decide) (by decide) (hb hby at_168) rfl (fun v15 T15 h15 L15 kk15 X15 e15 hS hk hZ hown cr15 z15 => ?_)
    obtain ⟨rfl, Nq15, K15, F__namespace_nb14', F__name_nb14'⟩ := z15; have N := Fr.app N Nq15
    have Q_nb14 := cr15.safe E_nb14.lt Q_nb14; have E_na11 := E_na11.keep K15; have F_value_na11 := F_value_na11.keep K15 (ninS ne_na11_nb14 nin0); have F_coder_na11 := F_coder_na11.keep K15 (ninS ne_na11_nb14 nin0); have V_nb11 := V_nb11.keep K15 (ninS ne_nb11_nb14 nin0); have E_na12 := E_na12.keep K15
    have F_value_na12 := F_value_na12.keep K15 (ninS ne_na12_nb14 nin0); have F_coder_na12 := F_coder_na12.keep K15 (ninS ne_na12_nb14 nin0); have V_nb12 := V_nb12.keep K15 (ninS ne_nb12_nb14 nin0); have E_nb14 := E_nb14.keep K15; have O := O.keep K15 (allS g_nb14 all0); have K := K.trans K15 (allS (Or.inr sz_nb14) all0)
    have CR := CR.trans cr15
    have F__namespace_nb14 := F__namespace_nb14'; have F__name_nb14 := F__name_nb14'
    show OG p e below _ (T15.setTop (mkF m 171 #[.val (.int p0), .val (.int p1), .val (.int p2), .val (.int p3), .val (.int kk), .val (.int l5), .val (.int mm), .val (.int l7), .val (.int x0), .val (.int x1), .val (.int x2), .val (.int y0), .val (.int y1), .val (.int y2), .val (.ref na11), .val (.ref na12), .val (.int ex)] [(.ref nb14)]))
    refine og_staticW (pc' := 174) (cells' := 31) (slots' := 419) (W := 0) X15 hx hZ (rm_st l Z a0 hw nb14 na11 nb11 k11 (own_ns kk l5 y0 y1 y2) _ (own_ofn (own_nsl hkk hl5)) (own_pos (own_nsl hkk hl5)) na12 nb12 k12 (own_nm mm l7 x0 x1 x2) _ (own_ofn (own_nml hmm hl7)) (own_pos (own_nml hmm hl7)) ex (hex.trans (own_fin hkk hmm hl7 hl5 hx0 hx1 hx2 hy0 hy1 hy2)) cs hcs h15 n0 O hEL E_nb14 F__namespace_nb14 F__name_nb14 E_na11 F_value_na11 F_coder_na11 V_nb11 E_na12 F_value_na12 F_coder_na12 V_nb12 S_CS) hEL hS hk CR.1 all0 hown (ow91 hw) (ow92 hw) (ow93 hw) (ow94 hw) (by decide) (by rw [hml]; rfl) e15 opd_17 [(.ref nb14)] [] rfl rfl rfl rfl (by decide) (by decide) rfl rfl (by decide) (by decide) (hb hby at_171) rfl (fun v16 T16 h16 L16 kk16 X16 e16 hS hk hZ hown cr16 z16 => ?_)
    obtain ⟨rfl, Nq16⟩ := z16; have N := Fr.app N Nq16; have CR := CR.trans cr16
    show OG p e below _ (T16.setTop (mkF m 174 #[.val (.int p0), .val (.int p1), .val (.int p2), .val (.int p3), .val (.int kk), .val (.int l5), .val (.int mm), .val (.int l7), .val (.int x0), .val (.int x1), .val (.int x2), .val (.int y0), .val (.int y1), .val (.int y2), .val (.ref na11), .val (.ref na12), .val (.int ex)] [(.int ex)]))
    refine og_iload (pc' := 176) X16 hx rfl (hb hby at_174) rfl ?_
    refine og_icmp_ne (pc1 := 183) (pc2 := 179) X16 hx (hb hby at_176) (by decide) (by decide) rfl (fun q => absurd rfl q) (fun _ => ?_)
    refine og_iconst (pc' := 180) (v := (1 : Int32)) X16 hx rfl (hb hby at_179) rfl ?_
    refine og_goto (pc' := 184) X16 hx (hb hby at_180) (by decide) (by decide) ?_
    refine og_retNW X16 hx hZ hlk hEL hS e16 es hk CR hret (by simp) (hb hby at_184) (by decide) (by decide) ?_
    exact ⟨rfl, N⟩
  refine og_iload (pc' := 117) X12 hx rfl (hb hby at_115) rfl ?_
  refine og_if_ne (pc1 := 157) (pc2 := 120) X12 hx (hb hby at_117) (by decide) (by decide) rfl (fun hc117 => ?_) (fun hc117 => ?_)
  · -- pc 157
    refine og_iconst (pc' := 158) (v := (0 : Int32)) X12 hx rfl (hb hby at_157) rfl ?_
    exact J158 T12 _ _ T12.vm _ hS hk hZ hown CR (own_mono X12 (by decide) (by decide)) e12 N O K _ (by simp [own_ex, hc117]) E_na11 F_value_na11 F_coder_na11 V_nb11 E_na12 F_value_na12 F_coder_na12 V_nb12
  · -- pc 120
    subst hc117
    refine og_iload (pc' := 122) X12 hx rfl (hb hby at_120) rfl ?_
    refine og_iconst (pc' := 123) (v := (2 : Int32)) X12 hx rfl (hb hby at_122) rfl ?_
    refine og_icmp_le (pc1 := 153) (pc2 := 126) X12 hx (hb hby at_123) (by decide) (by decide) rfl (fun hc123 => ?_) (fun hc123 => ?_)
    · -- pc 153
      refine og_iconst (pc' := 154) (v := (1 : Int32)) X12 hx rfl (hb hby at_153) rfl ?_
      refine og_goto (pc' := 158) X12 hx (hb hby at_154) (by decide) (by decide) ?_
      exact J158 T12 _ _ T12.vm _ hS hk hZ hown CR (own_mono X12 (by decide) (by decide)) e12 N O K _ (by simp [own_ex, hc123]) E_na11 F_value_na11 F_coder_na11 V_nb11 E_na12 F_value_na12 F_coder_na12 V_nb12
    · -- pc 126
      refine og_iload (pc' := 128) X12 hx rfl (hb hby at_126) rfl ?_
      refine og_bipush (pc' := 130) (v := (7 : Int32)) X12 hx rfl (hb hby at_128) rfl ?_
      refine og_icmp_ne (pc1 := 157) (pc2 := 133) X12 hx (hb hby at_130) (by decide) (by decide) rfl (fun hc130 => ?_) (fun hc130 => ?_)
      · -- pc 157
        refine og_iconst (pc' := 158) (v := (0 : Int32)) X12 hx rfl (hb hby at_157) rfl ?_
        exact J158 T12 _ _ T12.vm _ hS hk hZ hown CR (own_mono X12 (by decide) (by decide)) e12 N O K _ (by simp [own_ex, hc123, hc130]) E_na11 F_value_na11 F_coder_na11 V_nb11 E_na12 F_value_na12 F_coder_na12 V_nb12
      · -- pc 133
        subst hc130
        refine og_iload (pc' := 135) X12 hx rfl (hb hby at_133) rfl ?_
        refine og_iconst (pc' := 136) (v := (2 : Int32)) X12 hx rfl (hb hby at_135) rfl ?_
        refine og_icmp_ne (pc1 := 157) (pc2 := 139) X12 hx (hb hby at_136) (by decide) (by decide) rfl (fun hc136 => ?_) (fun hc136 => ?_)
        · -- pc 157
          refine og_iconst (pc' := 158) (v := (0 : Int32)) X12 hx rfl (hb hby at_157) rfl ?_
          exact J158 T12 _ _ T12.vm _ hS hk hZ hown CR (own_mono X12 (by decide) (by decide)) e12 N O K _ (by simp [own_ex, hc123, hc136]) E_na11 F_value_na11 F_coder_na11 V_nb11 E_na12 F_value_na12 F_coder_na12 V_nb12
        · -- pc 139
          subst hc136
          refine og_iload (pc' := 141) X12 hx rfl (hb hby at_139) rfl ?_
          refine og_bipush (pc' := 143) (v := (105 : Int32)) X12 hx rfl (hb hby at_141) rfl ?_
          refine og_icmp_ne (pc1 := 157) (pc2 := 146) X12 hx (hb hby at_143) (by decide) (by decide) rfl (fun hc143 => ?_) (fun hc143 => ?_)
          · -- pc 157
            refine og_iconst (pc' := 158) (v := (0 : Int32)) X12 hx rfl (hb hby at_157) rfl ?_
            exact J158 T12 _ _ T12.vm _ hS hk hZ hown CR (own_mono X12 (by decide) (by decide)) e12 N O K _ (by simp [own_ex, hc123, hc143]) E_na11 F_value_na11 F_coder_na11 V_nb11 E_na12 F_value_na12 F_coder_na12 V_nb12
          · -- pc 146
            subst hc143
            refine og_iload (pc' := 148) X12 hx rfl (hb hby at_146) rfl ?_
            refine og_bipush (pc' := 150) (v := (113 : Int32)) X12 hx rfl (hb hby at_148) rfl ?_
            refine og_icmp_ne (pc1 := 157) (pc2 := 153) X12 hx (hb hby at_150) (by decide) (by decide) rfl (fun hc150 => ?_) (fun hc150 => ?_)
            · -- pc 157
              refine og_iconst (pc' := 158) (v := (0 : Int32)) X12 hx rfl (hb hby at_157) rfl ?_
              exact J158 T12 _ _ T12.vm _ hS hk hZ hown CR (own_mono X12 (by decide) (by decide)) e12 N O K _ (by simp [own_ex, hc123, hc150]) E_na11 F_value_na11 F_coder_na11 V_nb11 E_na12 F_value_na12 F_coder_na12 V_nb12
            · -- pc 153
              subst hc150
              refine og_iconst (pc' := 154) (v := (1 : Int32)) X12 hx rfl (hb hby at_153) rfl ?_
              refine og_goto (pc' := 158) X12 hx (hb hby at_154) (by decide) (by decide) ?_
              exact J158 T12 _ _ T12.vm _ hS hk hZ hown CR (own_mono X12 (by decide) (by decide)) e12 N O K _ (by simp [own_ex, hc123]) E_na11 F_value_na11 F_coder_na11 V_nb11 E_na12 F_value_na12 F_coder_na12 V_nb12
theorem comes_1 {Post : Tables → Env → Array Value → State → Outcome → State → Prop} (hpost : ∀ tb e args s v u, (limb_1_1.after args s (.returned v) u = true ∧ limb_1_2.after args s (.returned v) u = true ∧ True) → ReturnedEndW s (.returned v) u (Jvm.fieldLocs frame_1_writes args s ++ Jvm.arrayLocs frame_1_arrays args s ++ Jvm.staticLocs frame_1_statics s) 64 17664 → Post tb e args s (.returned v) u) :
    ArmFor flags0 classFile x code maxLocals ret World_1 tables_1 room_1 Calls_1 rest_1 Pre_1 Post := by
  intro l hfl _ _ p e ha hc hk s m args below hf hA hF happ hP
  obtain ⟨hcalls, hrest, hpre⟩ := hP
  obtain ⟨-, -, -, hnamed, -, -, -, hat⟩ := (Spec.applies_iff hf).mp happ
  obtain ⟨hg, hn⟩ := and_e (Cond.before_iff.mp (show (Jvm.Cond.and given_1 narrow_1).before args s = true from hpre))
  obtain ⟨g2, g3⟩ := and_e hg
  obtain ⟨g4, g5⟩ := and_e g3
  obtain ⟨g6, g7⟩ := and_e g5
  obtain ⟨g8, g9⟩ := and_e g7
  obtain ⟨w0, w1, w2, w3, rfl⟩ : ∃ w0 w1 w2 w3 : Value, args = #[w0, w1, w2, w3] := by
    have hs : args.size = 4 := by simpa [Cond.value, given_1] using g2
    obtain ⟨L⟩ := args
    match L, hs with
    | [w0, w1, w2, w3], _ => exact ⟨w0, w1, w2, w3, rfl⟩
  have hw := fun d (hd : d ∈ tables_1) => atoms_spec (ws := Jvm.Cond.code x code maxLocals ret :: tables_1) hat d (List.mem_cons_of_mem _ hd)
  have hfit : Fit s := fun {y c} hc i hi => by
    obtain ⟨ha, rfl⟩ := Array.getElem?_eq_some_iff.mp hc
    have q := List.all_eq_true.mp ((Array.all_eq_true_iff_forall_mem.mp hF) _ (Array.getElem_mem ha)) i (List.mem_range.mpr hi)
    simpa [Array.getElem?_eq_getElem hi] using q
  obtain ⟨hsets, hown0⟩ := atoms_of _ (rest_1_c_eq ▸ (show rest_1_c.before _ s = true from hrest))
  obtain ⟨i0, ei0⟩ := is_v g4
  obtain rfl : w0 = (.int i0) := Option.some.inj ei0
  obtain ⟨i1, ei1⟩ := is_v g6
  obtain rfl : w1 = (.int i1) := Option.some.inj ei1
  obtain ⟨i2, ei2⟩ := is_v g8
  obtain rfl : w2 = (.int i2) := Option.some.inj ei2
  obtain ⟨i3, ei3⟩ := is_v g9
  obtain rfl : w3 = (.int i3) := Option.some.inj ei3
  obtain ⟨cs, ecs⟩ := is_v (Cond.before_iff.mp (hsets _ (List.mem_of_getElem? (i := 10) rfl)))
  have S_CS := Sta.start ecs (Or.inl (hsets _ (List.mem_of_getElem? (i := 9) rfl)))
  have hcs : ¬ cs = 0 := own_ne0 ecs (Cond.before_iff.mp (hsets _ (List.mem_of_getElem? (i := 11) rfl)))
  obtain ⟨de, ede⟩ := exa_v (Cond.before_iff.mp (hsets _ (List.mem_of_getElem? (i := 7) rfl)))
  have S_DE := Sta.start ede (Or.inr ⟨(ow55 hw), (hsets _ (List.mem_of_getElem? (i := 2) rfl))⟩)
  obtain ⟨n, o, h1, h2, h3, _, L, rfl, ⟨rfl, N⟩, -, hq⟩ := rm0 l s _ hw tables_1 i0 i1 i2 i3 de cs hcs s.heap s.heap.size (Old.start s) (own_hEL hw) S_CS S_DE p e ha hc hk s m _ below hf ((Spec.applies_iff_loose hf).mp happ).1 ⟨rfl, State.Warmed39.refl s, rfl, (CHv.start (own_hEL hw) (fun p hp => own_held hcalls.1 p hp) (hsets _ (List.mem_of_getElem? (i := 11) rfl)) (ow7 hw) (ow6 hw)), all0⟩ trivial
  refine ⟨n, _, h1, h2, h3, hpost _ _ _ _ _ _ ⟨Cond.after_iff.mpr rfl, Cond.after_iff.mpr (eq_i res_at (Term.int_eval (1)) rfl), trivial⟩ ⟨hq.1, hq.2.1, hq.2.2.1, (hq.2.2.2.sift fun y hy => Or.inr (N y hy)).mono (by decide) (by decide)⟩⟩
theorem main_1_1 : Claimed_1_1 := comes_1 fun _ _ _ _ _ _ h hF => ⟨h.1, hF⟩
theorem main_1_2 : Claimed_1_2 := comes_1 fun _ _ _ _ _ _ h hF => ⟨h.2.1, hF⟩
end Jvm.Pilot.@@N@@
namespace Jvm.Pilot.@@N@@
open Jvm Jvm.ClassFile Sem Op Lib Jvm.Free Jvm.Stand Jvm.Pilot.@@N@@.Jvm.D
/-! MADE BY PROGRAM (witnessworld.py) out of the Statement's table words and the real class files: 36 classes; the members and pool entries that the words name. The judged class is class 1, her method 1. -/
namespace start1
open Jvm.ClassFile
def u (s : String) : CpInfo := .utf8 (stringToUtf16 s)
/-- a pool by its gaps: so many unusable entries, then the entry; so many at the end -/
def gap : Nat → List CpInfo → List CpInfo
  | 0, r => r
  | n + 1, r => .unusable :: gap n r
def poolList (es : List (Nat × CpInfo)) (last : Nat) : List CpInfo := es.foldr (fun e r => gap e.1 (e.2 :: r)) (gap last [])
def pool (es : List (Nat × CpInfo)) (last : Nat) : Array CpInfo := ⟨poolList es last⟩
def fileOf (pool : Array CpInfo) (this : Nat) (attrs : Array Attribute := #[]) (ms : Array MethodInfo := #[]) (fl : Nat := 33) (sup : Nat := 0) (ifs : Array Nat := #[]) (fds : Array FieldInfo := #[]) : ClassFile where
  minorVersion := 0
  majorVersion := 65
  constantPool := pool
  accessFlags := fl
  thisClass := this
  superClass := sup
  interfaces := ifs
  fields := fds
  methods := ms
  attributes := attrs
def plain (name : String) (sup : Option ClassId) : Class where
  name := name
  kind := .ordinary
  loader := none
  accessFlags := 33
  super := sup
  interfaces := #[]
  cf := none
  fields := #[]
  methods := #[]
  instanceTypes := #[]
  staticTypes := #[]
  resolved := #[]
  callSites := []
  init := .initialized
  statics := none
  mirror := none

def pool0 : Array CpInfo := pool [(5, u "<init>"), (0, u "()V"), (1, .class_ 10), (1, u "java/lang/Object")] 113

def k0c0 : Code := { maxStack := 0, maxLocals := 1, code := object_method_1_code, exceptionTable := #[], attributes := #[] }
def k0m0 : Method := { name := "<init>", desc := "()V", sig := { parameters := [], returnType := none }, accessFlags := 1, code := some k0c0 }
/-- java/lang/Object -/
def k0 : Class := { plain "java/lang/Object" none with
  accessFlags := 33
  interfaces := #[]
  cf := some (fileOf pool0 8 #[] #[{ accessFlags := 1, nameIndex := 5, descriptorIndex := 6, attributes := #[] }] 33 0 #[] #[])
  fields := #[]
  methods := #[k0m0]
  instanceTypes := #[]
  staticTypes := #[]
  resolved := Array.replicate 124 none
  statics := none }

def pool1 : Array CpInfo := pool [(2, .class_ 4), (1, u "java/lang/Object"), (0, u "<init>"), (0, u "()V"), (0, .methodref 8 9), (0, .class_ 10), (0, .nameAndType 11 12), (0, u "com/example/marsh_tit/marshtit/stanza/StanzasIsStanzaPinLaw"), (0, u "nsFor"), (0, u "(IICCC)Ljava/lang/String;"), (0, .methodref 8 14), (0, .nameAndType 15 12), (0, u "nameFor"), (0, .class_ 17), (0, u "com/example/marsh_tit/marshtit/stanza/Element"), (0, .methodref 16 19), (0, .nameAndType 5 20), (0, u "(Ljava/lang/String;Ljava/lang/String;)V"), (0, .methodref 22 23), (0, .class_ 24), (0, .nameAndType 25 26), (0, u "com/example/marsh_tit/marshtit/stanza/Stanzas"), (0, u "isStanza"), (0, u "(Lcom/example/marsh_tit/marshtit/stanza/Element;)Z"), (0, .string 28), (0, u "jabber:client"), (0, .string 30), (0, u "jabber:server"), (0, .string 32), (0, u "jabber:clienT"), (0, .methodref 8 34), (0, .nameAndType 35 36), (0, u "drawn"), (0, u "(ICCC)Ljava/lang/String;"), (0, .string 38), (0, u "message"), (0, .string 40), (0, u "presence"), (0, .string 42), (0, u "iq"), (0, .string 44), (0, u "Message"), (0, .string 46), (0, u "messages"), (0, .string 48), (0, u "presenc"), (0, .string 50), (0, u "iQ"), (0, .class_ 52), (0, u "java/lang/String"), (0, .methodref 51 54), (0, .nameAndType 5 55), (0, u "([C)V"), (0, .methodref 51 57), (0, .nameAndType 58 59), (0, u "valueOf"), (0, u "(C)Ljava/lang/String;"), (2, u "law"), (0, u "(IIII)Z")] 3

def k1m0 : Method := { name := "<init>", desc := "()V", sig := { parameters := [], returnType := none }, accessFlags := 1, code := none }
def k1c1 : Code := { maxStack := 5, maxLocals := 17, code := code, exceptionTable := #[], attributes := #[] }
def k1m1 : Method := { name := "law", desc := "(IIII)Z", sig := { parameters := [.int, .int, .int, .int], returnType := some .boolean }, accessFlags := 9, code := some k1c1 }
def k1c2 : Code := { maxStack := 4, maxLocals := 5, code := method_3_code, exceptionTable := #[], attributes := #[] }
def k1m2 : Method := { name := "nsFor", desc := "(IICCC)Ljava/lang/String;", sig := { parameters := [.int, .int, .char, .char, .char], returnType := some (.object "java/lang/String") }, accessFlags := 10, code := some k1c2 }
def k1c3 : Code := { maxStack := 4, maxLocals := 5, code := method_4_code, exceptionTable := #[], attributes := #[] }
def k1m3 : Method := { name := "nameFor", desc := "(IICCC)Ljava/lang/String;", sig := { parameters := [.int, .int, .char, .char, .char], returnType := some (.object "java/lang/String") }, accessFlags := 10, code := some k1c3 }
def k1c4 : Code := { maxStack := 6, maxLocals := 4, code := method_5_code, exceptionTable := #[], attributes := #[] }
def k1m4 : Method := { name := "drawn", desc := "(ICCC)Ljava/lang/String;", sig := { parameters := [.int, .char, .char, .char], returnType := some (.object "java/lang/String") }, accessFlags := 10, code := some k1c4 }
/-- com/example/marsh_tit/marshtit/stanza/StanzasIsStanzaPinLaw -/
def k1 : Class := { plain "com/example/marsh_tit/marshtit/stanza/StanzasIsStanzaPinLaw" (some 0) with
  accessFlags := 49
  interfaces := #[]
  cf := some (fileOf pool1 8 #[] #[{ accessFlags := 1, nameIndex := 5, descriptorIndex := 6, attributes := #[] }, { accessFlags := 9, nameIndex := 62, descriptorIndex := 63, attributes := #[] }, { accessFlags := 10, nameIndex := 11, descriptorIndex := 12, attributes := #[] }, { accessFlags := 10, nameIndex := 15, descriptorIndex := 12, attributes := #[] }, { accessFlags := 10, nameIndex := 35, descriptorIndex := 36, attributes := #[] }] 49 2 #[] #[])
  fields := #[]
  methods := #[k1m0, k1m1, k1m2, k1m3, k1m4]
  instanceTypes := #[]
  staticTypes := #[]
  resolved := Array.replicate 67 none
  statics := none }

def pool2 : Array CpInfo := pool [(1, .class_ 2), (0, u "java/io/Serializable"), (0, .class_ 4), (0, u "java/lang/Object")] 2

/-- java/io/Serializable -/
def k2 : Class := { plain "java/io/Serializable" (some 0) with
  accessFlags := 1537
  interfaces := #[]
  cf := some (fileOf pool2 1 #[] #[] 1537 3 #[] #[])
  fields := #[]
  methods := #[]
  instanceTypes := #[]
  staticTypes := #[]
  resolved := Array.replicate 7 none
  statics := none }

def pool3 : Array CpInfo := pool [(1, .class_ 2), (0, u "java/lang/Comparable"), (0, .class_ 4), (0, u "java/lang/Object")] 7

/-- java/lang/Comparable -/
def k3 : Class := { plain "java/lang/Comparable" (some 0) with
  accessFlags := 1537
  interfaces := #[]
  cf := some (fileOf pool3 1 #[] #[] 1537 3 #[] #[])
  fields := #[]
  methods := #[]
  instanceTypes := #[]
  staticTypes := #[]
  resolved := Array.replicate 12 none
  statics := none }

def pool4 : Array CpInfo := pool [(2, .class_ 4), (1, u "java/lang/CharSequence"), (42, .class_ 48), (0, u "java/lang/CharSequence$1CodePointIterator"), (10, .class_ 60), (0, u "java/lang/CharSequence$1CharIterator"), (5, .class_ 67), (0, u "java/lang/Object")] 63

/-- java/lang/CharSequence -/
def k4 : Class := { plain "java/lang/CharSequence" (some 0) with
  accessFlags := 1537
  interfaces := #[]
  cf := some (fileOf pool4 2 #[.nestMembers #[47, 59]] #[] 1537 66 #[] #[])
  fields := #[]
  methods := #[]
  instanceTypes := #[]
  staticTypes := #[]
  resolved := Array.replicate 131 none
  statics := none }

def pool5 : Array CpInfo := pool [(1, .class_ 2), (0, u "java/lang/constant/Constable"), (0, .class_ 4), (0, u "java/lang/Object")] 6

/-- java/lang/constant/Constable -/
def k5 : Class := { plain "java/lang/constant/Constable" (some 0) with
  accessFlags := 1537
  interfaces := #[]
  cf := some (fileOf pool5 1 #[] #[] 1537 3 #[] #[])
  fields := #[]
  methods := #[]
  instanceTypes := #[]
  staticTypes := #[]
  resolved := Array.replicate 11 none
  statics := none }

def pool6 : Array CpInfo := pool [(1, .class_ 2), (0, u "java/lang/constant/ConstantDesc"), (0, .class_ 4), (0, u "java/lang/Object")] 32

/-- java/lang/constant/ConstantDesc -/
def k6 : Class := { plain "java/lang/constant/ConstantDesc" (some 0) with
  accessFlags := 1537
  interfaces := #[]
  cf := some (fileOf pool6 1 #[] #[] 1537 3 #[] #[])
  fields := #[]
  methods := #[]
  instanceTypes := #[]
  staticTypes := #[]
  resolved := Array.replicate 37 none
  statics := none }

def pool7 : Array CpInfo := pool [(1, .methodref 2 3), (0, .class_ 4), (0, .nameAndType 5 6), (0, u "java/lang/Object"), (0, u "<init>"), (0, u "()V"), (0, .string 8), (0, u ""), (0, .fieldref 10 11), (0, .class_ 12), (0, .nameAndType 13 14), (0, u "java/lang/String"), (0, u "value"), (0, u "[B"), (0, .fieldref 10 16), (0, .nameAndType 17 18), (0, u "coder"), (0, u "B"), (2, u "hash"), (0, u "I"), (2, u "hashIsZero"), (0, u "Z"), (0, .methodref 10 28), (0, .nameAndType 5 29), (0, u "([CIILjava/lang/Void;)V"), (8, .fieldref 10 39), (0, .nameAndType 40 26), (0, u "COMPACT_STRINGS"), (1, .class_ 44), (1, u "java/lang/StringUTF16"), (0, u "compress"), (1, .methodref 42 48), (0, .nameAndType 49 50), (0, u "coderFromArrayLen"), (0, u "([BI)B"), (2, u "toBytes"), (53, .class_ 109), (1, u "java/lang/StringLatin1"), (67, .methodref 42 178), (0, .nameAndType 45 179), (0, u "([CII)[B"), (29, .methodref 10 210), (0, .nameAndType 5 211), (0, u "([BB)V"), (157, u "(C)Z"), (171, .methodref 107 542), (0, .nameAndType 543 544), (0, u "equals"), (0, u "([B[B)Z"), (28, u "(Ljava/lang/Object;)Z"), (1, .class_ 576), (0, u "java/lang/CharSequence"), (22, u "CASE_INSENSITIVE_ORDER"), (0, u "Ljava/util/Comparator;"), (181, u "valueOf"), (0, u "(C)Ljava/lang/String;"), (226, u "([C)V"), (4, .methodref 107 1016), (0, .nameAndType 1017 369), (0, u "canEncode"), (0, .methodref 107 1019), (0, .nameAndType 53 1020), (0, u "(C)[B"), (80, u "serialPersistentFields"), (0, u "[Ljava/io/ObjectStreamField;"), (0, .class_ 1104), (0, u "java/lang/String$CaseInsensitiveComparator"), (1, .class_ 1107), (0, u "java/io/Serializable"), (0, .class_ 1109), (0, u "java/lang/Comparable"), (0, .class_ 1111), (0, u "java/lang/constant/Constable"), (0, .class_ 1113), (0, u "java/lang/constant/ConstantDesc"), (2, u "serialVersionUID"), (0, u "J"), (3, u "REPL"), (0, u "C"), (2, u "LATIN1"), (1, u "UTF16")] 323

def k7m0 : Method := { name := "<init>", desc := "()V", sig := { parameters := [], returnType := none }, accessFlags := 1, code := none }
def k7c1 : Code := { maxStack := 5, maxLocals := 2, code := jdk_42_method_3_code, exceptionTable := #[], attributes := #[] }
def k7m1 : Method := { name := "<init>", desc := "([C)V", sig := { parameters := [(.array .char)], returnType := none }, accessFlags := 1, code := some k7c1 }
def k7c2 : Code := { maxStack := 2, maxLocals := 3, code := jdk_42_method_66_code, exceptionTable := #[], attributes := #[] }
def k7m2 : Method := { name := "equals", desc := "(Ljava/lang/Object;)Z", sig := { parameters := [(.object "java/lang/Object")], returnType := some .boolean }, accessFlags := 1, code := some k7c2 }
def k7c3 : Code := { maxStack := 4, maxLocals := 1, code := jdk_42_method_139_code, exceptionTable := #[], attributes := #[] }
def k7m3 : Method := { name := "valueOf", desc := "(C)Ljava/lang/String;", sig := { parameters := [.char], returnType := some (.object "java/lang/String") }, accessFlags := 9, code := some k7c3 }
def k7c4 : Code := { maxStack := 4, maxLocals := 6, code := jdk_42_method_149_code, exceptionTable := #[], attributes := #[] }
def k7m4 : Method := { name := "<init>", desc := "([CIILjava/lang/Void;)V", sig := { parameters := [(.array .char), .int, .int, (.object "java/lang/Void")], returnType := none }, accessFlags := 2, code := some k7c4 }
def k7c5 : Code := { maxStack := 2, maxLocals := 3, code := jdk_42_method_151_code, exceptionTable := #[], attributes := #[] }
def k7m5 : Method := { name := "<init>", desc := "([BB)V", sig := { parameters := [(.array .byte), .byte], returnType := none }, accessFlags := 0, code := some k7c5 }
/-- java/lang/String -/
def k7 : Class := { plain "java/lang/String" (some 0) with
  accessFlags := 49
  interfaces := #[2, 3, 4, 5, 6]
  cf := some (fileOf pool7 10 #[.nestMembers #[1103]] #[{ accessFlags := 1, nameIndex := 5, descriptorIndex := 6, attributes := #[] }, { accessFlags := 1, nameIndex := 5, descriptorIndex := 1010, attributes := #[] }, { accessFlags := 1, nameIndex := 543, descriptorIndex := 573, attributes := #[] }, { accessFlags := 9, nameIndex := 782, descriptorIndex := 783, attributes := #[] }, { accessFlags := 2, nameIndex := 5, descriptorIndex := 29, attributes := #[] }, { accessFlags := 0, nameIndex := 5, descriptorIndex := 211, attributes := #[] }] 49 2 #[1106, 1108, 575, 1110, 1112] #[{ accessFlags := 18, nameIndex := 13, descriptorIndex := 14, attributes := #[] }, { accessFlags := 18, nameIndex := 17, descriptorIndex := 18, attributes := #[] }, { accessFlags := 2, nameIndex := 21, descriptorIndex := 22, attributes := #[] }, { accessFlags := 2, nameIndex := 25, descriptorIndex := 26, attributes := #[] }, { accessFlags := 26, nameIndex := 1116, descriptorIndex := 1117, attributes := #[] }, { accessFlags := 24, nameIndex := 40, descriptorIndex := 26, attributes := #[] }, { accessFlags := 26, nameIndex := 1101, descriptorIndex := 1102, attributes := #[] }, { accessFlags := 26, nameIndex := 1121, descriptorIndex := 1122, attributes := #[] }, { accessFlags := 25, nameIndex := 599, descriptorIndex := 600, attributes := #[] }, { accessFlags := 24, nameIndex := 1125, descriptorIndex := 18, attributes := #[] }, { accessFlags := 24, nameIndex := 1127, descriptorIndex := 18, attributes := #[] }])
  fields := #[{ name := "value", type := (.array .byte), accessFlags := 18, slot := 0, constantValue := 0 }, { name := "coder", type := .byte, accessFlags := 18, slot := 1, constantValue := 0 }, { name := "hash", type := .int, accessFlags := 2, slot := 2, constantValue := 0 }, { name := "hashIsZero", type := .boolean, accessFlags := 2, slot := 3, constantValue := 0 }, { name := "serialVersionUID", type := .long, accessFlags := 26, slot := 0, constantValue := 0 }, { name := "COMPACT_STRINGS", type := .boolean, accessFlags := 24, slot := 1, constantValue := 0 }, { name := "serialPersistentFields", type := (.array (.object "java/io/ObjectStreamField")), accessFlags := 26, slot := 2, constantValue := 0 }, { name := "REPL", type := .char, accessFlags := 26, slot := 3, constantValue := 0 }, { name := "CASE_INSENSITIVE_ORDER", type := (.object "java/util/Comparator"), accessFlags := 25, slot := 4, constantValue := 0 }, { name := "LATIN1", type := .byte, accessFlags := 24, slot := 5, constantValue := 0 }, { name := "UTF16", type := .byte, accessFlags := 24, slot := 6, constantValue := 0 }]
  methods := #[k7m0, k7m1, k7m2, k7m3, k7m4, k7m5]
  instanceTypes := #[(.array .byte), .byte, .int, .boolean]
  staticTypes := #[.long, .boolean, (.array (.object "java/io/ObjectStreamField")), .char, (.object "java/util/Comparator"), .byte, .byte]
  resolved := Array.replicate 1451 none
  statics := some 0 }

def pool8 : Array CpInfo := pool [(1, .methodref 2 3), (0, .class_ 4), (0, .nameAndType 5 6), (0, u "java/lang/Object"), (0, u "<init>"), (0, u "()V"), (0, .class_ 8), (0, u "java/util/LinkedHashMap"), (0, .methodref 7 3), (0, .fieldref 11 12), (0, .class_ 13), (0, .nameAndType 14 15), (0, u "com/example/marsh_tit/marshtit/stanza/Element"), (0, u "_attributes"), (0, u "Ljava/util/Map;"), (0, .class_ 17), (0, u "java/util/ArrayList"), (0, .methodref 16 3), (0, .fieldref 11 20), (0, .nameAndType 21 22), (0, u "_children"), (0, u "Ljava/util/List;"), (0, .string 24), (0, u "namespace"), (0, .methodref 26 27), (0, .class_ 28), (0, .nameAndType 29 30), (0, u "java/util/Objects"), (0, u "requireNonNull"), (0, u "(Ljava/lang/Object;Ljava/lang/String;)Ljava/lang/Object;"), (0, .class_ 32), (0, u "java/lang/String"), (0, .fieldref 11 34), (0, .nameAndType 35 36), (0, u "_namespace"), (0, u "Ljava/lang/String;"), (0, .string 38), (0, u "name"), (0, .fieldref 11 40), (0, .nameAndType 41 36), (0, u "_name"), (0, .methodref 31 43), (0, .nameAndType 44 45), (0, u "equals"), (0, u "(Ljava/lang/Object;)Z"), (24, u "(Ljava/lang/String;Ljava/lang/String;)V"), (70, u "is"), (0, u "(Ljava/lang/String;Ljava/lang/String;)Z")] 149

def k8c0 : Code := { maxStack := 3, maxLocals := 3, code := prog_19_method_1_code, exceptionTable := #[], attributes := #[] }
def k8m0 : Method := { name := "<init>", desc := "(Ljava/lang/String;Ljava/lang/String;)V", sig := { parameters := [(.object "java/lang/String"), (.object "java/lang/String")], returnType := none }, accessFlags := 1, code := some k8c0 }
def k8c1 : Code := { maxStack := 2, maxLocals := 3, code := prog_19_method_4_code, exceptionTable := #[], attributes := #[] }
def k8m1 : Method := { name := "is", desc := "(Ljava/lang/String;Ljava/lang/String;)Z", sig := { parameters := [(.object "java/lang/String"), (.object "java/lang/String")], returnType := some .boolean }, accessFlags := 1, code := some k8c1 }
/-- com/example/marsh_tit/marshtit/stanza/Element -/
def k8 : Class := { plain "com/example/marsh_tit/marshtit/stanza/Element" (some 0) with
  accessFlags := 49
  interfaces := #[]
  cf := some (fileOf pool8 11 #[] #[{ accessFlags := 1, nameIndex := 5, descriptorIndex := 70, attributes := #[] }, { accessFlags := 1, nameIndex := 141, descriptorIndex := 142, attributes := #[] }] 49 2 #[] #[{ accessFlags := 18, nameIndex := 35, descriptorIndex := 36, attributes := #[] }, { accessFlags := 18, nameIndex := 41, descriptorIndex := 36, attributes := #[] }, { accessFlags := 18, nameIndex := 14, descriptorIndex := 15, attributes := #[] }, { accessFlags := 18, nameIndex := 21, descriptorIndex := 22, attributes := #[] }])
  fields := #[{ name := "_namespace", type := (.object "java/lang/String"), accessFlags := 18, slot := 0, constantValue := 0 }, { name := "_name", type := (.object "java/lang/String"), accessFlags := 18, slot := 1, constantValue := 0 }, { name := "_attributes", type := (.object "java/util/Map"), accessFlags := 18, slot := 2, constantValue := 0 }, { name := "_children", type := (.object "java/util/List"), accessFlags := 18, slot := 3, constantValue := 0 }]
  methods := #[k8m0, k8m1]
  instanceTypes := #[(.object "java/lang/String"), (.object "java/lang/String"), (.object "java/util/Map"), (.object "java/util/List")]
  staticTypes := #[]
  resolved := Array.replicate 292 none
  statics := none }

def pool9 : Array CpInfo := pool [(2, .class_ 4), (1, u "java/util/Map"), (31, .class_ 37), (0, u "java/util/Map$Entry"), (55, .class_ 94), (0, u "java/lang/Object")] 168

/-- java/util/Map -/
def k9 : Class := { plain "java/util/Map" (some 0) with
  accessFlags := 1537
  interfaces := #[]
  cf := some (fileOf pool9 2 #[.nestMembers #[36]] #[] 1537 93 #[] #[])
  fields := #[]
  methods := #[]
  instanceTypes := #[]
  staticTypes := #[]
  resolved := Array.replicate 263 none
  statics := none }

def pool10 : Array CpInfo := pool [(1, .methodref 2 3), (0, .class_ 4), (0, .nameAndType 5 6), (0, u "java/lang/Object"), (0, u "<init>"), (0, u "()V"), (1, .class_ 10), (1, u "java/util/AbstractMap"), (42, .class_ 54), (0, u "java/util/Map"), (9, u "keySet"), (0, u "Ljava/util/Set;"), (0, .class_ 67), (0, u "java/util/AbstractMap$1"), (5, u "values"), (0, u "Ljava/util/Collection;"), (0, .class_ 76), (0, u "java/util/AbstractMap$2"), (104, .class_ 182), (0, u "java/util/AbstractMap$ViewCollection"), (0, .class_ 184), (0, u "java/util/AbstractMap$SimpleImmutableEntry"), (0, .class_ 186), (0, u "java/util/AbstractMap$SimpleEntry"), (0, .class_ 188), (0, u "java/util/AbstractMap$2$1"), (0, .class_ 190), (0, u "java/util/AbstractMap$1$1")] 5

def k10c0 : Code := { maxStack := 1, maxLocals := 1, code := jdk_71_method_1_code, exceptionTable := #[], attributes := #[] }
def k10m0 : Method := { name := "<init>", desc := "()V", sig := { parameters := [], returnType := none }, accessFlags := 4, code := some k10c0 }
/-- java/util/AbstractMap -/
def k10 : Class := { plain "java/util/AbstractMap" (some 0) with
  accessFlags := 1057
  interfaces := #[9]
  cf := some (fileOf pool10 8 #[.nestMembers #[181, 183, 185, 75, 187, 66, 189]] #[{ accessFlags := 4, nameIndex := 5, descriptorIndex := 6, attributes := #[] }] 1057 2 #[53] #[{ accessFlags := 128, nameIndex := 64, descriptorIndex := 65, attributes := #[] }, { accessFlags := 128, nameIndex := 73, descriptorIndex := 74, attributes := #[] }])
  fields := #[{ name := "keySet", type := (.object "java/util/Set"), accessFlags := 128, slot := 0, constantValue := 0 }, { name := "values", type := (.object "java/util/Collection"), accessFlags := 128, slot := 1, constantValue := 0 }]
  methods := #[k10m0]
  instanceTypes := #[(.object "java/util/Set"), (.object "java/util/Collection")]
  staticTypes := #[]
  resolved := Array.replicate 196 none
  statics := none }

def pool11 : Array CpInfo := pool [(1, .class_ 2), (0, u "java/lang/Cloneable"), (0, .class_ 4), (0, u "java/lang/Object")] 2

/-- java/lang/Cloneable -/
def k11 : Class := { plain "java/lang/Cloneable" (some 0) with
  accessFlags := 1537
  interfaces := #[]
  cf := some (fileOf pool11 1 #[] #[] 1537 3 #[] #[])
  fields := #[]
  methods := #[]
  instanceTypes := #[]
  staticTypes := #[]
  resolved := Array.replicate 7 none
  statics := none }

def pool12 : Array CpInfo := pool [(40, .class_ 41), (0, u "java/util/HashMap"), (1, .methodref 44 45), (0, .class_ 46), (0, .nameAndType 47 48), (0, u "java/util/AbstractMap"), (0, u "<init>"), (0, u "()V"), (32, .fieldref 40 82), (0, .nameAndType 83 84), (0, u "loadFactor"), (0, u "F"), (5, u "threshold"), (0, u "I"), (0, .float 1061158912), (8, .class_ 103), (1, u "java/util/Map"), (0, u "size"), (2, u "table"), (0, u "[Ljava/util/HashMap$Node;"), (14, u "entrySet"), (39, .class_ 165), (1, u "java/util/HashMap$Node"), (14, .class_ 181), (0, u "java/util/HashMap$TreeNode"), (22, u "modCount"), (37, u "Ljava/util/Set;"), (0, .class_ 244), (0, u "java/util/HashMap$KeySet"), (18, .class_ 264), (0, u "java/util/HashMap$Values"), (3, .class_ 269), (0, u "java/util/HashMap$EntrySet"), (76, .class_ 348), (1, u "java/util/HashMap$UnsafeHolder"), (43, .class_ 393), (0, u "java/lang/Cloneable"), (0, .class_ 395), (0, u "java/io/Serializable"), (0, u "serialVersionUID"), (0, u "J"), (3, u "DEFAULT_INITIAL_CAPACITY"), (1, u "MAXIMUM_CAPACITY"), (0, u "DEFAULT_LOAD_FACTOR"), (0, u "TREEIFY_THRESHOLD"), (1, u "UNTREEIFY_THRESHOLD"), (1, u "MIN_TREEIFY_CAPACITY"), (186, .class_ 597), (0, u "java/util/HashMap$EntrySpliterator"), (0, .class_ 599), (0, u "java/util/HashMap$ValueSpliterator"), (0, .class_ 601), (0, u "java/util/HashMap$KeySpliterator"), (0, .class_ 603), (0, u "java/util/HashMap$HashMapSpliterator"), (0, .class_ 605), (0, u "java/util/HashMap$EntryIterator"), (0, .class_ 607), (0, u "java/util/HashMap$ValueIterator"), (0, .class_ 609), (0, u "java/util/HashMap$KeyIterator"), (0, .class_ 611), (0, u "java/util/HashMap$HashIterator")] 17

def k12c0 : Code := { maxStack := 2, maxLocals := 1, code := jdk_69_method_7_code, exceptionTable := #[], attributes := #[] }
def k12m0 : Method := { name := "<init>", desc := "()V", sig := { parameters := [], returnType := none }, accessFlags := 1, code := some k12c0 }
/-- java/util/HashMap -/
def k12 : Class := { plain "java/util/HashMap" (some 10) with
  accessFlags := 33
  interfaces := #[9, 11, 2]
  cf := some (fileOf pool12 40 #[.nestMembers #[180, 596, 598, 600, 602, 604, 606, 608, 610, 346, 268, 263, 243, 163]] #[{ accessFlags := 1, nameIndex := 47, descriptorIndex := 48, attributes := #[] }] 33 44 #[101, 392, 394] #[{ accessFlags := 26, nameIndex := 396, descriptorIndex := 397, attributes := #[] }, { accessFlags := 24, nameIndex := 401, descriptorIndex := 91, attributes := #[] }, { accessFlags := 24, nameIndex := 403, descriptorIndex := 91, attributes := #[] }, { accessFlags := 24, nameIndex := 404, descriptorIndex := 84, attributes := #[] }, { accessFlags := 24, nameIndex := 405, descriptorIndex := 91, attributes := #[] }, { accessFlags := 24, nameIndex := 407, descriptorIndex := 91, attributes := #[] }, { accessFlags := 24, nameIndex := 409, descriptorIndex := 91, attributes := #[] }, { accessFlags := 128, nameIndex := 107, descriptorIndex := 108, attributes := #[] }, { accessFlags := 128, nameIndex := 123, descriptorIndex := 242, attributes := #[] }, { accessFlags := 128, nameIndex := 104, descriptorIndex := 91, attributes := #[] }, { accessFlags := 128, nameIndex := 204, descriptorIndex := 91, attributes := #[] }, { accessFlags := 0, nameIndex := 90, descriptorIndex := 91, attributes := #[] }, { accessFlags := 16, nameIndex := 83, descriptorIndex := 84, attributes := #[] }])
  fields := #[{ name := "serialVersionUID", type := .long, accessFlags := 26, slot := 0, constantValue := 0 }, { name := "DEFAULT_INITIAL_CAPACITY", type := .int, accessFlags := 24, slot := 1, constantValue := 0 }, { name := "MAXIMUM_CAPACITY", type := .int, accessFlags := 24, slot := 2, constantValue := 0 }, { name := "DEFAULT_LOAD_FACTOR", type := .float, accessFlags := 24, slot := 3, constantValue := 0 }, { name := "TREEIFY_THRESHOLD", type := .int, accessFlags := 24, slot := 4, constantValue := 0 }, { name := "UNTREEIFY_THRESHOLD", type := .int, accessFlags := 24, slot := 5, constantValue := 0 }, { name := "MIN_TREEIFY_CAPACITY", type := .int, accessFlags := 24, slot := 6, constantValue := 0 }, { name := "table", type := (.array (.object "java/util/HashMap$Node")), accessFlags := 128, slot := 2, constantValue := 0 }, { name := "entrySet", type := (.object "java/util/Set"), accessFlags := 128, slot := 3, constantValue := 0 }, { name := "size", type := .int, accessFlags := 128, slot := 4, constantValue := 0 }, { name := "modCount", type := .int, accessFlags := 128, slot := 5, constantValue := 0 }, { name := "threshold", type := .int, accessFlags := 0, slot := 6, constantValue := 0 }, { name := "loadFactor", type := .float, accessFlags := 16, slot := 7, constantValue := 0 }]
  methods := #[k12m0]
  instanceTypes := #[(.object "java/util/Set"), (.object "java/util/Collection"), (.array (.object "java/util/HashMap$Node")), (.object "java/util/Set"), .int, .int, .int, .float]
  staticTypes := #[.long, .int, .int, .float, .int, .int, .int]
  resolved := Array.replicate 629 none
  statics := none }

def pool13 : Array CpInfo := pool [(2, .class_ 4), (1, u "java/util/SequencedMap"), (38, .class_ 44), (0, u "java/util/SequencedMap$1SeqKeySet"), (3, .class_ 49), (0, u "java/util/SequencedMap$1SeqValues"), (1, .class_ 52), (0, u "java/util/SequencedMap$1SeqEntrySet"), (1, .class_ 55), (0, u "java/lang/Object"), (0, .class_ 57), (0, u "java/util/Map")] 48

/-- java/util/SequencedMap -/
def k13 : Class := { plain "java/util/SequencedMap" (some 0) with
  accessFlags := 1537
  interfaces := #[9]
  cf := some (fileOf pool13 2 #[.nestMembers #[51, 48, 43]] #[] 1537 54 #[56] #[])
  fields := #[]
  methods := #[]
  instanceTypes := #[]
  staticTypes := #[]
  resolved := Array.replicate 106 none
  statics := none }

def pool14 : Array CpInfo := pool [(1, .fieldref 2 3), (0, .class_ 4), (0, .nameAndType 5 6), (0, u "java/util/LinkedHashMap"), (0, u "putMode"), (0, u "I"), (2, u "head"), (0, u "Ljava/util/LinkedHashMap$Entry;"), (2, u "tail"), (1, .class_ 17), (1, u "java/util/LinkedHashMap$Entry"), (5, .class_ 25), (1, u "java/util/HashMap"), (1, u "()V"), (2, u "<init>"), (33, .fieldref 2 65), (0, .nameAndType 66 67), (0, u "accessOrder"), (0, u "Z"), (19, .methodref 23 88), (0, .nameAndType 30 27), (32, .class_ 122), (0, u "java/util/LinkedHashMap$LinkedKeySet"), (20, .class_ 144), (0, u "java/util/LinkedHashMap$LinkedValues"), (9, .class_ 155), (0, u "java/util/LinkedHashMap$LinkedEntrySet"), (44, .class_ 201), (0, u "java/util/LinkedHashMap$ReversedLinkedHashMapView"), (3, .class_ 206), (0, u "java/util/SequencedMap"), (0, u "serialVersionUID"), (0, u "J"), (5, u "PUT_NORM"), (1, u "PUT_FIRST"), (1, u "PUT_LAST"), (143, .class_ 363), (0, u "java/util/LinkedHashMap$LinkedEntryIterator"), (0, .class_ 365), (0, u "java/util/LinkedHashMap$LinkedValueIterator"), (0, .class_ 367), (0, u "java/util/LinkedHashMap$LinkedKeyIterator"), (0, .class_ 369), (0, u "java/util/LinkedHashMap$LinkedHashIterator")] 16

def k14c0 : Code := { maxStack := 2, maxLocals := 1, code := jdk_94_method_16_code, exceptionTable := #[], attributes := #[] }
def k14m0 : Method := { name := "<init>", desc := "()V", sig := { parameters := [], returnType := none }, accessFlags := 1, code := some k14c0 }
/-- java/util/LinkedHashMap -/
def k14 : Class := { plain "java/util/LinkedHashMap" (some 12) with
  accessFlags := 33
  interfaces := #[13]
  cf := some (fileOf pool14 2 #[.nestMembers #[200, 362, 364, 366, 368, 154, 143, 121, 15]] #[{ accessFlags := 1, nameIndex := 30, descriptorIndex := 27, attributes := #[] }] 33 23 #[205] #[{ accessFlags := 26, nameIndex := 207, descriptorIndex := 208, attributes := #[] }, { accessFlags := 128, nameIndex := 9, descriptorIndex := 10, attributes := #[] }, { accessFlags := 128, nameIndex := 13, descriptorIndex := 10, attributes := #[] }, { accessFlags := 16, nameIndex := 66, descriptorIndex := 67, attributes := #[] }, { accessFlags := 24, nameIndex := 214, descriptorIndex := 6, attributes := #[] }, { accessFlags := 24, nameIndex := 216, descriptorIndex := 6, attributes := #[] }, { accessFlags := 24, nameIndex := 218, descriptorIndex := 6, attributes := #[] }, { accessFlags := 128, nameIndex := 5, descriptorIndex := 6, attributes := #[] }])
  fields := #[{ name := "serialVersionUID", type := .long, accessFlags := 26, slot := 0, constantValue := 0 }, { name := "head", type := (.object "java/util/LinkedHashMap$Entry"), accessFlags := 128, slot := 8, constantValue := 0 }, { name := "tail", type := (.object "java/util/LinkedHashMap$Entry"), accessFlags := 128, slot := 9, constantValue := 0 }, { name := "accessOrder", type := .boolean, accessFlags := 16, slot := 10, constantValue := 0 }, { name := "PUT_NORM", type := .int, accessFlags := 24, slot := 1, constantValue := 0 }, { name := "PUT_FIRST", type := .int, accessFlags := 24, slot := 2, constantValue := 0 }, { name := "PUT_LAST", type := .int, accessFlags := 24, slot := 3, constantValue := 0 }, { name := "putMode", type := .int, accessFlags := 128, slot := 11, constantValue := 0 }]
  methods := #[k14m0]
  instanceTypes := #[(.object "java/util/Set"), (.object "java/util/Collection"), (.array (.object "java/util/HashMap$Node")), (.object "java/util/Set"), .int, .int, .int, .float, (.object "java/util/LinkedHashMap$Entry"), (.object "java/util/LinkedHashMap$Entry"), .boolean, .int]
  staticTypes := #[.long, .int, .int, .int]
  resolved := Array.replicate 386 none
  statics := none }

def pool15 : Array CpInfo := pool [(8, .class_ 10), (1, u "java/lang/Iterable"), (24, .class_ 36), (0, u "java/lang/Object")] 25

/-- java/lang/Iterable -/
def k15 : Class := { plain "java/lang/Iterable" (some 0) with
  accessFlags := 1537
  interfaces := #[]
  cf := some (fileOf pool15 8 #[] #[] 1537 35 #[] #[])
  fields := #[]
  methods := #[]
  instanceTypes := #[]
  staticTypes := #[]
  resolved := Array.replicate 62 none
  statics := none }

def pool16 : Array CpInfo := pool [(10, .class_ 12), (1, u "java/util/Collection"), (47, .class_ 61), (0, u "java/lang/Object"), (0, .class_ 63), (0, u "java/lang/Iterable")] 51

/-- java/util/Collection -/
def k16 : Class := { plain "java/util/Collection" (some 0) with
  accessFlags := 1537
  interfaces := #[15]
  cf := some (fileOf pool16 10 #[] #[] 1537 60 #[62] #[])
  fields := #[]
  methods := #[]
  instanceTypes := #[]
  staticTypes := #[]
  resolved := Array.replicate 115 none
  statics := none }

def pool17 : Array CpInfo := pool [(1, .methodref 2 3), (0, .class_ 4), (0, .nameAndType 5 6), (0, u "java/lang/Object"), (0, u "<init>"), (0, u "()V"), (1, .class_ 10), (1, u "java/util/AbstractCollection"), (66, .class_ 78), (0, u "java/util/Collection")] 81

def k17c0 : Code := { maxStack := 1, maxLocals := 1, code := jdk_22_method_1_code, exceptionTable := #[], attributes := #[] }
def k17m0 : Method := { name := "<init>", desc := "()V", sig := { parameters := [], returnType := none }, accessFlags := 4, code := some k17c0 }
/-- java/util/AbstractCollection -/
def k17 : Class := { plain "java/util/AbstractCollection" (some 0) with
  accessFlags := 1057
  interfaces := #[16]
  cf := some (fileOf pool17 8 #[] #[{ accessFlags := 4, nameIndex := 5, descriptorIndex := 6, attributes := #[] }] 1057 2 #[77] #[])
  fields := #[]
  methods := #[k17m0]
  instanceTypes := #[]
  staticTypes := #[]
  resolved := Array.replicate 160 none
  statics := none }

def pool18 : Array CpInfo := pool [(8, .class_ 10), (1, u "java/util/SequencedCollection"), (15, .class_ 27), (0, u "java/lang/Object"), (0, .class_ 29), (0, u "java/util/Collection")] 27

/-- java/util/SequencedCollection -/
def k18 : Class := { plain "java/util/SequencedCollection" (some 0) with
  accessFlags := 1537
  interfaces := #[16]
  cf := some (fileOf pool18 8 #[] #[] 1537 26 #[28] #[])
  fields := #[]
  methods := #[]
  instanceTypes := #[]
  staticTypes := #[]
  resolved := Array.replicate 57 none
  statics := none }

def pool19 : Array CpInfo := pool [(8, .class_ 10), (1, u "java/util/List"), (92, .class_ 104), (0, u "java/lang/Object"), (15, .class_ 121), (0, u "java/util/SequencedCollection")] 129

/-- java/util/List -/
def k19 : Class := { plain "java/util/List" (some 0) with
  accessFlags := 1537
  interfaces := #[18]
  cf := some (fileOf pool19 8 #[] #[] 1537 103 #[120] #[])
  fields := #[]
  methods := #[]
  instanceTypes := #[]
  staticTypes := #[]
  resolved := Array.replicate 251 none
  statics := none }

def pool20 : Array CpInfo := pool [(1, .methodref 2 3), (0, .class_ 4), (0, .nameAndType 5 6), (0, u "java/util/AbstractCollection"), (0, u "<init>"), (0, u "()V"), (0, .fieldref 8 9), (0, .class_ 10), (0, .nameAndType 11 12), (0, u "java/util/AbstractList"), (0, u "modCount"), (0, u "I"), (64, .class_ 78), (0, u "java/util/AbstractList$Itr"), (3, .class_ 83), (0, u "java/util/AbstractList$ListItr"), (9, .class_ 94), (0, u "java/util/AbstractList$RandomAccessSubList"), (3, .class_ 99), (0, u "java/util/AbstractList$SubList"), (33, .class_ 134), (0, u "java/util/List"), (73, .class_ 209), (0, u "java/util/AbstractList$SubList$1"), (0, .class_ 211), (0, u "java/util/AbstractList$RandomAccessSpliterator")] 6

def k20c0 : Code := { maxStack := 2, maxLocals := 1, code := jdk_39_method_1_code, exceptionTable := #[], attributes := #[] }
def k20m0 : Method := { name := "<init>", desc := "()V", sig := { parameters := [], returnType := none }, accessFlags := 4, code := some k20c0 }
/-- java/util/AbstractList -/
def k20 : Class := { plain "java/util/AbstractList" (some 17) with
  accessFlags := 1057
  interfaces := #[19]
  cf := some (fileOf pool20 8 #[.nestMembers #[93, 98, 208, 210, 82, 77]] #[{ accessFlags := 4, nameIndex := 5, descriptorIndex := 6, attributes := #[] }] 1057 2 #[133] #[{ accessFlags := 132, nameIndex := 11, descriptorIndex := 12, attributes := #[] }])
  fields := #[{ name := "modCount", type := .int, accessFlags := 132, slot := 0, constantValue := 0 }]
  methods := #[k20m0]
  instanceTypes := #[.int]
  staticTypes := #[]
  resolved := Array.replicate 218 none
  statics := none }

def pool21 : Array CpInfo := pool [(1, .class_ 2), (0, u "java/util/RandomAccess"), (0, .class_ 4), (0, u "java/lang/Object")] 2

/-- java/util/RandomAccess -/
def k21 : Class := { plain "java/util/RandomAccess" (some 0) with
  accessFlags := 1537
  interfaces := #[]
  cf := some (fileOf pool21 1 #[] #[] 1537 3 #[] #[])
  fields := #[]
  methods := #[]
  instanceTypes := #[]
  staticTypes := #[]
  resolved := Array.replicate 7 none
  statics := none }

def pool22 : Array CpInfo := pool [(1, .methodref 2 3), (0, .class_ 4), (0, .nameAndType 5 6), (0, u "java/util/AbstractList"), (0, u "<init>"), (0, u "()V"), (2, .fieldref 10 11), (0, .class_ 12), (0, .nameAndType 13 14), (0, u "java/util/ArrayList"), (0, u "elementData"), (0, u "[Ljava/lang/Object;"), (2, u "EMPTY_ELEMENTDATA"), (21, .fieldref 10 40), (0, .nameAndType 41 14), (0, u "DEFAULTCAPACITY_EMPTY_ELEMENTDATA"), (8, u "size"), (0, u "I"), (96, .class_ 149), (0, u "java/util/List"), (112, .class_ 263), (0, u "java/util/ArrayList$ListItr"), (3, .class_ 268), (0, u "java/util/ArrayList$Itr"), (7, .class_ 277), (0, u "java/util/ArrayList$SubList"), (12, .class_ 291), (0, u "java/util/ArrayList$ArrayListSpliterator"), (37, .class_ 330), (0, u "java/util/RandomAccess"), (0, .class_ 332), (0, u "java/lang/Cloneable"), (0, .class_ 334), (0, u "java/io/Serializable"), (0, u "serialVersionUID"), (0, u "J"), (3, u "DEFAULT_CAPACITY"), (159, .class_ 501), (0, u "java/util/ArrayList$SubList$2"), (0, .class_ 503), (0, u "java/util/ArrayList$SubList$1")] 5

def k22c0 : Code := { maxStack := 2, maxLocals := 1, code := jdk_38_method_2_code, exceptionTable := #[], attributes := #[] }
def k22m0 : Method := { name := "<init>", desc := "()V", sig := { parameters := [], returnType := none }, accessFlags := 1, code := some k22c0 }
/-- java/util/ArrayList -/
def k22 : Class := { plain "java/util/ArrayList" (some 20) with
  accessFlags := 33
  interfaces := #[19, 21, 11, 2]
  cf := some (fileOf pool22 10 #[.nestMembers #[290, 276, 500, 502, 262, 267]] #[{ accessFlags := 1, nameIndex := 5, descriptorIndex := 6, attributes := #[] }] 33 2 #[148, 329, 331, 333] #[{ accessFlags := 26, nameIndex := 335, descriptorIndex := 336, attributes := #[] }, { accessFlags := 26, nameIndex := 340, descriptorIndex := 51, attributes := #[] }, { accessFlags := 26, nameIndex := 17, descriptorIndex := 14, attributes := #[] }, { accessFlags := 26, nameIndex := 41, descriptorIndex := 14, attributes := #[] }, { accessFlags := 128, nameIndex := 13, descriptorIndex := 14, attributes := #[] }, { accessFlags := 2, nameIndex := 50, descriptorIndex := 51, attributes := #[] }])
  fields := #[{ name := "serialVersionUID", type := .long, accessFlags := 26, slot := 0, constantValue := 0 }, { name := "DEFAULT_CAPACITY", type := .int, accessFlags := 26, slot := 1, constantValue := 0 }, { name := "EMPTY_ELEMENTDATA", type := (.array (.object "java/lang/Object")), accessFlags := 26, slot := 2, constantValue := 0 }, { name := "DEFAULTCAPACITY_EMPTY_ELEMENTDATA", type := (.array (.object "java/lang/Object")), accessFlags := 26, slot := 3, constantValue := 0 }, { name := "elementData", type := (.array (.object "java/lang/Object")), accessFlags := 128, slot := 1, constantValue := 0 }, { name := "size", type := .int, accessFlags := 2, slot := 2, constantValue := 0 }]
  methods := #[k22m0]
  instanceTypes := #[.int, (.array (.object "java/lang/Object")), .int]
  staticTypes := #[.long, .int, (.array (.object "java/lang/Object")), (.array (.object "java/lang/Object"))]
  resolved := Array.replicate 509 none
  statics := some 1 }

def pool23 : Array CpInfo := pool [(2, .class_ 4), (1, u "java/lang/Object"), (0, u "<init>"), (0, u "()V"), (35, .class_ 44), (1, u "java/util/Objects"), (0, u "requireNonNull"), (48, u "(Ljava/lang/Object;Ljava/lang/String;)Ljava/lang/Object;")] 89

def k23m0 : Method := { name := "<init>", desc := "()V", sig := { parameters := [], returnType := none }, accessFlags := 2, code := none }
def k23c1 : Code := { maxStack := 3, maxLocals := 2, code := jdk_31_method_11_code, exceptionTable := #[], attributes := #[] }
def k23m1 : Method := { name := "requireNonNull", desc := "(Ljava/lang/Object;Ljava/lang/String;)Ljava/lang/Object;", sig := { parameters := [(.object "java/lang/Object"), (.object "java/lang/String")], returnType := some (.object "java/lang/Object") }, accessFlags := 9, code := some k23c1 }
/-- java/util/Objects -/
def k23 : Class := { plain "java/util/Objects" (some 0) with
  accessFlags := 49
  interfaces := #[]
  cf := some (fileOf pool23 42 #[] #[{ accessFlags := 2, nameIndex := 5, descriptorIndex := 6, attributes := #[] }, { accessFlags := 9, nameIndex := 45, descriptorIndex := 94, attributes := #[] }] 49 2 #[] #[])
  fields := #[]
  methods := #[k23m0, k23m1]
  instanceTypes := #[]
  staticTypes := #[]
  resolved := Array.replicate 184 none
  statics := none }

def pool24 : Array CpInfo := pool [(2, .class_ 4), (1, u "java/lang/Object"), (0, u "<init>"), (0, u "()V"), (0, .class_ 8), (0, u "com/example/marsh_tit/marshtit/stanza/Stanzas"), (0, .string 10), (0, u "jabber:client"), (0, .string 12), (0, u "message"), (0, .methodref 14 15), (0, .class_ 16), (0, .nameAndType 17 18), (0, u "com/example/marsh_tit/marshtit/stanza/Element"), (0, u "is"), (0, u "(Ljava/lang/String;Ljava/lang/String;)Z"), (0, .string 20), (0, u "presence"), (0, .string 22), (0, u "iq"), (26, u "CLIENT"), (0, u "Ljava/lang/String;"), (3, u "isStanza"), (0, u "(Lcom/example/marsh_tit/marshtit/stanza/Element;)Z")] 5

def k24m0 : Method := { name := "<init>", desc := "()V", sig := { parameters := [], returnType := none }, accessFlags := 2, code := none }
def k24c1 : Code := { maxStack := 3, maxLocals := 1, code := prog_22_method_2_code, exceptionTable := #[], attributes := #[] }
def k24m1 : Method := { name := "isStanza", desc := "(Lcom/example/marsh_tit/marshtit/stanza/Element;)Z", sig := { parameters := [(.object "com/example/marsh_tit/marshtit/stanza/Element")], returnType := some .boolean }, accessFlags := 9, code := some k24c1 }
/-- com/example/marsh_tit/marshtit/stanza/Stanzas -/
def k24 : Class := { plain "com/example/marsh_tit/marshtit/stanza/Stanzas" (some 0) with
  accessFlags := 49
  interfaces := #[]
  cf := some (fileOf pool24 7 #[] #[{ accessFlags := 2, nameIndex := 5, descriptorIndex := 6, attributes := #[] }, { accessFlags := 9, nameIndex := 54, descriptorIndex := 55, attributes := #[] }] 49 2 #[] #[{ accessFlags := 25, nameIndex := 49, descriptorIndex := 50, attributes := #[] }])
  fields := #[{ name := "CLIENT", type := (.object "java/lang/String"), accessFlags := 25, slot := 0, constantValue := 0 }]
  methods := #[k24m0, k24m1]
  instanceTypes := #[]
  staticTypes := #[(.object "java/lang/String")]
  resolved := Array.replicate 61 none
  statics := none }

def pool25 : Array CpInfo := pool [(4, .class_ 6), (1, u "java/lang/Object"), (0, u "<init>"), (0, u "()V"), (5, .class_ 16), (1, u "java/lang/StringLatin1"), (73, u "canEncode"), (14, u "(C)Z"), (15, u "$assertionsDisabled"), (0, u "Z"), (98, .class_ 223), (1, u "java/lang/StringLatin1$LinesSpliterator"), (57, u "equals"), (0, u "([B[B)Z"), (97, u "toBytes"), (1, u "(C)[B"), (7, .class_ 391), (0, u "java/lang/StringLatin1$CharsSpliterator")] 3

def k25m0 : Method := { name := "<init>", desc := "()V", sig := { parameters := [], returnType := none }, accessFlags := 0, code := none }
def k25c1 : Code := { maxStack := 2, maxLocals := 1, code := jdk_43_method_3_code, exceptionTable := #[], attributes := #[] }
def k25m1 : Method := { name := "canEncode", desc := "(C)Z", sig := { parameters := [.char], returnType := some .boolean }, accessFlags := 9, code := some k25c1 }
def k25c2 : Code := { maxStack := 3, maxLocals := 3, code := jdk_43_method_13_code, exceptionTable := #[], attributes := #[] }
def k25m2 : Method := { name := "equals", desc := "([B[B)Z", sig := { parameters := [(.array .byte), (.array .byte)], returnType := some .boolean }, accessFlags := 9, code := some k25c2 }
def k25c3 : Code := { maxStack := 4, maxLocals := 1, code := jdk_43_method_46_code, exceptionTable := #[], attributes := #[] }
def k25m3 : Method := { name := "toBytes", desc := "(C)[B", sig := { parameters := [.char], returnType := some (.array .byte) }, accessFlags := 9, code := some k25c3 }
/-- java/lang/StringLatin1 -/
def k25 : Class := { plain "java/lang/StringLatin1" (some 0) with
  accessFlags := 48
  interfaces := #[]
  cf := some (fileOf pool25 14 #[.nestMembers #[390, 221]] #[{ accessFlags := 0, nameIndex := 7, descriptorIndex := 8, attributes := #[] }, { accessFlags := 9, nameIndex := 90, descriptorIndex := 105, attributes := #[] }, { accessFlags := 9, nameIndex := 281, descriptorIndex := 282, attributes := #[] }, { accessFlags := 9, nameIndex := 380, descriptorIndex := 382, attributes := #[] }] 48 4 #[] #[{ accessFlags := 4120, nameIndex := 121, descriptorIndex := 122, attributes := #[] }])
  fields := #[{ name := "$assertionsDisabled", type := .boolean, accessFlags := 4120, slot := 0, constantValue := 0 }]
  methods := #[k25m0, k25m1, k25m2, k25m3]
  instanceTypes := #[]
  staticTypes := #[.boolean]
  resolved := Array.replicate 395 none
  statics := none }

def pool26 : Array CpInfo := pool [(6, .class_ 8), (1, u "java/lang/Object"), (0, u "<init>"), (0, u "()V"), (1, .class_ 14), (1, u "java/lang/StringUTF16"), (31, u "$assertionsDisabled"), (0, u "Z"), (13, u "HI_BYTE_SHIFT"), (0, u "I"), (2, u "LO_BYTE_SHIFT"), (49, .methodref 12 116), (0, .nameAndType 117 118), (0, u "compress"), (0, u "([CI[BII)I"), (3, u "([CII)[B"), (138, u "coderFromArrayLen"), (0, u "([BI)B"), (106, .class_ 371), (1, u "java/lang/StringUTF16$LinesSpliterator"), (58, u "MAX_LENGTH"), (196, .class_ 628), (0, u "java/lang/StringUTF16$CodePointsSpliterator"), (0, .class_ 630), (0, u "java/lang/StringUTF16$CharsSpliterator")] 4

def k26m0 : Method := { name := "<init>", desc := "()V", sig := { parameters := [], returnType := none }, accessFlags := 0, code := none }
def k26c1 : Code := { maxStack := 2, maxLocals := 2, code := jdk_52_method_15_code, exceptionTable := #[], attributes := #[] }
def k26m1 : Method := { name := "coderFromArrayLen", desc := "([BI)B", sig := { parameters := [(.array .byte), .int], returnType := some .byte }, accessFlags := 8, code := some k26c1 }
def k26c2 : Code := { maxStack := 5, maxLocals := 6, code := jdk_52_method_16_code, exceptionTable := #[], attributes := #[] }
def k26m2 : Method := { name := "compress", desc := "([CII)[B", sig := { parameters := [(.array .char), .int, .int], returnType := some (.array .byte) }, accessFlags := 9, code := some k26c2 }
def k26c3 : Code := { maxStack := 3, maxLocals := 7, code := jdk_52_method_21_code, exceptionTable := #[], attributes := #[] }
def k26m3 : Method := { name := "compress", desc := "([CI[BII)I", sig := { parameters := [(.array .char), .int, (.array .byte), .int, .int], returnType := some .int }, accessFlags := 9, code := some k26c3 }
/-- java/lang/StringUTF16 -/
def k26 : Class := { plain "java/lang/StringUTF16" (some 0) with
  accessFlags := 48
  interfaces := #[]
  cf := some (fileOf pool26 12 #[.nestMembers #[627, 629, 369]] #[{ accessFlags := 0, nameIndex := 9, descriptorIndex := 10, attributes := #[] }, { accessFlags := 8, nameIndex := 261, descriptorIndex := 262, attributes := #[] }, { accessFlags := 9, nameIndex := 117, descriptorIndex := 122, attributes := #[] }, { accessFlags := 9, nameIndex := 117, descriptorIndex := 118, attributes := #[] }] 48 6 #[] #[{ accessFlags := 26, nameIndex := 61, descriptorIndex := 62, attributes := #[] }, { accessFlags := 26, nameIndex := 65, descriptorIndex := 62, attributes := #[] }, { accessFlags := 24, nameIndex := 430, descriptorIndex := 62, attributes := #[] }, { accessFlags := 4120, nameIndex := 46, descriptorIndex := 47, attributes := #[] }])
  fields := #[{ name := "HI_BYTE_SHIFT", type := .int, accessFlags := 26, slot := 0, constantValue := 0 }, { name := "LO_BYTE_SHIFT", type := .int, accessFlags := 26, slot := 1, constantValue := 0 }, { name := "MAX_LENGTH", type := .int, accessFlags := 24, slot := 2, constantValue := 0 }, { name := "$assertionsDisabled", type := .boolean, accessFlags := 4120, slot := 3, constantValue := 0 }]
  methods := #[k26m0, k26m1, k26m2, k26m3]
  instanceTypes := #[]
  staticTypes := #[.int, .int, .int, .boolean]
  resolved := Array.replicate 635 none
  statics := none }

def pool27 : Array CpInfo := pool [(2, .class_ 4), (1, u "java/lang/Object"), (0, u "<init>"), (0, u "()V"), (17, .class_ 26), (1, u "jdk/internal/util/Preconditions"), (28, .class_ 56), (0, u "jdk/internal/util/Preconditions$4"), (57, .class_ 115), (0, u "jdk/internal/util/Preconditions$1"), (7, u "SIOOBE_FORMATTER"), (0, u "Ljava/util/function/BiFunction;"), (0, .class_ 126), (0, u "jdk/internal/util/Preconditions$2"), (3, u "AIOOBE_FORMATTER"), (0, .class_ 132), (0, u "jdk/internal/util/Preconditions$3"), (3, u "IOOBE_FORMATTER")] 57

def k27m0 : Method := { name := "<init>", desc := "()V", sig := { parameters := [], returnType := none }, accessFlags := 1, code := none }
/-- jdk/internal/util/Preconditions -/
def k27 : Class := { plain "jdk/internal/util/Preconditions" (some 0) with
  accessFlags := 33
  interfaces := #[]
  cf := some (fileOf pool27 24 #[.nestMembers #[55, 131, 125, 114]] #[{ accessFlags := 1, nameIndex := 5, descriptorIndex := 6, attributes := #[] }] 33 2 #[] #[{ accessFlags := 25, nameIndex := 123, descriptorIndex := 124, attributes := #[] }, { accessFlags := 25, nameIndex := 130, descriptorIndex := 124, attributes := #[] }, { accessFlags := 25, nameIndex := 136, descriptorIndex := 124, attributes := #[] }])
  fields := #[{ name := "SIOOBE_FORMATTER", type := (.object "java/util/function/BiFunction"), accessFlags := 25, slot := 0, constantValue := 0 }, { name := "AIOOBE_FORMATTER", type := (.object "java/util/function/BiFunction"), accessFlags := 25, slot := 1, constantValue := 0 }, { name := "IOOBE_FORMATTER", type := (.object "java/util/function/BiFunction"), accessFlags := 25, slot := 2, constantValue := 0 }]
  methods := #[k27m0]
  instanceTypes := #[]
  staticTypes := #[(.object "java/util/function/BiFunction"), (.object "java/util/function/BiFunction"), (.object "java/util/function/BiFunction")]
  resolved := Array.replicate 194 none
  statics := some 2 }

def pool28 : Array CpInfo := pool [(9, u "<init>"), (6, .class_ 18), (1, u "java/lang/Object"), (0, u "()V"), (1, .class_ 23), (1, u "jdk/internal/util/ArraysSupport"), (0, u "LOG2_ARRAY_LONG_INDEX_SCALE"), (0, u "I"), (2, u "U"), (0, u "Ljdk/internal/misc/Unsafe;"), (8, u "BIG_ENDIAN"), (0, u "Z"), (8, u "LOG2_BYTE_BIT_SIZE"), (4, u "LOG2_ARRAY_INT_INDEX_SCALE"), (54, u "JLA"), (0, u "Ljdk/internal/access/JavaLangAccess;"), (11, u "LOG2_ARRAY_BOOLEAN_INDEX_SCALE"), (9, u "LOG2_ARRAY_BYTE_INDEX_SCALE"), (5, u "LOG2_ARRAY_CHAR_INDEX_SCALE"), (5, u "LOG2_ARRAY_SHORT_INDEX_SCALE"), (18, u "LOG2_ARRAY_FLOAT_INDEX_SCALE"), (24, u "LOG2_ARRAY_DOUBLE_INDEX_SCALE"), (89, u "T_BOOLEAN"), (2, u "T_CHAR"), (1, u "T_FLOAT"), (1, u "T_DOUBLE"), (1, u "T_BYTE"), (1, u "T_SHORT"), (1, u "T_INT"), (1, u "T_LONG"), (1, u "SOFT_MAX_ARRAY_LENGTH")] 83

def k28m0 : Method := { name := "<init>", desc := "()V", sig := { parameters := [], returnType := none }, accessFlags := 2, code := none }
/-- jdk/internal/util/ArraysSupport -/
def k28 : Class := { plain "jdk/internal/util/ArraysSupport" (some 0) with
  accessFlags := 33
  interfaces := #[]
  cf := some (fileOf pool28 21 #[] #[{ accessFlags := 2, nameIndex := 9, descriptorIndex := 19, attributes := #[] }] 33 16 #[] #[{ accessFlags := 24, nameIndex := 28, descriptorIndex := 29, attributes := #[] }, { accessFlags := 26, nameIndex := 38, descriptorIndex := 39, attributes := #[] }, { accessFlags := 25, nameIndex := 121, descriptorIndex := 25, attributes := #[] }, { accessFlags := 25, nameIndex := 131, descriptorIndex := 25, attributes := #[] }, { accessFlags := 25, nameIndex := 137, descriptorIndex := 25, attributes := #[] }, { accessFlags := 25, nameIndex := 143, descriptorIndex := 25, attributes := #[] }, { accessFlags := 25, nameIndex := 53, descriptorIndex := 25, attributes := #[] }, { accessFlags := 25, nameIndex := 24, descriptorIndex := 25, attributes := #[] }, { accessFlags := 25, nameIndex := 162, descriptorIndex := 25, attributes := #[] }, { accessFlags := 25, nameIndex := 187, descriptorIndex := 25, attributes := #[] }, { accessFlags := 26, nameIndex := 48, descriptorIndex := 25, attributes := #[] }, { accessFlags := 25, nameIndex := 277, descriptorIndex := 25, attributes := #[] }, { accessFlags := 25, nameIndex := 280, descriptorIndex := 25, attributes := #[] }, { accessFlags := 25, nameIndex := 282, descriptorIndex := 25, attributes := #[] }, { accessFlags := 25, nameIndex := 284, descriptorIndex := 25, attributes := #[] }, { accessFlags := 25, nameIndex := 286, descriptorIndex := 25, attributes := #[] }, { accessFlags := 25, nameIndex := 288, descriptorIndex := 25, attributes := #[] }, { accessFlags := 25, nameIndex := 290, descriptorIndex := 25, attributes := #[] }, { accessFlags := 25, nameIndex := 292, descriptorIndex := 25, attributes := #[] }, { accessFlags := 26, nameIndex := 108, descriptorIndex := 109, attributes := #[] }, { accessFlags := 25, nameIndex := 294, descriptorIndex := 25, attributes := #[] }])
  fields := #[{ name := "U", type := (.object "jdk/internal/misc/Unsafe"), accessFlags := 24, slot := 0, constantValue := 0 }, { name := "BIG_ENDIAN", type := .boolean, accessFlags := 26, slot := 1, constantValue := 0 }, { name := "LOG2_ARRAY_BOOLEAN_INDEX_SCALE", type := .int, accessFlags := 25, slot := 2, constantValue := 0 }, { name := "LOG2_ARRAY_BYTE_INDEX_SCALE", type := .int, accessFlags := 25, slot := 3, constantValue := 0 }, { name := "LOG2_ARRAY_CHAR_INDEX_SCALE", type := .int, accessFlags := 25, slot := 4, constantValue := 0 }, { name := "LOG2_ARRAY_SHORT_INDEX_SCALE", type := .int, accessFlags := 25, slot := 5, constantValue := 0 }, { name := "LOG2_ARRAY_INT_INDEX_SCALE", type := .int, accessFlags := 25, slot := 6, constantValue := 0 }, { name := "LOG2_ARRAY_LONG_INDEX_SCALE", type := .int, accessFlags := 25, slot := 7, constantValue := 0 }, { name := "LOG2_ARRAY_FLOAT_INDEX_SCALE", type := .int, accessFlags := 25, slot := 8, constantValue := 0 }, { name := "LOG2_ARRAY_DOUBLE_INDEX_SCALE", type := .int, accessFlags := 25, slot := 9, constantValue := 0 }, { name := "LOG2_BYTE_BIT_SIZE", type := .int, accessFlags := 26, slot := 10, constantValue := 0 }, { name := "T_BOOLEAN", type := .int, accessFlags := 25, slot := 11, constantValue := 0 }, { name := "T_CHAR", type := .int, accessFlags := 25, slot := 12, constantValue := 0 }, { name := "T_FLOAT", type := .int, accessFlags := 25, slot := 13, constantValue := 0 }, { name := "T_DOUBLE", type := .int, accessFlags := 25, slot := 14, constantValue := 0 }, { name := "T_BYTE", type := .int, accessFlags := 25, slot := 15, constantValue := 0 }, { name := "T_SHORT", type := .int, accessFlags := 25, slot := 16, constantValue := 0 }, { name := "T_INT", type := .int, accessFlags := 25, slot := 17, constantValue := 0 }, { name := "T_LONG", type := .int, accessFlags := 25, slot := 18, constantValue := 0 }, { name := "JLA", type := (.object "jdk/internal/access/JavaLangAccess"), accessFlags := 26, slot := 19, constantValue := 0 }, { name := "SOFT_MAX_ARRAY_LENGTH", type := .int, accessFlags := 25, slot := 20, constantValue := 0 }]
  methods := #[k28m0]
  instanceTypes := #[]
  staticTypes := #[(.object "jdk/internal/misc/Unsafe"), .boolean, .int, .int, .int, .int, .int, .int, .int, .int, .int, .int, .int, .int, .int, .int, .int, .int, .int, (.object "jdk/internal/access/JavaLangAccess"), .int]
  resolved := Array.replicate 378 none
  statics := none }

/-- the primitive byte -/
def k29 : Class := { plain "byte" none with kind := .primitive 'B', accessFlags := 0x411 }
/-- [B -/
def k30 : Class := { plain "[B" (some 0) with kind := .array 29 .byte, interfaces := #[11, 2], accessFlags := 1041 }

/-- the primitive char -/
def k31 : Class := { plain "char" none with kind := .primitive 'C', accessFlags := 0x411 }
/-- [C -/
def k32 : Class := { plain "[C" (some 0) with kind := .array 31 .char, interfaces := #[11, 2], accessFlags := 1041 }

/-- the primitive int -/
def k33 : Class := { plain "int" none with kind := .primitive 'I', accessFlags := 0x411 }
/-- [I -/
def k34 : Class := { plain "[I" (some 0) with kind := .array 33 .int, interfaces := #[11, 2], accessFlags := 1041 }

/-- [Ljava/lang/Object; -/
def k35 : Class := { plain "[Ljava/lang/Object;" (some 0) with kind := .array 0 (.object "java/lang/Object"), interfaces := #[11, 2], accessFlags := 1041 }

def heap : Heap := #[{ cls := 7, slots := #[.long 0, .int 1, .null, .int 0, .null, .int 0, .int 0], vm := .statics 7 },
  { cls := 22, slots := #[.long 0, .int 0, .ref 3, .ref 4], vm := .statics 22 },
  { cls := 27, slots := #[.null, .null, .null], vm := .statics 27 },
  { cls := 35, slots := #[], vm := .none },
  { cls := 35, slots := #[], vm := .none }]
def classes : Array Class := #[k0, k1, k2, k3, k4, k5, k6, k7, k8, k9, k10, k11, k12, k13, k14, k15, k16, k17, k18, k19, k20, k21, k22, k23, k24, k25, k26, k27, k28, k29, k30, k31, k32, k33, k34, k35]
def interned : List (Array UInt16 × Addr) := []
def slotsUsed : Nat := 14
def theMethod : MethodId := ⟨1, 1⟩
def args0 : Array Value := #[.int 5, .int 5, .int 5, .int 5]
def aboutOver (below : List Frame) : State where
  vm := { classes := classes, interned := interned.toArray }
  heap := heap
  slotsUsed := slotsUsed
  threads := #[{ frames := .invoking theMethod args0 :: below }]
def below0 : List Frame := [.native { method := ⟨0, 0⟩, args := #[] }]
def about1 : State := aboutOver below0
def p0 : Program := .bare "" "" ""
def e0 : Env := launch0.env 0 0 0
theorem w_frames : about1.frames = Frame.invoking theMethod args0 :: below0 := rfl
set_option maxRecDepth 65536 in
theorem w_args : argsFit about1.vm theMethod args0 = true := by decide +kernel
set_option maxRecDepth 65536 in
theorem w_heap : heapFits about1 = true := by decide +kernel
set_option maxRecDepth 65536 in
theorem w_runnable : about1.curStatus? = some .runnable := by decide +kernel
set_option maxRecDepth 65536 in
theorem w_alone : about1.alone = true := by decide +kernel
set_option maxRecDepth 65536 in
theorem w_named : about1.methodNamed? x = some theMethod := by decide +kernel
set_option maxRecDepth 65536 in
theorem w_hears : about1.hears theMethod below0 = true := by decide +kernel
set_option maxRecDepth 65536 in
theorem w_ripe : about1.ripe theMethod args0 below0 = true := by decide +kernel
theorem w_running : about1.status = .running := rfl
set_option maxRecDepth 65536 in
theorem w_room : about1.hasRoom e0.platform room_1 = true :=
  launch0.hasRoom_least _ room_1 (by decide +kernel) (by decide +kernel) (by decide +kernel) (by decide +kernel) (by decide +kernel) (by decide +kernel)
theorem allAtoms_all (ts : List Jvm.Cond) (a : Array Jvm.Value) (st : Jvm.State) : (allAtoms ts).before a st = ts.all (fun c => c.before a st) := by
  induction ts with
  | nil => rfl
  | cons c t ih =>
    show (Jvm.Cond.and c (allAtoms t)).before a st = _
    rw [Jvm.Cond.before_and, ih, List.all_cons]
def words1 : List Jvm.Cond := Jvm.Cond.code x code maxLocals ret :: tables_1
/-- a 'code' word, met by the world's own term for the bytes: nothing is compared byte by byte -/
theorem code_word {y : MethodName} {bytes : ByteArray} {mx : Nat} {rt : Option FieldType} {a : Array Value} {s : State} {m : MethodId} {meth : Method} {c : Code} (h1 : s.methodNamed? y = some m) (h2 : s.vm.method? m = some meth) (h3 : meth.code = some c) (h4 : c.code = bytes)
    (h5 : (c.maxLocals == mx && c.exceptionTable.isEmpty && decide (c.maxStack ≤ mostOperands) && decide (meth.sig.returnType = rt) && !meth.locks && decide (parseMethodDescriptor y.desc = some meth.sig)) = true) : (Jvm.Cond.code y bytes mx rt).before a s = true := by
  simp only [Bool.and_eq_true, beq_iff_eq, Bool.not_eq_true', decide_eq_true_eq] at h5
  obtain ⟨⟨⟨⟨⟨g1, g2⟩, g3⟩, g4⟩, g5⟩, g6⟩ := h5
  simp [Cond.before, Cond.holds, Cond.value, h1, h2, h3, h4, g1, g2, g3, g4, g5, g6]
def isCode : Jvm.Cond → Bool
  | .code _ _ _ _ => true
  | _ => false
theorem all_split {L : List Jvm.Cond} {P : Jvm.Cond → Bool} (h1 : L.all (fun c => isCode c || P c) = true) (h2 : ∀ c ∈ L.filter isCode, P c = true) : L.all P = true := by
  refine List.all_eq_true.mpr fun c hc => ?_
  have h := List.all_eq_true.mp h1 c hc
  rcases Bool.eq_false_or_eq_true (isCode c) with hi | hi
  · exact h2 c (List.mem_filter.mpr ⟨hc, hi⟩)
  · simpa [hi] using h
set_option maxRecDepth 65536 in
theorem w_c0 : (Jvm.Cond.code x code maxLocals ret).before args0 about1 = true := code_word (m := ⟨1, 1⟩) (meth := k1m1) (c := k1c1) (by decide +kernel) rfl rfl rfl (by decide +kernel)
set_option maxRecDepth 65536 in
theorem w_c1 : (Jvm.Cond.code ({ cls := "com/example/marsh_tit/marshtit/stanza/StanzasIsStanzaPinLaw", name := "nsFor", desc := "(IICCC)Ljava/lang/String;" } : Jvm.MethodName) method_3_code (5 : Nat) (Option.some (Jvm.ClassFile.FieldType.object "java/lang/String"))).before args0 about1 = true := code_word (m := ⟨1, 2⟩) (meth := k1m2) (c := k1c2) (by decide +kernel) rfl rfl rfl (by decide +kernel)
set_option maxRecDepth 65536 in
theorem w_c2 : (Jvm.Cond.code ({ cls := "com/example/marsh_tit/marshtit/stanza/StanzasIsStanzaPinLaw", name := "nameFor", desc := "(IICCC)Ljava/lang/String;" } : Jvm.MethodName) method_4_code (5 : Nat) (Option.some (Jvm.ClassFile.FieldType.object "java/lang/String"))).before args0 about1 = true := code_word (m := ⟨1, 3⟩) (meth := k1m3) (c := k1c3) (by decide +kernel) rfl rfl rfl (by decide +kernel)
set_option maxRecDepth 65536 in
theorem w_c3 : (Jvm.Cond.code ({ cls := "com/example/marsh_tit/marshtit/stanza/Element", name := "<init>", desc := "(Ljava/lang/String;Ljava/lang/String;)V" } : Jvm.MethodName) prog_19_method_1_code (3 : Nat) (Option.none : Option Jvm.ClassFile.FieldType)).before args0 about1 = true := code_word (m := ⟨8, 0⟩) (meth := k8m0) (c := k8c0) (by decide +kernel) rfl rfl rfl (by decide +kernel)
set_option maxRecDepth 65536 in
theorem w_c4 : (Jvm.Cond.code ({ cls := "java/lang/Object", name := "<init>", desc := "()V" } : Jvm.MethodName) object_method_1_code (1 : Nat) (Option.none : Option Jvm.ClassFile.FieldType)).before args0 about1 = true := code_word (m := ⟨0, 0⟩) (meth := k0m0) (c := k0c0) (by decide +kernel) rfl rfl rfl (by decide +kernel)
set_option maxRecDepth 65536 in
theorem w_c5 : (Jvm.Cond.code ({ cls := "java/util/LinkedHashMap", name := "<init>", desc := "()V" } : Jvm.MethodName) jdk_94_method_16_code (1 : Nat) (Option.none : Option Jvm.ClassFile.FieldType)).before args0 about1 = true := code_word (m := ⟨14, 0⟩) (meth := k14m0) (c := k14c0) (by decide +kernel) rfl rfl rfl (by decide +kernel)
set_option maxRecDepth 65536 in
theorem w_c6 : (Jvm.Cond.code ({ cls := "java/util/HashMap", name := "<init>", desc := "()V" } : Jvm.MethodName) jdk_69_method_7_code (1 : Nat) (Option.none : Option Jvm.ClassFile.FieldType)).before args0 about1 = true := code_word (m := ⟨12, 0⟩) (meth := k12m0) (c := k12c0) (by decide +kernel) rfl rfl rfl (by decide +kernel)
set_option maxRecDepth 65536 in
theorem w_c7 : (Jvm.Cond.code ({ cls := "java/util/AbstractMap", name := "<init>", desc := "()V" } : Jvm.MethodName) jdk_71_method_1_code (1 : Nat) (Option.none : Option Jvm.ClassFile.FieldType)).before args0 about1 = true := code_word (m := ⟨10, 0⟩) (meth := k10m0) (c := k10c0) (by decide +kernel) rfl rfl rfl (by decide +kernel)
set_option maxRecDepth 65536 in
theorem w_c8 : (Jvm.Cond.code ({ cls := "java/util/ArrayList", name := "<init>", desc := "()V" } : Jvm.MethodName) jdk_38_method_2_code (1 : Nat) (Option.none : Option Jvm.ClassFile.FieldType)).before args0 about1 = true := code_word (m := ⟨22, 0⟩) (meth := k22m0) (c := k22c0) (by decide +kernel) rfl rfl rfl (by decide +kernel)
set_option maxRecDepth 65536 in
theorem w_c9 : (Jvm.Cond.code ({ cls := "java/util/AbstractList", name := "<init>", desc := "()V" } : Jvm.MethodName) jdk_39_method_1_code (1 : Nat) (Option.none : Option Jvm.ClassFile.FieldType)).before args0 about1 = true := code_word (m := ⟨20, 0⟩) (meth := k20m0) (c := k20c0) (by decide +kernel) rfl rfl rfl (by decide +kernel)
set_option maxRecDepth 65536 in
theorem w_c10 : (Jvm.Cond.code ({ cls := "java/util/AbstractCollection", name := "<init>", desc := "()V" } : Jvm.MethodName) jdk_22_method_1_code (1 : Nat) (Option.none : Option Jvm.ClassFile.FieldType)).before args0 about1 = true := code_word (m := ⟨17, 0⟩) (meth := k17m0) (c := k17c0) (by decide +kernel) rfl rfl rfl (by decide +kernel)
set_option maxRecDepth 65536 in
theorem w_c11 : (Jvm.Cond.code ({ cls := "java/util/Objects", name := "requireNonNull", desc := "(Ljava/lang/Object;Ljava/lang/String;)Ljava/lang/Object;" } : Jvm.MethodName) jdk_31_method_11_code (2 : Nat) (Option.some (Jvm.ClassFile.FieldType.object "java/lang/Object"))).before args0 about1 = true := code_word (m := ⟨23, 1⟩) (meth := k23m1) (c := k23c1) (by decide +kernel) rfl rfl rfl (by decide +kernel)
set_option maxRecDepth 65536 in
theorem w_c12 : (Jvm.Cond.code ({ cls := "com/example/marsh_tit/marshtit/stanza/Stanzas", name := "isStanza", desc := "(Lcom/example/marsh_tit/marshtit/stanza/Element;)Z" } : Jvm.MethodName) prog_22_method_2_code (1 : Nat) (Option.some Jvm.ClassFile.FieldType.boolean)).before args0 about1 = true := code_word (m := ⟨24, 1⟩) (meth := k24m1) (c := k24c1) (by decide +kernel) rfl rfl rfl (by decide +kernel)
set_option maxRecDepth 65536 in
theorem w_c13 : (Jvm.Cond.code ({ cls := "com/example/marsh_tit/marshtit/stanza/Element", name := "is", desc := "(Ljava/lang/String;Ljava/lang/String;)Z" } : Jvm.MethodName) prog_19_method_4_code (3 : Nat) (Option.some Jvm.ClassFile.FieldType.boolean)).before args0 about1 = true := code_word (m := ⟨8, 1⟩) (meth := k8m1) (c := k8c1) (by decide +kernel) rfl rfl rfl (by decide +kernel)
set_option maxRecDepth 65536 in
theorem w_c14 : (Jvm.Cond.code ({ cls := "java/lang/String", name := "equals", desc := "(Ljava/lang/Object;)Z" } : Jvm.MethodName) jdk_42_method_66_code (3 : Nat) (Option.some Jvm.ClassFile.FieldType.boolean)).before args0 about1 = true := code_word (m := ⟨7, 2⟩) (meth := k7m2) (c := k7c2) (by decide +kernel) rfl rfl rfl (by decide +kernel)
set_option maxRecDepth 65536 in
theorem w_c15 : (Jvm.Cond.code ({ cls := "java/lang/StringLatin1", name := "equals", desc := "([B[B)Z" } : Jvm.MethodName) jdk_43_method_13_code (3 : Nat) (Option.some Jvm.ClassFile.FieldType.boolean)).before args0 about1 = true := code_word (m := ⟨25, 2⟩) (meth := k25m2) (c := k25c2) (by decide +kernel) rfl rfl rfl (by decide +kernel)
set_option maxRecDepth 65536 in
theorem w_c16 : (Jvm.Cond.code ({ cls := "com/example/marsh_tit/marshtit/stanza/StanzasIsStanzaPinLaw", name := "drawn", desc := "(ICCC)Ljava/lang/String;" } : Jvm.MethodName) method_5_code (4 : Nat) (Option.some (Jvm.ClassFile.FieldType.object "java/lang/String"))).before args0 about1 = true := code_word (m := ⟨1, 4⟩) (meth := k1m4) (c := k1c4) (by decide +kernel) rfl rfl rfl (by decide +kernel)
set_option maxRecDepth 65536 in
theorem w_c17 : (Jvm.Cond.code ({ cls := "java/lang/String", name := "<init>", desc := "([C)V" } : Jvm.MethodName) jdk_42_method_3_code (2 : Nat) (Option.none : Option Jvm.ClassFile.FieldType)).before args0 about1 = true := code_word (m := ⟨7, 1⟩) (meth := k7m1) (c := k7c1) (by decide +kernel) rfl rfl rfl (by decide +kernel)
set_option maxRecDepth 65536 in
theorem w_c18 : (Jvm.Cond.code ({ cls := "java/lang/String", name := "<init>", desc := "([CIILjava/lang/Void;)V" } : Jvm.MethodName) jdk_42_method_149_code (6 : Nat) (Option.none : Option Jvm.ClassFile.FieldType)).before args0 about1 = true := code_word (m := ⟨7, 4⟩) (meth := k7m4) (c := k7c4) (by decide +kernel) rfl rfl rfl (by decide +kernel)
set_option maxRecDepth 65536 in
theorem w_c19 : (Jvm.Cond.code ({ cls := "java/lang/StringUTF16", name := "compress", desc := "([CII)[B" } : Jvm.MethodName) jdk_52_method_16_code (6 : Nat) (Option.some (Jvm.ClassFile.FieldType.array Jvm.ClassFile.FieldType.byte))).before args0 about1 = true := code_word (m := ⟨26, 2⟩) (meth := k26m2) (c := k26c2) (by decide +kernel) rfl rfl rfl (by decide +kernel)
set_option maxRecDepth 65536 in
theorem w_c20 : (Jvm.Cond.code ({ cls := "java/lang/StringUTF16", name := "compress", desc := "([CI[BII)I" } : Jvm.MethodName) jdk_52_method_21_code (7 : Nat) (Option.some Jvm.ClassFile.FieldType.int)).before args0 about1 = true := code_word (m := ⟨26, 3⟩) (meth := k26m3) (c := k26c3) (by decide +kernel) rfl rfl rfl (by decide +kernel)
set_option maxRecDepth 65536 in
theorem w_c21 : (Jvm.Cond.code ({ cls := "java/lang/StringUTF16", name := "coderFromArrayLen", desc := "([BI)B" } : Jvm.MethodName) jdk_52_method_15_code (2 : Nat) (Option.some Jvm.ClassFile.FieldType.byte)).before args0 about1 = true := code_word (m := ⟨26, 1⟩) (meth := k26m1) (c := k26c1) (by decide +kernel) rfl rfl rfl (by decide +kernel)
set_option maxRecDepth 65536 in
theorem w_c22 : (Jvm.Cond.code ({ cls := "java/lang/String", name := "valueOf", desc := "(C)Ljava/lang/String;" } : Jvm.MethodName) jdk_42_method_139_code (1 : Nat) (Option.some (Jvm.ClassFile.FieldType.object "java/lang/String"))).before args0 about1 = true := code_word (m := ⟨7, 3⟩) (meth := k7m3) (c := k7c3) (by decide +kernel) rfl rfl rfl (by decide +kernel)
set_option maxRecDepth 65536 in
theorem w_c23 : (Jvm.Cond.code ({ cls := "java/lang/StringLatin1", name := "canEncode", desc := "(C)Z" } : Jvm.MethodName) jdk_43_method_3_code (1 : Nat) (Option.some Jvm.ClassFile.FieldType.boolean)).before args0 about1 = true := code_word (m := ⟨25, 1⟩) (meth := k25m1) (c := k25c1) (by decide +kernel) rfl rfl rfl (by decide +kernel)
set_option maxRecDepth 65536 in
theorem w_c24 : (Jvm.Cond.code ({ cls := "java/lang/StringLatin1", name := "toBytes", desc := "(C)[B" } : Jvm.MethodName) jdk_43_method_46_code (1 : Nat) (Option.some (Jvm.ClassFile.FieldType.array Jvm.ClassFile.FieldType.byte))).before args0 about1 = true := code_word (m := ⟨25, 3⟩) (meth := k25m3) (c := k25c3) (by decide +kernel) rfl rfl rfl (by decide +kernel)
set_option maxRecDepth 65536 in
theorem w_c25 : (Jvm.Cond.code ({ cls := "java/lang/String", name := "<init>", desc := "([BB)V" } : Jvm.MethodName) jdk_42_method_151_code (3 : Nat) (Option.none : Option Jvm.ClassFile.FieldType)).before args0 about1 = true := code_word (m := ⟨7, 5⟩) (meth := k7m5) (c := k7c5) (by decide +kernel) rfl rfl rfl (by decide +kernel)
def codes1 : List Jvm.Cond := [Jvm.Cond.code x code maxLocals ret, Jvm.Cond.code ({ cls := "com/example/marsh_tit/marshtit/stanza/StanzasIsStanzaPinLaw", name := "nsFor", desc := "(IICCC)Ljava/lang/String;" } : Jvm.MethodName) method_3_code (5 : Nat) (Option.some (Jvm.ClassFile.FieldType.object "java/lang/String")), Jvm.Cond.code ({ cls := "com/example/marsh_tit/marshtit/stanza/StanzasIsStanzaPinLaw", name := "nameFor", desc := "(IICCC)Ljava/lang/String;" } : Jvm.MethodName) method_4_code (5 : Nat) (Option.some (Jvm.ClassFile.FieldType.object "java/lang/String")), Jvm.Cond.code ({ cls := "com/example/marsh_tit/marshtit/stanza/Element", name := "<init>", desc := "(Ljava/lang/String;Ljava/lang/String;)V" } : Jvm.MethodName) prog_19_method_1_code (3 : Nat) (Option.none : Option Jvm.ClassFile.FieldType), Jvm.Cond.code ({ cls := "java/lang/Object", name := "<init>", desc := "()V" } : Jvm.MethodName) object_method_1_code (1 : Nat) (Option.none : Option Jvm.ClassFile.FieldType), Jvm.Cond.code ({ cls := "java/util/LinkedHashMap", name := "<init>", desc := "()V" } : Jvm.MethodName) jdk_94_method_16_code (1 : Nat) (Option.none : Option Jvm.ClassFile.FieldType), Jvm.Cond.code ({ cls := "java/util/HashMap", name := "<init>", desc := "()V" } : Jvm.MethodName) jdk_69_method_7_code (1 : Nat) (Option.none : Option Jvm.ClassFile.FieldType), Jvm.Cond.code ({ cls := "java/util/AbstractMap", name := "<init>", desc := "()V" } : Jvm.MethodName) jdk_71_method_1_code (1 : Nat) (Option.none : Option Jvm.ClassFile.FieldType), Jvm.Cond.code ({ cls := "java/util/ArrayList", name := "<init>", desc := "()V" } : Jvm.MethodName) jdk_38_method_2_code (1 : Nat) (Option.none : Option Jvm.ClassFile.FieldType), Jvm.Cond.code ({ cls := "java/util/AbstractList", name := "<init>", desc := "()V" } : Jvm.MethodName) jdk_39_method_1_code (1 : Nat) (Option.none : Option Jvm.ClassFile.FieldType), Jvm.Cond.code ({ cls := "java/util/AbstractCollection", name := "<init>", desc := "()V" } : Jvm.MethodName) jdk_22_method_1_code (1 : Nat) (Option.none : Option Jvm.ClassFile.FieldType), Jvm.Cond.code ({ cls := "java/util/Objects", name := "requireNonNull", desc := "(Ljava/lang/Object;Ljava/lang/String;)Ljava/lang/Object;" } : Jvm.MethodName) jdk_31_method_11_code (2 : Nat) (Option.some (Jvm.ClassFile.FieldType.object "java/lang/Object")), Jvm.Cond.code ({ cls := "com/example/marsh_tit/marshtit/stanza/Stanzas", name := "isStanza", desc := "(Lcom/example/marsh_tit/marshtit/stanza/Element;)Z" } : Jvm.MethodName) prog_22_method_2_code (1 : Nat) (Option.some Jvm.ClassFile.FieldType.boolean), Jvm.Cond.code ({ cls := "com/example/marsh_tit/marshtit/stanza/Element", name := "is", desc := "(Ljava/lang/String;Ljava/lang/String;)Z" } : Jvm.MethodName) prog_19_method_4_code (3 : Nat) (Option.some Jvm.ClassFile.FieldType.boolean), Jvm.Cond.code ({ cls := "java/lang/String", name := "equals", desc := "(Ljava/lang/Object;)Z" } : Jvm.MethodName) jdk_42_method_66_code (3 : Nat) (Option.some Jvm.ClassFile.FieldType.boolean), Jvm.Cond.code ({ cls := "java/lang/StringLatin1", name := "equals", desc := "([B[B)Z" } : Jvm.MethodName) jdk_43_method_13_code (3 : Nat) (Option.some Jvm.ClassFile.FieldType.boolean), Jvm.Cond.code ({ cls := "com/example/marsh_tit/marshtit/stanza/StanzasIsStanzaPinLaw", name := "drawn", desc := "(ICCC)Ljava/lang/String;" } : Jvm.MethodName) method_5_code (4 : Nat) (Option.some (Jvm.ClassFile.FieldType.object "java/lang/String")), Jvm.Cond.code ({ cls := "java/lang/String", name := "<init>", desc := "([C)V" } : Jvm.MethodName) jdk_42_method_3_code (2 : Nat) (Option.none : Option Jvm.ClassFile.FieldType), Jvm.Cond.code ({ cls := "java/lang/String", name := "<init>", desc := "([CIILjava/lang/Void;)V" } : Jvm.MethodName) jdk_42_method_149_code (6 : Nat) (Option.none : Option Jvm.ClassFile.FieldType), Jvm.Cond.code ({ cls := "java/lang/StringUTF16", name := "compress", desc := "([CII)[B" } : Jvm.MethodName) jdk_52_method_16_code (6 : Nat) (Option.some (Jvm.ClassFile.FieldType.array Jvm.ClassFile.FieldType.byte)), Jvm.Cond.code ({ cls := "java/lang/StringUTF16", name := "compress", desc := "([CI[BII)I" } : Jvm.MethodName) jdk_52_method_21_code (7 : Nat) (Option.some Jvm.ClassFile.FieldType.int), Jvm.Cond.code ({ cls := "java/lang/StringUTF16", name := "coderFromArrayLen", desc := "([BI)B" } : Jvm.MethodName) jdk_52_method_15_code (2 : Nat) (Option.some Jvm.ClassFile.FieldType.byte), Jvm.Cond.code ({ cls := "java/lang/String", name := "valueOf", desc := "(C)Ljava/lang/String;" } : Jvm.MethodName) jdk_42_method_139_code (1 : Nat) (Option.some (Jvm.ClassFile.FieldType.object "java/lang/String")), Jvm.Cond.code ({ cls := "java/lang/StringLatin1", name := "canEncode", desc := "(C)Z" } : Jvm.MethodName) jdk_43_method_3_code (1 : Nat) (Option.some Jvm.ClassFile.FieldType.boolean), Jvm.Cond.code ({ cls := "java/lang/StringLatin1", name := "toBytes", desc := "(C)[B" } : Jvm.MethodName) jdk_43_method_46_code (1 : Nat) (Option.some (Jvm.ClassFile.FieldType.array Jvm.ClassFile.FieldType.byte)), Jvm.Cond.code ({ cls := "java/lang/String", name := "<init>", desc := "([BB)V" } : Jvm.MethodName) jdk_42_method_151_code (3 : Nat) (Option.none : Option Jvm.ClassFile.FieldType)]
set_option maxRecDepth 65536 in
theorem codes_eq : words1.filter isCode = codes1 := rfl
theorem w_codes : ∀ c ∈ words1.filter isCode, c.before args0 about1 = true := by
  rw [codes_eq]
  intro c hc
  simp only [codes1, List.mem_cons, List.not_mem_nil, or_false] at hc
  rcases hc with rfl | rfl | rfl | rfl | rfl | rfl | rfl | rfl | rfl | rfl | rfl | rfl | rfl | rfl | rfl | rfl | rfl | rfl | rfl | rfl | rfl | rfl | rfl | rfl | rfl | rfl
  · exact w_c0
  · exact w_c1
  · exact w_c2
  · exact w_c3
  · exact w_c4
  · exact w_c5
  · exact w_c6
  · exact w_c7
  · exact w_c8
  · exact w_c9
  · exact w_c10
  · exact w_c11
  · exact w_c12
  · exact w_c13
  · exact w_c14
  · exact w_c15
  · exact w_c16
  · exact w_c17
  · exact w_c18
  · exact w_c19
  · exact w_c20
  · exact w_c21
  · exact w_c22
  · exact w_c23
  · exact w_c24
  · exact w_c25
set_option maxRecDepth 65536 in
theorem w_t1 : (words1.take 24).all (fun c => isCode c || c.before args0 about1) = true := by decide +kernel
set_option maxRecDepth 65536 in
theorem w_t2 : ((words1.drop 24).take 24).all (fun c => isCode c || c.before args0 about1) = true := by decide +kernel
set_option maxRecDepth 65536 in
theorem w_t3 : (((words1.drop 24).drop 24).take 24).all (fun c => isCode c || c.before args0 about1) = true := by decide +kernel
set_option maxRecDepth 65536 in
theorem w_t4 : ((((words1.drop 24).drop 24).drop 24).take 24).all (fun c => isCode c || c.before args0 about1) = true := by decide +kernel
set_option maxRecDepth 65536 in
theorem w_t5 : (((((words1.drop 24).drop 24).drop 24).drop 24).take 24).all (fun c => isCode c || c.before args0 about1) = true := by decide +kernel
set_option maxRecDepth 65536 in
theorem w_t6 : ((((((words1.drop 24).drop 24).drop 24).drop 24).drop 24).take 24).all (fun c => isCode c || c.before args0 about1) = true := by decide +kernel
set_option maxRecDepth 65536 in
theorem w_t7 : ((((((words1.drop 24).drop 24).drop 24).drop 24).drop 24).drop 24).all (fun c => isCode c || c.before args0 about1) = true := by decide +kernel
theorem w_tables : (allAtoms (Jvm.Cond.code x code maxLocals ret :: tables_1)).before args0 about1 = true := by
  rw [allAtoms_all]
  show words1.all (fun c => c.before args0 about1) = true
  refine all_split ?_ w_codes
  rw [← List.take_append_drop 24 words1, List.all_append, w_t1, ← List.take_append_drop 24 (words1.drop 24), List.all_append, w_t2, ← List.take_append_drop 24 ((words1.drop 24).drop 24), List.all_append, w_t3, ← List.take_append_drop 24 (((words1.drop 24).drop 24).drop 24), List.all_append, w_t4, ← List.take_append_drop 24 ((((words1.drop 24).drop 24).drop 24).drop 24), List.all_append, w_t5, ← List.take_append_drop 24 (((((words1.drop 24).drop 24).drop 24).drop 24).drop 24), List.all_append, w_t6, w_t7]
  rfl
set_option maxRecDepth 65536 in
theorem w_rest : rest_1_c.before args0 about1 = true := by decide +kernel
set_option maxRecDepth 65536 in
theorem w_case : (Jvm.Cond.and given_1 narrow_1).before args0 about1 = true := by decide +kernel
set_option maxRecDepth 65536 in
theorem w_consts : constsHeld consts_1 about1 := Jvm.Lit.constsHeldB_iff.mp (by decide +kernel)
theorem w_applies : (headSpec (Jvm.Cond.code x code maxLocals ret :: tables_1) room_1).applies x e0.platform about1 = true :=
  (Spec.applies_iff w_frames).mpr ⟨w_running, w_runnable, w_alone, w_named, w_hears, w_ripe, w_room, w_tables⟩
theorem atStart : AtStart classFile x code maxLocals ret World_1 tables_1 room_1 Calls_1 rest_1 Pre_1 launch0 p0 e0 about1 theMethod args0 below0 :=
  ⟨lists_1, trivial, launch0.admits_env _ _ _, launch0.least_env, fairChoices_fair.cas, fairChoices_fair.clock, w_frames, w_args, w_heap, w_applies, ⟨w_consts, trivial⟩, w_rest, w_case⟩
end start1
theorem witness_1 : WitnessClaimed_1 := ⟨start1.p0, start1.e0, start1.about1, start1.theMethod, start1.args0, start1.below0, start1.atStart⟩
end Jvm.Pilot.@@N@@
