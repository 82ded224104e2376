import JvmDerived
import JvmDerived.Pilot.@@N@@Statement
import JvmDerived.Pilot.@@N@@Code
set_option linter.unusedVariables false
set_option linter.unusedSimpArgs false
namespace Jvm.RoadKit
open Sem ClassFile Op Lib Jvm.Stand Jvm.Free Jvm.LawKit
section New
variable {p : Program} {l : Launch} {e : Env} {R : Room} {s : State} {m : MethodId} {args : Array Value} {below : List Frame} {meth : Method} {c : Code} {T : State} {locs : List Loc} {cells slots : Nat}
theorem retI (X : Stand p l e R s m args below meth c T locs cells slots) (hx : p.tables.exec = Jvm.exec) {pc : Nat} {Ls : Array Slot} {z : Int32} {rest : List Value} (hret : meth.sig.returnType = some .int) (hd : decode c.code pc = .ok (.ireturn, 1)) {fs : List Frame}
    (hl : ∀ (f : JFrame) (acts : List Action), f.method = m → f.locked = none → f.entered = [] → (doReturn e (T.setTop f) acts (some (.int z))).1 = T.setFrames fs) : Steps p.tables e below (T.setTop (mkF m pc Ls (.int z :: rest))) (T.setFrames fs) := by
  have hm' : T.vm.method? m = some meth := X.method'
  have hn : narrow .int (.int z) = .int z := rfl
  show Steps p.tables e below (T.setTop { method := m, pc := pc, locals := Ls, stack := _ :: rest, locked := none }) _
  jvm_step X.here [X.here.top, hx, hd, hm', hret, hn]
  first | (intro acts; rw [hl _ acts rfl rfl rfl]) | rw [hl _ _ rfl rfl rfl]
  exact Steps.refl _
end New
end Jvm.RoadKit
namespace Jvm.Pilot.@@N@@
open Jvm Jvm.ClassFile Sem Op Lib Jvm.Free Jvm.Stand Jvm.LawKit Jvm.RoadKit Bundle Jvm.Pilot.@@N@@.Jvm.D
section OwnKit
variable {p : Program} {l : Launch} {e : Env} {R : Room} {s : State} {m : MethodId} {args : Array Value} {below : List Frame} {meth : Method} {c : Code} {T : State} {locs : List Loc} {cells slots : Nat} {Z : State} {a0 : Array Value} {h : Heap} {P : Outcome → State → Prop} {pc pc' pc1 pc2 : Nat} {L L' : Array Slot} {S : List Value}
/-- the run from U comes to an end that P holds of -/
def OG (p : Program) (e : Env) (below : List Frame) (P : Outcome → State → Prop) (U : State) : Prop := ∃ s₂ o, Steps p.tables e below U s₂ ∧ s₂.status = .running ∧ Ended s₂ below o ∧ P o s₂
theorem OG.of {U U' : State} (k : ∀ t, Steps p.tables e below U' t → Steps p.tables e below U t) (h : OG p e below P U') : OG p e below P U := by
  obtain ⟨t, o, h1, h2⟩ := h; exact ⟨t, o, k t h1, h2⟩
theorem OG.cast {g g' : JFrame} (q : g = g') (k : OG p e below P (T.setTop g')) : OG p e below P (T.setTop g) := q ▸ k
theorem og_iand (X : Stand p l e R s m args below meth c T locs cells slots) (hx : p.tables.exec = Jvm.exec) {x y : Int32} (hd : decode c.code pc = .ok (.iand, 1)) (hp : pc + 1 = pc') (k : OG p e below P (T.setTop (mkF m pc' L (.int (x &&& y) :: S)))) : OG p e below P (T.setTop (mkF m pc L (.int y :: .int x :: S))) := by
  subst hp; exact OG.of (fun t k => XS.iand X.here hx rfl hd rfl k) k
theorem og_irem (X : Stand p l e R s m args below meth c T locs cells slots) (hx : p.tables.exec = Jvm.exec) {x y : Int32} (hy : y ≠ 0) (hd : decode c.code pc = .ok (.irem, 1)) (hp : pc + 1 = pc') (k : OG p e below P (T.setTop (mkF m pc' L (.int (x % y) :: S)))) : OG p e below P (T.setTop (mkF m pc L (.int y :: .int x :: S))) := by
  subst hp; exact OG.of (fun t k => iremM X hx rfl hd rfl hy k) k
theorem og_i2c (X : Stand p l e R s m args below meth c T locs cells slots) (hx : p.tables.exec = Jvm.exec) {x : Int32} (hd : decode c.code pc = .ok (.i2c, 1)) (hp : pc + 1 = pc') (k : OG p e below P (T.setTop (mkF m pc' L (.int (x.toUInt32.toUInt16.toUInt32.toInt32) :: S)))) : OG p e below P (T.setTop (mkF m pc L (.int x :: S))) := by
  subst hp; exact OG.of (fun t k => XS.i2c X.here hx rfl hd rfl k) k
theorem og_iconst (X : Stand p l e R s m args below meth c T locs cells slots) (hx : p.tables.exec = Jvm.exec) {i : Int} {v : Int32} (hv : Int32.ofInt i = v) (hd : decode c.code pc = .ok (.iconst i, 1)) (hp : pc + 1 = pc') (k : OG p e below P (T.setTop (mkF m pc' L (.int v :: S)))) : OG p e below P (T.setTop (mkF m pc L S)) := by
  subst hp; exact OG.of (fun t k => XS.iconst X.here hx rfl hd (hv ▸ k)) k
theorem og_bipush (X : Stand p l e R s m args below meth c T locs cells slots) (hx : p.tables.exec = Jvm.exec) {i : Int} {v : Int32} (hv : (Int8.ofInt i).toInt32 = v) (hd : decode c.code pc = .ok (.bipush i, 2)) (hp : pc + 2 = pc') (k : OG p e below P (T.setTop (mkF m pc' L (.int v :: S)))) : OG p e below P (T.setTop (mkF m pc L S)) := by
  subst hp; exact OG.of (fun t k => XS.bipush X.here hx rfl hd (hv ▸ k)) k
theorem og_iload (X : Stand p l e R s m args below meth c T locs cells slots) (hx : p.tables.exec = Jvm.exec) {j : Nat} {v : Int32} (hl : L[j]? = some (.val (.int v))) (hd : decode c.code pc = .ok (.iload j, 2)) (hp : pc + 2 = pc') (k : OG p e below P (T.setTop (mkF m pc' L (.int v :: S)))) : OG p e below P (T.setTop (mkF m pc L S)) := by
  subst hp; exact OG.of (fun t k => XS.iload X.here hx rfl hd hl k) k
theorem og_iloadN (X : Stand p l e R s m args below meth c T locs cells slots) (hx : p.tables.exec = Jvm.exec) {j : Fin 4} {v : Int32} (hl : L[j.val]? = some (.val (.int v))) (hd : decode c.code pc = .ok (.iload_n j, 1)) (hp : pc + 1 = pc') (k : OG p e below P (T.setTop (mkF m pc' L (.int v :: S)))) : OG p e below P (T.setTop (mkF m pc L S)) := by
  subst hp; exact OG.of (fun t k => XS.iloadN X.here hx rfl hd hl k) k
theorem og_istore (X : Stand p l e R s m args below meth c T locs cells slots) (hx : p.tables.exec = Jvm.exec) {j : Nat} {v : Int32} (hl : storeLocals L j (.int v) = some L') (hd : decode c.code pc = .ok (.istore j, 2)) (hp : pc + 2 = pc') (k : OG p e below P (T.setTop (mkF m pc' L' S))) : OG p e below P (T.setTop (mkF m pc L (.int v :: S))) := by
  subst hp; exact OG.of (fun t k => XS.istore X.here hx rfl hd rfl hl k) k
theorem og_aloadN (X : Stand p l e R s m args below meth c T locs cells slots) (hx : p.tables.exec = Jvm.exec) {j : Fin 4} {v : Value} (hl : L[j.val]? = some (.val v)) (hv : v.isRef = true) (hd : decode c.code pc = .ok (.aload_n j, 1)) (hp : pc + 1 = pc') (k : OG p e below P (T.setTop (mkF m pc' L (v :: S)))) : OG p e below P (T.setTop (mkF m pc L S)) := by
  subst hp; exact OG.of (fun t k => XS.aloadN X.here hx rfl hd hl hv k) k
theorem og_astoreN (X : Stand p l e R s m args below meth c T locs cells slots) (hx : p.tables.exec = Jvm.exec) {j : Fin 4} {v : Value} (hv : v.isRef = true) (hl : storeLocals L j.val v = some L') (hd : decode c.code pc = .ok (.astore_n j, 1)) (hp : pc + 1 = pc') (k : OG p e below P (T.setTop (mkF m pc' L' S))) : OG p e below P (T.setTop (mkF m pc L (v :: S))) := by
  subst hp; exact OG.of (fun t k => XS.astoreN X.here hx rfl hd rfl hv hl k) k
theorem og_dup (X : Stand p l e R s m args below meth c T locs cells slots) (hx : p.tables.exec = Jvm.exec) {v : Value} (hv : v.category = 1) (hd : decode c.code pc = .ok (.dup, 1)) (hp : pc + 1 = pc') (k : OG p e below P (T.setTop (mkF m pc' L (v :: v :: S)))) : OG p e below P (T.setTop (mkF m pc L (v :: S))) := by
  subst hp; exact OG.of (fun t k => XS.dup X.here hx rfl hd rfl hv k) k
theorem og_goto (X : Stand p l e R s m args below meth c T locs cells slots) (hx : p.tables.exec = Jvm.exec) {o : Int} (hd : decode c.code pc = .ok (.goto o, 3)) (ho : 0 ≤ (pc : Int) + o) (hp : ((pc : Int) + o).toNat = pc') (k : OG p e below P (T.setTop (mkF m pc' L S))) : OG p e below P (T.setTop (mkF m pc L S)) :=
  OG.of (fun t k => XS.goto X.here hx rfl rfl hd ho hp k) k
theorem og_icmp_eq (X : Stand p l e R s m args below meth c T locs cells slots) (hx : p.tables.exec = Jvm.exec) {x y : Int32} {o : Int} (hd : decode c.code pc = .ok (.if_icmp .eq o, 3)) (ho : 0 ≤ (pc : Int) + o) (hp1 : ((pc : Int) + o).toNat = pc1) (hp2 : pc + 3 = pc2) (k1 : x = y → OG p e below P (T.setTop (mkF m pc1 L S))) (k2 : ¬ x = y → OG p e below P (T.setTop (mkF m pc2 L S))) : OG p e below P (T.setTop (mkF m pc L (.int y :: .int x :: S))) := by
  subst hp2; by_cases q : x = y
  · exact OG.of (fun t k => XS.icmpYes X.here hx rfl rfl hd rfl ((teq q).1) ho hp1 k) (k1 q)
  · exact OG.of (fun t k => XS.icmpNo X.here hx rfl hd rfl ((feq q).1) k) (k2 q)
theorem og_if_eq (X : Stand p l e R s m args below meth c T locs cells slots) (hx : p.tables.exec = Jvm.exec) {x : Int32} {o : Int} (hd : decode c.code pc = .ok (.ifCond .eq o, 3)) (ho : 0 ≤ (pc : Int) + o) (hp1 : ((pc : Int) + o).toNat = pc1) (hp2 : pc + 3 = pc2) (k1 : x = (0 : Int32) → OG p e below P (T.setTop (mkF m pc1 L S))) (k2 : ¬ x = (0 : Int32) → OG p e below P (T.setTop (mkF m pc2 L S))) : OG p e below P (T.setTop (mkF m pc L (.int x :: S))) := by
  subst hp2; by_cases q : x = (0 : Int32)
  · exact OG.of (fun t k => XS.ifYes X.here hx rfl rfl hd rfl ((if0 _ _).trans (teq q).1) ho hp1 k) (k1 q)
  · exact OG.of (fun t k => XS.ifNo X.here hx rfl hd rfl ((if0 _ _).trans (feq q).1) k) (k2 q)
theorem og_icmp_ne (X : Stand p l e R s m args below meth c T locs cells slots) (hx : p.tables.exec = Jvm.exec) {x y : Int32} {o : Int} (hd : decode c.code pc = .ok (.if_icmp .ne o, 3)) (ho : 0 ≤ (pc : Int) + o) (hp1 : ((pc : Int) + o).toNat = pc1) (hp2 : pc + 3 = pc2) (k1 : ¬ x = y → OG p e below P (T.setTop (mkF m pc1 L S))) (k2 : x = y → OG p e below P (T.setTop (mkF m pc2 L S))) : OG p e below P (T.setTop (mkF m pc L (.int y :: .int x :: S))) := by
  subst hp2; by_cases q : x = y
  · exact OG.of (fun t k => XS.icmpNo X.here hx rfl hd rfl ((teq q).2) k) (k2 q)
  · exact OG.of (fun t k => XS.icmpYes X.here hx rfl rfl hd rfl ((feq q).2) ho hp1 k) (k1 q)
theorem og_if_ne (X : Stand p l e R s m args below meth c T locs cells slots) (hx : p.tables.exec = Jvm.exec) {x : Int32} {o : Int} (hd : decode c.code pc = .ok (.ifCond .ne o, 3)) (ho : 0 ≤ (pc : Int) + o) (hp1 : ((pc : Int) + o).toNat = pc1) (hp2 : pc + 3 = pc2) (k1 : ¬ x = (0 : Int32) → OG p e below P (T.setTop (mkF m pc1 L S))) (k2 : x = (0 : Int32) → OG p e below P (T.setTop (mkF m pc2 L S))) : OG p e below P (T.setTop (mkF m pc L (.int x :: S))) := by
  subst hp2; by_cases q : x = (0 : Int32)
  · exact OG.of (fun t k => XS.ifNo X.here hx rfl hd rfl ((if0 _ _).trans (teq q).2) k) (k2 q)
  · exact OG.of (fun t k => XS.ifYes X.here hx rfl rfl hd rfl ((if0 _ _).trans (feq q).2) ho hp1 k) (k1 q)
theorem og_acmp_ne (X : Stand p l e R s m args below meth c T locs cells slots) (hx : p.tables.exec = Jvm.exec) {v w : Value} (hv : v.isRef = true) (hw : w.isRef = true) {o : Int} (hd : decode c.code pc = .ok (.if_acmp .ne o, 3)) (ho : 0 ≤ (pc : Int) + o) (hp1 : ((pc : Int) + o).toNat = pc1) (hp2 : pc + 3 = pc2) (k1 : ¬ v = w → OG p e below P (T.setTop (mkF m pc1 L S))) (k2 : v = w → OG p e below P (T.setTop (mkF m pc2 L S))) : OG p e below P (T.setTop (mkF m pc L (w :: v :: S))) := by
  subst hp2 hp1; by_cases q : v = w
  · exact OG.of (fun t k => Jvm.RoadKit.acmp X hx rfl hv hw (same := true) rfl hd rfl (decide_eq_true q) ho rfl k) (k2 q)
  · exact OG.of (fun t k => Jvm.RoadKit.acmp X hx rfl hv hw (same := false) rfl hd rfl (decide_eq_false q) ho rfl k) (k1 q)
theorem og_ldc (X : Stand p l e R s m args below meth c T locs cells slots) (hx : p.tables.exec = Jvm.exec) (hZ : Z.Warmed39 s.vm) {own : String} {index : Nat} {v : Int32} (hown : s.vm.findClass own = some m.cls) (w : (Cond.constant own index v).before a0 Z = true) (hd : decode c.code pc = .ok (.ldc index, 2)) (hp : pc + 2 = pc') (k : OG p e below P (T.setTop (mkF m pc' L (.int v :: S)))) : OG p e below P (T.setTop (mkF m pc L S)) := by
  subst hp; exact OG.of (X.ldcInt hx hown (mvT hZ w) (g := mkF m pc L S) rfl hd) k
theorem og_getstatic (X : Stand p l e R s m args below meth c T locs cells slots) (hx : p.tables.exec = Jvm.exec) (hZ : Z.Warmed39 s.vm) {own R0 O n d host : String} {index : Nat} (hown : s.vm.findClass own = some m.cls) (w : (Cond.fieldLink own index R0 n d).before a0 Z = true ∨ (Cond.fieldLinkNest own index R0 n d host).before a0 Z = true) (via : Via Z R0 O n d) (eT : T.heap = h) {v : Value} (F : Sta Z h O n d v) (hd : decode c.code pc = .ok (.getstatic index, 3)) (hp : pc + 3 = pc') (k : ∀ T', Stand p l e R s m args below meth c T' locs cells slots → T'.heap = h → OG p e below P (T'.setTop (mkF m pc' L (v :: S)))) : OG p e below P (T.setTop (mkF m pc L S)) := by
  subst hp; obtain ⟨T', X', e', st⟩ := getS2 X hx hZ hown w via eT F (g := mkF m pc L S) rfl hd
  exact OG.of st (k T' X' e')
theorem og_getfield (X : Stand p l e R s m args below meth c T locs cells slots) (hx : p.tables.exec = Jvm.exec) (hZ : Z.Warmed39 s.vm) {own R0 O n d host : String} {index : Nat} (hown : s.vm.findClass own = some m.cls) (w : (Cond.fieldLink own index R0 n d).before a0 Z = true ∨ (Cond.fieldLinkNest own index R0 n d host).before a0 Z = true) (via : Via Z R0 O n d) (eT : T.heap = h) {a : Addr} {v : Value} (F : Fld Z h a O n d v) (hd : decode c.code pc = .ok (.getfield index, 3)) (hp : pc + 3 = pc') (k : ∀ T', Stand p l e R s m args below meth c T' locs cells slots → T'.heap = h → OG p e below P (T'.setTop (mkF m pc' L (v :: S)))) : OG p e below P (T.setTop (mkF m pc L (.ref a :: S))) := by
  subst hp; obtain ⟨T', X', e', st⟩ := getF X hx hZ hown w via eT F (g := mkF m pc L (.ref a :: S)) rfl rfl hd
  exact OG.of st (k T' X' e')
theorem og_anewarray (X : Stand p l e R s m args below meth c T locs cells slots) (hx : p.tables.exec = Jvm.exec) (hZ : Z.Warmed39 s.vm) {own C : String} {index : Nat} {cells' slots' : Nat} (hown : s.vm.findClass own = some m.cls) (w1 : (Cond.classLink own index C).before a0 Z = true) (w2 : (Cond.arrayOver (.object C)).before a0 Z = true) (eT : T.heap = h) {n : Int32} (hn : ¬ n < 0) {cap : Nat} (hcap : n.toNatClampNeg ≤ cap) (hb : cap * 8 ≤ 536870912) (hd : decode c.code pc = .ok (.anewarray index, 3)) (hp : pc + 3 = pc') (hc' : cells + 1 = cells') (hs' : slots + cap = slots') (hc : cells' ≤ R.cells) (hl : slots' ≤ R.slots) (k : ∀ T' h' a kA, Stand p l e R s m args below meth c T' locs cells' slots' → T'.heap = h' → Ext h h' → a = h.size → Arv Z h' a kA (.object C) n [] .null → Ovr Z kA C → OG p e below P (T'.setTop (mkF m pc' L (.ref a :: S)))) : OG p e below P (T.setTop (mkF m pc L (.int n :: S))) := by
  subst hp hc' hs'; obtain ⟨T', h', kA, X', e', E', A', O', st⟩ := newR X hx hZ hown w1 w2 eT (g := mkF m pc L (.int n :: S)) rfl hd rfl hn hcap hb hc hl
  exact OG.of st (k T' h' _ kA X' e' E' rfl (Arv.new A' hn) O')
theorem og_aastore (X : Stand p l e R s m args below meth c T locs cells slots) (hx : p.tables.exec = Jvm.exec) (hZ : Z.Warmed39 s.vm) (eT : T.heap = h) {a : Addr} {kA : ClassId} {j z : Int32} {vs : List Value} {dv v : Value} {ty : FieldType} (F : Arv Z h a kA ty z vs dv) (hty : ty.isReference = true) (q : ¬ j < 0 ∧ j < z) (i : Nat) (hj : j.toNatClampNeg = i) (hi : i < vs.length) (hv : fits ty v = true) (Q : Sto Z h a v) (hd : decode c.code pc = .ok (.aastore, 1)) (hp : pc + 1 = pc') (k : ∀ T' h', Stand p l e R s m args below meth c T' (locs ++ [⟨a, j.toNatClampNeg⟩]) cells slots → T'.heap = h' → Wr h h' a j.toNatClampNeg v → Arv Z h' a kA ty z (vs.set i v) dv → OG p e below P (T'.setTop (mkF m pc' L S))) : OG p e below P (T.setTop (mkF m pc L (v :: .int j :: .ref a :: S))) := by
  subst hp; obtain ⟨cl, A, q1, S1, q3, H, G⟩ := F
  obtain ⟨T', h', X', e', W', st⟩ := stR X hx hZ eT A (j := j) (inb_of S1 q) hty Q (g := mkF m pc L (v :: .int j :: .ref a :: S)) rfl rfl hd
  exact OG.of st (k T' h' X' e' W' (Arv.set A q1 S1 q3 H G hv W' i hj hi))
theorem own_sto {a y : Addr} {kA : ClassId} {C : String} {z : Int32} {vs : List Value} {dv : Value} {ty : FieldType} (F : Arv Z h a kA ty z vs dv) (O : Ovr Z kA C) (I : Ins Z h y C true) : Sto Z h a (.ref y) := by
  obtain ⟨cl, A, q1, -⟩ := F; exact Sto.ofV A q1 O I
theorem og_aaload (X : Stand p l e R s m args below meth c T locs cells slots) (hx : p.tables.exec = Jvm.exec) (hZ : Z.Warmed39 s.vm) (eT : T.heap = h) {a : Addr} {kA : ClassId} {j z : Int32} {vs : List Value} {dv v : Value} {ty : FieldType} (hty : ty.isReference = true) (F : Arv Z h a kA ty z vs dv) (q : ¬ j < 0 ∧ j < z) (hv : vs.getD j.toNatClampNeg dv = v) (hd : decode c.code pc = .ok (.aaload, 1)) (hp : pc + 1 = pc') (k : OG p e below P (T.setTop (mkF m pc' L (v :: S)))) : OG p e below P (T.setTop (mkF m pc L (.int j :: .ref a :: S))) := by
  subst hp; obtain ⟨cl, A, q1, S1, q3, H, G⟩ := F
  exact OG.of (fun t k => X.aaload hx (j := j) (v := v) (by rw [eT]; exact A.1) (State.isArrayOf_alike hZ.alike A.2.1) hty A.2.2 (inb_of S1 q) (H.at (inb_of S1 q) hv) (g := mkF m pc L (.int j :: .ref a :: S)) rfl rfl hd t k) k
def Con (l : Launch) (Z : State) (y : MethodName) (bytes : ByteArray) (maxL : Nat) (ret : Option FieldType) (rm : Room) (as' : Array Value) (h : Heap) (Q : Option Value → Heap → List Loc → Prop) : Prop :=
  MetFree l y (head1 [Cond.code y bytes maxL ret] rm) (fun a U => a = as' ∧ Z.Warmed39 U.vm ∧ U.heap = h) (fun _ _ _ _ _ => True) (fun _ U o U' => ∃ v L, o = .returned v ∧ Q v U'.heap L ∧ FrameEnd U o U' L rm.cells rm.slots)
abbrev Fin (s : State) (Q : Option Value → Heap → List Loc → Prop) (k n : Nat) (o : Outcome) (t : State) : Prop := ∃ v L, o = .returned v ∧ Q v t.heap L ∧ FrameEnd s o t L k n
theorem own_start {y : MethodName} {bytes : ByteArray} {maxL : Nat} {ret : Option FieldType} {rm : Room} {as' : Array Value} {ws : List Cond} {Q : Option Value → Heap → List Loc → Prop} {kc ks : Nat} (hpn : plainFor y = true)
    (body : ∀ (p : Program) (e : Env) (s : State) (m : MethodId) (below : List Frame) (meth : Method) (c : Code) (T : State), Stand p l e rm s m as' below meth c T [] 0 0 → p.tables.exec = Jvm.exec → c.code = bytes → c.maxLocals = maxL → Z.Warmed39 s.vm → s.vm.findClass y.cls = some m.cls → meth.name = y.name → meth.sig.returnType = ret → meth.locks = false → T.heap = h → OG p e below (Fin s Q kc ks) (T.setTop (entryFrame m as' maxL))) :
    MetFree l y (head1 (Cond.code y bytes maxL ret :: ws) rm) (fun a U => a = as' ∧ Z.Warmed39 U.vm ∧ U.heap = h) (fun _ _ _ _ _ => True) (fun _ U o U' => ∃ v L, o = .returned v ∧ Q v U'.heap L ∧ FrameEnd U o U' L kc ks) := by
  refine MetFree.of_bodySF hpn hisR ?_
  intro p e s m args below meth c s₁ Bd hml0 hP hK
  obtain ⟨rfl, hZ, hh⟩ := hP
  exact body p e s m below meth c s₁ (Stand.of_body Bd) Bd.exec Bd.bytes hml0 hZ (findClass_of_methodNamed Bd.named) (name_of_methodNamed Bd.named Bd.method).1 Bd.returns Bd.notSynchronized (by rw [← hh, Bd.state]; rfl)
theorem og_ret (X : Stand p l e R s m args below meth c T locs cells slots) (hlk : meth.locks = false) {Q : Option Value → Heap → List Loc → Prop} {kc ks : Nat} {g : JFrame} (v : Option Value) (hv : meth.sig.returnType = none → v = none)
    (st : ∀ fs, (∀ (f : JFrame) (acts : List Action), f.method = m → f.locked = none → f.entered = [] → (doReturn e (T.setTop f) acts v).1 = T.setFrames fs) → Steps p.tables e below (T.setTop g) (T.setFrames fs)) (hc : cells ≤ kc) (hs : slots ≤ ks) (hQ : Q v T.heap locs) : OG p e below (Fin s Q kc ks) (T.setTop g) := by
  obtain ⟨fs, hr, hrun, hended, hW, hsame⟩ := X.leave hv hlk
  exact ⟨_, _, st fs hr, hrun, hended, v, locs, rfl, hQ, ⟨_, rfl⟩, hW, hsame.mono hc hs⟩
theorem og_retI (X : Stand p l e R s m args below meth c T locs cells slots) (hx : p.tables.exec = Jvm.exec) (hlk : meth.locks = false) (hret : meth.sig.returnType = some .int) {Q : Option Value → Heap → List Loc → Prop} {kc ks : Nat} {z : Int32} (hd : decode c.code pc = .ok (.ireturn, 1)) (hc : cells ≤ kc) (hs : slots ≤ ks) (hQ : Q (some (.int z)) T.heap locs) : OG p e below (Fin s Q kc ks) (T.setTop (mkF m pc L (.int z :: S))) :=
  og_ret X hlk (some (.int z)) (fun q => by rw [hret] at q; cases q) (fun fs hr => retI X hx hret hd hr) hc hs hQ
theorem og_retN (X : Stand p l e R s m args below meth c T locs cells slots) (hx : p.tables.exec = Jvm.exec) (hlk : meth.locks = false) {t : FieldType} (hret : meth.sig.returnType = some t) (ht : t = .boolean ∨ t = .byte ∨ t = .char ∨ t = .short) {Q : Option Value → Heap → List Loc → Prop} {kc ks : Nat} {z : Int32} (hd : decode c.code pc = .ok (.ireturn, 1)) (hc : cells ≤ kc) (hs : slots ≤ ks) (hQ : Q (some (.int (nar t z))) T.heap locs) : OG p e below (Fin s Q kc ks) (T.setTop (mkF m pc L (.int z :: S))) :=
  og_ret X hlk (some (.int (nar t z))) (fun q => by rw [hret] at q; cases q) (fun fs hr => retN X hx hret ht hd hr) hc hs hQ
theorem og_retR (X : Stand p l e R s m args below meth c T locs cells slots) (hx : p.tables.exec = Jvm.exec) (hlk : meth.locks = false) {t : FieldType} (hret : meth.sig.returnType = some t) (ht : t.isReference = true) {Q : Option Value → Heap → List Loc → Prop} {kc ks : Nat} {v : Value} (hv : v.isRef = true) (hn : narrow t v = v) (hd : decode c.code pc = .ok (.areturn, 1)) (hc : cells ≤ kc) (hs : slots ≤ ks) (hQ : Q (some v) T.heap locs) : OG p e below (Fin s Q kc ks) (T.setTop (mkF m pc L (v :: S))) :=
  og_ret X hlk (some v) (fun q => by rw [hret] at q; cases q) (fun fs hr => retOut X hx hret hn (Or.inr (Or.inr (Or.inr (Or.inr ⟨rfl, ht, hv⟩)))) hd hr) hc hs hQ
theorem og_virtual (X : Stand p l e R s m args below meth c T locs cells slots) (hx : p.tables.exec = Jvm.exec) (hZ : Z.Warmed39 s.vm) {own C : String} {index : Nat} {y z : MethodName} {bytes : ByteArray} {maxL : Nat} {ret : Option FieldType} {rm : Room} {as' : Array Value} {Q : Option Value → Heap → List Loc → Prop} {W cells' slots' : Nat} (hM : Con l Z z bytes maxL ret rm as' h Q) (hown : s.vm.findClass own = some m.cls) (w1 : (Cond.methodLink own index y).before a0 Z = true) (w2 : (Cond.declares y).before a0 Z = true) (hnf : NotFace s y) (w3 : (Cond.selects C y z).before a0 Z = true) (w4 : (Cond.instanceMethod z).before a0 Z = true) (wz : (Cond.initialized z.cls).before a0 Z = true) (wc : (Cond.code z bytes maxL ret).before a0 Z = true) (hy : y.cls ≠ "java/lang/invoke/MethodHandle" ∧ y.cls ≠ "java/lang/invoke/VarHandle") (hml : L.size = c.maxLocals) (eT : T.heap = h) {ps : List FieldType} {rt : Option FieldType} (hpd : parseMethodDescriptor y.desc = some ⟨ps, rt⟩) {a : Addr} (argsL rest : List Value) (hll : argsL.length = ps.length) (has : (.ref a :: argsL).toArray = as') (hst : S = argsL.reverse ++ .ref a :: rest) (hW : (rest.map fun v => v.category).sum = W) (hf : rm.frames + 1 ≤ R.frames) (hl : W + (maxL + 11) + rm.locals ≤ R.locals) (hc' : cells + rm.cells = cells') (hs' : slots + rm.slots = slots') (hc : cells' ≤ R.cells) (hs : slots' ≤ R.slots) (E : Exa Z h a C) (hd : decode c.code pc = .ok (.invokevirtual index, 3)) (hp : pc + 3 = pc') (k : ∀ v T' h' Lc, Stand p l e R s m args below meth c T' (locs ++ Lc) cells' slots' → T'.heap = h' → Q v h' Lc → OG p e below P (T'.setTop (mkF m pc' L (v.toList ++ rest)))) : OG p e below P (T.setTop (mkF m pc L S)) := by
  subst hp hst hc' hs' has
  obtain ⟨cq, kq, qa, qb, qc⟩ := isOf hZ eT E
  obtain ⟨v, _, ⟨T1, L1, k1, n1⟩, -, X1, ⟨Lc, hQ, l1, y1, z1⟩, st⟩ := X.virtualBack hx (y := y) (z := z) hown (mvT hZ w1) (mvT hZ w2) hnf (mvT hZ w3) (mvT hZ w4) hy (backOf (W := W) hM hZ wc wz hf hl) qa qc (g := mkF m pc L (argsL.reverse ++ .ref a :: rest)) rfl hml (Steps.refl _) (argsL := argsL) (rest := rest) (lenOf hpd hll) rfl (by show 2 * 0 + _ ≤ _; rw [hW]; omega) hd (fun _ _ => ⟨rfl, eT, hc, hs⟩)
  dsimp only [Pt.U, Pt.locs, Pt.cells, Pt.slots] at X1 l1 y1 z1 st hQ
  subst l1 y1 z1
  exact OG.of (fun t k => st.trans k) (k v T1 _ Lc X1 rfl hQ)
theorem own_nf (hZ : Z.Warmed39 s.vm) {C : String} {y : MethodName} (w : (Cond.selects C y y).before a0 Z = true) : NotFace s y := notFace_of_selects (args := #[]) (mvT hZ w)
theorem own_n0 {n0 : Nat} (O : Old Z n0 h) : n0 ≤ h.size := O.1 ▸ O.2.1
theorem own_eqint {args : Array Value} {t : Term} {n : Int32} (q : (Cond.eq t (Term.int n)).value args s none s [] = some true) : t.eval args s none [] s = some (.int n) := by
  simp only [Cond.value, Term.eval] at q
  cases ht : t.eval args s none [] s with
  | none => simp [ht] at q
  | some x => cases x <;> simp [ht] at q ⊢; exact q
theorem own_fldstart {args : Array Value} {t : Term} {C n d : String} {a : Addr} {v : Value} (ht : t.eval args s none [] s = some (.ref a)) (q : (Term.field t C n d).eval args s none [] s = some v) : Fld s s.heap a C n d v := Fld.start (by rw [← fld_at ht]; exact q)
theorem og_virtualUp (X : Stand p l e R s m args below meth c T locs cells slots) (hx : p.tables.exec = Jvm.exec) (hZ : Z.Warmed39 s.vm) {own C owner : String} {index : Nat} {y z : MethodName} {bytes : ByteArray} {maxL : Nat} {ret : Option FieldType} {rm : Room} {as' : Array Value} {Q : Option Value → Heap → List Loc → Prop} {W cells' slots' : Nat} (hM : Con l Z z bytes maxL ret rm as' h Q) (hown : s.vm.findClass own = some m.cls) (w1 : (Cond.methodLink own index y).before a0 Z = true) (w2 : (Cond.sameMethod y.cls owner y.name y.desc).before a0 Z = true) (w2' : (Cond.declares ⟨owner, y.name, y.desc⟩).before a0 Z = true) (hy' : owner ≠ "java/lang/invoke/MethodHandle" ∧ owner ≠ "java/lang/invoke/VarHandle") (w3 : (Cond.selects C y z).before a0 Z = true) (w4 : (Cond.instanceMethod z).before a0 Z = true) (wz : (Cond.initialized z.cls).before a0 Z = true) (wc : (Cond.code z bytes maxL ret).before a0 Z = true) (hy : y.cls ≠ "java/lang/invoke/MethodHandle" ∧ y.cls ≠ "java/lang/invoke/VarHandle") (hml : L.size = c.maxLocals) (eT : T.heap = h) {ps : List FieldType} {rt : Option FieldType} (hpd : parseMethodDescriptor y.desc = some ⟨ps, rt⟩) {a : Addr} (argsL rest : List Value) (hll : argsL.length = ps.length) (has : (.ref a :: argsL).toArray = as') (hst : S = argsL.reverse ++ .ref a :: rest) (hW : (rest.map fun v => v.category).sum = W) (hf : rm.frames + 1 ≤ R.frames) (hl : W + (maxL + 11) + rm.locals ≤ R.locals) (hc' : cells + rm.cells = cells') (hs' : slots + rm.slots = slots') (hc : cells' ≤ R.cells) (hs : slots' ≤ R.slots) (E : Exa Z h a C) (hd : decode c.code pc = .ok (.invokevirtual index, 3)) (hp : pc + 3 = pc') (k : ∀ v T' h' Lc, Stand p l e R s m args below meth c T' (locs ++ Lc) cells' slots' → T'.heap = h' → Q v h' Lc → OG p e below P (T'.setTop (mkF m pc' L (v.toList ++ rest)))) : OG p e below P (T.setTop (mkF m pc L S)) := by
  subst hp hst hc' hs' has
  obtain ⟨cq, kq, qa, qb, qc⟩ := isOf hZ eT E
  obtain ⟨v, _, ⟨T1, L1, k1, n1⟩, -, X1, ⟨Lc, hQ, l1, y1, z1⟩, st⟩ := X.virtualBackUp hx (x := y) (y := z) hown (mvT hZ w1) (mvT hZ w2) (mvT hZ w2') hy' (mvT hZ w3) (mvT hZ w4) (backOf (W := W) hM hZ wc wz hf hl) qa qc (g := mkF m pc L (argsL.reverse ++ .ref a :: rest)) rfl hml (Steps.refl _) (argsL := argsL) (rest := rest) (lenOf hpd hll) rfl (by show 2 * 0 + _ ≤ _; rw [hW]; omega) hd (fun _ _ => ⟨rfl, eT, hc, hs⟩)
  dsimp only [Pt.U, Pt.locs, Pt.cells, Pt.slots] at X1 l1 y1 z1 st hQ
  subst l1 y1 z1
  exact OG.of (fun t k => st.trans k) (k v T1 _ Lc X1 rfl hQ)
end OwnKit
theorem ow0 {a0 : Array Value} {Z : State} (hw : ∀ d ∈ tables_1, d.before a0 Z = true) : (Jvm.Cond.classLink "com/example/nitpick/nitpick/internal/interpolation/QuotingNextPinLaw" (7 : Nat) "com/example/nitpick/nitpick/internal/interpolation/ExpressionLiterals$Quoting").before a0 Z = true := hw _ (List.mem_of_getElem? (i := 0) rfl)
theorem ow1 {a0 : Array Value} {Z : State} (hw : ∀ d ∈ tables_1, d.before a0 Z = true) : (Jvm.Cond.arrayOver (Jvm.ClassFile.FieldType.object "com/example/nitpick/nitpick/internal/interpolation/ExpressionLiterals$Quoting")).before a0 Z = true := hw _ (List.mem_of_getElem? (i := 1) rfl)
theorem ow2 {a0 : Array Value} {Z : State} (hw : ∀ d ∈ tables_1, d.before a0 Z = true) : (Jvm.Cond.fieldLink "com/example/nitpick/nitpick/internal/interpolation/QuotingNextPinLaw" (9 : Nat) "com/example/nitpick/nitpick/internal/interpolation/ExpressionLiterals$Quoting" "CODE" "Lcom/example/nitpick/nitpick/internal/interpolation/ExpressionLiterals$Quoting;").before a0 Z = true := hw _ (List.mem_of_getElem? (i := 2) rfl)
theorem ow3 {a0 : Array Value} {Z : State} (hw : ∀ d ∈ tables_1, d.before a0 Z = true) : (Jvm.Cond.initialized "com/example/nitpick/nitpick/internal/interpolation/ExpressionLiterals$Quoting").before a0 Z = true := hw _ (List.mem_of_getElem? (i := 3) rfl)
theorem ow4 {a0 : Array Value} {Z : State} (hw : ∀ d ∈ tables_1, d.before a0 Z = true) : (Jvm.Cond.laysStatic "com/example/nitpick/nitpick/internal/interpolation/ExpressionLiterals$Quoting" "CODE" "Lcom/example/nitpick/nitpick/internal/interpolation/ExpressionLiterals$Quoting;").before a0 Z = true := hw _ (List.mem_of_getElem? (i := 4) rfl)
theorem ow6 {a0 : Array Value} {Z : State} (hw : ∀ d ∈ tables_1, d.before a0 Z = true) : (Jvm.Cond.fieldLink "com/example/nitpick/nitpick/internal/interpolation/QuotingNextPinLaw" (13 : Nat) "com/example/nitpick/nitpick/internal/interpolation/ExpressionLiterals$Quoting" "SINGLE" "Lcom/example/nitpick/nitpick/internal/interpolation/ExpressionLiterals$Quoting;").before a0 Z = true := hw _ (List.mem_of_getElem? (i := 6) rfl)
theorem ow7 {a0 : Array Value} {Z : State} (hw : ∀ d ∈ tables_1, d.before a0 Z = true) : (Jvm.Cond.laysStatic "com/example/nitpick/nitpick/internal/interpolation/ExpressionLiterals$Quoting" "SINGLE" "Lcom/example/nitpick/nitpick/internal/interpolation/ExpressionLiterals$Quoting;").before a0 Z = true := hw _ (List.mem_of_getElem? (i := 7) rfl)
theorem ow8 {a0 : Array Value} {Z : State} (hw : ∀ d ∈ tables_1, d.before a0 Z = true) : (Jvm.Cond.fieldLink "com/example/nitpick/nitpick/internal/interpolation/QuotingNextPinLaw" (16 : Nat) "com/example/nitpick/nitpick/internal/interpolation/ExpressionLiterals$Quoting" "SINGLE_ESCAPED" "Lcom/example/nitpick/nitpick/internal/interpolation/ExpressionLiterals$Quoting;").before a0 Z = true := hw _ (List.mem_of_getElem? (i := 8) rfl)
theorem ow9 {a0 : Array Value} {Z : State} (hw : ∀ d ∈ tables_1, d.before a0 Z = true) : (Jvm.Cond.laysStatic "com/example/nitpick/nitpick/internal/interpolation/ExpressionLiterals$Quoting" "SINGLE_ESCAPED" "Lcom/example/nitpick/nitpick/internal/interpolation/ExpressionLiterals$Quoting;").before a0 Z = true := hw _ (List.mem_of_getElem? (i := 9) rfl)
theorem ow10 {a0 : Array Value} {Z : State} (hw : ∀ d ∈ tables_1, d.before a0 Z = true) : (Jvm.Cond.fieldLink "com/example/nitpick/nitpick/internal/interpolation/QuotingNextPinLaw" (19 : Nat) "com/example/nitpick/nitpick/internal/interpolation/ExpressionLiterals$Quoting" "DOUBLE" "Lcom/example/nitpick/nitpick/internal/interpolation/ExpressionLiterals$Quoting;").before a0 Z = true := hw _ (List.mem_of_getElem? (i := 10) rfl)
theorem ow11 {a0 : Array Value} {Z : State} (hw : ∀ d ∈ tables_1, d.before a0 Z = true) : (Jvm.Cond.laysStatic "com/example/nitpick/nitpick/internal/interpolation/ExpressionLiterals$Quoting" "DOUBLE" "Lcom/example/nitpick/nitpick/internal/interpolation/ExpressionLiterals$Quoting;").before a0 Z = true := hw _ (List.mem_of_getElem? (i := 11) rfl)
theorem ow12 {a0 : Array Value} {Z : State} (hw : ∀ d ∈ tables_1, d.before a0 Z = true) : (Jvm.Cond.fieldLink "com/example/nitpick/nitpick/internal/interpolation/QuotingNextPinLaw" (22 : Nat) "com/example/nitpick/nitpick/internal/interpolation/ExpressionLiterals$Quoting" "DOUBLE_ESCAPED" "Lcom/example/nitpick/nitpick/internal/interpolation/ExpressionLiterals$Quoting;").before a0 Z = true := hw _ (List.mem_of_getElem? (i := 12) rfl)
theorem ow13 {a0 : Array Value} {Z : State} (hw : ∀ d ∈ tables_1, d.before a0 Z = true) : (Jvm.Cond.laysStatic "com/example/nitpick/nitpick/internal/interpolation/ExpressionLiterals$Quoting" "DOUBLE_ESCAPED" "Lcom/example/nitpick/nitpick/internal/interpolation/ExpressionLiterals$Quoting;").before a0 Z = true := hw _ (List.mem_of_getElem? (i := 13) rfl)
theorem ow14 {a0 : Array Value} {Z : State} (hw : ∀ d ∈ tables_1, d.before a0 Z = true) : (Jvm.Cond.constant "com/example/nitpick/nitpick/internal/interpolation/QuotingNextPinLaw" (25 : Nat) (2147483647 : Int32)).before a0 Z = true := hw _ (List.mem_of_getElem? (i := 14) rfl)
theorem ow15 {a0 : Array Value} {Z : State} (hw : ∀ d ∈ tables_1, d.before a0 Z = true) : (Jvm.Cond.methodLink "com/example/nitpick/nitpick/internal/interpolation/QuotingNextPinLaw" (26 : Nat) ({ cls := "com/example/nitpick/nitpick/internal/interpolation/ExpressionLiterals$Quoting", name := "next", desc := "(C)Lcom/example/nitpick/nitpick/internal/interpolation/ExpressionLiterals$Quoting;" } : Jvm.MethodName)).before a0 Z = true := hw _ (List.mem_of_getElem? (i := 15) rfl)
theorem ow16 {a0 : Array Value} {Z : State} (hw : ∀ d ∈ tables_1, d.before a0 Z = true) : (Jvm.Cond.declares ({ cls := "com/example/nitpick/nitpick/internal/interpolation/ExpressionLiterals$Quoting", name := "next", desc := "(C)Lcom/example/nitpick/nitpick/internal/interpolation/ExpressionLiterals$Quoting;" } : Jvm.MethodName)).before a0 Z = true := hw _ (List.mem_of_getElem? (i := 16) rfl)
theorem ow17 {a0 : Array Value} {Z : State} (hw : ∀ d ∈ tables_1, d.before a0 Z = true) : (Jvm.Cond.instanceMethod ({ cls := "com/example/nitpick/nitpick/internal/interpolation/ExpressionLiterals$Quoting", name := "next", desc := "(C)Lcom/example/nitpick/nitpick/internal/interpolation/ExpressionLiterals$Quoting;" } : Jvm.MethodName)).before a0 Z = true := hw _ (List.mem_of_getElem? (i := 17) rfl)
theorem ow18 {a0 : Array Value} {Z : State} (hw : ∀ d ∈ tables_1, d.before a0 Z = true) : (Jvm.Cond.selects "com/example/nitpick/nitpick/internal/interpolation/ExpressionLiterals$Quoting" ({ cls := "com/example/nitpick/nitpick/internal/interpolation/ExpressionLiterals$Quoting", name := "next", desc := "(C)Lcom/example/nitpick/nitpick/internal/interpolation/ExpressionLiterals$Quoting;" } : Jvm.MethodName) ({ cls := "com/example/nitpick/nitpick/internal/interpolation/ExpressionLiterals$Quoting", name := "next", desc := "(C)Lcom/example/nitpick/nitpick/internal/interpolation/ExpressionLiterals$Quoting;" } : Jvm.MethodName)).before a0 Z = true := hw _ (List.mem_of_getElem? (i := 18) rfl)
theorem ow19 {a0 : Array Value} {Z : State} (hw : ∀ d ∈ tables_1, d.before a0 Z = true) : (Jvm.Cond.code ({ cls := "com/example/nitpick/nitpick/internal/interpolation/ExpressionLiterals$Quoting", name := "next", desc := "(C)Lcom/example/nitpick/nitpick/internal/interpolation/ExpressionLiterals$Quoting;" } : Jvm.MethodName) prog_60_method_4_code (2 : Nat) (Option.some (Jvm.ClassFile.FieldType.object "com/example/nitpick/nitpick/internal/interpolation/ExpressionLiterals$Quoting"))).before a0 Z = true := hw _ (List.mem_of_getElem? (i := 19) rfl)
theorem ow20 {a0 : Array Value} {Z : State} (hw : ∀ d ∈ tables_1, d.before a0 Z = true) : (Jvm.Cond.methodLink "com/example/nitpick/nitpick/internal/interpolation/ExpressionLiterals$Quoting" (38 : Nat) ({ cls := "com/example/nitpick/nitpick/internal/interpolation/ExpressionLiterals$Quoting", name := "ordinal", desc := "()I" } : Jvm.MethodName)).before a0 Z = true := hw _ (List.mem_of_getElem? (i := 20) rfl)
theorem ow21 {a0 : Array Value} {Z : State} (hw : ∀ d ∈ tables_1, d.before a0 Z = true) : (Jvm.Cond.sameMethod "com/example/nitpick/nitpick/internal/interpolation/ExpressionLiterals$Quoting" "java/lang/Enum" "ordinal" "()I").before a0 Z = true := hw _ (List.mem_of_getElem? (i := 21) rfl)
theorem ow22 {a0 : Array Value} {Z : State} (hw : ∀ d ∈ tables_1, d.before a0 Z = true) : (Jvm.Cond.declares ({ cls := "java/lang/Enum", name := "ordinal", desc := "()I" } : Jvm.MethodName)).before a0 Z = true := hw _ (List.mem_of_getElem? (i := 22) rfl)
theorem ow23 {a0 : Array Value} {Z : State} (hw : ∀ d ∈ tables_1, d.before a0 Z = true) : (Jvm.Cond.instanceMethod ({ cls := "java/lang/Enum", name := "ordinal", desc := "()I" } : Jvm.MethodName)).before a0 Z = true := hw _ (List.mem_of_getElem? (i := 23) rfl)
theorem ow24 {a0 : Array Value} {Z : State} (hw : ∀ d ∈ tables_1, d.before a0 Z = true) : (Jvm.Cond.selects "com/example/nitpick/nitpick/internal/interpolation/ExpressionLiterals$Quoting" ({ cls := "com/example/nitpick/nitpick/internal/interpolation/ExpressionLiterals$Quoting", name := "ordinal", desc := "()I" } : Jvm.MethodName) ({ cls := "java/lang/Enum", name := "ordinal", desc := "()I" } : Jvm.MethodName)).before a0 Z = true := hw _ (List.mem_of_getElem? (i := 24) rfl)
theorem ow25 {a0 : Array Value} {Z : State} (hw : ∀ d ∈ tables_1, d.before a0 Z = true) : (Jvm.Cond.initialized "java/lang/Enum").before a0 Z = true := hw _ (List.mem_of_getElem? (i := 25) rfl)
theorem ow26 {a0 : Array Value} {Z : State} (hw : ∀ d ∈ tables_1, d.before a0 Z = true) : (Jvm.Cond.code ({ cls := "java/lang/Enum", name := "ordinal", desc := "()I" } : Jvm.MethodName) jdk_37_method_2_code (1 : Nat) (Option.some Jvm.ClassFile.FieldType.int)).before a0 Z = true := hw _ (List.mem_of_getElem? (i := 26) rfl)
theorem ow27 {a0 : Array Value} {Z : State} (hw : ∀ d ∈ tables_1, d.before a0 Z = true) : (Jvm.Cond.fieldLink "java/lang/Enum" (7 : Nat) "java/lang/Enum" "ordinal" "I").before a0 Z = true := hw _ (List.mem_of_getElem? (i := 27) rfl)
theorem ow29 {a0 : Array Value} {Z : State} (hw : ∀ d ∈ tables_1, d.before a0 Z = true) : (Jvm.Cond.fieldLink "com/example/nitpick/nitpick/internal/interpolation/ExpressionLiterals$Quoting" (3 : Nat) "com/example/nitpick/nitpick/internal/interpolation/ExpressionLiterals$Quoting" "CODE" "Lcom/example/nitpick/nitpick/internal/interpolation/ExpressionLiterals$Quoting;").before a0 Z = true := hw _ (List.mem_of_getElem? (i := 29) rfl)
theorem ow30 {a0 : Array Value} {Z : State} (hw : ∀ d ∈ tables_1, d.before a0 Z = true) : (Jvm.Cond.fieldLink "com/example/nitpick/nitpick/internal/interpolation/ExpressionLiterals$Quoting" (13 : Nat) "com/example/nitpick/nitpick/internal/interpolation/ExpressionLiterals$Quoting" "DOUBLE" "Lcom/example/nitpick/nitpick/internal/interpolation/ExpressionLiterals$Quoting;").before a0 Z = true := hw _ (List.mem_of_getElem? (i := 30) rfl)
theorem ow31 {a0 : Array Value} {Z : State} (hw : ∀ d ∈ tables_1, d.before a0 Z = true) : (Jvm.Cond.fieldLink "com/example/nitpick/nitpick/internal/interpolation/ExpressionLiterals$Quoting" (7 : Nat) "com/example/nitpick/nitpick/internal/interpolation/ExpressionLiterals$Quoting" "SINGLE" "Lcom/example/nitpick/nitpick/internal/interpolation/ExpressionLiterals$Quoting;").before a0 Z = true := hw _ (List.mem_of_getElem? (i := 31) rfl)
theorem ow32 {a0 : Array Value} {Z : State} (hw : ∀ d ∈ tables_1, d.before a0 Z = true) : (Jvm.Cond.fieldLink "com/example/nitpick/nitpick/internal/interpolation/ExpressionLiterals$Quoting" (10 : Nat) "com/example/nitpick/nitpick/internal/interpolation/ExpressionLiterals$Quoting" "SINGLE_ESCAPED" "Lcom/example/nitpick/nitpick/internal/interpolation/ExpressionLiterals$Quoting;").before a0 Z = true := hw _ (List.mem_of_getElem? (i := 32) rfl)
theorem ow33 {a0 : Array Value} {Z : State} (hw : ∀ d ∈ tables_1, d.before a0 Z = true) : (Jvm.Cond.fieldLink "com/example/nitpick/nitpick/internal/interpolation/ExpressionLiterals$Quoting" (16 : Nat) "com/example/nitpick/nitpick/internal/interpolation/ExpressionLiterals$Quoting" "DOUBLE_ESCAPED" "Lcom/example/nitpick/nitpick/internal/interpolation/ExpressionLiterals$Quoting;").before a0 Z = true := hw _ (List.mem_of_getElem? (i := 33) rfl)
theorem opd_0 : parseMethodDescriptor "()I" = some ⟨[], some .int⟩ := by decide +kernel
theorem opd_1 : parseMethodDescriptor "(C)Lcom/example/nitpick/nitpick/internal/interpolation/ExpressionLiterals$Quoting;" = some ⟨[.char], some (.object "com/example/nitpick/nitpick/internal/interpolation/ExpressionLiterals$Quoting")⟩ := by decide +kernel
theorem d1_0 : decode prog_60_method_4_code 0 = .ok (.aload_n 0, 1) := by decide +kernel
theorem d1_1 : decode prog_60_method_4_code 1 = .ok (.invokevirtual 38, 3) := by decide +kernel
theorem d1_4 : decode prog_60_method_4_code 4 = .ok (.tableswitch 36 0 4 #[46, 76, 136, 106, 142], 36) := by decide +kernel
theorem d1_50 : decode prog_60_method_4_code 50 = .ok (.iload_n 1, 1) := by decide +kernel
theorem d1_51 : decode prog_60_method_4_code 51 = .ok (.bipush 39, 2) := by decide +kernel
theorem d1_53 : decode prog_60_method_4_code 53 = .ok (.if_icmp .ne 9, 3) := by decide +kernel
theorem d1_56 : decode prog_60_method_4_code 56 = .ok (.getstatic 7, 3) := by decide +kernel
theorem d1_59 : decode prog_60_method_4_code 59 = .ok (.goto 90, 3) := by decide +kernel
theorem d1_62 : decode prog_60_method_4_code 62 = .ok (.iload_n 1, 1) := by decide +kernel
theorem d1_63 : decode prog_60_method_4_code 63 = .ok (.bipush 34, 2) := by decide +kernel
theorem d1_65 : decode prog_60_method_4_code 65 = .ok (.if_icmp .ne 9, 3) := by decide +kernel
theorem d1_68 : decode prog_60_method_4_code 68 = .ok (.getstatic 13, 3) := by decide +kernel
theorem d1_71 : decode prog_60_method_4_code 71 = .ok (.goto 78, 3) := by decide +kernel
theorem d1_74 : decode prog_60_method_4_code 74 = .ok (.getstatic 3, 3) := by decide +kernel
theorem d1_77 : decode prog_60_method_4_code 77 = .ok (.goto 72, 3) := by decide +kernel
theorem d1_80 : decode prog_60_method_4_code 80 = .ok (.iload_n 1, 1) := by decide +kernel
theorem d1_81 : decode prog_60_method_4_code 81 = .ok (.bipush 92, 2) := by decide +kernel
theorem d1_83 : decode prog_60_method_4_code 83 = .ok (.if_icmp .ne 9, 3) := by decide +kernel
theorem d1_86 : decode prog_60_method_4_code 86 = .ok (.getstatic 10, 3) := by decide +kernel
theorem d1_89 : decode prog_60_method_4_code 89 = .ok (.goto 60, 3) := by decide +kernel
theorem d1_92 : decode prog_60_method_4_code 92 = .ok (.iload_n 1, 1) := by decide +kernel
theorem d1_93 : decode prog_60_method_4_code 93 = .ok (.bipush 39, 2) := by decide +kernel
theorem d1_95 : decode prog_60_method_4_code 95 = .ok (.if_icmp .ne 9, 3) := by decide +kernel
theorem d1_98 : decode prog_60_method_4_code 98 = .ok (.getstatic 3, 3) := by decide +kernel
theorem d1_101 : decode prog_60_method_4_code 101 = .ok (.goto 48, 3) := by decide +kernel
theorem d1_104 : decode prog_60_method_4_code 104 = .ok (.getstatic 7, 3) := by decide +kernel
theorem d1_107 : decode prog_60_method_4_code 107 = .ok (.goto 42, 3) := by decide +kernel
theorem d1_110 : decode prog_60_method_4_code 110 = .ok (.iload_n 1, 1) := by decide +kernel
theorem d1_111 : decode prog_60_method_4_code 111 = .ok (.bipush 92, 2) := by decide +kernel
theorem d1_113 : decode prog_60_method_4_code 113 = .ok (.if_icmp .ne 9, 3) := by decide +kernel
theorem d1_116 : decode prog_60_method_4_code 116 = .ok (.getstatic 16, 3) := by decide +kernel
theorem d1_119 : decode prog_60_method_4_code 119 = .ok (.goto 30, 3) := by decide +kernel
theorem d1_122 : decode prog_60_method_4_code 122 = .ok (.iload_n 1, 1) := by decide +kernel
theorem d1_123 : decode prog_60_method_4_code 123 = .ok (.bipush 34, 2) := by decide +kernel
theorem d1_125 : decode prog_60_method_4_code 125 = .ok (.if_icmp .ne 9, 3) := by decide +kernel
theorem d1_128 : decode prog_60_method_4_code 128 = .ok (.getstatic 3, 3) := by decide +kernel
theorem d1_131 : decode prog_60_method_4_code 131 = .ok (.goto 18, 3) := by decide +kernel
theorem d1_134 : decode prog_60_method_4_code 134 = .ok (.getstatic 13, 3) := by decide +kernel
theorem d1_137 : decode prog_60_method_4_code 137 = .ok (.goto 12, 3) := by decide +kernel
theorem d1_140 : decode prog_60_method_4_code 140 = .ok (.getstatic 7, 3) := by decide +kernel
theorem d1_143 : decode prog_60_method_4_code 143 = .ok (.goto 6, 3) := by decide +kernel
theorem d1_146 : decode prog_60_method_4_code 146 = .ok (.getstatic 13, 3) := by decide +kernel
theorem d1_149 : decode prog_60_method_4_code 149 = .ok (.areturn, 1) := by decide +kernel
theorem d2_0 : decode jdk_37_method_2_code 0 = .ok (.aload_n 0, 1) := by decide +kernel
theorem d2_1 : decode jdk_37_method_2_code 1 = .ok (.getfield 7, 3) := by decide +kernel
theorem d2_4 : decode jdk_37_method_2_code 4 = .ok (.ireturn, 1) := by decide +kernel
theorem opn_0 : plainFor x = true := plainFor_of_name (by first | (simp [plainName, overriddenIn]; done) | decide +kernel)
theorem opn_1 : plainFor (⟨"com/example/nitpick/nitpick/internal/interpolation/ExpressionLiterals$Quoting", "next", "(C)Lcom/example/nitpick/nitpick/internal/interpolation/ExpressionLiterals$Quoting;"⟩ : MethodName) = true := plainFor_of_name (by first | (simp [plainName, overriddenIn]; done) | decide +kernel)
theorem opn_2 : plainFor (⟨"java/lang/Enum", "ordinal", "()I"⟩ : MethodName) = true := plainFor_of_name (by first | (simp [plainName, overriddenIn]; done) | decide +kernel)
theorem own_rem (x n : Int32) (k : Int) (hn : n.toInt = k) (h0 : 0 < k) : 0 ≤ ((x &&& 2147483647) % n).toInt ∧ ((x &&& 2147483647) % n).toInt < k := by
  have h1 := (c_and x 2147483647 (by decide)).1
  have h2 := (c_irem (x &&& 2147483647) n k hn).1 h1
  rw [h2]; exact ⟨Int.emod_nonneg _ (by omega), Int.emod_lt_of_pos _ h0⟩
theorem own_cases5 {z : Int32} (h : 0 ≤ z.toInt ∧ z.toInt < 5) : z = 0 ∨ z = 1 ∨ z = 2 ∨ z = 3 ∨ z = 4 := by
  have q : z.toInt = 0 ∨ z.toInt = 1 ∨ z.toInt = 2 ∨ z.toInt = 3 ∨ z.toInt = 4 := by omega
  rcases q with q | q | q | q | q
  · exact Or.inl (Int32.toInt_inj.mp q)
  · exact Or.inr (Or.inl (Int32.toInt_inj.mp q))
  · exact Or.inr (Or.inr (Or.inl (Int32.toInt_inj.mp q)))
  · exact Or.inr (Or.inr (Or.inr (Or.inl (Int32.toInt_inj.mp q))))
  · exact Or.inr (Or.inr (Or.inr (Or.inr (Int32.toInt_inj.mp q))))
theorem oef_rm2 (m : MethodId) (x0 : Addr) : entryFrame m #[(.ref x0)] 1 = mkF m 0 #[.val (.ref x0)] [] := by first | (simp [entryFrame, mkF, argsToLocals, Value.category]; done) | rfl
set_option maxRecDepth 65536 in
set_option maxHeartbeats 40000000 in
theorem rm2 (l : Launch) (Z : State) (a0 : Array Value) (hw : ∀ d ∈ tables_1, d.before a0 Z = true) (a1 : Addr) (k : Int32) (h0 : Heap) (n0 : Nat) (O : Old Z n0 h0) (F1 : Fld Z Z.heap a1 "java/lang/Enum" "ordinal" "I" (.int k)) :
    Con l Z (⟨"java/lang/Enum", "ordinal", "()I"⟩ : MethodName) jdk_37_method_2_code 1 (some .int) ({ frames := 0, cells := 0, slots := 0, locals := 0 } : Room) #[(.ref a1)] h0 (fun v h L => v = some (.int k) ∧ Fr n0 L ∧ h = h0) := by
  refine own_start (Q := fun v h L => v = some (.int k) ∧ Fr n0 L ∧ h = h0) opn_2 ?_
  intro p e s m below meth c T0 X0 hx hby hml hZ hown hnm hret hlk e0
  have N := Fr.nil n0; have K := Keep.refl h0 []
  refine OG.cast (oef_rm2 m a1) ?_
  refine og_aloadN (pc' := 1) X0 hx rfl rfl (hb hby d2_0) rfl ?_
  refine og_getfield (pc' := 4) X0 hx hZ (host := "") hown (Or.inl (ow27 hw)) Via.refl e0 (F1.ext O.2) (hb hby d2_1) rfl (fun T11 X11 e11 => ?_)
  refine og_retI X11 hx hlk hret (hb hby d2_4) (by decide) (by decide) ?_
  rw [e11]; exact ⟨rfl, N, rfl⟩
theorem oef_rm1_0 (m : MethodId) (x0 : Addr) (x1 : Int32) : entryFrame m #[(.ref x0), (.int x1)] 2 = mkF m 0 #[.val (.ref x0), .val (.int x1)] [] := by first | (simp [entryFrame, mkF, argsToLocals, Value.category]; done) | rfl
set_option maxRecDepth 65536 in
set_option maxHeartbeats 40000000 in
theorem rm1_0 (l : Launch) (Z : State) (a0 : Array Value) (hw : ∀ d ∈ tables_1, d.before a0 Z = true) (w0 w1 w2 w3 w4 : Addr) (cc : Int32) (r : Addr) (hr : (if cc = 39 then w1 else if cc = 34 then w3 else w0) = r) (h0 : Heap) (n0 : Nat) (O : Old Z n0 h0) (S_CODE : Sta Z Z.heap "com/example/nitpick/nitpick/internal/interpolation/ExpressionLiterals$Quoting" "CODE" "Lcom/example/nitpick/nitpick/internal/interpolation/ExpressionLiterals$Quoting;" (.ref w0)) (S_SINGLE : Sta Z Z.heap "com/example/nitpick/nitpick/internal/interpolation/ExpressionLiterals$Quoting" "SINGLE" "Lcom/example/nitpick/nitpick/internal/interpolation/ExpressionLiterals$Quoting;" (.ref w1)) (S_SINGLE_ESCAPED : Sta Z Z.heap "com/example/nitpick/nitpick/internal/interpolation/ExpressionLiterals$Quoting" "SINGLE_ESCAPED" "Lcom/example/nitpick/nitpick/internal/interpolation/ExpressionLiterals$Quoting;" (.ref w2)) (S_DOUBLE : Sta Z Z.heap "com/example/nitpick/nitpick/internal/interpolation/ExpressionLiterals$Quoting" "DOUBLE" "Lcom/example/nitpick/nitpick/internal/interpolation/ExpressionLiterals$Quoting;" (.ref w3)) (S_DOUBLE_ESCAPED : Sta Z Z.heap "com/example/nitpick/nitpick/internal/interpolation/ExpressionLiterals$Quoting" "DOUBLE_ESCAPED" "Lcom/example/nitpick/nitpick/internal/interpolation/ExpressionLiterals$Quoting;" (.ref w4)) (E_w0 : Exa Z Z.heap w0 "com/example/nitpick/nitpick/internal/interpolation/ExpressionLiterals$Quoting") (E_w1 : Exa Z Z.heap w1 "com/example/nitpick/nitpick/internal/interpolation/ExpressionLiterals$Quoting") (E_w2 : Exa Z Z.heap w2 "com/example/nitpick/nitpick/internal/interpolation/ExpressionLiterals$Quoting") (E_w3 : Exa Z Z.heap w3 "com/example/nitpick/nitpick/internal/interpolation/ExpressionLiterals$Quoting") (E_w4 : Exa Z Z.heap w4 "com/example/nitpick/nitpick/internal/interpolation/ExpressionLiterals$Quoting") (F_w0 : Fld Z Z.heap w0 "java/lang/Enum" "ordinal" "I" (.int (0 : Int32))) (F_w1 : Fld Z Z.heap w1 "java/lang/Enum" "ordinal" "I" (.int (1 : Int32))) (F_w2 : Fld Z Z.heap w2 "java/lang/Enum" "ordinal" "I" (.int (2 : Int32))) (F_w3 : Fld Z Z.heap w3 "java/lang/Enum" "ordinal" "I" (.int (3 : Int32))) (F_w4 : Fld Z Z.heap w4 "java/lang/Enum" "ordinal" "I" (.int (4 : Int32))) :
    Con l Z (⟨"com/example/nitpick/nitpick/internal/interpolation/ExpressionLiterals$Quoting", "next", "(C)Lcom/example/nitpick/nitpick/internal/interpolation/ExpressionLiterals$Quoting;"⟩ : MethodName) prog_60_method_4_code 2 (some (.object "com/example/nitpick/nitpick/internal/interpolation/ExpressionLiterals$Quoting")) ({ frames := 1, cells := 0, slots := 0, locals := 12 } : Room) #[(.ref w0), (.int cc)] h0 (fun v h L => v = some (.ref r) ∧ Fr n0 L ∧ h = h0) := by
  refine own_start (Q := fun v h L => v = some (.ref r) ∧ Fr n0 L ∧ h = h0) opn_1 ?_
  intro p e s m below meth c T0 X0 hx hby hml hZ hown hnm hret hlk e0
  have N := Fr.nil n0; have K := Keep.refl h0 []
  refine OG.cast (oef_rm1_0 m w0 cc) ?_
  refine og_aloadN (pc' := 1) X0 hx rfl rfl (hb hby d1_0) rfl ?_
  refine og_virtualUp (pc' := 4) (cells' := 0) (slots' := 0) (W := 0) X0 hx hZ (y := (⟨"com/example/nitpick/nitpick/internal/interpolation/ExpressionLiterals$Quoting", "ordinal", "()I"⟩ : MethodName)) (rm2 l Z a0 hw w0 0 h0 n0 O F_w0) hown (ow20 hw) (ow21 hw) (ow22 hw) (by decide) (ow24 hw) (ow23 hw) (ow25 hw) (ow26 hw) (by decide) (by rw [hml]; rfl) e0 opd_0 [] [] rfl rfl rfl rfl (by decide) (by decide) rfl rfl (by decide) (by decide) (E_w0.ext O.2) (hb hby d1_1) rfl (fun v11 T11 h11 L11 X11 e11 z11 => ?_)
  obtain ⟨rfl, Nq11, hq11⟩ := z11; replace e11 := e11.trans hq11; have N := Fr.app N Nq11
  show OG p e below _ (T11.setTop (mkF m 4 #[.val (.ref w0), .val (.int cc)] [(.int (0 : Int32))]))
  refine OG.of (fun t k => XS.tswIn X11.here hx rfl (pc0 := 4) (pc' := 50) rfl (hb hby d1_4) rfl (by decide) (o := 46) (by decide) (by decide) (by decide) k) ?_
  show OG p e below _ (T11.setTop (mkF m 50 #[.val (.ref w0), .val (.int cc)] []))
  refine og_iloadN (pc' := 51) X11 hx rfl (hb hby d1_50) rfl ?_
  refine og_bipush (pc' := 53) (v := (39 : Int32)) X11 hx rfl (hb hby d1_51) rfl ?_
  refine og_icmp_ne (pc1 := 62) (pc2 := 56) X11 hx (hb hby d1_53) (by decide) (by decide) rfl (fun hc53 => ?_) (fun hc53 => ?_)
  · -- pc 62
    refine og_iloadN (pc' := 63) X11 hx rfl (hb hby d1_62) rfl ?_
    refine og_bipush (pc' := 65) (v := (34 : Int32)) X11 hx rfl (hb hby d1_63) rfl ?_
    refine og_icmp_ne (pc1 := 74) (pc2 := 68) X11 hx (hb hby d1_65) (by decide) (by decide) rfl (fun hc65 => ?_) (fun hc65 => ?_)
    · -- pc 74
      refine og_getstatic (pc' := 77) X11 hx hZ (host := "") hown (Or.inl (ow29 hw)) Via.refl e11 (S_CODE.ext O.2) (hb hby d1_74) rfl (fun T12 X12 e12 => ?_)
      refine og_goto (pc' := 149) X12 hx (hb hby d1_77) (by decide) (by decide) ?_
      refine og_retR X12 hx hlk hret rfl rfl rfl (hb hby d1_149) (by decide) (by decide) ?_
      rw [e12]; refine ⟨?_, N, rfl⟩
      rw [← hr]; simp [hc53, hc65]
    · -- pc 68
      subst hc65
      refine og_getstatic (pc' := 71) X11 hx hZ (host := "") hown (Or.inl (ow30 hw)) Via.refl e11 (S_DOUBLE.ext O.2) (hb hby d1_68) rfl (fun T13 X13 e13 => ?_)
      refine og_goto (pc' := 149) X13 hx (hb hby d1_71) (by decide) (by decide) ?_
      refine og_retR X13 hx hlk hret rfl rfl rfl (hb hby d1_149) (by decide) (by decide) ?_
      rw [e13]; refine ⟨?_, N, rfl⟩
      rw [← hr]; simp [hc53]
  · -- pc 56
    subst hc53
    refine og_getstatic (pc' := 59) X11 hx hZ (host := "") hown (Or.inl (ow31 hw)) Via.refl e11 (S_SINGLE.ext O.2) (hb hby d1_56) rfl (fun T14 X14 e14 => ?_)
    refine og_goto (pc' := 149) X14 hx (hb hby d1_59) (by decide) (by decide) ?_
    refine og_retR X14 hx hlk hret rfl rfl rfl (hb hby d1_149) (by decide) (by decide) ?_
    rw [e14]; refine ⟨?_, N, rfl⟩
    rw [← hr]; simp
theorem oef_rm1_1 (m : MethodId) (x0 : Addr) (x1 : Int32) : entryFrame m #[(.ref x0), (.int x1)] 2 = mkF m 0 #[.val (.ref x0), .val (.int x1)] [] := by first | (simp [entryFrame, mkF, argsToLocals, Value.category]; done) | rfl
set_option maxRecDepth 65536 in
set_option maxHeartbeats 40000000 in
theorem rm1_1 (l : Launch) (Z : State) (a0 : Array Value) (hw : ∀ d ∈ tables_1, d.before a0 Z = true) (w0 w1 w2 w3 w4 : Addr) (cc : Int32) (r : Addr) (hr : (if cc = 92 then w2 else if cc = 39 then w0 else w1) = r) (h0 : Heap) (n0 : Nat) (O : Old Z n0 h0) (S_CODE : Sta Z Z.heap "com/example/nitpick/nitpick/internal/interpolation/ExpressionLiterals$Quoting" "CODE" "Lcom/example/nitpick/nitpick/internal/interpolation/ExpressionLiterals$Quoting;" (.ref w0)) (S_SINGLE : Sta Z Z.heap "com/example/nitpick/nitpick/internal/interpolation/ExpressionLiterals$Quoting" "SINGLE" "Lcom/example/nitpick/nitpick/internal/interpolation/ExpressionLiterals$Quoting;" (.ref w1)) (S_SINGLE_ESCAPED : Sta Z Z.heap "com/example/nitpick/nitpick/internal/interpolation/ExpressionLiterals$Quoting" "SINGLE_ESCAPED" "Lcom/example/nitpick/nitpick/internal/interpolation/ExpressionLiterals$Quoting;" (.ref w2)) (S_DOUBLE : Sta Z Z.heap "com/example/nitpick/nitpick/internal/interpolation/ExpressionLiterals$Quoting" "DOUBLE" "Lcom/example/nitpick/nitpick/internal/interpolation/ExpressionLiterals$Quoting;" (.ref w3)) (S_DOUBLE_ESCAPED : Sta Z Z.heap "com/example/nitpick/nitpick/internal/interpolation/ExpressionLiterals$Quoting" "DOUBLE_ESCAPED" "Lcom/example/nitpick/nitpick/internal/interpolation/ExpressionLiterals$Quoting;" (.ref w4)) (E_w0 : Exa Z Z.heap w0 "com/example/nitpick/nitpick/internal/interpolation/ExpressionLiterals$Quoting") (E_w1 : Exa Z Z.heap w1 "com/example/nitpick/nitpick/internal/interpolation/ExpressionLiterals$Quoting") (E_w2 : Exa Z Z.heap w2 "com/example/nitpick/nitpick/internal/interpolation/ExpressionLiterals$Quoting") (E_w3 : Exa Z Z.heap w3 "com/example/nitpick/nitpick/internal/interpolation/ExpressionLiterals$Quoting") (E_w4 : Exa Z Z.heap w4 "com/example/nitpick/nitpick/internal/interpolation/ExpressionLiterals$Quoting") (F_w0 : Fld Z Z.heap w0 "java/lang/Enum" "ordinal" "I" (.int (0 : Int32))) (F_w1 : Fld Z Z.heap w1 "java/lang/Enum" "ordinal" "I" (.int (1 : Int32))) (F_w2 : Fld Z Z.heap w2 "java/lang/Enum" "ordinal" "I" (.int (2 : Int32))) (F_w3 : Fld Z Z.heap w3 "java/lang/Enum" "ordinal" "I" (.int (3 : Int32))) (F_w4 : Fld Z Z.heap w4 "java/lang/Enum" "ordinal" "I" (.int (4 : Int32))) :
    Con l Z (⟨"com/example/nitpick/nitpick/internal/interpolation/ExpressionLiterals$Quoting", "next", "(C)Lcom/example/nitpick/nitpick/internal/interpolation/ExpressionLiterals$Quoting;"⟩ : MethodName) prog_60_method_4_code 2 (some (.object "com/example/nitpick/nitpick/internal/interpolation/ExpressionLiterals$Quoting")) ({ frames := 1, cells := 0, slots := 0, locals := 12 } : Room) #[(.ref w1), (.int cc)] h0 (fun v h L => v = some (.ref r) ∧ Fr n0 L ∧ h = h0) := by
  refine own_start (Q := fun v h L => v = some (.ref r) ∧ Fr n0 L ∧ h = h0) opn_1 ?_
  intro p e s m below meth c T0 X0 hx hby hml hZ hown hnm hret hlk e0
  have N := Fr.nil n0; have K := Keep.refl h0 []
  refine OG.cast (oef_rm1_1 m w1 cc) ?_
  refine og_aloadN (pc' := 1) X0 hx rfl rfl (hb hby d1_0) rfl ?_
  refine og_virtualUp (pc' := 4) (cells' := 0) (slots' := 0) (W := 0) X0 hx hZ (y := (⟨"com/example/nitpick/nitpick/internal/interpolation/ExpressionLiterals$Quoting", "ordinal", "()I"⟩ : MethodName)) (rm2 l Z a0 hw w1 1 h0 n0 O F_w1) hown (ow20 hw) (ow21 hw) (ow22 hw) (by decide) (ow24 hw) (ow23 hw) (ow25 hw) (ow26 hw) (by decide) (by rw [hml]; rfl) e0 opd_0 [] [] rfl rfl rfl rfl (by decide) (by decide) rfl rfl (by decide) (by decide) (E_w1.ext O.2) (hb hby d1_1) rfl (fun v11 T11 h11 L11 X11 e11 z11 => ?_)
  obtain ⟨rfl, Nq11, hq11⟩ := z11; replace e11 := e11.trans hq11; have N := Fr.app N Nq11
  show OG p e below _ (T11.setTop (mkF m 4 #[.val (.ref w1), .val (.int cc)] [(.int (1 : Int32))]))
  refine OG.of (fun t k => XS.tswIn X11.here hx rfl (pc0 := 4) (pc' := 80) rfl (hb hby d1_4) rfl (by decide) (o := 76) (by decide) (by decide) (by decide) k) ?_
  show OG p e below _ (T11.setTop (mkF m 80 #[.val (.ref w1), .val (.int cc)] []))
  refine og_iloadN (pc' := 81) X11 hx rfl (hb hby d1_80) rfl ?_
  refine og_bipush (pc' := 83) (v := (92 : Int32)) X11 hx rfl (hb hby d1_81) rfl ?_
  refine og_icmp_ne (pc1 := 92) (pc2 := 86) X11 hx (hb hby d1_83) (by decide) (by decide) rfl (fun hc83 => ?_) (fun hc83 => ?_)
  · -- pc 92
    refine og_iloadN (pc' := 93) X11 hx rfl (hb hby d1_92) rfl ?_
    refine og_bipush (pc' := 95) (v := (39 : Int32)) X11 hx rfl (hb hby d1_93) rfl ?_
    refine og_icmp_ne (pc1 := 104) (pc2 := 98) X11 hx (hb hby d1_95) (by decide) (by decide) rfl (fun hc95 => ?_) (fun hc95 => ?_)
    · -- pc 104
      refine og_getstatic (pc' := 107) X11 hx hZ (host := "") hown (Or.inl (ow31 hw)) Via.refl e11 (S_SINGLE.ext O.2) (hb hby d1_104) rfl (fun T12 X12 e12 => ?_)
      refine og_goto (pc' := 149) X12 hx (hb hby d1_107) (by decide) (by decide) ?_
      refine og_retR X12 hx hlk hret rfl rfl rfl (hb hby d1_149) (by decide) (by decide) ?_
      rw [e12]; refine ⟨?_, N, rfl⟩
      rw [← hr]; simp [hc83, hc95]
    · -- pc 98
      subst hc95
      refine og_getstatic (pc' := 101) X11 hx hZ (host := "") hown (Or.inl (ow29 hw)) Via.refl e11 (S_CODE.ext O.2) (hb hby d1_98) rfl (fun T13 X13 e13 => ?_)
      refine og_goto (pc' := 149) X13 hx (hb hby d1_101) (by decide) (by decide) ?_
      refine og_retR X13 hx hlk hret rfl rfl rfl (hb hby d1_149) (by decide) (by decide) ?_
      rw [e13]; refine ⟨?_, N, rfl⟩
      rw [← hr]; simp [hc83]
  · -- pc 86
    subst hc83
    refine og_getstatic (pc' := 89) X11 hx hZ (host := "") hown (Or.inl (ow32 hw)) Via.refl e11 (S_SINGLE_ESCAPED.ext O.2) (hb hby d1_86) rfl (fun T14 X14 e14 => ?_)
    refine og_goto (pc' := 149) X14 hx (hb hby d1_89) (by decide) (by decide) ?_
    refine og_retR X14 hx hlk hret rfl rfl rfl (hb hby d1_149) (by decide) (by decide) ?_
    rw [e14]; refine ⟨?_, N, rfl⟩
    rw [← hr]; simp
theorem oef_rm1_2 (m : MethodId) (x0 : Addr) (x1 : Int32) : entryFrame m #[(.ref x0), (.int x1)] 2 = mkF m 0 #[.val (.ref x0), .val (.int x1)] [] := by first | (simp [entryFrame, mkF, argsToLocals, Value.category]; done) | rfl
set_option maxRecDepth 65536 in
set_option maxHeartbeats 40000000 in
theorem rm1_2 (l : Launch) (Z : State) (a0 : Array Value) (hw : ∀ d ∈ tables_1, d.before a0 Z = true) (w0 w1 w2 w3 w4 : Addr) (cc : Int32) (r : Addr) (hr : (w1) = r) (h0 : Heap) (n0 : Nat) (O : Old Z n0 h0) (S_CODE : Sta Z Z.heap "com/example/nitpick/nitpick/internal/interpolation/ExpressionLiterals$Quoting" "CODE" "Lcom/example/nitpick/nitpick/internal/interpolation/ExpressionLiterals$Quoting;" (.ref w0)) (S_SINGLE : Sta Z Z.heap "com/example/nitpick/nitpick/internal/interpolation/ExpressionLiterals$Quoting" "SINGLE" "Lcom/example/nitpick/nitpick/internal/interpolation/ExpressionLiterals$Quoting;" (.ref w1)) (S_SINGLE_ESCAPED : Sta Z Z.heap "com/example/nitpick/nitpick/internal/interpolation/ExpressionLiterals$Quoting" "SINGLE_ESCAPED" "Lcom/example/nitpick/nitpick/internal/interpolation/ExpressionLiterals$Quoting;" (.ref w2)) (S_DOUBLE : Sta Z Z.heap "com/example/nitpick/nitpick/internal/interpolation/ExpressionLiterals$Quoting" "DOUBLE" "Lcom/example/nitpick/nitpick/internal/interpolation/ExpressionLiterals$Quoting;" (.ref w3)) (S_DOUBLE_ESCAPED : Sta Z Z.heap "com/example/nitpick/nitpick/internal/interpolation/ExpressionLiterals$Quoting" "DOUBLE_ESCAPED" "Lcom/example/nitpick/nitpick/internal/interpolation/ExpressionLiterals$Quoting;" (.ref w4)) (E_w0 : Exa Z Z.heap w0 "com/example/nitpick/nitpick/internal/interpolation/ExpressionLiterals$Quoting") (E_w1 : Exa Z Z.heap w1 "com/example/nitpick/nitpick/internal/interpolation/ExpressionLiterals$Quoting") (E_w2 : Exa Z Z.heap w2 "com/example/nitpick/nitpick/internal/interpolation/ExpressionLiterals$Quoting") (E_w3 : Exa Z Z.heap w3 "com/example/nitpick/nitpick/internal/interpolation/ExpressionLiterals$Quoting") (E_w4 : Exa Z Z.heap w4 "com/example/nitpick/nitpick/internal/interpolation/ExpressionLiterals$Quoting") (F_w0 : Fld Z Z.heap w0 "java/lang/Enum" "ordinal" "I" (.int (0 : Int32))) (F_w1 : Fld Z Z.heap w1 "java/lang/Enum" "ordinal" "I" (.int (1 : Int32))) (F_w2 : Fld Z Z.heap w2 "java/lang/Enum" "ordinal" "I" (.int (2 : Int32))) (F_w3 : Fld Z Z.heap w3 "java/lang/Enum" "ordinal" "I" (.int (3 : Int32))) (F_w4 : Fld Z Z.heap w4 "java/lang/Enum" "ordinal" "I" (.int (4 : Int32))) :
    Con l Z (⟨"com/example/nitpick/nitpick/internal/interpolation/ExpressionLiterals$Quoting", "next", "(C)Lcom/example/nitpick/nitpick/internal/interpolation/ExpressionLiterals$Quoting;"⟩ : MethodName) prog_60_method_4_code 2 (some (.object "com/example/nitpick/nitpick/internal/interpolation/ExpressionLiterals$Quoting")) ({ frames := 1, cells := 0, slots := 0, locals := 12 } : Room) #[(.ref w2), (.int cc)] h0 (fun v h L => v = some (.ref r) ∧ Fr n0 L ∧ h = h0) := by
  refine own_start (Q := fun v h L => v = some (.ref r) ∧ Fr n0 L ∧ h = h0) opn_1 ?_
  intro p e s m below meth c T0 X0 hx hby hml hZ hown hnm hret hlk e0
  have N := Fr.nil n0; have K := Keep.refl h0 []
  refine OG.cast (oef_rm1_2 m w2 cc) ?_
  refine og_aloadN (pc' := 1) X0 hx rfl rfl (hb hby d1_0) rfl ?_
  refine og_virtualUp (pc' := 4) (cells' := 0) (slots' := 0) (W := 0) X0 hx hZ (y := (⟨"com/example/nitpick/nitpick/internal/interpolation/ExpressionLiterals$Quoting", "ordinal", "()I"⟩ : MethodName)) (rm2 l Z a0 hw w2 2 h0 n0 O F_w2) hown (ow20 hw) (ow21 hw) (ow22 hw) (by decide) (ow24 hw) (ow23 hw) (ow25 hw) (ow26 hw) (by decide) (by rw [hml]; rfl) e0 opd_0 [] [] rfl rfl rfl rfl (by decide) (by decide) rfl rfl (by decide) (by decide) (E_w2.ext O.2) (hb hby d1_1) rfl (fun v11 T11 h11 L11 X11 e11 z11 => ?_)
  obtain ⟨rfl, Nq11, hq11⟩ := z11; replace e11 := e11.trans hq11; have N := Fr.app N Nq11
  show OG p e below _ (T11.setTop (mkF m 4 #[.val (.ref w2), .val (.int cc)] [(.int (2 : Int32))]))
  refine OG.of (fun t k => XS.tswIn X11.here hx rfl (pc0 := 4) (pc' := 140) rfl (hb hby d1_4) rfl (by decide) (o := 136) (by decide) (by decide) (by decide) k) ?_
  show OG p e below _ (T11.setTop (mkF m 140 #[.val (.ref w2), .val (.int cc)] []))
  refine og_getstatic (pc' := 143) X11 hx hZ (host := "") hown (Or.inl (ow31 hw)) Via.refl e11 (S_SINGLE.ext O.2) (hb hby d1_140) rfl (fun T12 X12 e12 => ?_)
  refine og_goto (pc' := 149) X12 hx (hb hby d1_143) (by decide) (by decide) ?_
  refine og_retR X12 hx hlk hret rfl rfl rfl (hb hby d1_149) (by decide) (by decide) ?_
  rw [e12]; exact ⟨by rw [← hr], N, rfl⟩
theorem oef_rm1_3 (m : MethodId) (x0 : Addr) (x1 : Int32) : entryFrame m #[(.ref x0), (.int x1)] 2 = mkF m 0 #[.val (.ref x0), .val (.int x1)] [] := by first | (simp [entryFrame, mkF, argsToLocals, Value.category]; done) | rfl
set_option maxRecDepth 65536 in
set_option maxHeartbeats 40000000 in
theorem rm1_3 (l : Launch) (Z : State) (a0 : Array Value) (hw : ∀ d ∈ tables_1, d.before a0 Z = true) (w0 w1 w2 w3 w4 : Addr) (cc : Int32) (r : Addr) (hr : (if cc = 92 then w4 else if cc = 34 then w0 else w3) = r) (h0 : Heap) (n0 : Nat) (O : Old Z n0 h0) (S_CODE : Sta Z Z.heap "com/example/nitpick/nitpick/internal/interpolation/ExpressionLiterals$Quoting" "CODE" "Lcom/example/nitpick/nitpick/internal/interpolation/ExpressionLiterals$Quoting;" (.ref w0)) (S_SINGLE : Sta Z Z.heap "com/example/nitpick/nitpick/internal/interpolation/ExpressionLiterals$Quoting" "SINGLE" "Lcom/example/nitpick/nitpick/internal/interpolation/ExpressionLiterals$Quoting;" (.ref w1)) (S_SINGLE_ESCAPED : Sta Z Z.heap "com/example/nitpick/nitpick/internal/interpolation/ExpressionLiterals$Quoting" "SINGLE_ESCAPED" "Lcom/example/nitpick/nitpick/internal/interpolation/ExpressionLiterals$Quoting;" (.ref w2)) (S_DOUBLE : Sta Z Z.heap "com/example/nitpick/nitpick/internal/interpolation/ExpressionLiterals$Quoting" "DOUBLE" "Lcom/example/nitpick/nitpick/internal/interpolation/ExpressionLiterals$Quoting;" (.ref w3)) (S_DOUBLE_ESCAPED : Sta Z Z.heap "com/example/nitpick/nitpick/internal/interpolation/ExpressionLiterals$Quoting" "DOUBLE_ESCAPED" "Lcom/example/nitpick/nitpick/internal/interpolation/ExpressionLiterals$Quoting;" (.ref w4)) (E_w0 : Exa Z Z.heap w0 "com/example/nitpick/nitpick/internal/interpolation/ExpressionLiterals$Quoting") (E_w1 : Exa Z Z.heap w1 "com/example/nitpick/nitpick/internal/interpolation/ExpressionLiterals$Quoting") (E_w2 : Exa Z Z.heap w2 "com/example/nitpick/nitpick/internal/interpolation/ExpressionLiterals$Quoting") (E_w3 : Exa Z Z.heap w3 "com/example/nitpick/nitpick/internal/interpolation/ExpressionLiterals$Quoting") (E_w4 : Exa Z Z.heap w4 "com/example/nitpick/nitpick/internal/interpolation/ExpressionLiterals$Quoting") (F_w0 : Fld Z Z.heap w0 "java/lang/Enum" "ordinal" "I" (.int (0 : Int32))) (F_w1 : Fld Z Z.heap w1 "java/lang/Enum" "ordinal" "I" (.int (1 : Int32))) (F_w2 : Fld Z Z.heap w2 "java/lang/Enum" "ordinal" "I" (.int (2 : Int32))) (F_w3 : Fld Z Z.heap w3 "java/lang/Enum" "ordinal" "I" (.int (3 : Int32))) (F_w4 : Fld Z Z.heap w4 "java/lang/Enum" "ordinal" "I" (.int (4 : Int32))) :
    Con l Z (⟨"com/example/nitpick/nitpick/internal/interpolation/ExpressionLiterals$Quoting", "next", "(C)Lcom/example/nitpick/nitpick/internal/interpolation/ExpressionLiterals$Quoting;"⟩ : MethodName) prog_60_method_4_code 2 (some (.object "com/example/nitpick/nitpick/internal/interpolation/ExpressionLiterals$Quoting")) ({ frames := 1, cells := 0, slots := 0, locals := 12 } : Room) #[(.ref w3), (.int cc)] h0 (fun v h L => v = some (.ref r) ∧ Fr n0 L ∧ h = h0) := by
  refine own_start (Q := fun v h L => v = some (.ref r) ∧ Fr n0 L ∧ h = h0) opn_1 ?_
  intro p e s m below meth c T0 X0 hx hby hml hZ hown hnm hret hlk e0
  have N := Fr.nil n0; have K := Keep.refl h0 []
  refine OG.cast (oef_rm1_3 m w3 cc) ?_
  refine og_aloadN (pc' := 1) X0 hx rfl rfl (hb hby d1_0) rfl ?_
  refine og_virtualUp (pc' := 4) (cells' := 0) (slots' := 0) (W := 0) X0 hx hZ (y := (⟨"com/example/nitpick/nitpick/internal/interpolation/ExpressionLiterals$Quoting", "ordinal", "()I"⟩ : MethodName)) (rm2 l Z a0 hw w3 3 h0 n0 O F_w3) hown (ow20 hw) (ow21 hw) (ow22 hw) (by decide) (ow24 hw) (ow23 hw) (ow25 hw) (ow26 hw) (by decide) (by rw [hml]; rfl) e0 opd_0 [] [] rfl rfl rfl rfl (by decide) (by decide) rfl rfl (by decide) (by decide) (E_w3.ext O.2) (hb hby d1_1) rfl (fun v11 T11 h11 L11 X11 e11 z11 => ?_)
  obtain ⟨rfl, Nq11, hq11⟩ := z11; replace e11 := e11.trans hq11; have N := Fr.app N Nq11
  show OG p e below _ (T11.setTop (mkF m 4 #[.val (.ref w3), .val (.int cc)] [(.int (3 : Int32))]))
  refine OG.of (fun t k => XS.tswIn X11.here hx rfl (pc0 := 4) (pc' := 110) rfl (hb hby d1_4) rfl (by decide) (o := 106) (by decide) (by decide) (by decide) k) ?_
  show OG p e below _ (T11.setTop (mkF m 110 #[.val (.ref w3), .val (.int cc)] []))
  refine og_iloadN (pc' := 111) X11 hx rfl (hb hby d1_110) rfl ?_
  refine og_bipush (pc' := 113) (v := (92 : Int32)) X11 hx rfl (hb hby d1_111) rfl ?_
  refine og_icmp_ne (pc1 := 122) (pc2 := 116) X11 hx (hb hby d1_113) (by decide) (by decide) rfl (fun hc113 => ?_) (fun hc113 => ?_)
  · -- pc 122
    refine og_iloadN (pc' := 123) X11 hx rfl (hb hby d1_122) rfl ?_
    refine og_bipush (pc' := 125) (v := (34 : Int32)) X11 hx rfl (hb hby d1_123) rfl ?_
    refine og_icmp_ne (pc1 := 134) (pc2 := 128) X11 hx (hb hby d1_125) (by decide) (by decide) rfl (fun hc125 => ?_) (fun hc125 => ?_)
    · -- pc 134
      refine og_getstatic (pc' := 137) X11 hx hZ (host := "") hown (Or.inl (ow30 hw)) Via.refl e11 (S_DOUBLE.ext O.2) (hb hby d1_134) rfl (fun T12 X12 e12 => ?_)
      refine og_goto (pc' := 149) X12 hx (hb hby d1_137) (by decide) (by decide) ?_
      refine og_retR X12 hx hlk hret rfl rfl rfl (hb hby d1_149) (by decide) (by decide) ?_
      rw [e12]; refine ⟨?_, N, rfl⟩
      rw [← hr]; simp [hc113, hc125]
    · -- pc 128
      subst hc125
      refine og_getstatic (pc' := 131) X11 hx hZ (host := "") hown (Or.inl (ow29 hw)) Via.refl e11 (S_CODE.ext O.2) (hb hby d1_128) rfl (fun T13 X13 e13 => ?_)
      refine og_goto (pc' := 149) X13 hx (hb hby d1_131) (by decide) (by decide) ?_
      refine og_retR X13 hx hlk hret rfl rfl rfl (hb hby d1_149) (by decide) (by decide) ?_
      rw [e13]; refine ⟨?_, N, rfl⟩
      rw [← hr]; simp [hc113]
  · -- pc 116
    subst hc113
    refine og_getstatic (pc' := 119) X11 hx hZ (host := "") hown (Or.inl (ow33 hw)) Via.refl e11 (S_DOUBLE_ESCAPED.ext O.2) (hb hby d1_116) rfl (fun T14 X14 e14 => ?_)
    refine og_goto (pc' := 149) X14 hx (hb hby d1_119) (by decide) (by decide) ?_
    refine og_retR X14 hx hlk hret rfl rfl rfl (hb hby d1_149) (by decide) (by decide) ?_
    rw [e14]; refine ⟨?_, N, rfl⟩
    rw [← hr]; simp
theorem oef_rm1_4 (m : MethodId) (x0 : Addr) (x1 : Int32) : entryFrame m #[(.ref x0), (.int x1)] 2 = mkF m 0 #[.val (.ref x0), .val (.int x1)] [] := by first | (simp [entryFrame, mkF, argsToLocals, Value.category]; done) | rfl
set_option maxRecDepth 65536 in
set_option maxHeartbeats 40000000 in
theorem rm1_4 (l : Launch) (Z : State) (a0 : Array Value) (hw : ∀ d ∈ tables_1, d.before a0 Z = true) (w0 w1 w2 w3 w4 : Addr) (cc : Int32) (r : Addr) (hr : (w3) = r) (h0 : Heap) (n0 : Nat) (O : Old Z n0 h0) (S_CODE : Sta Z Z.heap "com/example/nitpick/nitpick/internal/interpolation/ExpressionLiterals$Quoting" "CODE" "Lcom/example/nitpick/nitpick/internal/interpolation/ExpressionLiterals$Quoting;" (.ref w0)) (S_SINGLE : Sta Z Z.heap "com/example/nitpick/nitpick/internal/interpolation/ExpressionLiterals$Quoting" "SINGLE" "Lcom/example/nitpick/nitpick/internal/interpolation/ExpressionLiterals$Quoting;" (.ref w1)) (S_SINGLE_ESCAPED : Sta Z Z.heap "com/example/nitpick/nitpick/internal/interpolation/ExpressionLiterals$Quoting" "SINGLE_ESCAPED" "Lcom/example/nitpick/nitpick/internal/interpolation/ExpressionLiterals$Quoting;" (.ref w2)) (S_DOUBLE : Sta Z Z.heap "com/example/nitpick/nitpick/internal/interpolation/ExpressionLiterals$Quoting" "DOUBLE" "Lcom/example/nitpick/nitpick/internal/interpolation/ExpressionLiterals$Quoting;" (.ref w3)) (S_DOUBLE_ESCAPED : Sta Z Z.heap "com/example/nitpick/nitpick/internal/interpolation/ExpressionLiterals$Quoting" "DOUBLE_ESCAPED" "Lcom/example/nitpick/nitpick/internal/interpolation/ExpressionLiterals$Quoting;" (.ref w4)) (E_w0 : Exa Z Z.heap w0 "com/example/nitpick/nitpick/internal/interpolation/ExpressionLiterals$Quoting") (E_w1 : Exa Z Z.heap w1 "com/example/nitpick/nitpick/internal/interpolation/ExpressionLiterals$Quoting") (E_w2 : Exa Z Z.heap w2 "com/example/nitpick/nitpick/internal/interpolation/ExpressionLiterals$Quoting") (E_w3 : Exa Z Z.heap w3 "com/example/nitpick/nitpick/internal/interpolation/ExpressionLiterals$Quoting") (E_w4 : Exa Z Z.heap w4 "com/example/nitpick/nitpick/internal/interpolation/ExpressionLiterals$Quoting") (F_w0 : Fld Z Z.heap w0 "java/lang/Enum" "ordinal" "I" (.int (0 : Int32))) (F_w1 : Fld Z Z.heap w1 "java/lang/Enum" "ordinal" "I" (.int (1 : Int32))) (F_w2 : Fld Z Z.heap w2 "java/lang/Enum" "ordinal" "I" (.int (2 : Int32))) (F_w3 : Fld Z Z.heap w3 "java/lang/Enum" "ordinal" "I" (.int (3 : Int32))) (F_w4 : Fld Z Z.heap w4 "java/lang/Enum" "ordinal" "I" (.int (4 : Int32))) :
    Con l Z (⟨"com/example/nitpick/nitpick/internal/interpolation/ExpressionLiterals$Quoting", "next", "(C)Lcom/example/nitpick/nitpick/internal/interpolation/ExpressionLiterals$Quoting;"⟩ : MethodName) prog_60_method_4_code 2 (some (.object "com/example/nitpick/nitpick/internal/interpolation/ExpressionLiterals$Quoting")) ({ frames := 1, cells := 0, slots := 0, locals := 12 } : Room) #[(.ref w4), (.int cc)] h0 (fun v h L => v = some (.ref r) ∧ Fr n0 L ∧ h = h0) := by
  refine own_start (Q := fun v h L => v = some (.ref r) ∧ Fr n0 L ∧ h = h0) opn_1 ?_
  intro p e s m below meth c T0 X0 hx hby hml hZ hown hnm hret hlk e0
  have N := Fr.nil n0; have K := Keep.refl h0 []
  refine OG.cast (oef_rm1_4 m w4 cc) ?_
  refine og_aloadN (pc' := 1) X0 hx rfl rfl (hb hby d1_0) rfl ?_
  refine og_virtualUp (pc' := 4) (cells' := 0) (slots' := 0) (W := 0) X0 hx hZ (y := (⟨"com/example/nitpick/nitpick/internal/interpolation/ExpressionLiterals$Quoting", "ordinal", "()I"⟩ : MethodName)) (rm2 l Z a0 hw w4 4 h0 n0 O F_w4) hown (ow20 hw) (ow21 hw) (ow22 hw) (by decide) (ow24 hw) (ow23 hw) (ow25 hw) (ow26 hw) (by decide) (by rw [hml]; rfl) e0 opd_0 [] [] rfl rfl rfl rfl (by decide) (by decide) rfl rfl (by decide) (by decide) (E_w4.ext O.2) (hb hby d1_1) rfl (fun v11 T11 h11 L11 X11 e11 z11 => ?_)
  obtain ⟨rfl, Nq11, hq11⟩ := z11; replace e11 := e11.trans hq11; have N := Fr.app N Nq11
  show OG p e below _ (T11.setTop (mkF m 4 #[.val (.ref w4), .val (.int cc)] [(.int (4 : Int32))]))
  refine OG.of (fun t k => XS.tswIn X11.here hx rfl (pc0 := 4) (pc' := 146) rfl (hb hby d1_4) rfl (by decide) (o := 142) (by decide) (by decide) (by decide) k) ?_
  show OG p e below _ (T11.setTop (mkF m 146 #[.val (.ref w4), .val (.int cc)] []))
  refine og_getstatic (pc' := 149) X11 hx hZ (host := "") hown (Or.inl (ow30 hw)) Via.refl e11 (S_DOUBLE.ext O.2) (hb hby d1_146) rfl (fun T12 X12 e12 => ?_)
  refine og_retR X12 hx hlk hret rfl rfl rfl (hb hby d1_149) (by decide) (by decide) ?_
  rw [e12]; exact ⟨by rw [← hr], N, rfl⟩
theorem oef_rm0 (m : MethodId) (x0 : Int32) (x1 : Int32) (x2 : Int32) : entryFrame m #[(.int x0), (.int x1), (.int x2)] maxLocals = mkF m 0 #[.val (.int x0), .val (.int x1), .val (.int x2), .unset, .unset, .unset, .unset, .unset, .unset, .unset, .unset, .unset] [] := by first | (simp [entryFrame, mkF, argsToLocals, Value.category, maxLocals]; done) | rfl
set_option maxRecDepth 65536 in
set_option maxHeartbeats 40000000 in
theorem rm0 (l : Launch) (Z : State) (a0 : Array Value) (hw : ∀ d ∈ tables_1, d.before a0 Z = true) (ws : List Jvm.Cond) (p1 p2 p3 : Int32) (w0 w1 w2 w3 w4 : Addr) (h0 : Heap) (n0 : Nat) (O : Old Z n0 h0) (S_CODE : Sta Z Z.heap "com/example/nitpick/nitpick/internal/interpolation/ExpressionLiterals$Quoting" "CODE" "Lcom/example/nitpick/nitpick/internal/interpolation/ExpressionLiterals$Quoting;" (.ref w0)) (S_SINGLE : Sta Z Z.heap "com/example/nitpick/nitpick/internal/interpolation/ExpressionLiterals$Quoting" "SINGLE" "Lcom/example/nitpick/nitpick/internal/interpolation/ExpressionLiterals$Quoting;" (.ref w1)) (S_SINGLE_ESCAPED : Sta Z Z.heap "com/example/nitpick/nitpick/internal/interpolation/ExpressionLiterals$Quoting" "SINGLE_ESCAPED" "Lcom/example/nitpick/nitpick/internal/interpolation/ExpressionLiterals$Quoting;" (.ref w2)) (S_DOUBLE : Sta Z Z.heap "com/example/nitpick/nitpick/internal/interpolation/ExpressionLiterals$Quoting" "DOUBLE" "Lcom/example/nitpick/nitpick/internal/interpolation/ExpressionLiterals$Quoting;" (.ref w3)) (S_DOUBLE_ESCAPED : Sta Z Z.heap "com/example/nitpick/nitpick/internal/interpolation/ExpressionLiterals$Quoting" "DOUBLE_ESCAPED" "Lcom/example/nitpick/nitpick/internal/interpolation/ExpressionLiterals$Quoting;" (.ref w4)) (E_w0 : Exa Z Z.heap w0 "com/example/nitpick/nitpick/internal/interpolation/ExpressionLiterals$Quoting") (E_w1 : Exa Z Z.heap w1 "com/example/nitpick/nitpick/internal/interpolation/ExpressionLiterals$Quoting") (E_w2 : Exa Z Z.heap w2 "com/example/nitpick/nitpick/internal/interpolation/ExpressionLiterals$Quoting") (E_w3 : Exa Z Z.heap w3 "com/example/nitpick/nitpick/internal/interpolation/ExpressionLiterals$Quoting") (E_w4 : Exa Z Z.heap w4 "com/example/nitpick/nitpick/internal/interpolation/ExpressionLiterals$Quoting") (F_w0 : Fld Z Z.heap w0 "java/lang/Enum" "ordinal" "I" (.int (0 : Int32))) (F_w1 : Fld Z Z.heap w1 "java/lang/Enum" "ordinal" "I" (.int (1 : Int32))) (F_w2 : Fld Z Z.heap w2 "java/lang/Enum" "ordinal" "I" (.int (2 : Int32))) (F_w3 : Fld Z Z.heap w3 "java/lang/Enum" "ordinal" "I" (.int (3 : Int32))) (F_w4 : Fld Z Z.heap w4 "java/lang/Enum" "ordinal" "I" (.int (4 : Int32))) :
    MetFree l x (head1 (Jvm.Cond.code x code maxLocals ret :: ws) room_1) (fun a U => a = #[(.int p1), (.int p2), (.int p3)] ∧ Z.Warmed39 U.vm ∧ U.heap = h0) (fun _ _ _ _ _ => True) (fun _ U o U' => ∃ v L, o = .returned v ∧ (fun v h L => v = some (.int 1) ∧ Fr n0 L) v U'.heap L ∧ FrameEnd U o U' L 16 128) := by
  refine own_start (Q := fun v h L => v = some (.int 1) ∧ Fr n0 L) opn_0 ?_
  intro p e s m below meth c T0 X0 hx hby hml hZ hown hnm hret hlk e0
  have N := Fr.nil n0; have K := Keep.refl h0 []
  refine OG.cast (oef_rm0 m p1 p2 p3) ?_
  refine og_iconst (pc' := 1) (v := (5 : Int32)) X0 hx rfl (hb hby at_0) rfl ?_
  refine og_anewarray (pc' := 4) (cells' := 1) (slots' := 5) (cap := 5) X0 hx hZ hown (ow0 hw) (ow1 hw) e0 (by decide) (by decide) (by decide) (hb hby at_1) rfl rfl rfl (by decide) (by decide) (fun T11 h11 nb11 kA11 X11 e11 E11 q11 V_nb11 Ov_nb11 => ?_)
  have s_nb11 : h0.size ≤ nb11 := Nat.le_of_eq q11.symm; have g_nb11 : n0 ≤ nb11 := Nat.le_trans (own_n0 O) s_nb11; have sz_nb11 : h0.size ≤ nb11 := Nat.le_trans K.1 s_nb11; have ne_w0_nb11 : w0 ≠ nb11 := O.ne E_w0.lt g_nb11; have ne_w1_nb11 : w1 ≠ nb11 := O.ne E_w1.lt g_nb11; have ne_w2_nb11 : w2 ≠ nb11 := O.ne E_w2.lt g_nb11
  have ne_w3_nb11 : w3 ≠ nb11 := O.ne E_w3.lt g_nb11; have ne_w4_nb11 : w4 ≠ nb11 := O.ne E_w4.lt g_nb11
  have O := O.ext E11; have K := K.ext E11
  have V_nb11 : Arv Z h11 nb11 kA11 (.object "com/example/nitpick/nitpick/internal/interpolation/ExpressionLiterals$Quoting") (5 : Int32) [.null, .null, .null, .null, .null] .null := V_nb11.pad (pad_rep [] .null 5)
  refine og_dup (pc' := 5) X11 hx rfl (hb hby at_4) rfl ?_
  refine og_iconst (pc' := 6) (v := (0 : Int32)) X11 hx rfl (hb hby at_5) rfl ?_
  refine og_getstatic (pc' := 9) X11 hx hZ (host := "") hown (Or.inl (ow2 hw)) Via.refl e11 (S_CODE.ext O.2) (hb hby at_6) rfl (fun T12 X12 e12 => ?_)
  refine og_aastore (pc' := 10) X12 hx hZ e12 V_nb11 rfl ⟨by decide, by decide⟩ 0 (by decide) (Nat.le_of_ble_eq_true rfl) rfl (own_sto V_nb11 Ov_nb11 (Ins.self (E_w0.ext O.2))) (hb hby at_9) rfl (fun T13 h13 X13 e13 W13 V13 => ?_)
  have O := O.wr W13 g_nb11; have K := K.wr W13 (Or.inr sz_nb11)
  have N := Fr.snoc X13 N g_nb11
  have V_nb11 : Arv Z h13 nb11 kA11 (.object "com/example/nitpick/nitpick/internal/interpolation/ExpressionLiterals$Quoting") (5 : Int32) [(.ref w0), .null, .null, .null, .null] .null := V13
  refine og_dup (pc' := 11) X13 hx rfl (hb hby at_10) rfl ?_
  refine og_iconst (pc' := 12) (v := (1 : Int32)) X13 hx rfl (hb hby at_11) rfl ?_
  refine og_getstatic (pc' := 15) X13 hx hZ (host := "") hown (Or.inl (ow6 hw)) Via.refl e13 (S_SINGLE.ext O.2) (hb hby at_12) rfl (fun T14 X14 e14 => ?_)
  refine og_aastore (pc' := 16) X14 hx hZ e14 V_nb11 rfl ⟨by decide, by decide⟩ 1 (by decide) (Nat.le_of_ble_eq_true rfl) rfl (own_sto V_nb11 Ov_nb11 (Ins.self (E_w1.ext O.2))) (hb hby at_15) rfl (fun T15 h15 X15 e15 W15 V15 => ?_)
  have O := O.wr W15 g_nb11; have K := K.wr W15 (Or.inr sz_nb11)
  have N := Fr.snoc X15 N g_nb11
  have V_nb11 : Arv Z h15 nb11 kA11 (.object "com/example/nitpick/nitpick/internal/interpolation/ExpressionLiterals$Quoting") (5 : Int32) [(.ref w0), (.ref w1), .null, .null, .null] .null := V15
  refine og_dup (pc' := 17) X15 hx rfl (hb hby at_16) rfl ?_
  refine og_iconst (pc' := 18) (v := (2 : Int32)) X15 hx rfl (hb hby at_17) rfl ?_
  refine og_getstatic (pc' := 21) X15 hx hZ (host := "") hown (Or.inl (ow8 hw)) Via.refl e15 (S_SINGLE_ESCAPED.ext O.2) (hb hby at_18) rfl (fun T16 X16 e16 => ?_)
  refine og_aastore (pc' := 22) X16 hx hZ e16 V_nb11 rfl ⟨by decide, by decide⟩ 2 (by decide) (Nat.le_of_ble_eq_true rfl) rfl (own_sto V_nb11 Ov_nb11 (Ins.self (E_w2.ext O.2))) (hb hby at_21) rfl (fun T17 h17 X17 e17 W17 V17 => ?_)
  have O := O.wr W17 g_nb11; have K := K.wr W17 (Or.inr sz_nb11)
  have N := Fr.snoc X17 N g_nb11
  have V_nb11 : Arv Z h17 nb11 kA11 (.object "com/example/nitpick/nitpick/internal/interpolation/ExpressionLiterals$Quoting") (5 : Int32) [(.ref w0), (.ref w1), (.ref w2), .null, .null] .null := V17
  refine og_dup (pc' := 23) X17 hx rfl (hb hby at_22) rfl ?_
  refine og_iconst (pc' := 24) (v := (3 : Int32)) X17 hx rfl (hb hby at_23) rfl ?_
  refine og_getstatic (pc' := 27) X17 hx hZ (host := "") hown (Or.inl (ow10 hw)) Via.refl e17 (S_DOUBLE.ext O.2) (hb hby at_24) rfl (fun T18 X18 e18 => ?_)
  refine og_aastore (pc' := 28) X18 hx hZ e18 V_nb11 rfl ⟨by decide, by decide⟩ 3 (by decide) (Nat.le_of_ble_eq_true rfl) rfl (own_sto V_nb11 Ov_nb11 (Ins.self (E_w3.ext O.2))) (hb hby at_27) rfl (fun T19 h19 X19 e19 W19 V19 => ?_)
  have O := O.wr W19 g_nb11; have K := K.wr W19 (Or.inr sz_nb11)
  have N := Fr.snoc X19 N g_nb11
  have V_nb11 : Arv Z h19 nb11 kA11 (.object "com/example/nitpick/nitpick/internal/interpolation/ExpressionLiterals$Quoting") (5 : Int32) [(.ref w0), (.ref w1), (.ref w2), (.ref w3), .null] .null := V19
  refine og_dup (pc' := 29) X19 hx rfl (hb hby at_28) rfl ?_
  refine og_iconst (pc' := 30) (v := (4 : Int32)) X19 hx rfl (hb hby at_29) rfl ?_
  refine og_getstatic (pc' := 33) X19 hx hZ (host := "") hown (Or.inl (ow12 hw)) Via.refl e19 (S_DOUBLE_ESCAPED.ext O.2) (hb hby at_30) rfl (fun T20 X20 e20 => ?_)
  refine og_aastore (pc' := 34) X20 hx hZ e20 V_nb11 rfl ⟨by decide, by decide⟩ 4 (by decide) (Nat.le_of_ble_eq_true rfl) rfl (own_sto V_nb11 Ov_nb11 (Ins.self (E_w4.ext O.2))) (hb hby at_33) rfl (fun T21 h21 X21 e21 W21 V21 => ?_)
  have O := O.wr W21 g_nb11; have K := K.wr W21 (Or.inr sz_nb11)
  have N := Fr.snoc X21 N g_nb11
  have V_nb11 : Arv Z h21 nb11 kA11 (.object "com/example/nitpick/nitpick/internal/interpolation/ExpressionLiterals$Quoting") (5 : Int32) [(.ref w0), (.ref w1), (.ref w2), (.ref w3), (.ref w4)] .null := V21
  refine og_astoreN (pc' := 35) (L' := #[.val (.int p1), .val (.int p2), .val (.int p3), .val (.ref nb11), .unset, .unset, .unset, .unset, .unset, .unset, .unset, .unset]) X21 hx rfl rfl (hb hby at_34) rfl ?_
  refine og_iloadN (pc' := 36) X21 hx rfl (hb hby at_35) rfl ?_
  refine og_ldc (pc' := 38) X21 hx hZ hown (ow14 hw) (hb hby at_36) rfl ?_
  refine og_iand (pc' := 39) X21 hx (hb hby at_38) rfl ?_
  refine og_iconst (pc' := 40) (v := (5 : Int32)) X21 hx rfl (hb hby at_39) rfl ?_
  refine og_irem (pc' := 41) X21 hx (by decide) (hb hby at_40) rfl ?_
  refine og_istore (pc' := 43) (L' := #[.val (.int p1), .val (.int p2), .val (.int p3), .val (.ref nb11), .val (.int ((p1 &&& (2147483647 : Int32)) % (5 : Int32))), .unset, .unset, .unset, .unset, .unset, .unset, .unset]) X21 hx rfl (hb hby at_41) rfl ?_
  obtain ⟨ii, h_ii⟩ : ∃ z, z = ((p1 &&& (2147483647 : Int32)) % (5 : Int32)) := ⟨_, rfl⟩
  rw [← h_ii]
  rcases own_cases5 (h_ii ▸ own_rem p1 5 5 rfl (by decide)) with rfl | rfl | rfl | rfl | rfl
  · -- ii = 0
    refine og_iloadN (pc' := 44) X21 hx rfl (hb hby at_43) rfl ?_
    refine og_iconst (pc' := 45) (v := (3 : Int32)) X21 hx rfl (hb hby at_44) rfl ?_
    refine og_iand (pc' := 46) X21 hx (hb hby at_45) rfl ?_
    refine og_istore (pc' := 48) (L' := #[.val (.int p1), .val (.int p2), .val (.int p3), .val (.ref nb11), .val (.int (0 : Int32)), .val (.int (p2 &&& (3 : Int32))), .unset, .unset, .unset, .unset, .unset, .unset]) X21 hx rfl (hb hby at_46) rfl ?_
    have J82 : ∀ cc : Int32, OG p e below (Fin s (fun v h L => v = some (.int 1) ∧ Fr n0 L) 16 128) (T21.setTop (mkF m 82 #[.val (.int p1), .val (.int p2), .val (.int p3), .val (.ref nb11), .val (.int (0 : Int32)), .val (.int (p2 &&& (3 : Int32))), .unset, .unset, .unset, .unset, .unset, .unset] [(.int cc)])) := by
      intro cc
      refine og_istore (pc' := 84) (L' := #[.val (.int p1), .val (.int p2), .val (.int p3), .val (.ref nb11), .val (.int (0 : Int32)), .val (.int (p2 &&& (3 : Int32))), .val (.int cc), .unset, .unset, .unset, .unset, .unset]) X21 hx rfl (hb hby at_82) rfl ?_
      refine og_iload (pc' := 86) X21 hx rfl (hb hby at_84) rfl ?_
      refine og_if_ne (pc1 := 93) (pc2 := 89) X21 hx (hb hby at_86) (by decide) (by decide) rfl (fun q => absurd q (by decide)) (fun _ => ?_)
      refine og_iconst (pc' := 90) (v := (0 : Int32)) X21 hx rfl (hb hby at_89) rfl ?_
      refine og_goto (pc' := 112) X21 hx (hb hby at_90) (by decide) (by decide) ?_
      refine og_istore (pc' := 114) (L' := #[.val (.int p1), .val (.int p2), .val (.int p3), .val (.ref nb11), .val (.int (0 : Int32)), .val (.int (p2 &&& (3 : Int32))), .val (.int cc), .val (.int (0 : Int32)), .unset, .unset, .unset, .unset]) X21 hx rfl (hb hby at_112) rfl ?_
      refine og_iload (pc' := 116) X21 hx rfl (hb hby at_114) rfl ?_
      refine og_iconst (pc' := 117) (v := (2 : Int32)) X21 hx rfl (hb hby at_116) rfl ?_
      refine og_icmp_eq (pc1 := 126) (pc2 := 120) X21 hx (hb hby at_117) (by decide) (by decide) rfl (fun q => absurd q (by decide)) (fun _ => ?_)
      refine og_iload (pc' := 122) X21 hx rfl (hb hby at_120) rfl ?_
      refine og_iconst (pc' := 123) (v := (4 : Int32)) X21 hx rfl (hb hby at_122) rfl ?_
      refine og_icmp_ne (pc1 := 130) (pc2 := 126) X21 hx (hb hby at_123) (by decide) (by decide) rfl (fun _ => ?_) (fun q => absurd q (by decide))
      refine og_iconst (pc' := 131) (v := (0 : Int32)) X21 hx rfl (hb hby at_130) rfl ?_
      refine og_istore (pc' := 133) (L' := #[.val (.int p1), .val (.int p2), .val (.int p3), .val (.ref nb11), .val (.int (0 : Int32)), .val (.int (p2 &&& (3 : Int32))), .val (.int cc), .val (.int (0 : Int32)), .val (.int (0 : Int32)), .unset, .unset, .unset]) X21 hx rfl (hb hby at_131) rfl ?_
      refine og_iload (pc' := 135) X21 hx rfl (hb hby at_133) rfl ?_
      refine og_if_ne (pc1 := 166) (pc2 := 138) X21 hx (hb hby at_135) (by decide) (by decide) rfl (fun q => absurd q (by decide)) (fun _ => ?_)
      refine og_iload (pc' := 140) X21 hx rfl (hb hby at_138) rfl ?_
      refine og_bipush (pc' := 142) (v := (39 : Int32)) X21 hx rfl (hb hby at_140) rfl ?_
      refine og_icmp_eq (pc1 := 152) (pc2 := 145) X21 hx (hb hby at_142) (by decide) (by decide) rfl (fun hc142 => ?_) (fun hc142 => ?_)
      · -- pc 152
        subst hc142
        refine og_iload (pc' := 154) X21 hx rfl (hb hby at_152) rfl ?_
        refine og_goto (pc' := 158) X21 hx (hb hby at_154) (by decide) (by decide) ?_
        refine og_istore (pc' := 160) (L' := #[.val (.int p1), .val (.int p2), .val (.int p3), .val (.ref nb11), .val (.int (0 : Int32)), .val (.int (p2 &&& (3 : Int32))), .val (.int (39 : Int32)), .val (.int (0 : Int32)), .val (.int (0 : Int32)), .val (.int (39 : Int32)), .unset, .unset]) X21 hx rfl (hb hby at_158) rfl ?_
        refine og_iconst (pc' := 161) (v := (0 : Int32)) X21 hx rfl (hb hby at_160) rfl ?_
        refine og_istore (pc' := 163) (L' := #[.val (.int p1), .val (.int p2), .val (.int p3), .val (.ref nb11), .val (.int (0 : Int32)), .val (.int (p2 &&& (3 : Int32))), .val (.int (39 : Int32)), .val (.int (0 : Int32)), .val (.int (0 : Int32)), .val (.int (39 : Int32)), .val (.int (0 : Int32)), .unset]) X21 hx rfl (hb hby at_161) rfl ?_
        refine og_goto (pc' := 221) X21 hx (hb hby at_163) (by decide) (by decide) ?_
        refine og_iload (pc' := 223) X21 hx rfl (hb hby at_221) rfl ?_
        refine og_if_ne (pc1 := 230) (pc2 := 226) X21 hx (hb hby at_223) (by decide) (by decide) rfl (fun _ => ?_) (fun q => absurd q (by decide))
        refine og_iload (pc' := 232) X21 hx rfl (hb hby at_230) rfl ?_
        refine og_bipush (pc' := 234) (v := (39 : Int32)) X21 hx rfl (hb hby at_232) rfl ?_
        refine og_icmp_ne (pc1 := 250) (pc2 := 237) X21 hx (hb hby at_234) (by decide) (by decide) rfl (fun q => absurd q (by decide)) (fun _ => ?_)
        refine og_iload (pc' := 239) X21 hx rfl (hb hby at_237) rfl ?_
        refine og_if_eq (pc1 := 246) (pc2 := 242) X21 hx (hb hby at_239) (by decide) (by decide) rfl (fun _ => ?_) (fun q => absurd q (by decide))
        refine og_iconst (pc' := 247) (v := (1 : Int32)) X21 hx rfl (hb hby at_246) rfl ?_
        refine og_goto (pc' := 260) X21 hx (hb hby at_247) (by decide) (by decide) ?_
        refine og_istore (pc' := 262) (L' := #[.val (.int p1), .val (.int p2), .val (.int p3), .val (.ref nb11), .val (.int (0 : Int32)), .val (.int (p2 &&& (3 : Int32))), .val (.int (39 : Int32)), .val (.int (0 : Int32)), .val (.int (0 : Int32)), .val (.int (39 : Int32)), .val (.int (0 : Int32)), .val (.int (1 : Int32))]) X21 hx rfl (hb hby at_260) rfl ?_
        refine og_aloadN (pc' := 263) X21 hx rfl rfl (hb hby at_262) rfl ?_
        refine og_iload (pc' := 265) X21 hx rfl (hb hby at_263) rfl ?_
        refine og_aaload (pc' := 266) (v := (.ref w0)) X21 hx hZ e21 rfl V_nb11 ⟨by decide, by decide⟩ rfl (hb hby at_265) rfl ?_
        refine og_iload (pc' := 268) X21 hx rfl (hb hby at_266) rfl ?_
        refine og_virtual (pc' := 271) (cells' := 1) (slots' := 5) (W := 0) X21 hx hZ (rm1_0 l Z a0 hw w0 w1 w2 w3 w4 (39 : Int32) w1 (by simp) h21 n0 O S_CODE S_SINGLE S_SINGLE_ESCAPED S_DOUBLE S_DOUBLE_ESCAPED E_w0 E_w1 E_w2 E_w3 E_w4 F_w0 F_w1 F_w2 F_w3 F_w4) hown (ow15 hw) (ow16 hw) (own_nf hZ (ow18 hw)) (ow18 hw) (ow17 hw) (ow3 hw) (ow19 hw) (by decide) (by rw [hml]; rfl) e21 opd_1 [(.int (39 : Int32))] [] rfl rfl rfl rfl (by decide) (by decide) rfl rfl (by decide) (by decide) (E_w0.ext O.2) (hb hby at_268) rfl (fun v22 T22 h22 L22 X22 e22 z22 => ?_)
        obtain ⟨rfl, Nq22, hq22⟩ := z22; replace e22 := e22.trans hq22; have N := Fr.app N Nq22
        show OG p e below _ (T22.setTop (mkF m 271 #[.val (.int p1), .val (.int p2), .val (.int p3), .val (.ref nb11), .val (.int (0 : Int32)), .val (.int (p2 &&& (3 : Int32))), .val (.int (39 : Int32)), .val (.int (0 : Int32)), .val (.int (0 : Int32)), .val (.int (39 : Int32)), .val (.int (0 : Int32)), .val (.int (1 : Int32))] [(.ref w1)]))
        refine og_aloadN (pc' := 272) X22 hx rfl rfl (hb hby at_271) rfl ?_
        refine og_iload (pc' := 274) X22 hx rfl (hb hby at_272) rfl ?_
        refine og_aaload (pc' := 275) (v := (.ref w1)) X22 hx hZ e22 rfl V_nb11 ⟨by decide, by decide⟩ rfl (hb hby at_274) rfl ?_
        refine og_acmp_ne (pc1 := 282) (pc2 := 278) X22 hx rfl rfl (hb hby at_275) (by decide) (by decide) rfl (fun q => absurd rfl q) (fun _ => ?_)
        refine og_iconst (pc' := 279) (v := (1 : Int32)) X22 hx rfl (hb hby at_278) rfl ?_
        refine og_goto (pc' := 283) X22 hx (hb hby at_279) (by decide) (by decide) ?_
        refine og_retN X22 hx hlk hret (by simp) (hb hby at_283) (by decide) (by decide) ?_
        exact ⟨rfl, N⟩
      · -- pc 145
        refine og_iload (pc' := 147) X21 hx rfl (hb hby at_145) rfl ?_
        refine og_bipush (pc' := 149) (v := (34 : Int32)) X21 hx rfl (hb hby at_147) rfl ?_
        refine og_icmp_ne (pc1 := 157) (pc2 := 152) X21 hx (hb hby at_149) (by decide) (by decide) rfl (fun hc149 => ?_) (fun hc149 => ?_)
        · -- pc 157
          refine og_iconst (pc' := 158) (v := (0 : Int32)) X21 hx rfl (hb hby at_157) rfl ?_
          refine og_istore (pc' := 160) (L' := #[.val (.int p1), .val (.int p2), .val (.int p3), .val (.ref nb11), .val (.int (0 : Int32)), .val (.int (p2 &&& (3 : Int32))), .val (.int cc), .val (.int (0 : Int32)), .val (.int (0 : Int32)), .val (.int (0 : Int32)), .unset, .unset]) X21 hx rfl (hb hby at_158) rfl ?_
          refine og_iconst (pc' := 161) (v := (0 : Int32)) X21 hx rfl (hb hby at_160) rfl ?_
          refine og_istore (pc' := 163) (L' := #[.val (.int p1), .val (.int p2), .val (.int p3), .val (.ref nb11), .val (.int (0 : Int32)), .val (.int (p2 &&& (3 : Int32))), .val (.int cc), .val (.int (0 : Int32)), .val (.int (0 : Int32)), .val (.int (0 : Int32)), .val (.int (0 : Int32)), .unset]) X21 hx rfl (hb hby at_161) rfl ?_
          refine og_goto (pc' := 221) X21 hx (hb hby at_163) (by decide) (by decide) ?_
          refine og_iload (pc' := 223) X21 hx rfl (hb hby at_221) rfl ?_
          refine og_if_ne (pc1 := 230) (pc2 := 226) X21 hx (hb hby at_223) (by decide) (by decide) rfl (fun q => absurd q (by decide)) (fun _ => ?_)
          refine og_iconst (pc' := 227) (v := (0 : Int32)) X21 hx rfl (hb hby at_226) rfl ?_
          refine og_goto (pc' := 260) X21 hx (hb hby at_227) (by decide) (by decide) ?_
          refine og_istore (pc' := 262) (L' := #[.val (.int p1), .val (.int p2), .val (.int p3), .val (.ref nb11), .val (.int (0 : Int32)), .val (.int (p2 &&& (3 : Int32))), .val (.int cc), .val (.int (0 : Int32)), .val (.int (0 : Int32)), .val (.int (0 : Int32)), .val (.int (0 : Int32)), .val (.int (0 : Int32))]) X21 hx rfl (hb hby at_260) rfl ?_
          refine og_aloadN (pc' := 263) X21 hx rfl rfl (hb hby at_262) rfl ?_
          refine og_iload (pc' := 265) X21 hx rfl (hb hby at_263) rfl ?_
          refine og_aaload (pc' := 266) (v := (.ref w0)) X21 hx hZ e21 rfl V_nb11 ⟨by decide, by decide⟩ rfl (hb hby at_265) rfl ?_
          refine og_iload (pc' := 268) X21 hx rfl (hb hby at_266) rfl ?_
          refine og_virtual (pc' := 271) (cells' := 1) (slots' := 5) (W := 0) X21 hx hZ (rm1_0 l Z a0 hw w0 w1 w2 w3 w4 cc w0 (by simp [hc142, hc149]) h21 n0 O S_CODE S_SINGLE S_SINGLE_ESCAPED S_DOUBLE S_DOUBLE_ESCAPED E_w0 E_w1 E_w2 E_w3 E_w4 F_w0 F_w1 F_w2 F_w3 F_w4) hown (ow15 hw) (ow16 hw) (own_nf hZ (ow18 hw)) (ow18 hw) (ow17 hw) (ow3 hw) (ow19 hw) (by decide) (by rw [hml]; rfl) e21 opd_1 [(.int cc)] [] rfl rfl rfl rfl (by decide) (by decide) rfl rfl (by decide) (by decide) (E_w0.ext O.2) (hb hby at_268) rfl (fun v23 T23 h23 L23 X23 e23 z23 => ?_)
          obtain ⟨rfl, Nq23, hq23⟩ := z23; replace e23 := e23.trans hq23; have N := Fr.app N Nq23
          show OG p e below _ (T23.setTop (mkF m 271 #[.val (.int p1), .val (.int p2), .val (.int p3), .val (.ref nb11), .val (.int (0 : Int32)), .val (.int (p2 &&& (3 : Int32))), .val (.int cc), .val (.int (0 : Int32)), .val (.int (0 : Int32)), .val (.int (0 : Int32)), .val (.int (0 : Int32)), .val (.int (0 : Int32))] [(.ref w0)]))
          refine og_aloadN (pc' := 272) X23 hx rfl rfl (hb hby at_271) rfl ?_
          refine og_iload (pc' := 274) X23 hx rfl (hb hby at_272) rfl ?_
          refine og_aaload (pc' := 275) (v := (.ref w0)) X23 hx hZ e23 rfl V_nb11 ⟨by decide, by decide⟩ rfl (hb hby at_274) rfl ?_
          refine og_acmp_ne (pc1 := 282) (pc2 := 278) X23 hx rfl rfl (hb hby at_275) (by decide) (by decide) rfl (fun q => absurd rfl q) (fun _ => ?_)
          refine og_iconst (pc' := 279) (v := (1 : Int32)) X23 hx rfl (hb hby at_278) rfl ?_
          refine og_goto (pc' := 283) X23 hx (hb hby at_279) (by decide) (by decide) ?_
          refine og_retN X23 hx hlk hret (by simp) (hb hby at_283) (by decide) (by decide) ?_
          exact ⟨rfl, N⟩
        · -- pc 152
          subst hc149
          refine og_iload (pc' := 154) X21 hx rfl (hb hby at_152) rfl ?_
          refine og_goto (pc' := 158) X21 hx (hb hby at_154) (by decide) (by decide) ?_
          refine og_istore (pc' := 160) (L' := #[.val (.int p1), .val (.int p2), .val (.int p3), .val (.ref nb11), .val (.int (0 : Int32)), .val (.int (p2 &&& (3 : Int32))), .val (.int (34 : Int32)), .val (.int (0 : Int32)), .val (.int (0 : Int32)), .val (.int (34 : Int32)), .unset, .unset]) X21 hx rfl (hb hby at_158) rfl ?_
          refine og_iconst (pc' := 161) (v := (0 : Int32)) X21 hx rfl (hb hby at_160) rfl ?_
          refine og_istore (pc' := 163) (L' := #[.val (.int p1), .val (.int p2), .val (.int p3), .val (.ref nb11), .val (.int (0 : Int32)), .val (.int (p2 &&& (3 : Int32))), .val (.int (34 : Int32)), .val (.int (0 : Int32)), .val (.int (0 : Int32)), .val (.int (34 : Int32)), .val (.int (0 : Int32)), .unset]) X21 hx rfl (hb hby at_161) rfl ?_
          refine og_goto (pc' := 221) X21 hx (hb hby at_163) (by decide) (by decide) ?_
          refine og_iload (pc' := 223) X21 hx rfl (hb hby at_221) rfl ?_
          refine og_if_ne (pc1 := 230) (pc2 := 226) X21 hx (hb hby at_223) (by decide) (by decide) rfl (fun _ => ?_) (fun q => absurd q (by decide))
          refine og_iload (pc' := 232) X21 hx rfl (hb hby at_230) rfl ?_
          refine og_bipush (pc' := 234) (v := (39 : Int32)) X21 hx rfl (hb hby at_232) rfl ?_
          refine og_icmp_ne (pc1 := 250) (pc2 := 237) X21 hx (hb hby at_234) (by decide) (by decide) rfl (fun _ => ?_) (fun q => absurd q (by decide))
          refine og_iload (pc' := 252) X21 hx rfl (hb hby at_250) rfl ?_
          refine og_if_eq (pc1 := 259) (pc2 := 255) X21 hx (hb hby at_252) (by decide) (by decide) rfl (fun _ => ?_) (fun q => absurd q (by decide))
          refine og_iconst (pc' := 260) (v := (3 : Int32)) X21 hx rfl (hb hby at_259) rfl ?_
          refine og_istore (pc' := 262) (L' := #[.val (.int p1), .val (.int p2), .val (.int p3), .val (.ref nb11), .val (.int (0 : Int32)), .val (.int (p2 &&& (3 : Int32))), .val (.int (34 : Int32)), .val (.int (0 : Int32)), .val (.int (0 : Int32)), .val (.int (34 : Int32)), .val (.int (0 : Int32)), .val (.int (3 : Int32))]) X21 hx rfl (hb hby at_260) rfl ?_
          refine og_aloadN (pc' := 263) X21 hx rfl rfl (hb hby at_262) rfl ?_
          refine og_iload (pc' := 265) X21 hx rfl (hb hby at_263) rfl ?_
          refine og_aaload (pc' := 266) (v := (.ref w0)) X21 hx hZ e21 rfl V_nb11 ⟨by decide, by decide⟩ rfl (hb hby at_265) rfl ?_
          refine og_iload (pc' := 268) X21 hx rfl (hb hby at_266) rfl ?_
          refine og_virtual (pc' := 271) (cells' := 1) (slots' := 5) (W := 0) X21 hx hZ (rm1_0 l Z a0 hw w0 w1 w2 w3 w4 (34 : Int32) w3 (by simp) h21 n0 O S_CODE S_SINGLE S_SINGLE_ESCAPED S_DOUBLE S_DOUBLE_ESCAPED E_w0 E_w1 E_w2 E_w3 E_w4 F_w0 F_w1 F_w2 F_w3 F_w4) hown (ow15 hw) (ow16 hw) (own_nf hZ (ow18 hw)) (ow18 hw) (ow17 hw) (ow3 hw) (ow19 hw) (by decide) (by rw [hml]; rfl) e21 opd_1 [(.int (34 : Int32))] [] rfl rfl rfl rfl (by decide) (by decide) rfl rfl (by decide) (by decide) (E_w0.ext O.2) (hb hby at_268) rfl (fun v24 T24 h24 L24 X24 e24 z24 => ?_)
          obtain ⟨rfl, Nq24, hq24⟩ := z24; replace e24 := e24.trans hq24; have N := Fr.app N Nq24
          show OG p e below _ (T24.setTop (mkF m 271 #[.val (.int p1), .val (.int p2), .val (.int p3), .val (.ref nb11), .val (.int (0 : Int32)), .val (.int (p2 &&& (3 : Int32))), .val (.int (34 : Int32)), .val (.int (0 : Int32)), .val (.int (0 : Int32)), .val (.int (34 : Int32)), .val (.int (0 : Int32)), .val (.int (3 : Int32))] [(.ref w3)]))
          refine og_aloadN (pc' := 272) X24 hx rfl rfl (hb hby at_271) rfl ?_
          refine og_iload (pc' := 274) X24 hx rfl (hb hby at_272) rfl ?_
          refine og_aaload (pc' := 275) (v := (.ref w3)) X24 hx hZ e24 rfl V_nb11 ⟨by decide, by decide⟩ rfl (hb hby at_274) rfl ?_
          refine og_acmp_ne (pc1 := 282) (pc2 := 278) X24 hx rfl rfl (hb hby at_275) (by decide) (by decide) rfl (fun q => absurd rfl q) (fun _ => ?_)
          refine og_iconst (pc' := 279) (v := (1 : Int32)) X24 hx rfl (hb hby at_278) rfl ?_
          refine og_goto (pc' := 283) X24 hx (hb hby at_279) (by decide) (by decide) ?_
          refine og_retN X24 hx hlk hret (by simp) (hb hby at_283) (by decide) (by decide) ?_
          exact ⟨rfl, N⟩
    refine og_iload (pc' := 50) X21 hx rfl (hb hby at_48) rfl ?_
    refine og_if_ne (pc1 := 58) (pc2 := 53) X21 hx (hb hby at_50) (by decide) (by decide) rfl (fun hc50 => ?_) (fun hc50 => ?_)
    · -- pc 58
      refine og_iload (pc' := 60) X21 hx rfl (hb hby at_58) rfl ?_
      refine og_iconst (pc' := 61) (v := (1 : Int32)) X21 hx rfl (hb hby at_60) rfl ?_
      refine og_icmp_ne (pc1 := 69) (pc2 := 64) X21 hx (hb hby at_61) (by decide) (by decide) rfl (fun hc61 => ?_) (fun hc61 => ?_)
      · -- pc 69
        refine og_iload (pc' := 71) X21 hx rfl (hb hby at_69) rfl ?_
        refine og_iconst (pc' := 72) (v := (2 : Int32)) X21 hx rfl (hb hby at_71) rfl ?_
        refine og_icmp_ne (pc1 := 80) (pc2 := 75) X21 hx (hb hby at_72) (by decide) (by decide) rfl (fun hc72 => ?_) (fun hc72 => ?_)
        · -- pc 80
          refine og_iloadN (pc' := 81) X21 hx rfl (hb hby at_80) rfl ?_
          refine og_i2c (pc' := 82) X21 hx (hb hby at_81) rfl ?_
          exact J82 _
        · -- pc 75
          refine og_bipush (pc' := 77) (v := (92 : Int32)) X21 hx rfl (hb hby at_75) rfl ?_
          refine og_goto (pc' := 82) X21 hx (hb hby at_77) (by decide) (by decide) ?_
          exact J82 _
      · -- pc 64
        refine og_bipush (pc' := 66) (v := (34 : Int32)) X21 hx rfl (hb hby at_64) rfl ?_
        refine og_goto (pc' := 82) X21 hx (hb hby at_66) (by decide) (by decide) ?_
        exact J82 _
    · -- pc 53
      refine og_bipush (pc' := 55) (v := (39 : Int32)) X21 hx rfl (hb hby at_53) rfl ?_
      refine og_goto (pc' := 82) X21 hx (hb hby at_55) (by decide) (by decide) ?_
      exact J82 _
  · -- ii = 1
    refine og_iloadN (pc' := 44) X21 hx rfl (hb hby at_43) rfl ?_
    refine og_iconst (pc' := 45) (v := (3 : Int32)) X21 hx rfl (hb hby at_44) rfl ?_
    refine og_iand (pc' := 46) X21 hx (hb hby at_45) rfl ?_
    refine og_istore (pc' := 48) (L' := #[.val (.int p1), .val (.int p2), .val (.int p3), .val (.ref nb11), .val (.int (1 : Int32)), .val (.int (p2 &&& (3 : Int32))), .unset, .unset, .unset, .unset, .unset, .unset]) X21 hx rfl (hb hby at_46) rfl ?_
    have J82 : ∀ cc : Int32, OG p e below (Fin s (fun v h L => v = some (.int 1) ∧ Fr n0 L) 16 128) (T21.setTop (mkF m 82 #[.val (.int p1), .val (.int p2), .val (.int p3), .val (.ref nb11), .val (.int (1 : Int32)), .val (.int (p2 &&& (3 : Int32))), .unset, .unset, .unset, .unset, .unset, .unset] [(.int cc)])) := by
      intro cc
      refine og_istore (pc' := 84) (L' := #[.val (.int p1), .val (.int p2), .val (.int p3), .val (.ref nb11), .val (.int (1 : Int32)), .val (.int (p2 &&& (3 : Int32))), .val (.int cc), .unset, .unset, .unset, .unset, .unset]) X21 hx rfl (hb hby at_82) rfl ?_
      refine og_iload (pc' := 86) X21 hx rfl (hb hby at_84) rfl ?_
      refine og_if_ne (pc1 := 93) (pc2 := 89) X21 hx (hb hby at_86) (by decide) (by decide) rfl (fun _ => ?_) (fun q => absurd q (by decide))
      refine og_iload (pc' := 95) X21 hx rfl (hb hby at_93) rfl ?_
      refine og_iconst (pc' := 96) (v := (1 : Int32)) X21 hx rfl (hb hby at_95) rfl ?_
      refine og_icmp_eq (pc1 := 105) (pc2 := 99) X21 hx (hb hby at_96) (by decide) (by decide) rfl (fun _ => ?_) (fun q => absurd q (by decide))
      refine og_bipush (pc' := 107) (v := (39 : Int32)) X21 hx rfl (hb hby at_105) rfl ?_
      refine og_goto (pc' := 112) X21 hx (hb hby at_107) (by decide) (by decide) ?_
      refine og_istore (pc' := 114) (L' := #[.val (.int p1), .val (.int p2), .val (.int p3), .val (.ref nb11), .val (.int (1 : Int32)), .val (.int (p2 &&& (3 : Int32))), .val (.int cc), .val (.int (39 : Int32)), .unset, .unset, .unset, .unset]) X21 hx rfl (hb hby at_112) rfl ?_
      refine og_iload (pc' := 116) X21 hx rfl (hb hby at_114) rfl ?_
      refine og_iconst (pc' := 117) (v := (2 : Int32)) X21 hx rfl (hb hby at_116) rfl ?_
      refine og_icmp_eq (pc1 := 126) (pc2 := 120) X21 hx (hb hby at_117) (by decide) (by decide) rfl (fun q => absurd q (by decide)) (fun _ => ?_)
      refine og_iload (pc' := 122) X21 hx rfl (hb hby at_120) rfl ?_
      refine og_iconst (pc' := 123) (v := (4 : Int32)) X21 hx rfl (hb hby at_122) rfl ?_
      refine og_icmp_ne (pc1 := 130) (pc2 := 126) X21 hx (hb hby at_123) (by decide) (by decide) rfl (fun _ => ?_) (fun q => absurd q (by decide))
      refine og_iconst (pc' := 131) (v := (0 : Int32)) X21 hx rfl (hb hby at_130) rfl ?_
      refine og_istore (pc' := 133) (L' := #[.val (.int p1), .val (.int p2), .val (.int p3), .val (.ref nb11), .val (.int (1 : Int32)), .val (.int (p2 &&& (3 : Int32))), .val (.int cc), .val (.int (39 : Int32)), .val (.int (0 : Int32)), .unset, .unset, .unset]) X21 hx rfl (hb hby at_131) rfl ?_
      refine og_iload (pc' := 135) X21 hx rfl (hb hby at_133) rfl ?_
      refine og_if_ne (pc1 := 166) (pc2 := 138) X21 hx (hb hby at_135) (by decide) (by decide) rfl (fun _ => ?_) (fun q => absurd q (by decide))
      refine og_iload (pc' := 168) X21 hx rfl (hb hby at_166) rfl ?_
      refine og_if_eq (pc1 := 181) (pc2 := 171) X21 hx (hb hby at_168) (by decide) (by decide) rfl (fun _ => ?_) (fun q => absurd q (by decide))
      refine og_iload (pc' := 183) X21 hx rfl (hb hby at_181) rfl ?_
      refine og_bipush (pc' := 185) (v := (92 : Int32)) X21 hx rfl (hb hby at_183) rfl ?_
      refine og_icmp_ne (pc1 := 198) (pc2 := 188) X21 hx (hb hby at_185) (by decide) (by decide) rfl (fun hc185 => ?_) (fun hc185 => ?_)
      · -- pc 198
        refine og_iload (pc' := 200) X21 hx rfl (hb hby at_198) rfl ?_
        refine og_iload (pc' := 202) X21 hx rfl (hb hby at_200) rfl ?_
        refine og_icmp_ne (pc1 := 214) (pc2 := 205) X21 hx (hb hby at_202) (by decide) (by decide) rfl (fun hc202 => ?_) (fun hc202 => ?_)
        · -- pc 214
          refine og_iload (pc' := 216) X21 hx rfl (hb hby at_214) rfl ?_
          refine og_istore (pc' := 218) (L' := #[.val (.int p1), .val (.int p2), .val (.int p3), .val (.ref nb11), .val (.int (1 : Int32)), .val (.int (p2 &&& (3 : Int32))), .val (.int cc), .val (.int (39 : Int32)), .val (.int (0 : Int32)), .val (.int (39 : Int32)), .unset, .unset]) X21 hx rfl (hb hby at_216) rfl ?_
          refine og_iconst (pc' := 219) (v := (0 : Int32)) X21 hx rfl (hb hby at_218) rfl ?_
          refine og_istore (pc' := 221) (L' := #[.val (.int p1), .val (.int p2), .val (.int p3), .val (.ref nb11), .val (.int (1 : Int32)), .val (.int (p2 &&& (3 : Int32))), .val (.int cc), .val (.int (39 : Int32)), .val (.int (0 : Int32)), .val (.int (39 : Int32)), .val (.int (0 : Int32)), .unset]) X21 hx rfl (hb hby at_219) rfl ?_
          refine og_iload (pc' := 223) X21 hx rfl (hb hby at_221) rfl ?_
          refine og_if_ne (pc1 := 230) (pc2 := 226) X21 hx (hb hby at_223) (by decide) (by decide) rfl (fun _ => ?_) (fun q => absurd q (by decide))
          refine og_iload (pc' := 232) X21 hx rfl (hb hby at_230) rfl ?_
          refine og_bipush (pc' := 234) (v := (39 : Int32)) X21 hx rfl (hb hby at_232) rfl ?_
          refine og_icmp_ne (pc1 := 250) (pc2 := 237) X21 hx (hb hby at_234) (by decide) (by decide) rfl (fun q => absurd q (by decide)) (fun _ => ?_)
          refine og_iload (pc' := 239) X21 hx rfl (hb hby at_237) rfl ?_
          refine og_if_eq (pc1 := 246) (pc2 := 242) X21 hx (hb hby at_239) (by decide) (by decide) rfl (fun _ => ?_) (fun q => absurd q (by decide))
          refine og_iconst (pc' := 247) (v := (1 : Int32)) X21 hx rfl (hb hby at_246) rfl ?_
          refine og_goto (pc' := 260) X21 hx (hb hby at_247) (by decide) (by decide) ?_
          refine og_istore (pc' := 262) (L' := #[.val (.int p1), .val (.int p2), .val (.int p3), .val (.ref nb11), .val (.int (1 : Int32)), .val (.int (p2 &&& (3 : Int32))), .val (.int cc), .val (.int (39 : Int32)), .val (.int (0 : Int32)), .val (.int (39 : Int32)), .val (.int (0 : Int32)), .val (.int (1 : Int32))]) X21 hx rfl (hb hby at_260) rfl ?_
          refine og_aloadN (pc' := 263) X21 hx rfl rfl (hb hby at_262) rfl ?_
          refine og_iload (pc' := 265) X21 hx rfl (hb hby at_263) rfl ?_
          refine og_aaload (pc' := 266) (v := (.ref w1)) X21 hx hZ e21 rfl V_nb11 ⟨by decide, by decide⟩ rfl (hb hby at_265) rfl ?_
          refine og_iload (pc' := 268) X21 hx rfl (hb hby at_266) rfl ?_
          refine og_virtual (pc' := 271) (cells' := 1) (slots' := 5) (W := 0) X21 hx hZ (rm1_1 l Z a0 hw w0 w1 w2 w3 w4 cc w1 (by simp [hc185, hc202]) h21 n0 O S_CODE S_SINGLE S_SINGLE_ESCAPED S_DOUBLE S_DOUBLE_ESCAPED E_w0 E_w1 E_w2 E_w3 E_w4 F_w0 F_w1 F_w2 F_w3 F_w4) hown (ow15 hw) (ow16 hw) (own_nf hZ (ow18 hw)) (ow18 hw) (ow17 hw) (ow3 hw) (ow19 hw) (by decide) (by rw [hml]; rfl) e21 opd_1 [(.int cc)] [] rfl rfl rfl rfl (by decide) (by decide) rfl rfl (by decide) (by decide) (E_w1.ext O.2) (hb hby at_268) rfl (fun v25 T25 h25 L25 X25 e25 z25 => ?_)
          obtain ⟨rfl, Nq25, hq25⟩ := z25; replace e25 := e25.trans hq25; have N := Fr.app N Nq25
          show OG p e below _ (T25.setTop (mkF m 271 #[.val (.int p1), .val (.int p2), .val (.int p3), .val (.ref nb11), .val (.int (1 : Int32)), .val (.int (p2 &&& (3 : Int32))), .val (.int cc), .val (.int (39 : Int32)), .val (.int (0 : Int32)), .val (.int (39 : Int32)), .val (.int (0 : Int32)), .val (.int (1 : Int32))] [(.ref w1)]))
          refine og_aloadN (pc' := 272) X25 hx rfl rfl (hb hby at_271) rfl ?_
          refine og_iload (pc' := 274) X25 hx rfl (hb hby at_272) rfl ?_
          refine og_aaload (pc' := 275) (v := (.ref w1)) X25 hx hZ e25 rfl V_nb11 ⟨by decide, by decide⟩ rfl (hb hby at_274) rfl ?_
          refine og_acmp_ne (pc1 := 282) (pc2 := 278) X25 hx rfl rfl (hb hby at_275) (by decide) (by decide) rfl (fun q => absurd rfl q) (fun _ => ?_)
          refine og_iconst (pc' := 279) (v := (1 : Int32)) X25 hx rfl (hb hby at_278) rfl ?_
          refine og_goto (pc' := 283) X25 hx (hb hby at_279) (by decide) (by decide) ?_
          refine og_retN X25 hx hlk hret (by simp) (hb hby at_283) (by decide) (by decide) ?_
          exact ⟨rfl, N⟩
        · -- pc 205
          subst hc202
          refine og_iconst (pc' := 206) (v := (0 : Int32)) X21 hx rfl (hb hby at_205) rfl ?_
          refine og_istore (pc' := 208) (L' := #[.val (.int p1), .val (.int p2), .val (.int p3), .val (.ref nb11), .val (.int (1 : Int32)), .val (.int (p2 &&& (3 : Int32))), .val (.int (39 : Int32)), .val (.int (39 : Int32)), .val (.int (0 : Int32)), .val (.int (0 : Int32)), .unset, .unset]) X21 hx rfl (hb hby at_206) rfl ?_
          refine og_iconst (pc' := 209) (v := (0 : Int32)) X21 hx rfl (hb hby at_208) rfl ?_
          refine og_istore (pc' := 211) (L' := #[.val (.int p1), .val (.int p2), .val (.int p3), .val (.ref nb11), .val (.int (1 : Int32)), .val (.int (p2 &&& (3 : Int32))), .val (.int (39 : Int32)), .val (.int (39 : Int32)), .val (.int (0 : Int32)), .val (.int (0 : Int32)), .val (.int (0 : Int32)), .unset]) X21 hx rfl (hb hby at_209) rfl ?_
          refine og_goto (pc' := 221) X21 hx (hb hby at_211) (by decide) (by decide) ?_
          refine og_iload (pc' := 223) X21 hx rfl (hb hby at_221) rfl ?_
          refine og_if_ne (pc1 := 230) (pc2 := 226) X21 hx (hb hby at_223) (by decide) (by decide) rfl (fun q => absurd q (by decide)) (fun _ => ?_)
          refine og_iconst (pc' := 227) (v := (0 : Int32)) X21 hx rfl (hb hby at_226) rfl ?_
          refine og_goto (pc' := 260) X21 hx (hb hby at_227) (by decide) (by decide) ?_
          refine og_istore (pc' := 262) (L' := #[.val (.int p1), .val (.int p2), .val (.int p3), .val (.ref nb11), .val (.int (1 : Int32)), .val (.int (p2 &&& (3 : Int32))), .val (.int (39 : Int32)), .val (.int (39 : Int32)), .val (.int (0 : Int32)), .val (.int (0 : Int32)), .val (.int (0 : Int32)), .val (.int (0 : Int32))]) X21 hx rfl (hb hby at_260) rfl ?_
          refine og_aloadN (pc' := 263) X21 hx rfl rfl (hb hby at_262) rfl ?_
          refine og_iload (pc' := 265) X21 hx rfl (hb hby at_263) rfl ?_
          refine og_aaload (pc' := 266) (v := (.ref w1)) X21 hx hZ e21 rfl V_nb11 ⟨by decide, by decide⟩ rfl (hb hby at_265) rfl ?_
          refine og_iload (pc' := 268) X21 hx rfl (hb hby at_266) rfl ?_
          refine og_virtual (pc' := 271) (cells' := 1) (slots' := 5) (W := 0) X21 hx hZ (rm1_1 l Z a0 hw w0 w1 w2 w3 w4 (39 : Int32) w0 (by simp) h21 n0 O S_CODE S_SINGLE S_SINGLE_ESCAPED S_DOUBLE S_DOUBLE_ESCAPED E_w0 E_w1 E_w2 E_w3 E_w4 F_w0 F_w1 F_w2 F_w3 F_w4) hown (ow15 hw) (ow16 hw) (own_nf hZ (ow18 hw)) (ow18 hw) (ow17 hw) (ow3 hw) (ow19 hw) (by decide) (by rw [hml]; rfl) e21 opd_1 [(.int (39 : Int32))] [] rfl rfl rfl rfl (by decide) (by decide) rfl rfl (by decide) (by decide) (E_w1.ext O.2) (hb hby at_268) rfl (fun v26 T26 h26 L26 X26 e26 z26 => ?_)
          obtain ⟨rfl, Nq26, hq26⟩ := z26; replace e26 := e26.trans hq26; have N := Fr.app N Nq26
          show OG p e below _ (T26.setTop (mkF m 271 #[.val (.int p1), .val (.int p2), .val (.int p3), .val (.ref nb11), .val (.int (1 : Int32)), .val (.int (p2 &&& (3 : Int32))), .val (.int (39 : Int32)), .val (.int (39 : Int32)), .val (.int (0 : Int32)), .val (.int (0 : Int32)), .val (.int (0 : Int32)), .val (.int (0 : Int32))] [(.ref w0)]))
          refine og_aloadN (pc' := 272) X26 hx rfl rfl (hb hby at_271) rfl ?_
          refine og_iload (pc' := 274) X26 hx rfl (hb hby at_272) rfl ?_
          refine og_aaload (pc' := 275) (v := (.ref w0)) X26 hx hZ e26 rfl V_nb11 ⟨by decide, by decide⟩ rfl (hb hby at_274) rfl ?_
          refine og_acmp_ne (pc1 := 282) (pc2 := 278) X26 hx rfl rfl (hb hby at_275) (by decide) (by decide) rfl (fun q => absurd rfl q) (fun _ => ?_)
          refine og_iconst (pc' := 279) (v := (1 : Int32)) X26 hx rfl (hb hby at_278) rfl ?_
          refine og_goto (pc' := 283) X26 hx (hb hby at_279) (by decide) (by decide) ?_
          refine og_retN X26 hx hlk hret (by simp) (hb hby at_283) (by decide) (by decide) ?_
          exact ⟨rfl, N⟩
      · -- pc 188
        subst hc185
        refine og_iload (pc' := 190) X21 hx rfl (hb hby at_188) rfl ?_
        refine og_istore (pc' := 192) (L' := #[.val (.int p1), .val (.int p2), .val (.int p3), .val (.ref nb11), .val (.int (1 : Int32)), .val (.int (p2 &&& (3 : Int32))), .val (.int (92 : Int32)), .val (.int (39 : Int32)), .val (.int (0 : Int32)), .val (.int (39 : Int32)), .unset, .unset]) X21 hx rfl (hb hby at_190) rfl ?_
        refine og_iconst (pc' := 193) (v := (1 : Int32)) X21 hx rfl (hb hby at_192) rfl ?_
        refine og_istore (pc' := 195) (L' := #[.val (.int p1), .val (.int p2), .val (.int p3), .val (.ref nb11), .val (.int (1 : Int32)), .val (.int (p2 &&& (3 : Int32))), .val (.int (92 : Int32)), .val (.int (39 : Int32)), .val (.int (0 : Int32)), .val (.int (39 : Int32)), .val (.int (1 : Int32)), .unset]) X21 hx rfl (hb hby at_193) rfl ?_
        refine og_goto (pc' := 221) X21 hx (hb hby at_195) (by decide) (by decide) ?_
        refine og_iload (pc' := 223) X21 hx rfl (hb hby at_221) rfl ?_
        refine og_if_ne (pc1 := 230) (pc2 := 226) X21 hx (hb hby at_223) (by decide) (by decide) rfl (fun _ => ?_) (fun q => absurd q (by decide))
        refine og_iload (pc' := 232) X21 hx rfl (hb hby at_230) rfl ?_
        refine og_bipush (pc' := 234) (v := (39 : Int32)) X21 hx rfl (hb hby at_232) rfl ?_
        refine og_icmp_ne (pc1 := 250) (pc2 := 237) X21 hx (hb hby at_234) (by decide) (by decide) rfl (fun q => absurd q (by decide)) (fun _ => ?_)
        refine og_iload (pc' := 239) X21 hx rfl (hb hby at_237) rfl ?_
        refine og_if_eq (pc1 := 246) (pc2 := 242) X21 hx (hb hby at_239) (by decide) (by decide) rfl (fun q => absurd q (by decide)) (fun _ => ?_)
        refine og_iconst (pc' := 243) (v := (2 : Int32)) X21 hx rfl (hb hby at_242) rfl ?_
        refine og_goto (pc' := 260) X21 hx (hb hby at_243) (by decide) (by decide) ?_
        refine og_istore (pc' := 262) (L' := #[.val (.int p1), .val (.int p2), .val (.int p3), .val (.ref nb11), .val (.int (1 : Int32)), .val (.int (p2 &&& (3 : Int32))), .val (.int (92 : Int32)), .val (.int (39 : Int32)), .val (.int (0 : Int32)), .val (.int (39 : Int32)), .val (.int (1 : Int32)), .val (.int (2 : Int32))]) X21 hx rfl (hb hby at_260) rfl ?_
        refine og_aloadN (pc' := 263) X21 hx rfl rfl (hb hby at_262) rfl ?_
        refine og_iload (pc' := 265) X21 hx rfl (hb hby at_263) rfl ?_
        refine og_aaload (pc' := 266) (v := (.ref w1)) X21 hx hZ e21 rfl V_nb11 ⟨by decide, by decide⟩ rfl (hb hby at_265) rfl ?_
        refine og_iload (pc' := 268) X21 hx rfl (hb hby at_266) rfl ?_
        refine og_virtual (pc' := 271) (cells' := 1) (slots' := 5) (W := 0) X21 hx hZ (rm1_1 l Z a0 hw w0 w1 w2 w3 w4 (92 : Int32) w2 (by simp) h21 n0 O S_CODE S_SINGLE S_SINGLE_ESCAPED S_DOUBLE S_DOUBLE_ESCAPED E_w0 E_w1 E_w2 E_w3 E_w4 F_w0 F_w1 F_w2 F_w3 F_w4) hown (ow15 hw) (ow16 hw) (own_nf hZ (ow18 hw)) (ow18 hw) (ow17 hw) (ow3 hw) (ow19 hw) (by decide) (by rw [hml]; rfl) e21 opd_1 [(.int (92 : Int32))] [] rfl rfl rfl rfl (by decide) (by decide) rfl rfl (by decide) (by decide) (E_w1.ext O.2) (hb hby at_268) rfl (fun v27 T27 h27 L27 X27 e27 z27 => ?_)
        obtain ⟨rfl, Nq27, hq27⟩ := z27; replace e27 := e27.trans hq27; have N := Fr.app N Nq27
        show OG p e below _ (T27.setTop (mkF m 271 #[.val (.int p1), .val (.int p2), .val (.int p3), .val (.ref nb11), .val (.int (1 : Int32)), .val (.int (p2 &&& (3 : Int32))), .val (.int (92 : Int32)), .val (.int (39 : Int32)), .val (.int (0 : Int32)), .val (.int (39 : Int32)), .val (.int (1 : Int32)), .val (.int (2 : Int32))] [(.ref w2)]))
        refine og_aloadN (pc' := 272) X27 hx rfl rfl (hb hby at_271) rfl ?_
        refine og_iload (pc' := 274) X27 hx rfl (hb hby at_272) rfl ?_
        refine og_aaload (pc' := 275) (v := (.ref w2)) X27 hx hZ e27 rfl V_nb11 ⟨by decide, by decide⟩ rfl (hb hby at_274) rfl ?_
        refine og_acmp_ne (pc1 := 282) (pc2 := 278) X27 hx rfl rfl (hb hby at_275) (by decide) (by decide) rfl (fun q => absurd rfl q) (fun _ => ?_)
        refine og_iconst (pc' := 279) (v := (1 : Int32)) X27 hx rfl (hb hby at_278) rfl ?_
        refine og_goto (pc' := 283) X27 hx (hb hby at_279) (by decide) (by decide) ?_
        refine og_retN X27 hx hlk hret (by simp) (hb hby at_283) (by decide) (by decide) ?_
        exact ⟨rfl, N⟩
    refine og_iload (pc' := 50) X21 hx rfl (hb hby at_48) rfl ?_
    refine og_if_ne (pc1 := 58) (pc2 := 53) X21 hx (hb hby at_50) (by decide) (by decide) rfl (fun hc50 => ?_) (fun hc50 => ?_)
    · -- pc 58
      refine og_iload (pc' := 60) X21 hx rfl (hb hby at_58) rfl ?_
      refine og_iconst (pc' := 61) (v := (1 : Int32)) X21 hx rfl (hb hby at_60) rfl ?_
      refine og_icmp_ne (pc1 := 69) (pc2 := 64) X21 hx (hb hby at_61) (by decide) (by decide) rfl (fun hc61 => ?_) (fun hc61 => ?_)
      · -- pc 69
        refine og_iload (pc' := 71) X21 hx rfl (hb hby at_69) rfl ?_
        refine og_iconst (pc' := 72) (v := (2 : Int32)) X21 hx rfl (hb hby at_71) rfl ?_
        refine og_icmp_ne (pc1 := 80) (pc2 := 75) X21 hx (hb hby at_72) (by decide) (by decide) rfl (fun hc72 => ?_) (fun hc72 => ?_)
        · -- pc 80
          refine og_iloadN (pc' := 81) X21 hx rfl (hb hby at_80) rfl ?_
          refine og_i2c (pc' := 82) X21 hx (hb hby at_81) rfl ?_
          exact J82 _
        · -- pc 75
          refine og_bipush (pc' := 77) (v := (92 : Int32)) X21 hx rfl (hb hby at_75) rfl ?_
          refine og_goto (pc' := 82) X21 hx (hb hby at_77) (by decide) (by decide) ?_
          exact J82 _
      · -- pc 64
        refine og_bipush (pc' := 66) (v := (34 : Int32)) X21 hx rfl (hb hby at_64) rfl ?_
        refine og_goto (pc' := 82) X21 hx (hb hby at_66) (by decide) (by decide) ?_
        exact J82 _
    · -- pc 53
      refine og_bipush (pc' := 55) (v := (39 : Int32)) X21 hx rfl (hb hby at_53) rfl ?_
      refine og_goto (pc' := 82) X21 hx (hb hby at_55) (by decide) (by decide) ?_
      exact J82 _
  · -- ii = 2
    refine og_iloadN (pc' := 44) X21 hx rfl (hb hby at_43) rfl ?_
    refine og_iconst (pc' := 45) (v := (3 : Int32)) X21 hx rfl (hb hby at_44) rfl ?_
    refine og_iand (pc' := 46) X21 hx (hb hby at_45) rfl ?_
    refine og_istore (pc' := 48) (L' := #[.val (.int p1), .val (.int p2), .val (.int p3), .val (.ref nb11), .val (.int (2 : Int32)), .val (.int (p2 &&& (3 : Int32))), .unset, .unset, .unset, .unset, .unset, .unset]) X21 hx rfl (hb hby at_46) rfl ?_
    have J82 : ∀ cc : Int32, OG p e below (Fin s (fun v h L => v = some (.int 1) ∧ Fr n0 L) 16 128) (T21.setTop (mkF m 82 #[.val (.int p1), .val (.int p2), .val (.int p3), .val (.ref nb11), .val (.int (2 : Int32)), .val (.int (p2 &&& (3 : Int32))), .unset, .unset, .unset, .unset, .unset, .unset] [(.int cc)])) := by
      intro cc
      refine og_istore (pc' := 84) (L' := #[.val (.int p1), .val (.int p2), .val (.int p3), .val (.ref nb11), .val (.int (2 : Int32)), .val (.int (p2 &&& (3 : Int32))), .val (.int cc), .unset, .unset, .unset, .unset, .unset]) X21 hx rfl (hb hby at_82) rfl ?_
      refine og_iload (pc' := 86) X21 hx rfl (hb hby at_84) rfl ?_
      refine og_if_ne (pc1 := 93) (pc2 := 89) X21 hx (hb hby at_86) (by decide) (by decide) rfl (fun _ => ?_) (fun q => absurd q (by decide))
      refine og_iload (pc' := 95) X21 hx rfl (hb hby at_93) rfl ?_
      refine og_iconst (pc' := 96) (v := (1 : Int32)) X21 hx rfl (hb hby at_95) rfl ?_
      refine og_icmp_eq (pc1 := 105) (pc2 := 99) X21 hx (hb hby at_96) (by decide) (by decide) rfl (fun q => absurd q (by decide)) (fun _ => ?_)
      refine og_iload (pc' := 101) X21 hx rfl (hb hby at_99) rfl ?_
      refine og_iconst (pc' := 102) (v := (2 : Int32)) X21 hx rfl (hb hby at_101) rfl ?_
      refine og_icmp_ne (pc1 := 110) (pc2 := 105) X21 hx (hb hby at_102) (by decide) (by decide) rfl (fun q => absurd q (by decide)) (fun _ => ?_)
      refine og_bipush (pc' := 107) (v := (39 : Int32)) X21 hx rfl (hb hby at_105) rfl ?_
      refine og_goto (pc' := 112) X21 hx (hb hby at_107) (by decide) (by decide) ?_
      refine og_istore (pc' := 114) (L' := #[.val (.int p1), .val (.int p2), .val (.int p3), .val (.ref nb11), .val (.int (2 : Int32)), .val (.int (p2 &&& (3 : Int32))), .val (.int cc), .val (.int (39 : Int32)), .unset, .unset, .unset, .unset]) X21 hx rfl (hb hby at_112) rfl ?_
      refine og_iload (pc' := 116) X21 hx rfl (hb hby at_114) rfl ?_
      refine og_iconst (pc' := 117) (v := (2 : Int32)) X21 hx rfl (hb hby at_116) rfl ?_
      refine og_icmp_eq (pc1 := 126) (pc2 := 120) X21 hx (hb hby at_117) (by decide) (by decide) rfl (fun _ => ?_) (fun q => absurd q (by decide))
      refine og_iconst (pc' := 127) (v := (1 : Int32)) X21 hx rfl (hb hby at_126) rfl ?_
      refine og_goto (pc' := 131) X21 hx (hb hby at_127) (by decide) (by decide) ?_
      refine og_istore (pc' := 133) (L' := #[.val (.int p1), .val (.int p2), .val (.int p3), .val (.ref nb11), .val (.int (2 : Int32)), .val (.int (p2 &&& (3 : Int32))), .val (.int cc), .val (.int (39 : Int32)), .val (.int (1 : Int32)), .unset, .unset, .unset]) X21 hx rfl (hb hby at_131) rfl ?_
      refine og_iload (pc' := 135) X21 hx rfl (hb hby at_133) rfl ?_
      refine og_if_ne (pc1 := 166) (pc2 := 138) X21 hx (hb hby at_135) (by decide) (by decide) rfl (fun _ => ?_) (fun q => absurd q (by decide))
      refine og_iload (pc' := 168) X21 hx rfl (hb hby at_166) rfl ?_
      refine og_if_eq (pc1 := 181) (pc2 := 171) X21 hx (hb hby at_168) (by decide) (by decide) rfl (fun q => absurd q (by decide)) (fun _ => ?_)
      refine og_iload (pc' := 173) X21 hx rfl (hb hby at_171) rfl ?_
      refine og_istore (pc' := 175) (L' := #[.val (.int p1), .val (.int p2), .val (.int p3), .val (.ref nb11), .val (.int (2 : Int32)), .val (.int (p2 &&& (3 : Int32))), .val (.int cc), .val (.int (39 : Int32)), .val (.int (1 : Int32)), .val (.int (39 : Int32)), .unset, .unset]) X21 hx rfl (hb hby at_173) rfl ?_
      refine og_iconst (pc' := 176) (v := (0 : Int32)) X21 hx rfl (hb hby at_175) rfl ?_
      refine og_istore (pc' := 178) (L' := #[.val (.int p1), .val (.int p2), .val (.int p3), .val (.ref nb11), .val (.int (2 : Int32)), .val (.int (p2 &&& (3 : Int32))), .val (.int cc), .val (.int (39 : Int32)), .val (.int (1 : Int32)), .val (.int (39 : Int32)), .val (.int (0 : Int32)), .unset]) X21 hx rfl (hb hby at_176) rfl ?_
      refine og_goto (pc' := 221) X21 hx (hb hby at_178) (by decide) (by decide) ?_
      refine og_iload (pc' := 223) X21 hx rfl (hb hby at_221) rfl ?_
      refine og_if_ne (pc1 := 230) (pc2 := 226) X21 hx (hb hby at_223) (by decide) (by decide) rfl (fun _ => ?_) (fun q => absurd q (by decide))
      refine og_iload (pc' := 232) X21 hx rfl (hb hby at_230) rfl ?_
      refine og_bipush (pc' := 234) (v := (39 : Int32)) X21 hx rfl (hb hby at_232) rfl ?_
      refine og_icmp_ne (pc1 := 250) (pc2 := 237) X21 hx (hb hby at_234) (by decide) (by decide) rfl (fun q => absurd q (by decide)) (fun _ => ?_)
      refine og_iload (pc' := 239) X21 hx rfl (hb hby at_237) rfl ?_
      refine og_if_eq (pc1 := 246) (pc2 := 242) X21 hx (hb hby at_239) (by decide) (by decide) rfl (fun _ => ?_) (fun q => absurd q (by decide))
      refine og_iconst (pc' := 247) (v := (1 : Int32)) X21 hx rfl (hb hby at_246) rfl ?_
      refine og_goto (pc' := 260) X21 hx (hb hby at_247) (by decide) (by decide) ?_
      refine og_istore (pc' := 262) (L' := #[.val (.int p1), .val (.int p2), .val (.int p3), .val (.ref nb11), .val (.int (2 : Int32)), .val (.int (p2 &&& (3 : Int32))), .val (.int cc), .val (.int (39 : Int32)), .val (.int (1 : Int32)), .val (.int (39 : Int32)), .val (.int (0 : Int32)), .val (.int (1 : Int32))]) X21 hx rfl (hb hby at_260) rfl ?_
      refine og_aloadN (pc' := 263) X21 hx rfl rfl (hb hby at_262) rfl ?_
      refine og_iload (pc' := 265) X21 hx rfl (hb hby at_263) rfl ?_
      refine og_aaload (pc' := 266) (v := (.ref w2)) X21 hx hZ e21 rfl V_nb11 ⟨by decide, by decide⟩ rfl (hb hby at_265) rfl ?_
      refine og_iload (pc' := 268) X21 hx rfl (hb hby at_266) rfl ?_
      refine og_virtual (pc' := 271) (cells' := 1) (slots' := 5) (W := 0) X21 hx hZ (rm1_2 l Z a0 hw w0 w1 w2 w3 w4 cc w1 rfl h21 n0 O S_CODE S_SINGLE S_SINGLE_ESCAPED S_DOUBLE S_DOUBLE_ESCAPED E_w0 E_w1 E_w2 E_w3 E_w4 F_w0 F_w1 F_w2 F_w3 F_w4) hown (ow15 hw) (ow16 hw) (own_nf hZ (ow18 hw)) (ow18 hw) (ow17 hw) (ow3 hw) (ow19 hw) (by decide) (by rw [hml]; rfl) e21 opd_1 [(.int cc)] [] rfl rfl rfl rfl (by decide) (by decide) rfl rfl (by decide) (by decide) (E_w2.ext O.2) (hb hby at_268) rfl (fun v28 T28 h28 L28 X28 e28 z28 => ?_)
      obtain ⟨rfl, Nq28, hq28⟩ := z28; replace e28 := e28.trans hq28; have N := Fr.app N Nq28
      show OG p e below _ (T28.setTop (mkF m 271 #[.val (.int p1), .val (.int p2), .val (.int p3), .val (.ref nb11), .val (.int (2 : Int32)), .val (.int (p2 &&& (3 : Int32))), .val (.int cc), .val (.int (39 : Int32)), .val (.int (1 : Int32)), .val (.int (39 : Int32)), .val (.int (0 : Int32)), .val (.int (1 : Int32))] [(.ref w1)]))
      refine og_aloadN (pc' := 272) X28 hx rfl rfl (hb hby at_271) rfl ?_
      refine og_iload (pc' := 274) X28 hx rfl (hb hby at_272) rfl ?_
      refine og_aaload (pc' := 275) (v := (.ref w1)) X28 hx hZ e28 rfl V_nb11 ⟨by decide, by decide⟩ rfl (hb hby at_274) rfl ?_
      refine og_acmp_ne (pc1 := 282) (pc2 := 278) X28 hx rfl rfl (hb hby at_275) (by decide) (by decide) rfl (fun q => absurd rfl q) (fun _ => ?_)
      refine og_iconst (pc' := 279) (v := (1 : Int32)) X28 hx rfl (hb hby at_278) rfl ?_
      refine og_goto (pc' := 283) X28 hx (hb hby at_279) (by decide) (by decide) ?_
      refine og_retN X28 hx hlk hret (by simp) (hb hby at_283) (by decide) (by decide) ?_
      exact ⟨rfl, N⟩
    refine og_iload (pc' := 50) X21 hx rfl (hb hby at_48) rfl ?_
    refine og_if_ne (pc1 := 58) (pc2 := 53) X21 hx (hb hby at_50) (by decide) (by decide) rfl (fun hc50 => ?_) (fun hc50 => ?_)
    · -- pc 58
      refine og_iload (pc' := 60) X21 hx rfl (hb hby at_58) rfl ?_
      refine og_iconst (pc' := 61) (v := (1 : Int32)) X21 hx rfl (hb hby at_60) rfl ?_
      refine og_icmp_ne (pc1 := 69) (pc2 := 64) X21 hx (hb hby at_61) (by decide) (by decide) rfl (fun hc61 => ?_) (fun hc61 => ?_)
      · -- pc 69
        refine og_iload (pc' := 71) X21 hx rfl (hb hby at_69) rfl ?_
        refine og_iconst (pc' := 72) (v := (2 : Int32)) X21 hx rfl (hb hby at_71) rfl ?_
        refine og_icmp_ne (pc1 := 80) (pc2 := 75) X21 hx (hb hby at_72) (by decide) (by decide) rfl (fun hc72 => ?_) (fun hc72 => ?_)
        · -- pc 80
          refine og_iloadN (pc' := 81) X21 hx rfl (hb hby at_80) rfl ?_
          refine og_i2c (pc' := 82) X21 hx (hb hby at_81) rfl ?_
          exact J82 _
        · -- pc 75
          refine og_bipush (pc' := 77) (v := (92 : Int32)) X21 hx rfl (hb hby at_75) rfl ?_
          refine og_goto (pc' := 82) X21 hx (hb hby at_77) (by decide) (by decide) ?_
          exact J82 _
      · -- pc 64
        refine og_bipush (pc' := 66) (v := (34 : Int32)) X21 hx rfl (hb hby at_64) rfl ?_
        refine og_goto (pc' := 82) X21 hx (hb hby at_66) (by decide) (by decide) ?_
        exact J82 _
    · -- pc 53
      refine og_bipush (pc' := 55) (v := (39 : Int32)) X21 hx rfl (hb hby at_53) rfl ?_
      refine og_goto (pc' := 82) X21 hx (hb hby at_55) (by decide) (by decide) ?_
      exact J82 _
  · -- ii = 3
    refine og_iloadN (pc' := 44) X21 hx rfl (hb hby at_43) rfl ?_
    refine og_iconst (pc' := 45) (v := (3 : Int32)) X21 hx rfl (hb hby at_44) rfl ?_
    refine og_iand (pc' := 46) X21 hx (hb hby at_45) rfl ?_
    refine og_istore (pc' := 48) (L' := #[.val (.int p1), .val (.int p2), .val (.int p3), .val (.ref nb11), .val (.int (3 : Int32)), .val (.int (p2 &&& (3 : Int32))), .unset, .unset, .unset, .unset, .unset, .unset]) X21 hx rfl (hb hby at_46) rfl ?_
    have J82 : ∀ cc : Int32, OG p e below (Fin s (fun v h L => v = some (.int 1) ∧ Fr n0 L) 16 128) (T21.setTop (mkF m 82 #[.val (.int p1), .val (.int p2), .val (.int p3), .val (.ref nb11), .val (.int (3 : Int32)), .val (.int (p2 &&& (3 : Int32))), .unset, .unset, .unset, .unset, .unset, .unset] [(.int cc)])) := by
      intro cc
      refine og_istore (pc' := 84) (L' := #[.val (.int p1), .val (.int p2), .val (.int p3), .val (.ref nb11), .val (.int (3 : Int32)), .val (.int (p2 &&& (3 : Int32))), .val (.int cc), .unset, .unset, .unset, .unset, .unset]) X21 hx rfl (hb hby at_82) rfl ?_
      refine og_iload (pc' := 86) X21 hx rfl (hb hby at_84) rfl ?_
      refine og_if_ne (pc1 := 93) (pc2 := 89) X21 hx (hb hby at_86) (by decide) (by decide) rfl (fun _ => ?_) (fun q => absurd q (by decide))
      refine og_iload (pc' := 95) X21 hx rfl (hb hby at_93) rfl ?_
      refine og_iconst (pc' := 96) (v := (1 : Int32)) X21 hx rfl (hb hby at_95) rfl ?_
      refine og_icmp_eq (pc1 := 105) (pc2 := 99) X21 hx (hb hby at_96) (by decide) (by decide) rfl (fun q => absurd q (by decide)) (fun _ => ?_)
      refine og_iload (pc' := 101) X21 hx rfl (hb hby at_99) rfl ?_
      refine og_iconst (pc' := 102) (v := (2 : Int32)) X21 hx rfl (hb hby at_101) rfl ?_
      refine og_icmp_ne (pc1 := 110) (pc2 := 105) X21 hx (hb hby at_102) (by decide) (by decide) rfl (fun _ => ?_) (fun q => absurd q (by decide))
      refine og_bipush (pc' := 112) (v := (34 : Int32)) X21 hx rfl (hb hby at_110) rfl ?_
      refine og_istore (pc' := 114) (L' := #[.val (.int p1), .val (.int p2), .val (.int p3), .val (.ref nb11), .val (.int (3 : Int32)), .val (.int (p2 &&& (3 : Int32))), .val (.int cc), .val (.int (34 : Int32)), .unset, .unset, .unset, .unset]) X21 hx rfl (hb hby at_112) rfl ?_
      refine og_iload (pc' := 116) X21 hx rfl (hb hby at_114) rfl ?_
      refine og_iconst (pc' := 117) (v := (2 : Int32)) X21 hx rfl (hb hby at_116) rfl ?_
      refine og_icmp_eq (pc1 := 126) (pc2 := 120) X21 hx (hb hby at_117) (by decide) (by decide) rfl (fun q => absurd q (by decide)) (fun _ => ?_)
      refine og_iload (pc' := 122) X21 hx rfl (hb hby at_120) rfl ?_
      refine og_iconst (pc' := 123) (v := (4 : Int32)) X21 hx rfl (hb hby at_122) rfl ?_
      refine og_icmp_ne (pc1 := 130) (pc2 := 126) X21 hx (hb hby at_123) (by decide) (by decide) rfl (fun _ => ?_) (fun q => absurd q (by decide))
      refine og_iconst (pc' := 131) (v := (0 : Int32)) X21 hx rfl (hb hby at_130) rfl ?_
      refine og_istore (pc' := 133) (L' := #[.val (.int p1), .val (.int p2), .val (.int p3), .val (.ref nb11), .val (.int (3 : Int32)), .val (.int (p2 &&& (3 : Int32))), .val (.int cc), .val (.int (34 : Int32)), .val (.int (0 : Int32)), .unset, .unset, .unset]) X21 hx rfl (hb hby at_131) rfl ?_
      refine og_iload (pc' := 135) X21 hx rfl (hb hby at_133) rfl ?_
      refine og_if_ne (pc1 := 166) (pc2 := 138) X21 hx (hb hby at_135) (by decide) (by decide) rfl (fun _ => ?_) (fun q => absurd q (by decide))
      refine og_iload (pc' := 168) X21 hx rfl (hb hby at_166) rfl ?_
      refine og_if_eq (pc1 := 181) (pc2 := 171) X21 hx (hb hby at_168) (by decide) (by decide) rfl (fun _ => ?_) (fun q => absurd q (by decide))
      refine og_iload (pc' := 183) X21 hx rfl (hb hby at_181) rfl ?_
      refine og_bipush (pc' := 185) (v := (92 : Int32)) X21 hx rfl (hb hby at_183) rfl ?_
      refine og_icmp_ne (pc1 := 198) (pc2 := 188) X21 hx (hb hby at_185) (by decide) (by decide) rfl (fun hc185 => ?_) (fun hc185 => ?_)
      · -- pc 198
        refine og_iload (pc' := 200) X21 hx rfl (hb hby at_198) rfl ?_
        refine og_iload (pc' := 202) X21 hx rfl (hb hby at_200) rfl ?_
        refine og_icmp_ne (pc1 := 214) (pc2 := 205) X21 hx (hb hby at_202) (by decide) (by decide) rfl (fun hc202 => ?_) (fun hc202 => ?_)
        · -- pc 214
          refine og_iload (pc' := 216) X21 hx rfl (hb hby at_214) rfl ?_
          refine og_istore (pc' := 218) (L' := #[.val (.int p1), .val (.int p2), .val (.int p3), .val (.ref nb11), .val (.int (3 : Int32)), .val (.int (p2 &&& (3 : Int32))), .val (.int cc), .val (.int (34 : Int32)), .val (.int (0 : Int32)), .val (.int (34 : Int32)), .unset, .unset]) X21 hx rfl (hb hby at_216) rfl ?_
          refine og_iconst (pc' := 219) (v := (0 : Int32)) X21 hx rfl (hb hby at_218) rfl ?_
          refine og_istore (pc' := 221) (L' := #[.val (.int p1), .val (.int p2), .val (.int p3), .val (.ref nb11), .val (.int (3 : Int32)), .val (.int (p2 &&& (3 : Int32))), .val (.int cc), .val (.int (34 : Int32)), .val (.int (0 : Int32)), .val (.int (34 : Int32)), .val (.int (0 : Int32)), .unset]) X21 hx rfl (hb hby at_219) rfl ?_
          refine og_iload (pc' := 223) X21 hx rfl (hb hby at_221) rfl ?_
          refine og_if_ne (pc1 := 230) (pc2 := 226) X21 hx (hb hby at_223) (by decide) (by decide) rfl (fun _ => ?_) (fun q => absurd q (by decide))
          refine og_iload (pc' := 232) X21 hx rfl (hb hby at_230) rfl ?_
          refine og_bipush (pc' := 234) (v := (39 : Int32)) X21 hx rfl (hb hby at_232) rfl ?_
          refine og_icmp_ne (pc1 := 250) (pc2 := 237) X21 hx (hb hby at_234) (by decide) (by decide) rfl (fun _ => ?_) (fun q => absurd q (by decide))
          refine og_iload (pc' := 252) X21 hx rfl (hb hby at_250) rfl ?_
          refine og_if_eq (pc1 := 259) (pc2 := 255) X21 hx (hb hby at_252) (by decide) (by decide) rfl (fun _ => ?_) (fun q => absurd q (by decide))
          refine og_iconst (pc' := 260) (v := (3 : Int32)) X21 hx rfl (hb hby at_259) rfl ?_
          refine og_istore (pc' := 262) (L' := #[.val (.int p1), .val (.int p2), .val (.int p3), .val (.ref nb11), .val (.int (3 : Int32)), .val (.int (p2 &&& (3 : Int32))), .val (.int cc), .val (.int (34 : Int32)), .val (.int (0 : Int32)), .val (.int (34 : Int32)), .val (.int (0 : Int32)), .val (.int (3 : Int32))]) X21 hx rfl (hb hby at_260) rfl ?_
          refine og_aloadN (pc' := 263) X21 hx rfl rfl (hb hby at_262) rfl ?_
          refine og_iload (pc' := 265) X21 hx rfl (hb hby at_263) rfl ?_
          refine og_aaload (pc' := 266) (v := (.ref w3)) X21 hx hZ e21 rfl V_nb11 ⟨by decide, by decide⟩ rfl (hb hby at_265) rfl ?_
          refine og_iload (pc' := 268) X21 hx rfl (hb hby at_266) rfl ?_
          refine og_virtual (pc' := 271) (cells' := 1) (slots' := 5) (W := 0) X21 hx hZ (rm1_3 l Z a0 hw w0 w1 w2 w3 w4 cc w3 (by simp [hc185, hc202]) h21 n0 O S_CODE S_SINGLE S_SINGLE_ESCAPED S_DOUBLE S_DOUBLE_ESCAPED E_w0 E_w1 E_w2 E_w3 E_w4 F_w0 F_w1 F_w2 F_w3 F_w4) hown (ow15 hw) (ow16 hw) (own_nf hZ (ow18 hw)) (ow18 hw) (ow17 hw) (ow3 hw) (ow19 hw) (by decide) (by rw [hml]; rfl) e21 opd_1 [(.int cc)] [] rfl rfl rfl rfl (by decide) (by decide) rfl rfl (by decide) (by decide) (E_w3.ext O.2) (hb hby at_268) rfl (fun v29 T29 h29 L29 X29 e29 z29 => ?_)
          obtain ⟨rfl, Nq29, hq29⟩ := z29; replace e29 := e29.trans hq29; have N := Fr.app N Nq29
          show OG p e below _ (T29.setTop (mkF m 271 #[.val (.int p1), .val (.int p2), .val (.int p3), .val (.ref nb11), .val (.int (3 : Int32)), .val (.int (p2 &&& (3 : Int32))), .val (.int cc), .val (.int (34 : Int32)), .val (.int (0 : Int32)), .val (.int (34 : Int32)), .val (.int (0 : Int32)), .val (.int (3 : Int32))] [(.ref w3)]))
          refine og_aloadN (pc' := 272) X29 hx rfl rfl (hb hby at_271) rfl ?_
          refine og_iload (pc' := 274) X29 hx rfl (hb hby at_272) rfl ?_
          refine og_aaload (pc' := 275) (v := (.ref w3)) X29 hx hZ e29 rfl V_nb11 ⟨by decide, by decide⟩ rfl (hb hby at_274) rfl ?_
          refine og_acmp_ne (pc1 := 282) (pc2 := 278) X29 hx rfl rfl (hb hby at_275) (by decide) (by decide) rfl (fun q => absurd rfl q) (fun _ => ?_)
          refine og_iconst (pc' := 279) (v := (1 : Int32)) X29 hx rfl (hb hby at_278) rfl ?_
          refine og_goto (pc' := 283) X29 hx (hb hby at_279) (by decide) (by decide) ?_
          refine og_retN X29 hx hlk hret (by simp) (hb hby at_283) (by decide) (by decide) ?_
          exact ⟨rfl, N⟩
        · -- pc 205
          subst hc202
          refine og_iconst (pc' := 206) (v := (0 : Int32)) X21 hx rfl (hb hby at_205) rfl ?_
          refine og_istore (pc' := 208) (L' := #[.val (.int p1), .val (.int p2), .val (.int p3), .val (.ref nb11), .val (.int (3 : Int32)), .val (.int (p2 &&& (3 : Int32))), .val (.int (34 : Int32)), .val (.int (34 : Int32)), .val (.int (0 : Int32)), .val (.int (0 : Int32)), .unset, .unset]) X21 hx rfl (hb hby at_206) rfl ?_
          refine og_iconst (pc' := 209) (v := (0 : Int32)) X21 hx rfl (hb hby at_208) rfl ?_
          refine og_istore (pc' := 211) (L' := #[.val (.int p1), .val (.int p2), .val (.int p3), .val (.ref nb11), .val (.int (3 : Int32)), .val (.int (p2 &&& (3 : Int32))), .val (.int (34 : Int32)), .val (.int (34 : Int32)), .val (.int (0 : Int32)), .val (.int (0 : Int32)), .val (.int (0 : Int32)), .unset]) X21 hx rfl (hb hby at_209) rfl ?_
          refine og_goto (pc' := 221) X21 hx (hb hby at_211) (by decide) (by decide) ?_
          refine og_iload (pc' := 223) X21 hx rfl (hb hby at_221) rfl ?_
          refine og_if_ne (pc1 := 230) (pc2 := 226) X21 hx (hb hby at_223) (by decide) (by decide) rfl (fun q => absurd q (by decide)) (fun _ => ?_)
          refine og_iconst (pc' := 227) (v := (0 : Int32)) X21 hx rfl (hb hby at_226) rfl ?_
          refine og_goto (pc' := 260) X21 hx (hb hby at_227) (by decide) (by decide) ?_
          refine og_istore (pc' := 262) (L' := #[.val (.int p1), .val (.int p2), .val (.int p3), .val (.ref nb11), .val (.int (3 : Int32)), .val (.int (p2 &&& (3 : Int32))), .val (.int (34 : Int32)), .val (.int (34 : Int32)), .val (.int (0 : Int32)), .val (.int (0 : Int32)), .val (.int (0 : Int32)), .val (.int (0 : Int32))]) X21 hx rfl (hb hby at_260) rfl ?_
          refine og_aloadN (pc' := 263) X21 hx rfl rfl (hb hby at_262) rfl ?_
          refine og_iload (pc' := 265) X21 hx rfl (hb hby at_263) rfl ?_
          refine og_aaload (pc' := 266) (v := (.ref w3)) X21 hx hZ e21 rfl V_nb11 ⟨by decide, by decide⟩ rfl (hb hby at_265) rfl ?_
          refine og_iload (pc' := 268) X21 hx rfl (hb hby at_266) rfl ?_
          refine og_virtual (pc' := 271) (cells' := 1) (slots' := 5) (W := 0) X21 hx hZ (rm1_3 l Z a0 hw w0 w1 w2 w3 w4 (34 : Int32) w0 (by simp) h21 n0 O S_CODE S_SINGLE S_SINGLE_ESCAPED S_DOUBLE S_DOUBLE_ESCAPED E_w0 E_w1 E_w2 E_w3 E_w4 F_w0 F_w1 F_w2 F_w3 F_w4) hown (ow15 hw) (ow16 hw) (own_nf hZ (ow18 hw)) (ow18 hw) (ow17 hw) (ow3 hw) (ow19 hw) (by decide) (by rw [hml]; rfl) e21 opd_1 [(.int (34 : Int32))] [] rfl rfl rfl rfl (by decide) (by decide) rfl rfl (by decide) (by decide) (E_w3.ext O.2) (hb hby at_268) rfl (fun v30 T30 h30 L30 X30 e30 z30 => ?_)
          obtain ⟨rfl, Nq30, hq30⟩ := z30; replace e30 := e30.trans hq30; have N := Fr.app N Nq30
          show OG p e below _ (T30.setTop (mkF m 271 #[.val (.int p1), .val (.int p2), .val (.int p3), .val (.ref nb11), .val (.int (3 : Int32)), .val (.int (p2 &&& (3 : Int32))), .val (.int (34 : Int32)), .val (.int (34 : Int32)), .val (.int (0 : Int32)), .val (.int (0 : Int32)), .val (.int (0 : Int32)), .val (.int (0 : Int32))] [(.ref w0)]))
          refine og_aloadN (pc' := 272) X30 hx rfl rfl (hb hby at_271) rfl ?_
          refine og_iload (pc' := 274) X30 hx rfl (hb hby at_272) rfl ?_
          refine og_aaload (pc' := 275) (v := (.ref w0)) X30 hx hZ e30 rfl V_nb11 ⟨by decide, by decide⟩ rfl (hb hby at_274) rfl ?_
          refine og_acmp_ne (pc1 := 282) (pc2 := 278) X30 hx rfl rfl (hb hby at_275) (by decide) (by decide) rfl (fun q => absurd rfl q) (fun _ => ?_)
          refine og_iconst (pc' := 279) (v := (1 : Int32)) X30 hx rfl (hb hby at_278) rfl ?_
          refine og_goto (pc' := 283) X30 hx (hb hby at_279) (by decide) (by decide) ?_
          refine og_retN X30 hx hlk hret (by simp) (hb hby at_283) (by decide) (by decide) ?_
          exact ⟨rfl, N⟩
      · -- pc 188
        subst hc185
        refine og_iload (pc' := 190) X21 hx rfl (hb hby at_188) rfl ?_
        refine og_istore (pc' := 192) (L' := #[.val (.int p1), .val (.int p2), .val (.int p3), .val (.ref nb11), .val (.int (3 : Int32)), .val (.int (p2 &&& (3 : Int32))), .val (.int (92 : Int32)), .val (.int (34 : Int32)), .val (.int (0 : Int32)), .val (.int (34 : Int32)), .unset, .unset]) X21 hx rfl (hb hby at_190) rfl ?_
        refine og_iconst (pc' := 193) (v := (1 : Int32)) X21 hx rfl (hb hby at_192) rfl ?_
        refine og_istore (pc' := 195) (L' := #[.val (.int p1), .val (.int p2), .val (.int p3), .val (.ref nb11), .val (.int (3 : Int32)), .val (.int (p2 &&& (3 : Int32))), .val (.int (92 : Int32)), .val (.int (34 : Int32)), .val (.int (0 : Int32)), .val (.int (34 : Int32)), .val (.int (1 : Int32)), .unset]) X21 hx rfl (hb hby at_193) rfl ?_
        refine og_goto (pc' := 221) X21 hx (hb hby at_195) (by decide) (by decide) ?_
        refine og_iload (pc' := 223) X21 hx rfl (hb hby at_221) rfl ?_
        refine og_if_ne (pc1 := 230) (pc2 := 226) X21 hx (hb hby at_223) (by decide) (by decide) rfl (fun _ => ?_) (fun q => absurd q (by decide))
        refine og_iload (pc' := 232) X21 hx rfl (hb hby at_230) rfl ?_
        refine og_bipush (pc' := 234) (v := (39 : Int32)) X21 hx rfl (hb hby at_232) rfl ?_
        refine og_icmp_ne (pc1 := 250) (pc2 := 237) X21 hx (hb hby at_234) (by decide) (by decide) rfl (fun _ => ?_) (fun q => absurd q (by decide))
        refine og_iload (pc' := 252) X21 hx rfl (hb hby at_250) rfl ?_
        refine og_if_eq (pc1 := 259) (pc2 := 255) X21 hx (hb hby at_252) (by decide) (by decide) rfl (fun q => absurd q (by decide)) (fun _ => ?_)
        refine og_iconst (pc' := 256) (v := (4 : Int32)) X21 hx rfl (hb hby at_255) rfl ?_
        refine og_goto (pc' := 260) X21 hx (hb hby at_256) (by decide) (by decide) ?_
        refine og_istore (pc' := 262) (L' := #[.val (.int p1), .val (.int p2), .val (.int p3), .val (.ref nb11), .val (.int (3 : Int32)), .val (.int (p2 &&& (3 : Int32))), .val (.int (92 : Int32)), .val (.int (34 : Int32)), .val (.int (0 : Int32)), .val (.int (34 : Int32)), .val (.int (1 : Int32)), .val (.int (4 : Int32))]) X21 hx rfl (hb hby at_260) rfl ?_
        refine og_aloadN (pc' := 263) X21 hx rfl rfl (hb hby at_262) rfl ?_
        refine og_iload (pc' := 265) X21 hx rfl (hb hby at_263) rfl ?_
        refine og_aaload (pc' := 266) (v := (.ref w3)) X21 hx hZ e21 rfl V_nb11 ⟨by decide, by decide⟩ rfl (hb hby at_265) rfl ?_
        refine og_iload (pc' := 268) X21 hx rfl (hb hby at_266) rfl ?_
        refine og_virtual (pc' := 271) (cells' := 1) (slots' := 5) (W := 0) X21 hx hZ (rm1_3 l Z a0 hw w0 w1 w2 w3 w4 (92 : Int32) w4 (by simp) h21 n0 O S_CODE S_SINGLE S_SINGLE_ESCAPED S_DOUBLE S_DOUBLE_ESCAPED E_w0 E_w1 E_w2 E_w3 E_w4 F_w0 F_w1 F_w2 F_w3 F_w4) hown (ow15 hw) (ow16 hw) (own_nf hZ (ow18 hw)) (ow18 hw) (ow17 hw) (ow3 hw) (ow19 hw) (by decide) (by rw [hml]; rfl) e21 opd_1 [(.int (92 : Int32))] [] rfl rfl rfl rfl (by decide) (by decide) rfl rfl (by decide) (by decide) (E_w3.ext O.2) (hb hby at_268) rfl (fun v31 T31 h31 L31 X31 e31 z31 => ?_)
        obtain ⟨rfl, Nq31, hq31⟩ := z31; replace e31 := e31.trans hq31; have N := Fr.app N Nq31
        show OG p e below _ (T31.setTop (mkF m 271 #[.val (.int p1), .val (.int p2), .val (.int p3), .val (.ref nb11), .val (.int (3 : Int32)), .val (.int (p2 &&& (3 : Int32))), .val (.int (92 : Int32)), .val (.int (34 : Int32)), .val (.int (0 : Int32)), .val (.int (34 : Int32)), .val (.int (1 : Int32)), .val (.int (4 : Int32))] [(.ref w4)]))
        refine og_aloadN (pc' := 272) X31 hx rfl rfl (hb hby at_271) rfl ?_
        refine og_iload (pc' := 274) X31 hx rfl (hb hby at_272) rfl ?_
        refine og_aaload (pc' := 275) (v := (.ref w4)) X31 hx hZ e31 rfl V_nb11 ⟨by decide, by decide⟩ rfl (hb hby at_274) rfl ?_
        refine og_acmp_ne (pc1 := 282) (pc2 := 278) X31 hx rfl rfl (hb hby at_275) (by decide) (by decide) rfl (fun q => absurd rfl q) (fun _ => ?_)
        refine og_iconst (pc' := 279) (v := (1 : Int32)) X31 hx rfl (hb hby at_278) rfl ?_
        refine og_goto (pc' := 283) X31 hx (hb hby at_279) (by decide) (by decide) ?_
        refine og_retN X31 hx hlk hret (by simp) (hb hby at_283) (by decide) (by decide) ?_
        exact ⟨rfl, N⟩
    refine og_iload (pc' := 50) X21 hx rfl (hb hby at_48) rfl ?_
    refine og_if_ne (pc1 := 58) (pc2 := 53) X21 hx (hb hby at_50) (by decide) (by decide) rfl (fun hc50 => ?_) (fun hc50 => ?_)
    · -- pc 58
      refine og_iload (pc' := 60) X21 hx rfl (hb hby at_58) rfl ?_
      refine og_iconst (pc' := 61) (v := (1 : Int32)) X21 hx rfl (hb hby at_60) rfl ?_
      refine og_icmp_ne (pc1 := 69) (pc2 := 64) X21 hx (hb hby at_61) (by decide) (by decide) rfl (fun hc61 => ?_) (fun hc61 => ?_)
      · -- pc 69
        refine og_iload (pc' := 71) X21 hx rfl (hb hby at_69) rfl ?_
        refine og_iconst (pc' := 72) (v := (2 : Int32)) X21 hx rfl (hb hby at_71) rfl ?_
        refine og_icmp_ne (pc1 := 80) (pc2 := 75) X21 hx (hb hby at_72) (by decide) (by decide) rfl (fun hc72 => ?_) (fun hc72 => ?_)
        · -- pc 80
          refine og_iloadN (pc' := 81) X21 hx rfl (hb hby at_80) rfl ?_
          refine og_i2c (pc' := 82) X21 hx (hb hby at_81) rfl ?_
          exact J82 _
        · -- pc 75
          refine og_bipush (pc' := 77) (v := (92 : Int32)) X21 hx rfl (hb hby at_75) rfl ?_
          refine og_goto (pc' := 82) X21 hx (hb hby at_77) (by decide) (by decide) ?_
          exact J82 _
      · -- pc 64
        refine og_bipush (pc' := 66) (v := (34 : Int32)) X21 hx rfl (hb hby at_64) rfl ?_
        refine og_goto (pc' := 82) X21 hx (hb hby at_66) (by decide) (by decide) ?_
        exact J82 _
    · -- pc 53
      refine og_bipush (pc' := 55) (v := (39 : Int32)) X21 hx rfl (hb hby at_53) rfl ?_
      refine og_goto (pc' := 82) X21 hx (hb hby at_55) (by decide) (by decide) ?_
      exact J82 _
  · -- ii = 4
    refine og_iloadN (pc' := 44) X21 hx rfl (hb hby at_43) rfl ?_
    refine og_iconst (pc' := 45) (v := (3 : Int32)) X21 hx rfl (hb hby at_44) rfl ?_
    refine og_iand (pc' := 46) X21 hx (hb hby at_45) rfl ?_
    refine og_istore (pc' := 48) (L' := #[.val (.int p1), .val (.int p2), .val (.int p3), .val (.ref nb11), .val (.int (4 : Int32)), .val (.int (p2 &&& (3 : Int32))), .unset, .unset, .unset, .unset, .unset, .unset]) X21 hx rfl (hb hby at_46) rfl ?_
    have J82 : ∀ cc : Int32, OG p e below (Fin s (fun v h L => v = some (.int 1) ∧ Fr n0 L) 16 128) (T21.setTop (mkF m 82 #[.val (.int p1), .val (.int p2), .val (.int p3), .val (.ref nb11), .val (.int (4 : Int32)), .val (.int (p2 &&& (3 : Int32))), .unset, .unset, .unset, .unset, .unset, .unset] [(.int cc)])) := by
      intro cc
      refine og_istore (pc' := 84) (L' := #[.val (.int p1), .val (.int p2), .val (.int p3), .val (.ref nb11), .val (.int (4 : Int32)), .val (.int (p2 &&& (3 : Int32))), .val (.int cc), .unset, .unset, .unset, .unset, .unset]) X21 hx rfl (hb hby at_82) rfl ?_
      refine og_iload (pc' := 86) X21 hx rfl (hb hby at_84) rfl ?_
      refine og_if_ne (pc1 := 93) (pc2 := 89) X21 hx (hb hby at_86) (by decide) (by decide) rfl (fun _ => ?_) (fun q => absurd q (by decide))
      refine og_iload (pc' := 95) X21 hx rfl (hb hby at_93) rfl ?_
      refine og_iconst (pc' := 96) (v := (1 : Int32)) X21 hx rfl (hb hby at_95) rfl ?_
      refine og_icmp_eq (pc1 := 105) (pc2 := 99) X21 hx (hb hby at_96) (by decide) (by decide) rfl (fun q => absurd q (by decide)) (fun _ => ?_)
      refine og_iload (pc' := 101) X21 hx rfl (hb hby at_99) rfl ?_
      refine og_iconst (pc' := 102) (v := (2 : Int32)) X21 hx rfl (hb hby at_101) rfl ?_
      refine og_icmp_ne (pc1 := 110) (pc2 := 105) X21 hx (hb hby at_102) (by decide) (by decide) rfl (fun _ => ?_) (fun q => absurd q (by decide))
      refine og_bipush (pc' := 112) (v := (34 : Int32)) X21 hx rfl (hb hby at_110) rfl ?_
      refine og_istore (pc' := 114) (L' := #[.val (.int p1), .val (.int p2), .val (.int p3), .val (.ref nb11), .val (.int (4 : Int32)), .val (.int (p2 &&& (3 : Int32))), .val (.int cc), .val (.int (34 : Int32)), .unset, .unset, .unset, .unset]) X21 hx rfl (hb hby at_112) rfl ?_
      refine og_iload (pc' := 116) X21 hx rfl (hb hby at_114) rfl ?_
      refine og_iconst (pc' := 117) (v := (2 : Int32)) X21 hx rfl (hb hby at_116) rfl ?_
      refine og_icmp_eq (pc1 := 126) (pc2 := 120) X21 hx (hb hby at_117) (by decide) (by decide) rfl (fun q => absurd q (by decide)) (fun _ => ?_)
      refine og_iload (pc' := 122) X21 hx rfl (hb hby at_120) rfl ?_
      refine og_iconst (pc' := 123) (v := (4 : Int32)) X21 hx rfl (hb hby at_122) rfl ?_
      refine og_icmp_ne (pc1 := 130) (pc2 := 126) X21 hx (hb hby at_123) (by decide) (by decide) rfl (fun q => absurd q (by decide)) (fun _ => ?_)
      refine og_iconst (pc' := 127) (v := (1 : Int32)) X21 hx rfl (hb hby at_126) rfl ?_
      refine og_goto (pc' := 131) X21 hx (hb hby at_127) (by decide) (by decide) ?_
      refine og_istore (pc' := 133) (L' := #[.val (.int p1), .val (.int p2), .val (.int p3), .val (.ref nb11), .val (.int (4 : Int32)), .val (.int (p2 &&& (3 : Int32))), .val (.int cc), .val (.int (34 : Int32)), .val (.int (1 : Int32)), .unset, .unset, .unset]) X21 hx rfl (hb hby at_131) rfl ?_
      refine og_iload (pc' := 135) X21 hx rfl (hb hby at_133) rfl ?_
      refine og_if_ne (pc1 := 166) (pc2 := 138) X21 hx (hb hby at_135) (by decide) (by decide) rfl (fun _ => ?_) (fun q => absurd q (by decide))
      refine og_iload (pc' := 168) X21 hx rfl (hb hby at_166) rfl ?_
      refine og_if_eq (pc1 := 181) (pc2 := 171) X21 hx (hb hby at_168) (by decide) (by decide) rfl (fun q => absurd q (by decide)) (fun _ => ?_)
      refine og_iload (pc' := 173) X21 hx rfl (hb hby at_171) rfl ?_
      refine og_istore (pc' := 175) (L' := #[.val (.int p1), .val (.int p2), .val (.int p3), .val (.ref nb11), .val (.int (4 : Int32)), .val (.int (p2 &&& (3 : Int32))), .val (.int cc), .val (.int (34 : Int32)), .val (.int (1 : Int32)), .val (.int (34 : Int32)), .unset, .unset]) X21 hx rfl (hb hby at_173) rfl ?_
      refine og_iconst (pc' := 176) (v := (0 : Int32)) X21 hx rfl (hb hby at_175) rfl ?_
      refine og_istore (pc' := 178) (L' := #[.val (.int p1), .val (.int p2), .val (.int p3), .val (.ref nb11), .val (.int (4 : Int32)), .val (.int (p2 &&& (3 : Int32))), .val (.int cc), .val (.int (34 : Int32)), .val (.int (1 : Int32)), .val (.int (34 : Int32)), .val (.int (0 : Int32)), .unset]) X21 hx rfl (hb hby at_176) rfl ?_
      refine og_goto (pc' := 221) X21 hx (hb hby at_178) (by decide) (by decide) ?_
      refine og_iload (pc' := 223) X21 hx rfl (hb hby at_221) rfl ?_
      refine og_if_ne (pc1 := 230) (pc2 := 226) X21 hx (hb hby at_223) (by decide) (by decide) rfl (fun _ => ?_) (fun q => absurd q (by decide))
      refine og_iload (pc' := 232) X21 hx rfl (hb hby at_230) rfl ?_
      refine og_bipush (pc' := 234) (v := (39 : Int32)) X21 hx rfl (hb hby at_232) rfl ?_
      refine og_icmp_ne (pc1 := 250) (pc2 := 237) X21 hx (hb hby at_234) (by decide) (by decide) rfl (fun _ => ?_) (fun q => absurd q (by decide))
      refine og_iload (pc' := 252) X21 hx rfl (hb hby at_250) rfl ?_
      refine og_if_eq (pc1 := 259) (pc2 := 255) X21 hx (hb hby at_252) (by decide) (by decide) rfl (fun _ => ?_) (fun q => absurd q (by decide))
      refine og_iconst (pc' := 260) (v := (3 : Int32)) X21 hx rfl (hb hby at_259) rfl ?_
      refine og_istore (pc' := 262) (L' := #[.val (.int p1), .val (.int p2), .val (.int p3), .val (.ref nb11), .val (.int (4 : Int32)), .val (.int (p2 &&& (3 : Int32))), .val (.int cc), .val (.int (34 : Int32)), .val (.int (1 : Int32)), .val (.int (34 : Int32)), .val (.int (0 : Int32)), .val (.int (3 : Int32))]) X21 hx rfl (hb hby at_260) rfl ?_
      refine og_aloadN (pc' := 263) X21 hx rfl rfl (hb hby at_262) rfl ?_
      refine og_iload (pc' := 265) X21 hx rfl (hb hby at_263) rfl ?_
      refine og_aaload (pc' := 266) (v := (.ref w4)) X21 hx hZ e21 rfl V_nb11 ⟨by decide, by decide⟩ rfl (hb hby at_265) rfl ?_
      refine og_iload (pc' := 268) X21 hx rfl (hb hby at_266) rfl ?_
      refine og_virtual (pc' := 271) (cells' := 1) (slots' := 5) (W := 0) X21 hx hZ (rm1_4 l Z a0 hw w0 w1 w2 w3 w4 cc w3 rfl h21 n0 O S_CODE S_SINGLE S_SINGLE_ESCAPED S_DOUBLE S_DOUBLE_ESCAPED E_w0 E_w1 E_w2 E_w3 E_w4 F_w0 F_w1 F_w2 F_w3 F_w4) hown (ow15 hw) (ow16 hw) (own_nf hZ (ow18 hw)) (ow18 hw) (ow17 hw) (ow3 hw) (ow19 hw) (by decide) (by rw [hml]; rfl) e21 opd_1 [(.int cc)] [] rfl rfl rfl rfl (by decide) (by decide) rfl rfl (by decide) (by decide) (E_w4.ext O.2) (hb hby at_268) rfl (fun v32 T32 h32 L32 X32 e32 z32 => ?_)
      obtain ⟨rfl, Nq32, hq32⟩ := z32; replace e32 := e32.trans hq32; have N := Fr.app N Nq32
      show OG p e below _ (T32.setTop (mkF m 271 #[.val (.int p1), .val (.int p2), .val (.int p3), .val (.ref nb11), .val (.int (4 : Int32)), .val (.int (p2 &&& (3 : Int32))), .val (.int cc), .val (.int (34 : Int32)), .val (.int (1 : Int32)), .val (.int (34 : Int32)), .val (.int (0 : Int32)), .val (.int (3 : Int32))] [(.ref w3)]))
      refine og_aloadN (pc' := 272) X32 hx rfl rfl (hb hby at_271) rfl ?_
      refine og_iload (pc' := 274) X32 hx rfl (hb hby at_272) rfl ?_
      refine og_aaload (pc' := 275) (v := (.ref w3)) X32 hx hZ e32 rfl V_nb11 ⟨by decide, by decide⟩ rfl (hb hby at_274) rfl ?_
      refine og_acmp_ne (pc1 := 282) (pc2 := 278) X32 hx rfl rfl (hb hby at_275) (by decide) (by decide) rfl (fun q => absurd rfl q) (fun _ => ?_)
      refine og_iconst (pc' := 279) (v := (1 : Int32)) X32 hx rfl (hb hby at_278) rfl ?_
      refine og_goto (pc' := 283) X32 hx (hb hby at_279) (by decide) (by decide) ?_
      refine og_retN X32 hx hlk hret (by simp) (hb hby at_283) (by decide) (by decide) ?_
      exact ⟨rfl, N⟩
    refine og_iload (pc' := 50) X21 hx rfl (hb hby at_48) rfl ?_
    refine og_if_ne (pc1 := 58) (pc2 := 53) X21 hx (hb hby at_50) (by decide) (by decide) rfl (fun hc50 => ?_) (fun hc50 => ?_)
    · -- pc 58
      refine og_iload (pc' := 60) X21 hx rfl (hb hby at_58) rfl ?_
      refine og_iconst (pc' := 61) (v := (1 : Int32)) X21 hx rfl (hb hby at_60) rfl ?_
      refine og_icmp_ne (pc1 := 69) (pc2 := 64) X21 hx (hb hby at_61) (by decide) (by decide) rfl (fun hc61 => ?_) (fun hc61 => ?_)
      · -- pc 69
        refine og_iload (pc' := 71) X21 hx rfl (hb hby at_69) rfl ?_
        refine og_iconst (pc' := 72) (v := (2 : Int32)) X21 hx rfl (hb hby at_71) rfl ?_
        refine og_icmp_ne (pc1 := 80) (pc2 := 75) X21 hx (hb hby at_72) (by decide) (by decide) rfl (fun hc72 => ?_) (fun hc72 => ?_)
        · -- pc 80
          refine og_iloadN (pc' := 81) X21 hx rfl (hb hby at_80) rfl ?_
          refine og_i2c (pc' := 82) X21 hx (hb hby at_81) rfl ?_
          exact J82 _
        · -- pc 75
          refine og_bipush (pc' := 77) (v := (92 : Int32)) X21 hx rfl (hb hby at_75) rfl ?_
          refine og_goto (pc' := 82) X21 hx (hb hby at_77) (by decide) (by decide) ?_
          exact J82 _
      · -- pc 64
        refine og_bipush (pc' := 66) (v := (34 : Int32)) X21 hx rfl (hb hby at_64) rfl ?_
        refine og_goto (pc' := 82) X21 hx (hb hby at_66) (by decide) (by decide) ?_
        exact J82 _
    · -- pc 53
      refine og_bipush (pc' := 55) (v := (39 : Int32)) X21 hx rfl (hb hby at_53) rfl ?_
      refine og_goto (pc' := 82) X21 hx (hb hby at_55) (by decide) (by decide) ?_
      exact J82 _
set_option maxRecDepth 65536 in
set_option maxHeartbeats 40000000 in
theorem comes_1 {Post : Tables → Env → Array Value → State → Outcome → State → Prop} (hpost : ∀ tb e args s v u, (limb_1_1.after args s (.returned v) u = true ∧ limb_1_2.after args s (.returned v) u = true ∧ True) → FrameEnd s (.returned v) u (Jvm.fieldLocs frame_1_writes args s ++ Jvm.arrayLocs frame_1_arrays args s ++ Jvm.staticLocs frame_1_statics s) 16 128 → Post tb e args s (.returned v) u) :
    ArmFor flags0 classFile x code maxLocals ret World_1 tables_1 room_1 Calls_1 rest_1 Pre_1 Post := by
  intro l hfl _ _ p e ha hc hk s m args below hf hA hF happ hP
  obtain ⟨hcalls, hrest, hpre⟩ := hP
  obtain ⟨-, -, -, hnamed, -, -, -, hat⟩ := (Spec.applies_iff hf).mp happ
  obtain ⟨hg, hn⟩ := and_e (Cond.before_iff.mp (show (Jvm.Cond.and given_1 narrow_1).before args s = true from hpre))
  obtain ⟨g2, g3⟩ := and_e hg
  obtain ⟨g4, g5⟩ := and_e g3
  obtain ⟨g6, g7⟩ := and_e g5
  obtain ⟨w0, w1, w2, rfl⟩ : ∃ w0 w1 w2 : Value, args = #[w0, w1, w2] := by
    have hs : args.size = 3 := by simpa [Cond.value, given_1] using g2
    obtain ⟨L⟩ := args
    match L, hs with
    | [w0, w1, w2], _ => exact ⟨w0, w1, w2, rfl⟩
  have hw := fun d (hd : d ∈ tables_1) => atoms_spec (ws := Jvm.Cond.code x code maxLocals ret :: tables_1) hat d (List.mem_cons_of_mem _ hd)
  have hfit : Fit s := fun {y c} hc i hi => by
    obtain ⟨ha, rfl⟩ := Array.getElem?_eq_some_iff.mp hc
    have q := List.all_eq_true.mp ((Array.all_eq_true_iff_forall_mem.mp hF) _ (Array.getElem_mem ha)) i (List.mem_range.mpr hi)
    simpa [Array.getElem?_eq_getElem hi] using q
  obtain ⟨i0, ei0⟩ := is_v g4
  obtain rfl : w0 = (.int i0) := Option.some.inj ei0
  obtain ⟨i1, ei1⟩ := is_v g6
  obtain rfl : w1 = (.int i1) := Option.some.inj ei1
  obtain ⟨i2, ei2⟩ := is_v g7
  obtain rfl : w2 = (.int i2) := Option.some.inj ei2
  obtain ⟨hnl, hnr⟩ := and_e hn
  obtain ⟨hnrl, hnrr⟩ := and_e hnr
  obtain ⟨hnrrl, hnrrr⟩ := and_e hnrr
  obtain ⟨hnrrrl, hnrrrr⟩ := and_e hnrrr
  obtain ⟨hnrrrrl, hnrrrrr⟩ := and_e hnrrrr
  obtain ⟨hnrrrrrl, hnrrrrrr⟩ := and_e hnrrrrr
  obtain ⟨hnrrrrrrl, hnrrrrrrr⟩ := and_e hnrrrrrr
  obtain ⟨hnrrrrrrrl, hnrrrrrrrr⟩ := and_e hnrrrrrrr
  obtain ⟨hnrrrrrrrrl, hnrrrrrrrrr⟩ := and_e hnrrrrrrrr
  obtain ⟨w0, ev_w0⟩ := exa_v hnl
  have E_w0 := Exa.start ev_w0 hnl
  have S_CODE := Sta.start ev_w0 (Or.inr ⟨(ow3 hw), (ow4 hw)⟩)
  obtain ⟨w1, ev_w1⟩ := exa_v hnrl
  have E_w1 := Exa.start ev_w1 hnrl
  have S_SINGLE := Sta.start ev_w1 (Or.inr ⟨(ow3 hw), (ow7 hw)⟩)
  obtain ⟨w2, ev_w2⟩ := exa_v hnrrl
  have E_w2 := Exa.start ev_w2 hnrrl
  have S_SINGLE_ESCAPED := Sta.start ev_w2 (Or.inr ⟨(ow3 hw), (ow9 hw)⟩)
  obtain ⟨w3, ev_w3⟩ := exa_v hnrrrl
  have E_w3 := Exa.start ev_w3 hnrrrl
  have S_DOUBLE := Sta.start ev_w3 (Or.inr ⟨(ow3 hw), (ow11 hw)⟩)
  obtain ⟨w4, ev_w4⟩ := exa_v hnrrrrl
  have E_w4 := Exa.start ev_w4 hnrrrrl
  have S_DOUBLE_ESCAPED := Sta.start ev_w4 (Or.inr ⟨(ow3 hw), (ow13 hw)⟩)
  have F_w0 := own_fldstart ev_w0 (own_eqint hnrrrrrl)
  have F_w1 := own_fldstart ev_w1 (own_eqint hnrrrrrrl)
  have F_w4 := own_fldstart ev_w4 (own_eqint hnrrrrrrrl)
  have F_w3 := own_fldstart ev_w3 (own_eqint hnrrrrrrrrl)
  have F_w2 := own_fldstart ev_w2 (own_eqint hnrrrrrrrrr)
  obtain ⟨n, o, h1, h2, h3, _, L, rfl, ⟨rfl, N⟩, hq⟩ := rm0 l s _ hw tables_1 i0 i1 i2 w0 w1 w2 w3 w4 s.heap s.heap.size (Old.start s) S_CODE S_SINGLE S_SINGLE_ESCAPED S_DOUBLE S_DOUBLE_ESCAPED E_w0 E_w1 E_w2 E_w3 E_w4 F_w0 F_w1 F_w2 F_w3 F_w4 p e ha hc hk s m _ below hf ((Spec.applies_iff_loose hf).mp happ).1 ⟨rfl, State.Warmed39.refl s, rfl⟩ trivial
  refine ⟨n, _, h1, h2, h3, hpost _ _ _ _ _ _ ⟨Cond.after_iff.mpr rfl, Cond.after_iff.mpr (eq_i res_at (Term.int_eval (1)) rfl), trivial⟩ ⟨hq.1, hq.2.1, (hq.2.2.sift fun y hy => Or.inr (N y hy)).mono (by decide) (by decide)⟩⟩
theorem main_1_1 : Claimed_1_1 := comes_1 fun _ _ _ _ _ _ h hF => ⟨h.1, hF⟩
theorem main_1_2 : Claimed_1_2 := comes_1 fun _ _ _ _ _ _ h hF => ⟨h.2.1, hF⟩
end Jvm.Pilot.@@N@@
namespace Jvm.Pilot.@@N@@
open Jvm Jvm.ClassFile Sem Op Lib Jvm.Free Jvm.Stand Jvm.Pilot.@@N@@.Jvm.D
/-! MADE BY PROGRAM (witnessworld.py) out of the Statement's table words and the real class files: 13 classes; the members and pool entries that the words name. The judged class is class 1, her method 1. -/
namespace start1
open Jvm.ClassFile
def u (s : String) : CpInfo := .utf8 (stringToUtf16 s)
/-- a pool by its gaps: so many unusable entries, then the entry; so many at the end -/
def gap : Nat → List CpInfo → List CpInfo
  | 0, r => r
  | n + 1, r => .unusable :: gap n r
def poolList (es : List (Nat × CpInfo)) (last : Nat) : List CpInfo := es.foldr (fun e r => gap e.1 (e.2 :: r)) (gap last [])
def pool (es : List (Nat × CpInfo)) (last : Nat) : Array CpInfo := ⟨poolList es last⟩
def fileOf (pool : Array CpInfo) (this : Nat) (attrs : Array Attribute := #[]) (ms : Array MethodInfo := #[]) (fl : Nat := 33) (sup : Nat := 0) (ifs : Array Nat := #[]) (fds : Array FieldInfo := #[]) : ClassFile where
  minorVersion := 0
  majorVersion := 65
  constantPool := pool
  accessFlags := fl
  thisClass := this
  superClass := sup
  interfaces := ifs
  fields := fds
  methods := ms
  attributes := attrs
def plain (name : String) (sup : Option ClassId) : Class where
  name := name
  kind := .ordinary
  loader := none
  accessFlags := 33
  super := sup
  interfaces := #[]
  cf := none
  fields := #[]
  methods := #[]
  instanceTypes := #[]
  staticTypes := #[]
  resolved := #[]
  callSites := []
  init := .initialized
  statics := none
  mirror := none

def pool0 : Array CpInfo := pool [(5, u "<init>"), (0, u "()V"), (1, .class_ 10), (1, u "java/lang/Object")] 113

def k0m0 : Method := { name := "<init>", desc := "()V", sig := { parameters := [], returnType := none }, accessFlags := 1, code := none }
/-- java/lang/Object -/
def k0 : Class := { plain "java/lang/Object" none with
  accessFlags := 33
  interfaces := #[]
  cf := some (fileOf pool0 8 #[] #[{ accessFlags := 1, nameIndex := 5, descriptorIndex := 6, attributes := #[] }] 33 0 #[] #[])
  fields := #[]
  methods := #[k0m0]
  instanceTypes := #[]
  staticTypes := #[]
  resolved := Array.replicate 124 none
  statics := none }

def pool1 : Array CpInfo := pool [(2, .class_ 4), (1, u "java/lang/Object"), (0, u "<init>"), (0, u "()V"), (0, .class_ 8), (0, u "com/example/nitpick/nitpick/internal/interpolation/ExpressionLiterals$Quoting"), (0, .fieldref 7 10), (0, .nameAndType 11 12), (0, u "CODE"), (0, u "Lcom/example/nitpick/nitpick/internal/interpolation/ExpressionLiterals$Quoting;"), (0, .fieldref 7 14), (0, .nameAndType 15 12), (0, u "SINGLE"), (0, .fieldref 7 17), (0, .nameAndType 18 12), (0, u "SINGLE_ESCAPED"), (0, .fieldref 7 20), (0, .nameAndType 21 12), (0, u "DOUBLE"), (0, .fieldref 7 23), (0, .nameAndType 24 12), (0, u "DOUBLE_ESCAPED"), (0, .integer 2147483647), (0, .methodref 7 27), (0, .nameAndType 28 29), (0, u "next"), (0, u "(C)Lcom/example/nitpick/nitpick/internal/interpolation/ExpressionLiterals$Quoting;"), (0, .class_ 31), (0, u "com/example/nitpick/nitpick/internal/interpolation/QuotingNextPinLaw"), (2, u "law"), (0, u "(III)Z")] 9

def k1m0 : Method := { name := "<init>", desc := "()V", sig := { parameters := [], returnType := none }, accessFlags := 2, code := none }
def k1c1 : Code := { maxStack := 4, maxLocals := 12, code := code, exceptionTable := #[], attributes := #[] }
def k1m1 : Method := { name := "law", desc := "(III)Z", sig := { parameters := [.int, .int, .int], returnType := some .boolean }, accessFlags := 9, code := some k1c1 }
/-- com/example/nitpick/nitpick/internal/interpolation/QuotingNextPinLaw -/
def k1 : Class := { plain "com/example/nitpick/nitpick/internal/interpolation/QuotingNextPinLaw" (some 0) with
  accessFlags := 49
  interfaces := #[]
  cf := some (fileOf pool1 30 #[] #[{ accessFlags := 2, nameIndex := 5, descriptorIndex := 6, attributes := #[] }, { accessFlags := 9, nameIndex := 34, descriptorIndex := 35, attributes := #[] }] 49 2 #[] #[])
  fields := #[]
  methods := #[k1m0, k1m1]
  instanceTypes := #[]
  staticTypes := #[]
  resolved := Array.replicate 45 none
  statics := none }

def pool2 : Array CpInfo := pool [(1, .class_ 2), (0, u "java/lang/constant/Constable"), (0, .class_ 4), (0, u "java/lang/Object")] 6

/-- java/lang/constant/Constable -/
def k2 : Class := { plain "java/lang/constant/Constable" (some 0) with
  accessFlags := 1537
  interfaces := #[]
  cf := some (fileOf pool2 1 #[] #[] 1537 3 #[] #[])
  fields := #[]
  methods := #[]
  instanceTypes := #[]
  staticTypes := #[]
  resolved := Array.replicate 11 none
  statics := none }

def pool3 : Array CpInfo := pool [(1, .class_ 2), (0, u "java/lang/Comparable"), (0, .class_ 4), (0, u "java/lang/Object")] 7

/-- java/lang/Comparable -/
def k3 : Class := { plain "java/lang/Comparable" (some 0) with
  accessFlags := 1537
  interfaces := #[]
  cf := some (fileOf pool3 1 #[] #[] 1537 3 #[] #[])
  fields := #[]
  methods := #[]
  instanceTypes := #[]
  staticTypes := #[]
  resolved := Array.replicate 12 none
  statics := none }

def pool4 : Array CpInfo := pool [(1, .class_ 2), (0, u "java/io/Serializable"), (0, .class_ 4), (0, u "java/lang/Object")] 2

/-- java/io/Serializable -/
def k4 : Class := { plain "java/io/Serializable" (some 0) with
  accessFlags := 1537
  interfaces := #[]
  cf := some (fileOf pool4 1 #[] #[] 1537 3 #[] #[])
  fields := #[]
  methods := #[]
  instanceTypes := #[]
  staticTypes := #[]
  resolved := Array.replicate 7 none
  statics := none }

def pool5 : Array CpInfo := pool [(2, .class_ 4), (1, u "java/lang/Enum"), (0, u "name"), (0, u "Ljava/lang/String;"), (0, .fieldref 2 8), (0, .nameAndType 9 10), (0, u "ordinal"), (0, u "I"), (1, .class_ 14), (1, u "java/lang/Object"), (4, u "hash"), (86, .class_ 108), (1, u "java/lang/Enum$EnumDesc"), (2, .class_ 112), (0, u "java/lang/constant/Constable"), (0, .class_ 114), (0, u "java/lang/Comparable"), (0, .class_ 116), (0, u "java/io/Serializable"), (9, u "()I")] 77

def k5c0 : Code := { maxStack := 1, maxLocals := 1, code := jdk_37_method_2_code, exceptionTable := #[], attributes := #[] }
def k5m0 : Method := { name := "ordinal", desc := "()I", sig := { parameters := [], returnType := some .int }, accessFlags := 17, code := some k5c0 }
/-- java/lang/Enum -/
def k5 : Class := { plain "java/lang/Enum" (some 0) with
  accessFlags := 1057
  interfaces := #[2, 3, 4]
  cf := some (fileOf pool5 2 #[.nestMembers #[106]] #[{ accessFlags := 17, nameIndex := 9, descriptorIndex := 126, attributes := #[] }] 1057 12 #[111, 113, 115] #[{ accessFlags := 18, nameIndex := 5, descriptorIndex := 6, attributes := #[] }, { accessFlags := 18, nameIndex := 9, descriptorIndex := 10, attributes := #[] }, { accessFlags := 2, nameIndex := 19, descriptorIndex := 10, attributes := #[] }])
  fields := #[{ name := "name", type := (.object "java/lang/String"), accessFlags := 18, slot := 0, constantValue := 0 }, { name := "ordinal", type := .int, accessFlags := 18, slot := 1, constantValue := 0 }, { name := "hash", type := .int, accessFlags := 2, slot := 2, constantValue := 0 }]
  methods := #[k5m0]
  instanceTypes := #[(.object "java/lang/String"), .int, .int]
  staticTypes := #[]
  resolved := Array.replicate 204 none
  statics := none }

def pool6 : Array CpInfo := pool [(1, .class_ 2), (0, u "com/example/nitpick/nitpick/internal/interpolation/ExpressionLiterals$Quoting"), (0, .fieldref 1 4), (0, .nameAndType 5 6), (0, u "CODE"), (0, u "Lcom/example/nitpick/nitpick/internal/interpolation/ExpressionLiterals$Quoting;"), (0, .fieldref 1 8), (0, .nameAndType 9 6), (0, u "SINGLE"), (0, .fieldref 1 11), (0, .nameAndType 12 6), (0, u "SINGLE_ESCAPED"), (0, .fieldref 1 14), (0, .nameAndType 15 6), (0, u "DOUBLE"), (0, .fieldref 1 17), (0, .nameAndType 18 6), (0, u "DOUBLE_ESCAPED"), (2, u "$VALUES"), (0, u "[Lcom/example/nitpick/nitpick/internal/interpolation/ExpressionLiterals$Quoting;"), (6, .class_ 31), (1, u "java/lang/Enum"), (6, .methodref 1 39), (0, .nameAndType 40 41), (0, u "ordinal"), (0, u "()I"), (22, u "next"), (0, u "(C)Lcom/example/nitpick/nitpick/internal/interpolation/ExpressionLiterals$Quoting;"), (6, .class_ 73), (0, u "com/example/nitpick/nitpick/internal/interpolation/ExpressionLiterals")] 2

def k6c0 : Code := { maxStack := 4, maxLocals := 2, code := prog_60_method_4_code, exceptionTable := #[], attributes := #[] }
def k6m0 : Method := { name := "next", desc := "(C)Lcom/example/nitpick/nitpick/internal/interpolation/ExpressionLiterals$Quoting;", sig := { parameters := [.char], returnType := some (.object "com/example/nitpick/nitpick/internal/interpolation/ExpressionLiterals$Quoting") }, accessFlags := 0, code := some k6c0 }
/-- com/example/nitpick/nitpick/internal/interpolation/ExpressionLiterals$Quoting -/
def k6 : Class := { plain "com/example/nitpick/nitpick/internal/interpolation/ExpressionLiterals$Quoting" (some 5) with
  accessFlags := 16432
  interfaces := #[]
  cf := some (fileOf pool6 1 #[.nestHost 72] #[{ accessFlags := 0, nameIndex := 64, descriptorIndex := 65, attributes := #[] }] 16432 29 #[] #[{ accessFlags := 16409, nameIndex := 5, descriptorIndex := 6, attributes := #[] }, { accessFlags := 16409, nameIndex := 9, descriptorIndex := 6, attributes := #[] }, { accessFlags := 16409, nameIndex := 12, descriptorIndex := 6, attributes := #[] }, { accessFlags := 16409, nameIndex := 15, descriptorIndex := 6, attributes := #[] }, { accessFlags := 16409, nameIndex := 18, descriptorIndex := 6, attributes := #[] }, { accessFlags := 4122, nameIndex := 21, descriptorIndex := 22, attributes := #[] }])
  fields := #[{ name := "CODE", type := (.object "com/example/nitpick/nitpick/internal/interpolation/ExpressionLiterals$Quoting"), accessFlags := 16409, slot := 0, constantValue := 0 }, { name := "SINGLE", type := (.object "com/example/nitpick/nitpick/internal/interpolation/ExpressionLiterals$Quoting"), accessFlags := 16409, slot := 1, constantValue := 0 }, { name := "SINGLE_ESCAPED", type := (.object "com/example/nitpick/nitpick/internal/interpolation/ExpressionLiterals$Quoting"), accessFlags := 16409, slot := 2, constantValue := 0 }, { name := "DOUBLE", type := (.object "com/example/nitpick/nitpick/internal/interpolation/ExpressionLiterals$Quoting"), accessFlags := 16409, slot := 3, constantValue := 0 }, { name := "DOUBLE_ESCAPED", type := (.object "com/example/nitpick/nitpick/internal/interpolation/ExpressionLiterals$Quoting"), accessFlags := 16409, slot := 4, constantValue := 0 }, { name := "$VALUES", type := (.array (.object "com/example/nitpick/nitpick/internal/interpolation/ExpressionLiterals$Quoting")), accessFlags := 4122, slot := 5, constantValue := 0 }]
  methods := #[k6m0]
  instanceTypes := #[(.object "java/lang/String"), .int, .int]
  staticTypes := #[(.object "com/example/nitpick/nitpick/internal/interpolation/ExpressionLiterals$Quoting"), (.object "com/example/nitpick/nitpick/internal/interpolation/ExpressionLiterals$Quoting"), (.object "com/example/nitpick/nitpick/internal/interpolation/ExpressionLiterals$Quoting"), (.object "com/example/nitpick/nitpick/internal/interpolation/ExpressionLiterals$Quoting"), (.object "com/example/nitpick/nitpick/internal/interpolation/ExpressionLiterals$Quoting"), (.array (.object "com/example/nitpick/nitpick/internal/interpolation/ExpressionLiterals$Quoting"))]
  resolved := Array.replicate 76 none
  statics := some 0 }

def pool7 : Array CpInfo := pool [(1, u "java/lang/Cloneable"), (0, .class_ 1), (0, u "java/lang/Object"), (0, .class_ 3)] 3

/-- java/lang/Cloneable -/
def k7 : Class := { plain "java/lang/Cloneable" (some 0) with
  accessFlags := 1537
  interfaces := #[]
  cf := some (fileOf pool7 2 #[] #[] 1537 4 #[] #[])
  fields := #[]
  methods := #[]
  instanceTypes := #[]
  staticTypes := #[]
  resolved := Array.replicate 8 none
  statics := none }

/-- the primitive byte -/
def k8 : Class := { plain "byte" none with kind := .primitive 'B', accessFlags := 0x411 }
/-- [B -/
def k9 : Class := { plain "[B" (some 0) with kind := .array 8 .byte, interfaces := #[7, 4], accessFlags := 1041 }

/-- the primitive int -/
def k10 : Class := { plain "int" none with kind := .primitive 'I', accessFlags := 0x411 }
/-- [I -/
def k11 : Class := { plain "[I" (some 0) with kind := .array 10 .int, interfaces := #[7, 4], accessFlags := 1041 }

/-- [Lcom/example/nitpick/nitpick/internal/interpolation/ExpressionLiterals$Quoting; -/
def k12 : Class := { plain "[Lcom/example/nitpick/nitpick/internal/interpolation/ExpressionLiterals$Quoting;" (some 0) with kind := .array 6 (.object "com/example/nitpick/nitpick/internal/interpolation/ExpressionLiterals$Quoting"), interfaces := #[7, 4], accessFlags := 1041 }

def heap : Heap := #[{ cls := 6, slots := #[.ref 1, .ref 2, .ref 3, .ref 4, .ref 5, .null], vm := .statics 6 },
  { cls := 6, slots := #[.null, .int 0, .int 0], vm := .none },
  { cls := 6, slots := #[.null, .int 1, .int 0], vm := .none },
  { cls := 6, slots := #[.null, .int 2, .int 0], vm := .none },
  { cls := 6, slots := #[.null, .int 3, .int 0], vm := .none },
  { cls := 6, slots := #[.null, .int 4, .int 0], vm := .none }]
def classes : Array Class := #[k0, k1, k2, k3, k4, k5, k6, k7, k8, k9, k10, k11, k12]
def interned : List (Array UInt16 × Addr) := []
def slotsUsed : Nat := 21
def theMethod : MethodId := ⟨1, 1⟩
def args0 : Array Value := #[.int 5, .int 5, .int 5]
def aboutOver (below : List Frame) : State where
  vm := { classes := classes, interned := interned.toArray }
  heap := heap
  slotsUsed := slotsUsed
  threads := #[{ frames := .invoking theMethod args0 :: below }]
def below0 : List Frame := [.native { method := ⟨0, 0⟩, args := #[] }]
def about1 : State := aboutOver below0
def p0 : Program := .bare "" "" ""
def e0 : Env := launch0.env 0 0 0
theorem w_frames : about1.frames = Frame.invoking theMethod args0 :: below0 := rfl
set_option maxRecDepth 65536 in
theorem w_args : argsFit about1.vm theMethod args0 = true := by decide +kernel
set_option maxRecDepth 65536 in
theorem w_heap : heapFits about1 = true := by decide +kernel
set_option maxRecDepth 65536 in
theorem w_runnable : about1.curStatus? = some .runnable := by decide +kernel
set_option maxRecDepth 65536 in
theorem w_alone : about1.alone = true := by decide +kernel
set_option maxRecDepth 65536 in
theorem w_named : about1.methodNamed? x = some theMethod := by decide +kernel
set_option maxRecDepth 65536 in
theorem w_hears : about1.hears theMethod below0 = true := by decide +kernel
set_option maxRecDepth 65536 in
theorem w_ripe : about1.ripe theMethod args0 below0 = true := by decide +kernel
theorem w_running : about1.status = .running := rfl
set_option maxRecDepth 65536 in
theorem w_room : about1.hasRoom e0.platform room_1 = true :=
  launch0.hasRoom_least _ room_1 (by decide +kernel) (by decide +kernel) (by decide +kernel) (by decide +kernel) (by decide +kernel) (by decide +kernel)
theorem allAtoms_all (ts : List Jvm.Cond) (a : Array Jvm.Value) (st : Jvm.State) : (allAtoms ts).before a st = ts.all (fun c => c.before a st) := by
  induction ts with
  | nil => rfl
  | cons c t ih =>
    show (Jvm.Cond.and c (allAtoms t)).before a st = _
    rw [Jvm.Cond.before_and, ih, List.all_cons]
def words1 : List Jvm.Cond := Jvm.Cond.code x code maxLocals ret :: tables_1
/-- a 'code' word, met by the world's own term for the bytes: nothing is compared byte by byte -/
theorem code_word {y : MethodName} {bytes : ByteArray} {mx : Nat} {rt : Option FieldType} {a : Array Value} {s : State} {m : MethodId} {meth : Method} {c : Code} (h1 : s.methodNamed? y = some m) (h2 : s.vm.method? m = some meth) (h3 : meth.code = some c) (h4 : c.code = bytes)
    (h5 : (c.maxLocals == mx && c.exceptionTable.isEmpty && decide (c.maxStack ≤ mostOperands) && decide (meth.sig.returnType = rt) && !meth.locks && decide (parseMethodDescriptor y.desc = some meth.sig)) = true) : (Jvm.Cond.code y bytes mx rt).before a s = true := by
  simp only [Bool.and_eq_true, beq_iff_eq, Bool.not_eq_true', decide_eq_true_eq] at h5
  obtain ⟨⟨⟨⟨⟨g1, g2⟩, g3⟩, g4⟩, g5⟩, g6⟩ := h5
  simp [Cond.before, Cond.holds, Cond.value, h1, h2, h3, h4, g1, g2, g3, g4, g5, g6]
def isCode : Jvm.Cond → Bool
  | .code _ _ _ _ => true
  | _ => false
theorem all_split {L : List Jvm.Cond} {P : Jvm.Cond → Bool} (h1 : L.all (fun c => isCode c || P c) = true) (h2 : ∀ c ∈ L.filter isCode, P c = true) : L.all P = true := by
  refine List.all_eq_true.mpr fun c hc => ?_
  have h := List.all_eq_true.mp h1 c hc
  rcases Bool.eq_false_or_eq_true (isCode c) with hi | hi
  · exact h2 c (List.mem_filter.mpr ⟨hc, hi⟩)
  · simpa [hi] using h
set_option maxRecDepth 65536 in
theorem w_c0 : (Jvm.Cond.code x code maxLocals ret).before args0 about1 = true := code_word (m := ⟨1, 1⟩) (meth := k1m1) (c := k1c1) (by decide +kernel) rfl rfl rfl (by decide +kernel)
set_option maxRecDepth 65536 in
theorem w_c1 : (Jvm.Cond.code ({ cls := "com/example/nitpick/nitpick/internal/interpolation/ExpressionLiterals$Quoting", name := "next", desc := "(C)Lcom/example/nitpick/nitpick/internal/interpolation/ExpressionLiterals$Quoting;" } : Jvm.MethodName) prog_60_method_4_code (2 : Nat) (Option.some (Jvm.ClassFile.FieldType.object "com/example/nitpick/nitpick/internal/interpolation/ExpressionLiterals$Quoting"))).before args0 about1 = true := code_word (m := ⟨6, 0⟩) (meth := k6m0) (c := k6c0) (by decide +kernel) rfl rfl rfl (by decide +kernel)
set_option maxRecDepth 65536 in
theorem w_c2 : (Jvm.Cond.code ({ cls := "java/lang/Enum", name := "ordinal", desc := "()I" } : Jvm.MethodName) jdk_37_method_2_code (1 : Nat) (Option.some Jvm.ClassFile.FieldType.int)).before args0 about1 = true := code_word (m := ⟨5, 0⟩) (meth := k5m0) (c := k5c0) (by decide +kernel) rfl rfl rfl (by decide +kernel)
def codes1 : List Jvm.Cond := [Jvm.Cond.code x code maxLocals ret, Jvm.Cond.code ({ cls := "com/example/nitpick/nitpick/internal/interpolation/ExpressionLiterals$Quoting", name := "next", desc := "(C)Lcom/example/nitpick/nitpick/internal/interpolation/ExpressionLiterals$Quoting;" } : Jvm.MethodName) prog_60_method_4_code (2 : Nat) (Option.some (Jvm.ClassFile.FieldType.object "com/example/nitpick/nitpick/internal/interpolation/ExpressionLiterals$Quoting")), Jvm.Cond.code ({ cls := "java/lang/Enum", name := "ordinal", desc := "()I" } : Jvm.MethodName) jdk_37_method_2_code (1 : Nat) (Option.some Jvm.ClassFile.FieldType.int)]
set_option maxRecDepth 65536 in
theorem codes_eq : words1.filter isCode = codes1 := rfl
theorem w_codes : ∀ c ∈ words1.filter isCode, c.before args0 about1 = true := by
  rw [codes_eq]
  intro c hc
  simp only [codes1, List.mem_cons, List.not_mem_nil, or_false] at hc
  rcases hc with rfl | rfl | rfl
  · exact w_c0
  · exact w_c1
  · exact w_c2
set_option maxRecDepth 65536 in
theorem w_t1 : (words1.take 24).all (fun c => isCode c || c.before args0 about1) = true := by decide +kernel
set_option maxRecDepth 65536 in
theorem w_t2 : (words1.drop 24).all (fun c => isCode c || c.before args0 about1) = true := by decide +kernel
theorem w_tables : (allAtoms (Jvm.Cond.code x code maxLocals ret :: tables_1)).before args0 about1 = true := by
  rw [allAtoms_all]
  show words1.all (fun c => c.before args0 about1) = true
  refine all_split ?_ w_codes
  rw [← List.take_append_drop 24 words1, List.all_append, w_t1, w_t2]
  rfl
set_option maxRecDepth 65536 in
theorem w_case : (Jvm.Cond.and given_1 narrow_1).before args0 about1 = true := by decide +kernel
theorem w_applies : (headSpec (Jvm.Cond.code x code maxLocals ret :: tables_1) room_1).applies x e0.platform about1 = true :=
  (Spec.applies_iff w_frames).mpr ⟨w_running, w_runnable, w_alone, w_named, w_hears, w_ripe, w_room, w_tables⟩
theorem atStart : AtStart classFile x code maxLocals ret World_1 tables_1 room_1 Calls_1 rest_1 Pre_1 launch0 p0 e0 about1 theMethod args0 below0 :=
  ⟨lists_1, trivial, launch0.admits_env _ _ _, launch0.least_env, fairChoices_fair.cas, fairChoices_fair.clock, w_frames, w_args, w_heap, w_applies, trivial, trivial, w_case⟩
end start1
theorem witness_1 : WitnessClaimed_1 := ⟨start1.p0, start1.e0, start1.about1, start1.theMethod, start1.args0, start1.below0, start1.atStart⟩
end Jvm.Pilot.@@N@@
