import JvmDerived
import JvmDerived.Pilot.@@N@@Statement
import JvmDerived.Pilot.@@N@@Code
set_option linter.unusedVariables false
set_option linter.unusedSimpArgs false
namespace Jvm.Pilot.@@N@@
open Jvm Jvm.ClassFile Sem Op Lib Jvm.Free Jvm.Stand Jvm.LawKit Jvm.RoadKit Bundle Jvm.Pilot.@@N@@.Jvm.D
abbrev Kx : Type := Program × Env × State × MethodId × Array Value × List Frame × Method × Code
def Inv (Z : State) (ws : List Addr) (h0 : Heap) (S : List Addr) (h : Heap) : Prop :=
  Ext Z.heap h ∧ Keep h0 h ws ∧ ∀ x ∈ S, x < h.size ∧ Z.heap.size ≤ x ∧ (x ∈ ws ∨ h0.size ≤ x)
def Cx (Z : State) (a0 : Array Value) (y : MethodName) (by0 : ByteArray) (ml : Nat) (rt : Option FieldType) : Kx → Prop
  | (p, _, s, m, _, _, meth, c) => p.tables.exec = Jvm.exec ∧ c.code = by0 ∧ c.maxLocals = ml ∧ s.vm.findClass y.cls = some m.cls ∧ meth.name = y.name ∧ meth.sig.returnType = rt ∧ meth.locks = false ∧ Z.Warmed39 s.vm
theorem fr_snoc {k : Nat} {L : List Loc} (N : Fr k L) {a : Addr} {i : Nat} (q : k ≤ a) : Fr k (L ++ [⟨a, i⟩]) := fun y hy => by
  rcases List.mem_append.mp hy with hy | hy
  · exact N y hy
  · rw [List.mem_singleton.mp hy]; exact q
theorem hq {Z : State} {a0 : Array Value} {ts : List Jvm.Cond} (hw : ∀ d ∈ ts, d.before a0 Z = true) (i : Nat) {d : Jvm.Cond} (q : ts[i]? = some d) : d.before a0 Z = true := hw _ (List.mem_of_getElem? q)
theorem nble {a b : Nat} (h : Nat.ble a b = true) : a ≤ b := Nat.le_of_ble_eq_true h
theorem mi {S : List Addr} (i : Nat) {a : Addr} (q : S[i]? = some a) : a ∈ S := List.mem_of_getElem? q
section InvLaws
variable {Z : State} {ws ws' S bs : List Addr} {h0 h h' : Heap} {a : Addr} {i : Nat} {v : Value}
theorem Inv.new (I : Inv Z ws h0 S h) (E : Ext h h') (hl : h.size < h'.size) : Inv Z ws h0 (h.size :: S) h' := by
  refine ⟨⟨Nat.le_trans I.1.1 E.1, fun a c q => E.2 a c (I.1.2 a c q)⟩, I.2.1.ext E, fun x hx => ?_⟩
  rcases List.mem_cons.mp hx with rfl | hx
  · exact ⟨hl, I.1.1, Or.inr I.2.1.1⟩
  · exact ⟨Nat.lt_of_lt_of_le (I.2.2 x hx).1 E.1, (I.2.2 x hx).2⟩
theorem Inv.ext (I : Inv Z ws h0 S h) (E : Ext h h') : Inv Z ws h0 S h' :=
  ⟨⟨Nat.le_trans I.1.1 E.1, fun a c q => E.2 a c (I.1.2 a c q)⟩, I.2.1.ext E, fun x hx => ⟨Nat.lt_of_lt_of_le (I.2.2 x hx).1 E.1, (I.2.2 x hx).2⟩⟩
theorem Inv.wr (I : Inv Z ws h0 S h) (W : Wr h h' a i v) (ha : a ∈ S) : Inv Z ws h0 S h' :=
  ⟨(Old.wr ⟨rfl, I.1⟩ W (I.2.2 a ha).2.1).2, I.2.1.wr W (I.2.2 a ha).2.2, fun x hx => ⟨W.size.symm ▸ (I.2.2 x hx).1, (I.2.2 x hx).2⟩⟩
theorem Inv.keep (I : Inv Z ws h0 S h) (K : Keep h h' ws') (hs : ∀ x ∈ ws', x ∈ S) : Inv Z ws h0 S h' :=
  ⟨(Old.keep ⟨rfl, I.1⟩ K (fun x hx => (I.2.2 x (hs x hx)).2.1)).2, I.2.1.trans K (fun x hx => (I.2.2 x (hs x hx)).2.2), fun x hx => ⟨Nat.lt_of_lt_of_le (I.2.2 x hx).1 K.1, (I.2.2 x hx).2⟩⟩
theorem Inv.add (I : Inv Z ws h0 S h) (I' : Inv Z ws h0 S h') (hb : ∀ b ∈ bs, h.size ≤ b ∧ b < h'.size) : Inv Z ws h0 (bs ++ S) h' :=
  ⟨I'.1, I'.2.1, fun x hx => (List.mem_append.mp hx).elim (fun q => ⟨(hb x q).2, Nat.le_trans I.1.1 (hb x q).1, Or.inr (Nat.le_trans I.2.1.1 (hb x q).1)⟩) (fun q => I'.2.2 x q)⟩
theorem Inv.drop (I : Inv Z ws h0 S h) {S' : List Addr} (hs : ∀ x ∈ S', x ∈ S) : Inv Z ws h0 S' h := ⟨I.1, I.2.1, fun x hx => I.2.2 x (hs x hx)⟩
end InvLaws
theorem decl_of {Z : State} {a0 : Array Value} {y : MethodName} {b : ByteArray} {ml : Nat} {rt : Option FieldType} (wi : (Cond.instanceMethod y).before a0 Z = true) (wc : (Cond.code y b ml rt).before a0 Z = true) : (Cond.declares y).before a0 Z = true := by
  obtain ⟨mk, meth, h1, h2, h3, h4⟩ := Cond.instanceMethod_spec wi
  obtain ⟨m2, c, q1, -, -, -, -, -, -, hsig⟩ := Cond.code_spec h1 wc
  cases h2.symm.trans q1
  simp [Cond.before, Cond.holds, Cond.value, h1, h2, h3, hsig]
theorem nf_cls {s : State} {a0 : Array Value} {y y' y0 : MethodName} {C : String} (w : (Cond.selects C y0 y').before a0 s = true) (hc : y'.cls = y.cls) : NotFace s y := fun r0 h0 => by
  obtain ⟨c2, r2, m2, q1, q2, q3, q4, kP, hkP, hkPi⟩ := Cond.selects_spec w
  have e1 := findClass_of_methodNamed h0
  have e2 := findClass_of_methodNamed q3
  rw [hc] at e2
  have e3 : r0.cls = m2.cls := Option.some.inj (e1.symm.trans e2)
  exact ⟨kP, by rw [e3]; exact hkP, hkPi⟩
theorem same_of {Z : State} {a0 : Array Value} {y : MethodName} (wi : (Cond.instanceMethod y).before a0 Z = true) (nf : NotFace Z y) (hx : y.cls ≠ "java/lang/invoke/MethodHandle" ∧ y.cls ≠ "java/lang/invoke/VarHandle") : (Cond.sameMethod y.cls y.cls y.name y.desc).before a0 Z = true := by
  obtain ⟨mk, meth, h1, h2, h3, h4⟩ := Cond.instanceMethod_spec wi
  have hf := State.methodFound?_of_named h1 hx
  have hc := findClass_of_methodNamed h1
  obtain ⟨k, hk, hi⟩ := nf mk h1
  have h1' : Z.methodNamed? ⟨y.cls, y.name, y.desc⟩ = some mk := h1
  simp [Cond.before, Cond.holds, Cond.value, hc, hf, h1', hk, hi]
theorem ext_refl (h : Heap) : Ext h h := ⟨Nat.le_refl _, fun _ _ q => q⟩
theorem mems0 {S : List Addr} : ∀ x ∈ ([] : List Addr), x ∈ S := fun _ q => nomatch q
theorem memsS {x : Addr} {L S : List Addr} (q : x ∈ S) (r : ∀ z ∈ L, z ∈ S) : ∀ z ∈ x :: L, z ∈ S := fun z hz => by
  rcases List.mem_cons.mp hz with rfl | hz
  · exact q
  · exact r z hz
theorem fresh0 {n n' : Nat} : ∀ b ∈ ([] : List Addr), n ≤ b ∧ b < n' := fun _ q => nomatch q
theorem freshS {n n' : Nat} {b : Addr} {L : List Addr} (q : n ≤ b ∧ b < n') (r : ∀ z ∈ L, n ≤ z ∧ z < n') : ∀ z ∈ b :: L, n ≤ z ∧ z < n' := fun z hz => by
  rcases List.mem_cons.mp hz with rfl | hz
  · exact q
  · exact r z hz
/-- the contract of a body that interns nothing -/
def Ct (l : Launch) (Z : State) (y : MethodName) (by0 : ByteArray) (ml : Nat) (rt : Option FieldType) (rm : Room) (as : Array Value) (h0 : Heap) (ws : List Addr) (Q : Option Value → Heap → Prop) : Prop :=
  Ext Z.heap h0 → (∀ x ∈ ws, x < h0.size ∧ Z.heap.size ≤ x) → ∀ tw : List Jvm.Cond, MetFree l y (head1 (Jvm.Cond.code y by0 ml rt :: tw) rm) (fun a U => a = as ∧ Z.Warmed39 U.vm ∧ U.heap = h0) (fun _ _ _ _ _ => True)
    (fun _ U o U' => ∃ v L, o = .returned v ∧ (Keep h0 U'.heap ws ∧ Q v U'.heap ∧ Fr Z.heap.size L) ∧ FrameEnd U o U' L rm.cells rm.slots)
/-- what a call of z costs and gives: fr frames, lo words, cc cells, ss slots -/
def Py (l : Launch) (Z : State) (z : MethodName) (fr lo cc ss : Nat) (as : Array Value) (h : Heap) (ws : List Addr) (Q : Option Value → Heap → Prop) : Prop :=
  Ext Z.heap h → (∀ x ∈ ws, x < h.size ∧ Z.heap.size ≤ x) → ∀ (p : Program) (e : Env) (R : Room) (below : List Frame) (s : State) (args : Array Value) (len W : Nat), Z.Warmed39 s.vm → fr ≤ R.frames → W + lo ≤ R.locals →
    Back l R p e below s args z len W (fun A a => a = as ∧ A.U.heap = h ∧ A.cells + cc ≤ R.cells ∧ A.slots + ss ≤ R.slots) (fun A _ v B => ∃ L, (Keep h B.U.heap ws ∧ Q v B.U.heap ∧ Fr Z.heap.size L) ∧ B.locs = A.locs ++ L ∧ B.cells = A.cells + cc ∧ B.slots = A.slots + ss)
theorem Ct.py {l : Launch} {Z : State} {a0 : Array Value} {y : MethodName} {by0 : ByteArray} {ml : Nat} {rt : Option FieldType} {rm : Room} {as : Array Value} {h0 : Heap} {ws : List Addr} {Q : Option Value → Heap → Prop} (hM : Ct l Z y by0 ml rt rm as h0 ws Q) (wc : (Cond.code y by0 ml rt).before a0 Z = true) (wz : (Cond.initialized y.cls).before a0 Z = true) : Py l Z y (rm.frames + 1) (ml + 11 + rm.locals) rm.cells rm.slots as h0 ws Q :=
  fun hO hws p e R below s args len W hZ hf hl => backOf (W := W) (Q := fun v hp L => Keep h0 hp ws ∧ Q v hp ∧ Fr Z.heap.size L) (hM hO hws []) hZ wc wz hf (by rw [Nat.add_assoc]; exact hl)
def Go (l : Launch) (R : Room) (Z : State) (ws : List Addr) (h0 : Heap) (Q : Option Value → Heap → Prop) (κ : Kx) (S : List Addr) (h : Heap) (pc : Nat) (Ls : Array Slot) (st : List Value) (ce sl : Nat) : Prop := match κ with
  | (p, e, s, m, args, below, meth, c) => ∀ T locs, Stand p l e R s m args below meth c T locs ce sl → Fr Z.heap.size locs → T.heap = h → Inv Z ws h0 S h →
    ∃ s₂ o, Steps p.tables e below (T.setTop (mkF m pc Ls st)) s₂ ∧ s₂.status = .running ∧ Ended s₂ below o ∧ ∃ v L, o = .returned v ∧ (Keep h0 s₂.heap ws ∧ Q v s₂.heap ∧ Fr Z.heap.size L) ∧ FrameEnd s o s₂ L R.cells R.slots
theorem Ct.mk {l : Launch} {Z : State} {a0 : Array Value} {y : MethodName} {by0 : ByteArray} {ml : Nat} {rt : Option FieldType} {rm : Room} {as : Array Value} {h0 : Heap} {ws : List Addr} {Q : Option Value → Heap → Prop} {Ls : Array Slot} (hpl : plainFor y = true) (hef : ∀ m, entryFrame m as ml = mkF m 0 Ls [])
    (k : ∀ κ, Cx Z a0 y by0 ml rt κ → Go l rm Z ws h0 Q κ ws h0 0 Ls [] 0 0) : Ct l Z y by0 ml rt rm as h0 ws Q := by
  intro hO hws tw
  refine MetFree.of_bodySF hpl hisR ?_
  intro p e s m args below meth c s₁ Bd hml0 hP hK
  obtain ⟨rfl, hZ, hh⟩ := hP
  have X0 : Stand p l e rm s m args below meth c s₁ [] 0 0 := Stand.of_body Bd
  have e0 : s₁.heap = h0 := by rw [← hh, Bd.state]; rfl
  obtain ⟨s₂, o, hs, r⟩ := k (p, e, s, m, args, below, meth, c) ⟨Bd.exec, Bd.bytes, hml0, findClass_of_methodNamed Bd.named, (name_of_methodNamed Bd.named Bd.method).1, Bd.returns, BodyLoose.notSynchronized Bd, hZ⟩ s₁ [] X0 (Fr.nil _) e0
    ⟨hO, Keep.refl _ _, fun x hx => ⟨(hws x hx).1, (hws x hx).2, Or.inl hx⟩⟩
  exact ⟨s₂, o, castTop (hef m) hs, r⟩
section StepsN
variable {Z : State} {a0 : Array Value} {y : MethodName} {by0 : ByteArray} {ml : Nat} {rt : Option FieldType} {l : Launch} {R : Room} {ws : List Addr} {h0 : Heap} {Q : Option Value → Heap → Prop} {κ : Kx} {S : List Addr} {h : Heap} {pc : Nat} {Ls : Array Slot} {st : List Value} {ce sl : Nat}
theorem go_iloadN (C : Cx Z a0 y by0 ml rt κ) (pc' : Nat) {j : Fin 4} {v : Int32} (hd : decode by0 pc = .ok (.iload_n j, 1)) (hpc : pc + 1 = pc') (hl : Ls[j.val]? = some (.val (.int v))) (k : Go l R Z ws h0 Q κ S h pc' Ls (.int v :: st) ce sl) : Go l R Z ws h0 Q κ S h pc Ls st ce sl := by
  subst hpc
  obtain ⟨p, e, s, m, args, below, meth, c⟩ := κ
  intro T locs X N eT I
  obtain ⟨hx, hby, hml, hown, hnm, hret, hlk, hZ⟩ := C
  obtain ⟨s₂, o, hs, r⟩ := k T _ X N eT I
  exact ⟨s₂, o, XS.iloadN X.here hx rfl (hb hby hd) hl hs, r⟩
theorem go_iload (C : Cx Z a0 y by0 ml rt κ) (pc' : Nat) {j : Nat} {v : Int32} (hd : decode by0 pc = .ok (.iload j, 2)) (hpc : pc + 2 = pc') (hl : Ls[j]? = some (.val (.int v))) (k : Go l R Z ws h0 Q κ S h pc' Ls (.int v :: st) ce sl) : Go l R Z ws h0 Q κ S h pc Ls st ce sl := by
  subst hpc
  obtain ⟨p, e, s, m, args, below, meth, c⟩ := κ
  intro T locs X N eT I
  obtain ⟨hx, hby, hml, hown, hnm, hret, hlk, hZ⟩ := C
  obtain ⟨s₂, o, hs, r⟩ := k T _ X N eT I
  exact ⟨s₂, o, XS.iload X.here hx rfl (hb hby hd) hl hs, r⟩
theorem go_aloadN (C : Cx Z a0 y by0 ml rt κ) (pc' : Nat) {j : Fin 4} {v : Value} (hd : decode by0 pc = .ok (.aload_n j, 1)) (hpc : pc + 1 = pc') (hl : Ls[j.val]? = some (.val v)) (hv : v.isRef = true) (k : Go l R Z ws h0 Q κ S h pc' Ls (v :: st) ce sl) : Go l R Z ws h0 Q κ S h pc Ls st ce sl := by
  subst hpc
  obtain ⟨p, e, s, m, args, below, meth, c⟩ := κ
  intro T locs X N eT I
  obtain ⟨hx, hby, hml, hown, hnm, hret, hlk, hZ⟩ := C
  obtain ⟨s₂, o, hs, r⟩ := k T _ X N eT I
  exact ⟨s₂, o, XS.aloadN X.here hx rfl (hb hby hd) hl hv hs, r⟩
theorem go_aload (C : Cx Z a0 y by0 ml rt κ) (pc' : Nat) {j : Nat} {v : Value} (hd : decode by0 pc = .ok (.aload j, 2)) (hpc : pc + 2 = pc') (hl : Ls[j]? = some (.val v)) (hv : v.isRef = true) (k : Go l R Z ws h0 Q κ S h pc' Ls (v :: st) ce sl) : Go l R Z ws h0 Q κ S h pc Ls st ce sl := by
  subst hpc
  obtain ⟨p, e, s, m, args, below, meth, c⟩ := κ
  intro T locs X N eT I
  obtain ⟨hx, hby, hml, hown, hnm, hret, hlk, hZ⟩ := C
  obtain ⟨s₂, o, hs, r⟩ := k T _ X N eT I
  exact ⟨s₂, o, XS.aload X.here hx rfl (hb hby hd) hl hv hs, r⟩
theorem go_iconst (C : Cx Z a0 y by0 ml rt κ) (pc' : Nat) {i : Int} (v : Int32) (hd : decode by0 pc = .ok (.iconst i, 1)) (hpc : pc + 1 = pc') (hv : Int32.ofInt i = v) (k : Go l R Z ws h0 Q κ S h pc' Ls (.int v :: st) ce sl) : Go l R Z ws h0 Q κ S h pc Ls st ce sl := by
  subst hpc
  obtain ⟨p, e, s, m, args, below, meth, c⟩ := κ
  intro T locs X N eT I
  obtain ⟨hx, hby, hml, hown, hnm, hret, hlk, hZ⟩ := C
  obtain ⟨s₂, o, hs, r⟩ := k T _ X N eT I
  exact ⟨s₂, o, XT.iconstV X.here hx rfl v (hb hby hd) hv hs, r⟩
theorem go_bipush (C : Cx Z a0 y by0 ml rt κ) (pc' : Nat) {i : Int} (v : Int32) (hd : decode by0 pc = .ok (.bipush i, 2)) (hpc : pc + 2 = pc') (hv : (Int8.ofInt i).toInt32 = v) (k : Go l R Z ws h0 Q κ S h pc' Ls (.int v :: st) ce sl) : Go l R Z ws h0 Q κ S h pc Ls st ce sl := by
  subst hpc
  obtain ⟨p, e, s, m, args, below, meth, c⟩ := κ
  intro T locs X N eT I
  obtain ⟨hx, hby, hml, hown, hnm, hret, hlk, hZ⟩ := C
  obtain ⟨s₂, o, hs, r⟩ := k T _ X N eT I
  exact ⟨s₂, o, XT.bipushV X.here hx rfl v (hb hby hd) hv hs, r⟩
theorem go_sipush (C : Cx Z a0 y by0 ml rt κ) (pc' : Nat) {i : Int} (v : Int32) (hd : decode by0 pc = .ok (.sipush i, 3)) (hpc : pc + 3 = pc') (hv : (Int16.ofInt i).toInt32 = v) (k : Go l R Z ws h0 Q κ S h pc' Ls (.int v :: st) ce sl) : Go l R Z ws h0 Q κ S h pc Ls st ce sl := by
  subst hpc
  obtain ⟨p, e, s, m, args, below, meth, c⟩ := κ
  intro T locs X N eT I
  obtain ⟨hx, hby, hml, hown, hnm, hret, hlk, hZ⟩ := C
  obtain ⟨s₂, o, hs, r⟩ := k T _ X N eT I
  exact ⟨s₂, o, XT.sipushV X.here hx rfl v (hb hby hd) hv hs, r⟩
theorem go_aconstNull (C : Cx Z a0 y by0 ml rt κ) (pc' : Nat)  (hd : decode by0 pc = .ok (.aconst_null, 1)) (hpc : pc + 1 = pc')  (k : Go l R Z ws h0 Q κ S h pc' Ls (.null :: st) ce sl) : Go l R Z ws h0 Q κ S h pc Ls st ce sl := by
  subst hpc
  obtain ⟨p, e, s, m, args, below, meth, c⟩ := κ
  intro T locs X N eT I
  obtain ⟨hx, hby, hml, hown, hnm, hret, hlk, hZ⟩ := C
  obtain ⟨s₂, o, hs, r⟩ := k T _ X N eT I
  exact ⟨s₂, o, XS.aconstNull X.here hx rfl (hb hby hd) hs, r⟩
theorem go_iadd (C : Cx Z a0 y by0 ml rt κ) (pc' : Nat) {x z : Int32} (v : Int32) (hd : decode by0 pc = .ok (.iadd, 1)) (hpc : pc + 1 = pc') (hv : x + z = v) (k : Go l R Z ws h0 Q κ S h pc' Ls (.int v :: st) ce sl) : Go l R Z ws h0 Q κ S h pc Ls (.int z :: .int x :: st) ce sl := by
  subst hpc
  subst hv
  obtain ⟨p, e, s, m, args, below, meth, c⟩ := κ
  intro T locs X N eT I
  obtain ⟨hx, hby, hml, hown, hnm, hret, hlk, hZ⟩ := C
  obtain ⟨s₂, o, hs, r⟩ := k T _ X N eT I
  exact ⟨s₂, o, XS.iadd X.here hx rfl (hb hby hd) rfl hs, r⟩
theorem go_isub (C : Cx Z a0 y by0 ml rt κ) (pc' : Nat) {x z : Int32} (v : Int32) (hd : decode by0 pc = .ok (.isub, 1)) (hpc : pc + 1 = pc') (hv : x - z = v) (k : Go l R Z ws h0 Q κ S h pc' Ls (.int v :: st) ce sl) : Go l R Z ws h0 Q κ S h pc Ls (.int z :: .int x :: st) ce sl := by
  subst hpc
  subst hv
  obtain ⟨p, e, s, m, args, below, meth, c⟩ := κ
  intro T locs X N eT I
  obtain ⟨hx, hby, hml, hown, hnm, hret, hlk, hZ⟩ := C
  obtain ⟨s₂, o, hs, r⟩ := k T _ X N eT I
  exact ⟨s₂, o, XS.isub X.here hx rfl (hb hby hd) rfl hs, r⟩
theorem go_iand (C : Cx Z a0 y by0 ml rt κ) (pc' : Nat) {x z : Int32} (v : Int32) (hd : decode by0 pc = .ok (.iand, 1)) (hpc : pc + 1 = pc') (hv : x &&& z = v) (k : Go l R Z ws h0 Q κ S h pc' Ls (.int v :: st) ce sl) : Go l R Z ws h0 Q κ S h pc Ls (.int z :: .int x :: st) ce sl := by
  subst hpc
  subst hv
  obtain ⟨p, e, s, m, args, below, meth, c⟩ := κ
  intro T locs X N eT I
  obtain ⟨hx, hby, hml, hown, hnm, hret, hlk, hZ⟩ := C
  obtain ⟨s₂, o, hs, r⟩ := k T _ X N eT I
  exact ⟨s₂, o, XS.iand X.here hx rfl (hb hby hd) rfl hs, r⟩
theorem go_iushr (C : Cx Z a0 y by0 ml rt κ) (pc' : Nat) {x z : Int32} (v : Int32) (hd : decode by0 pc = .ok (.iushr, 1)) (hpc : pc + 1 = pc') (hv : XT.ushr x z = v) (k : Go l R Z ws h0 Q κ S h pc' Ls (.int v :: st) ce sl) : Go l R Z ws h0 Q κ S h pc Ls (.int z :: .int x :: st) ce sl := by
  subst hpc
  subst hv
  obtain ⟨p, e, s, m, args, below, meth, c⟩ := κ
  intro T locs X N eT I
  obtain ⟨hx, hby, hml, hown, hnm, hret, hlk, hZ⟩ := C
  obtain ⟨s₂, o, hs, r⟩ := k T _ X N eT I
  exact ⟨s₂, o, XT.iushr X.here hx rfl (hb hby hd) rfl hs, r⟩
theorem go_irem (C : Cx Z a0 y by0 ml rt κ) (pc' : Nat) {x z : Int32} (v : Int32) (hd : decode by0 pc = .ok (.irem, 1)) (hpc : pc + 1 = pc') (hz : z ≠ 0) (hv : x % z = v) (k : Go l R Z ws h0 Q κ S h pc' Ls (.int v :: st) ce sl) : Go l R Z ws h0 Q κ S h pc Ls (.int z :: .int x :: st) ce sl := by
  subst hpc
  subst hv
  obtain ⟨p, e, s, m, args, below, meth, c⟩ := κ
  intro T locs X N eT I
  obtain ⟨hx, hby, hml, hown, hnm, hret, hlk, hZ⟩ := C
  obtain ⟨s₂, o, hs, r⟩ := k T _ X N eT I
  exact ⟨s₂, o, iremM X hx rfl (hb hby hd) rfl hz hs, r⟩
theorem go_i2b (C : Cx Z a0 y by0 ml rt κ) (pc' : Nat) {x : Int32} (v : Int32) (hd : decode by0 pc = .ok (.i2b, 1)) (hpc : pc + 1 = pc') (hv : x.toInt8.toInt32 = v) (k : Go l R Z ws h0 Q κ S h pc' Ls (.int v :: st) ce sl) : Go l R Z ws h0 Q κ S h pc Ls (.int x :: st) ce sl := by
  subst hpc
  subst hv
  obtain ⟨p, e, s, m, args, below, meth, c⟩ := κ
  intro T locs X N eT I
  obtain ⟨hx, hby, hml, hown, hnm, hret, hlk, hZ⟩ := C
  obtain ⟨s₂, o, hs, r⟩ := k T _ X N eT I
  exact ⟨s₂, o, XT.i2b X.here hx rfl (hb hby hd) rfl hs, r⟩
theorem go_i2c (C : Cx Z a0 y by0 ml rt κ) (pc' : Nat) {x : Int32} (v : Int32) (hd : decode by0 pc = .ok (.i2c, 1)) (hpc : pc + 1 = pc') (hv : x.toUInt32.toUInt16.toUInt32.toInt32 = v) (k : Go l R Z ws h0 Q κ S h pc' Ls (.int v :: st) ce sl) : Go l R Z ws h0 Q κ S h pc Ls (.int x :: st) ce sl := by
  subst hpc
  subst hv
  obtain ⟨p, e, s, m, args, below, meth, c⟩ := κ
  intro T locs X N eT I
  obtain ⟨hx, hby, hml, hown, hnm, hret, hlk, hZ⟩ := C
  obtain ⟨s₂, o, hs, r⟩ := k T _ X N eT I
  exact ⟨s₂, o, XT.i2c X.here hx rfl (hb hby hd) rfl hs, r⟩
theorem go_dup (C : Cx Z a0 y by0 ml rt κ) (pc' : Nat) {x : Value} (hd : decode by0 pc = .ok (.dup, 1)) (hpc : pc + 1 = pc') (hc : x.category = 1) (k : Go l R Z ws h0 Q κ S h pc' Ls (x :: x :: st) ce sl) : Go l R Z ws h0 Q κ S h pc Ls (x :: st) ce sl := by
  subst hpc
  obtain ⟨p, e, s, m, args, below, meth, c⟩ := κ
  intro T locs X N eT I
  obtain ⟨hx, hby, hml, hown, hnm, hret, hlk, hZ⟩ := C
  obtain ⟨s₂, o, hs, r⟩ := k T _ X N eT I
  exact ⟨s₂, o, XS.dup X.here hx rfl (hb hby hd) rfl hc hs, r⟩
theorem go_pop (C : Cx Z a0 y by0 ml rt κ) (pc' : Nat) {x : Value} (hd : decode by0 pc = .ok (.pop, 1)) (hpc : pc + 1 = pc') (hc : x.category = 1) (k : Go l R Z ws h0 Q κ S h pc' Ls st ce sl) : Go l R Z ws h0 Q κ S h pc Ls (x :: st) ce sl := by
  subst hpc
  obtain ⟨p, e, s, m, args, below, meth, c⟩ := κ
  intro T locs X N eT I
  obtain ⟨hx, hby, hml, hown, hnm, hret, hlk, hZ⟩ := C
  obtain ⟨s₂, o, hs, r⟩ := k T _ X N eT I
  exact ⟨s₂, o, XT.pop X.here hx rfl (hb hby hd) rfl hc hs, r⟩
theorem go_dupX1 (C : Cx Z a0 y by0 ml rt κ) (pc' : Nat) {x z : Value} (hd : decode by0 pc = .ok (.dup_x1, 1)) (hpc : pc + 1 = pc') (hc : x.category = 1) (hc' : z.category = 1) (k : Go l R Z ws h0 Q κ S h pc' Ls (x :: z :: x :: st) ce sl) : Go l R Z ws h0 Q κ S h pc Ls (x :: z :: st) ce sl := by
  subst hpc
  obtain ⟨p, e, s, m, args, below, meth, c⟩ := κ
  intro T locs X N eT I
  obtain ⟨hx, hby, hml, hown, hnm, hret, hlk, hZ⟩ := C
  obtain ⟨s₂, o, hs, r⟩ := k T _ X N eT I
  exact ⟨s₂, o, XT.dupX1 X.here hx rfl (hb hby hd) rfl hc hc' hs, r⟩
theorem go_istoreN (C : Cx Z a0 y by0 ml rt κ) (pc' : Nat) {j : Fin 4} {x : Int32} {Ls' : Array Slot} (hd : decode by0 pc = .ok (.istore_n j, 1)) (hpc : pc + 1 = pc') (hl : storeLocals Ls j.val (.int x) = some Ls') (k : Go l R Z ws h0 Q κ S h pc' Ls' st ce sl) : Go l R Z ws h0 Q κ S h pc Ls (.int x :: st) ce sl := by
  subst hpc
  obtain ⟨p, e, s, m, args, below, meth, c⟩ := κ
  intro T locs X N eT I
  obtain ⟨hx, hby, hml, hown, hnm, hret, hlk, hZ⟩ := C
  obtain ⟨s₂, o, hs, r⟩ := k T _ X N eT I
  exact ⟨s₂, o, XS.istoreN X.here hx rfl (hb hby hd) rfl hl hs, r⟩
theorem go_istore (C : Cx Z a0 y by0 ml rt κ) (pc' : Nat) {j : Nat} {x : Int32} {Ls' : Array Slot} (hd : decode by0 pc = .ok (.istore j, 2)) (hpc : pc + 2 = pc') (hl : storeLocals Ls j (.int x) = some Ls') (k : Go l R Z ws h0 Q κ S h pc' Ls' st ce sl) : Go l R Z ws h0 Q κ S h pc Ls (.int x :: st) ce sl := by
  subst hpc
  obtain ⟨p, e, s, m, args, below, meth, c⟩ := κ
  intro T locs X N eT I
  obtain ⟨hx, hby, hml, hown, hnm, hret, hlk, hZ⟩ := C
  obtain ⟨s₂, o, hs, r⟩ := k T _ X N eT I
  exact ⟨s₂, o, XS.istore X.here hx rfl (hb hby hd) rfl hl hs, r⟩
theorem go_astoreN (C : Cx Z a0 y by0 ml rt κ) (pc' : Nat) {j : Fin 4} {x : Value} {Ls' : Array Slot} (hd : decode by0 pc = .ok (.astore_n j, 1)) (hpc : pc + 1 = pc') (hv : x.isRef = true) (hl : storeLocals Ls j.val x = some Ls') (k : Go l R Z ws h0 Q κ S h pc' Ls' st ce sl) : Go l R Z ws h0 Q κ S h pc Ls (x :: st) ce sl := by
  subst hpc
  obtain ⟨p, e, s, m, args, below, meth, c⟩ := κ
  intro T locs X N eT I
  obtain ⟨hx, hby, hml, hown, hnm, hret, hlk, hZ⟩ := C
  obtain ⟨s₂, o, hs, r⟩ := k T _ X N eT I
  exact ⟨s₂, o, XS.astoreN X.here hx rfl (hb hby hd) rfl hv hl hs, r⟩
theorem go_astore (C : Cx Z a0 y by0 ml rt κ) (pc' : Nat) {j : Nat} {x : Value} {Ls' : Array Slot} (hd : decode by0 pc = .ok (.astore j, 2)) (hpc : pc + 2 = pc') (hv : x.isRef = true) (hl : storeLocals Ls j x = some Ls') (k : Go l R Z ws h0 Q κ S h pc' Ls' st ce sl) : Go l R Z ws h0 Q κ S h pc Ls (x :: st) ce sl := by
  subst hpc
  obtain ⟨p, e, s, m, args, below, meth, c⟩ := κ
  intro T locs X N eT I
  obtain ⟨hx, hby, hml, hown, hnm, hret, hlk, hZ⟩ := C
  obtain ⟨s₂, o, hs, r⟩ := k T _ X N eT I
  exact ⟨s₂, o, XS.astore X.here hx rfl (hb hby hd) rfl hv hl hs, r⟩
theorem go_iinc (C : Cx Z a0 y by0 ml rt κ) (pc' : Nat) {j : Nat} {i : Int} {x : Int32} {Ls' : Array Slot} (v : Int32) (hd : decode by0 pc = .ok (.iinc j i, 3)) (hpc : pc + 3 = pc') (hv : Int32.ofInt i = v) (hg : Ls[j]? = some (.val (.int x))) (hl : storeLocals Ls j (.int (x + v)) = some Ls') (k : Go l R Z ws h0 Q κ S h pc' Ls' st ce sl) : Go l R Z ws h0 Q κ S h pc Ls st ce sl := by
  subst hpc
  obtain ⟨p, e, s, m, args, below, meth, c⟩ := κ
  intro T locs X N eT I
  obtain ⟨hx, hby, hml, hown, hnm, hret, hlk, hZ⟩ := C
  obtain ⟨s₂, o, hs, r⟩ := k T _ X N eT I
  exact ⟨s₂, o, XT.iincV X.here hx rfl v (hb hby hd) hv hg hl hs, r⟩
theorem go_ifN (C : Cx Z a0 y by0 ml rt κ) (pc' : Nat) {o : Int} {cd : ClassFile.Cond} {x : Int32} (hd : decode by0 pc = .ok (.ifCond cd o, 3)) (hpc : pc + 3 = pc') (hc : if_icmp.holds cd x 0 = false) (k : Go l R Z ws h0 Q κ S h pc' Ls st ce sl) : Go l R Z ws h0 Q κ S h pc Ls (.int x :: st) ce sl := by
  subst hpc
  obtain ⟨p, e, s, m, args, below, meth, c⟩ := κ
  intro T locs X N eT I
  obtain ⟨hx, hby, hml, hown, hnm, hret, hlk, hZ⟩ := C
  obtain ⟨s₂, o, hs, r⟩ := k T _ X N eT I
  exact ⟨s₂, o, XS.ifNo X.here hx rfl (hb hby hd) rfl ((if0 _ _).trans hc) hs, r⟩
theorem go_icmpN (C : Cx Z a0 y by0 ml rt κ) (pc' : Nat) {o : Int} {cd : ClassFile.Cond} {x z : Int32} (hd : decode by0 pc = .ok (.if_icmp cd o, 3)) (hpc : pc + 3 = pc') (hc : if_icmp.holds cd x z = false) (k : Go l R Z ws h0 Q κ S h pc' Ls st ce sl) : Go l R Z ws h0 Q κ S h pc Ls (.int z :: .int x :: st) ce sl := by
  subst hpc
  obtain ⟨p, e, s, m, args, below, meth, c⟩ := κ
  intro T locs X N eT I
  obtain ⟨hx, hby, hml, hown, hnm, hret, hlk, hZ⟩ := C
  obtain ⟨s₂, o, hs, r⟩ := k T _ X N eT I
  exact ⟨s₂, o, XS.icmpNo X.here hx rfl (hb hby hd) rfl hc hs, r⟩
theorem go_ldcInt (C : Cx Z a0 y by0 ml rt κ) (pc' : Nat) {ix : Nat} {v : Int32} (hd : decode by0 pc = .ok (.ldc ix, 2)) (hpc : pc + 2 = pc') (w : (Cond.constant y.cls ix v).before a0 Z = true) (k : Go l R Z ws h0 Q κ S h pc' Ls (.int v :: st) ce sl) : Go l R Z ws h0 Q κ S h pc Ls st ce sl := by
  subst hpc
  obtain ⟨p, e, s, m, args, below, meth, c⟩ := κ
  intro T locs X N eT I
  obtain ⟨hx, hby, hml, hown, hnm, hret, hlk, hZ⟩ := C
  obtain ⟨s₂, o, hs, r⟩ := k T _ X N eT I
  exact ⟨s₂, o, X.ldcInt hx hown (mvT hZ w) (g := mkF m pc Ls st) rfl (hb hby hd) _ hs, r⟩
theorem go_caload (C : Cx Z a0 y by0 ml rt κ) (pc' : Nat) {a : Addr} {kc : ClassId} {n j : Int32} {vs : List Value} {d v : Value} (hd : decode by0 pc = .ok (.caload, 1)) (hpc : pc + 1 = pc') (F : Arv Z h a kc .char n vs d) (hj : ¬ j < 0 ∧ j < n) (hv : vs.getD j.toNatClampNeg d = v) (k : Go l R Z ws h0 Q κ S h pc' Ls (v :: st) ce sl) : Go l R Z ws h0 Q κ S h pc Ls (.int j :: .ref a :: st) ce sl := by
  subst hpc
  obtain ⟨p, e, s, m, args, below, meth, c⟩ := κ
  intro T locs X N eT I
  obtain ⟨hx, hby, hml, hown, hnm, hret, hlk, hZ⟩ := C
  obtain ⟨s₂, o, hs, r⟩ := k T _ X N eT I
  obtain ⟨_, A, q1, S1, q3, H, G⟩ := F
  exact ⟨s₂, o, X.caload hx (j := j) (by rw [eT]; exact A.1) (State.isArrayOf_alike hZ.alike A.2.1) A.2.2 (inb_of S1 hj) (H.at (inb_of S1 hj) hv) (g := mkF m pc Ls (.int j :: .ref a :: st)) rfl rfl (hb hby hd) _ hs, r⟩
theorem go_aaload (C : Cx Z a0 y by0 ml rt κ) (pc' : Nat) {a : Addr} {kc : ClassId} {ty : FieldType} {n j : Int32} {vs : List Value} {d v : Value} (hd : decode by0 pc = .ok (.aaload, 1)) (hpc : pc + 1 = pc') (F : Arv Z h a kc ty n vs d) (ht : ty.isReference = true) (hj : ¬ j < 0 ∧ j < n) (hv : vs.getD j.toNatClampNeg d = v) (k : Go l R Z ws h0 Q κ S h pc' Ls (v :: st) ce sl) : Go l R Z ws h0 Q κ S h pc Ls (.int j :: .ref a :: st) ce sl := by
  subst hpc
  obtain ⟨p, e, s, m, args, below, meth, c⟩ := κ
  intro T locs X N eT I
  obtain ⟨hx, hby, hml, hown, hnm, hret, hlk, hZ⟩ := C
  obtain ⟨s₂, o, hs, r⟩ := k T _ X N eT I
  obtain ⟨_, A, q1, S1, q3, H, G⟩ := F
  exact ⟨s₂, o, X.aaload hx (j := j) (by rw [eT]; exact A.1) (State.isArrayOf_alike hZ.alike A.2.1) ht A.2.2 (inb_of S1 hj) (H.at (inb_of S1 hj) hv) (g := mkF m pc Ls (.int j :: .ref a :: st)) rfl rfl (hb hby hd) _ hs, r⟩
theorem go_arraylength (C : Cx Z a0 y by0 ml rt κ) (pc' : Nat) {a : Addr} {kc : ClassId} {ty : FieldType} {n : Int32} {vs : List Value} {d : Value} (hd : decode by0 pc = .ok (.arraylength, 1)) (hpc : pc + 1 = pc') (F : Arv Z h a kc ty n vs d) (k : Go l R Z ws h0 Q κ S h pc' Ls (.int n :: st) ce sl) : Go l R Z ws h0 Q κ S h pc Ls (.ref a :: st) ce sl := by
  subst hpc
  obtain ⟨p, e, s, m, args, below, meth, c⟩ := κ
  intro T locs X N eT I
  obtain ⟨hx, hby, hml, hown, hnm, hret, hlk, hZ⟩ := C
  obtain ⟨s₂, o, hs, r⟩ := k T _ X N eT I
  obtain ⟨cl, A, q1, S1, q3, H, G⟩ := F
  rw [← len_of S1 q3] at hs
  exact ⟨s₂, o, X.arraylength hx (by rw [eT]; exact A.1) (State.isArrayOf_alike hZ.alike A.2.1) (g := mkF m pc Ls (.ref a :: st)) rfl rfl (hb hby hd) _ hs, r⟩
theorem go_goto (C : Cx Z a0 y by0 ml rt κ) {o : Int} {pc' : Nat} (hd : decode by0 pc = .ok (.goto o, 3))  (ho : 0 ≤ (pc : Int) + o) (hp : ((pc : Int) + o).toNat = pc') (k : Go l R Z ws h0 Q κ S h pc' Ls st ce sl) : Go l R Z ws h0 Q κ S h pc Ls st ce sl := by
  obtain ⟨p, e, s, m, args, below, meth, c⟩ := κ
  intro T locs X N eT I
  obtain ⟨hx, hby, hml, hown, hnm, hret, hlk, hZ⟩ := C
  obtain ⟨s₂, o, hs, r⟩ := k T _ X N eT I
  exact ⟨s₂, o, XS.goto X.here hx rfl (pc0 := pc) rfl (hb hby hd) ho hp hs, r⟩
theorem go_ifY (C : Cx Z a0 y by0 ml rt κ) {o : Int} {cd : ClassFile.Cond} {x : Int32} {pc' : Nat} (hd : decode by0 pc = .ok (.ifCond cd o, 3)) (hc : if_icmp.holds cd x 0 = true) (ho : 0 ≤ (pc : Int) + o) (hp : ((pc : Int) + o).toNat = pc') (k : Go l R Z ws h0 Q κ S h pc' Ls st ce sl) : Go l R Z ws h0 Q κ S h pc Ls (.int x :: st) ce sl := by
  obtain ⟨p, e, s, m, args, below, meth, c⟩ := κ
  intro T locs X N eT I
  obtain ⟨hx, hby, hml, hown, hnm, hret, hlk, hZ⟩ := C
  obtain ⟨s₂, o, hs, r⟩ := k T _ X N eT I
  exact ⟨s₂, o, XS.ifYes X.here hx rfl (pc0 := pc) rfl (hb hby hd) rfl ((if0 _ _).trans hc) ho hp hs, r⟩
theorem go_icmpY (C : Cx Z a0 y by0 ml rt κ) {o : Int} {cd : ClassFile.Cond} {x z : Int32} {pc' : Nat} (hd : decode by0 pc = .ok (.if_icmp cd o, 3)) (hc : if_icmp.holds cd x z = true) (ho : 0 ≤ (pc : Int) + o) (hp : ((pc : Int) + o).toNat = pc') (k : Go l R Z ws h0 Q κ S h pc' Ls st ce sl) : Go l R Z ws h0 Q κ S h pc Ls (.int z :: .int x :: st) ce sl := by
  obtain ⟨p, e, s, m, args, below, meth, c⟩ := κ
  intro T locs X N eT I
  obtain ⟨hx, hby, hml, hown, hnm, hret, hlk, hZ⟩ := C
  obtain ⟨s₂, o, hs, r⟩ := k T _ X N eT I
  exact ⟨s₂, o, XS.icmpYes X.here hx rfl (pc0 := pc) rfl (hb hby hd) rfl hc ho hp hs, r⟩
theorem go_acmp (C : Cx Z a0 y by0 ml rt κ) {o : Int} {cd : ACond} {x z : Value} {b : Bool} {pc' : Nat} (hd : decode by0 pc = .ok (.if_acmp cd o, 3)) (h1 : x.isRef = true) (h2 : z.isRef = true) (hq : decide (x = z) = b) (ho : 0 ≤ (pc : Int) + o) (hp : pc' = if acV cd b = true then ((pc : Int) + o).toNat else pc + 3) (k : Go l R Z ws h0 Q κ S h pc' Ls st ce sl) : Go l R Z ws h0 Q κ S h pc Ls (z :: x :: st) ce sl := by
  obtain ⟨p, e, s, m, args, below, meth, c⟩ := κ
  intro T locs X N eT I
  obtain ⟨hx, hby, hml, hown, hnm, hret, hlk, hZ⟩ := C
  obtain ⟨s₂, o, hs, r⟩ := k T _ X N eT I
  exact ⟨s₂, o, Jvm.RoadKit.acmp (g := mkF m pc Ls (z :: x :: st)) X hx rfl h1 h2 (pc0 := pc) rfl (hb hby hd) rfl hq ho hp hs, r⟩
theorem go_getF (C : Cx Z a0 y by0 ml rt κ) (pc' : Nat) {ix : Nat} {R0 O n d : String} {a : Addr} {v : Value} (hd : decode by0 pc = .ok (.getfield ix, 3)) (hpc : pc + 3 = pc') (w : (Cond.fieldLink y.cls ix R0 n d).before a0 Z = true) (via : Via Z R0 O n d) (F : Fld Z h a O n d v) (k : Go l R Z ws h0 Q κ S h pc' Ls (v :: st) ce sl) : Go l R Z ws h0 Q κ S h pc Ls (.ref a :: st) ce sl := by
  subst hpc
  obtain ⟨p, e, s, m, args, below, meth, c⟩ := κ
  intro T locs X N eT I
  obtain ⟨hx, hby, hml, hown, hnm, hret, hlk, hZ⟩ := C
  obtain ⟨T', X', e', st'⟩ := getF X hx hZ hown (host := "") (Or.inl w) via eT F (g := mkF m pc Ls (.ref a :: st)) rfl rfl (hb hby hd)
  obtain ⟨s₂, o, hs, r⟩ := k T' _ X' N e' I
  exact ⟨s₂, o, st' _ hs, r⟩
theorem go_getS (C : Cx Z a0 y by0 ml rt κ) (pc' : Nat) {ix : Nat} {O n d : String} {v : Value} (hd : decode by0 pc = .ok (.getstatic ix, 3)) (hpc : pc + 3 = pc') (w : (Cond.fieldLink y.cls ix O n d).before a0 Z = true) (F : Sta Z Z.heap O n d v) (k : Go l R Z ws h0 Q κ S h pc' Ls (v :: st) ce sl) : Go l R Z ws h0 Q κ S h pc Ls st ce sl := by
  subst hpc
  obtain ⟨p, e, s, m, args, below, meth, c⟩ := κ
  intro T locs X N eT I
  obtain ⟨hx, hby, hml, hown, hnm, hret, hlk, hZ⟩ := C
  obtain ⟨T', X', e', st'⟩ := getS2 X hx hZ hown (host := "") (Or.inl w) Via.refl eT (F.ext I.1) (g := mkF m pc Ls st) rfl (hb hby hd)
  obtain ⟨s₂, o, hs, r⟩ := k T' _ X' N e' I
  exact ⟨s₂, o, st' _ hs, r⟩
theorem go_cast (C : Cx Z a0 y by0 ml rt κ) (pc' : Nat) {ix : Nat} {K : String} {a : Addr} (hd : decode by0 pc = .ok (.checkcast ix, 3)) (hpc : pc + 3 = pc') (w : (Cond.classLink y.cls ix K).before a0 Z = true) (F : Ins Z h a K true) (k : Go l R Z ws h0 Q κ S h pc' Ls (.ref a :: st) ce sl) : Go l R Z ws h0 Q κ S h pc Ls (.ref a :: st) ce sl := by
  subst hpc
  obtain ⟨p, e, s, m, args, below, meth, c⟩ := κ
  intro T locs X N eT I
  obtain ⟨hx, hby, hml, hown, hnm, hret, hlk, hZ⟩ := C
  obtain ⟨T', X', e', st'⟩ := castY X hx hZ hown w eT F (g := mkF m pc Ls (.ref a :: st)) rfl rfl (hb hby hd)
  obtain ⟨s₂, o, hs, r⟩ := k T' _ X' N e' I
  exact ⟨s₂, o, st' _ hs, r⟩
theorem go_initO (C : Cx Z a0 y by0 ml rt κ) (pc' : Nat) {ix : Nat} {a : Addr} {W : Nat} (hd : decode by0 pc = .ok (.invokespecial ix, 3)) (hpc : pc + 3 = pc') (w1 : (Cond.methodLink y.cls ix Lib.objectInit).before a0 Z = true) (w2 : (Cond.instanceMethod Lib.objectInit).before a0 Z = true) (w3 : (Cond.code Lib.objectInit ⟨#[0xb1]⟩ 1 none).before a0 Z = true) (hls : Ls.size = ml) (hf : 1 ≤ R.frames) (hW : (st.map fun v => v.category).sum ≤ W) (hlo : W + 12 ≤ R.locals) (k : Go l R Z ws h0 Q κ S h pc' Ls st ce sl) : Go l R Z ws h0 Q κ S h pc Ls (.ref a :: st) ce sl := by
  subst hpc
  obtain ⟨p, e, s, m, args, below, meth, c⟩ := κ
  intro T locs X N eT I
  obtain ⟨hx, hby, hml, hown, hnm, hret, hlk, hZ⟩ := C
  obtain ⟨T', X', e', st'⟩ := initO X hx hZ hown w1 w2 w3 eT (g := mkF m pc Ls (.ref a :: st)) rfl (hls.trans hml.symm) rfl (hb hby hd) hf (W := W) (by show 2 * 0 + _ ≤ _; rw [Nat.mul_zero, Nat.zero_add]; exact hW) hlo
  obtain ⟨s₂, o, hs, r⟩ := k T' _ X' N e' I
  exact ⟨s₂, o, st' _ hs, r⟩
theorem go_putF (C : Cx Z a0 y by0 ml rt κ) (pc' : Nat) {ix kk : Nat} {R0 O n d Cn : String} {ty : FieldType} {a : Addr} {v old : Value} (hd : decode by0 pc = .ok (.putfield ix, 3)) (hpc : pc + 3 = pc') (w : (Cond.fieldLink y.cls ix R0 n d).before a0 Z = true) (via : Via Z R0 O n d) (F : Fld Z h a O n d old) (E : Exa Z h a Cn) (L : (Cond.lays Cn O n d).before a0 Z = true ∨ ((Cond.laysFinal Cn O n d).before a0 Z = true ∧ y.cls = O ∧ y.name = "<init>")) (wi : (Cond.instantiable Cn kk).before a0 Z = true) (hty : parseFieldDescriptor d = some ty) (hn : narrow ty v = v) (hf : fits ty v = true) (ha : a ∈ S) (k : ∀ h', Wr h h' a (RoadKit.slotOf Z O n d) v → Go l R Z ws h0 Q κ S h' pc' Ls st ce sl) : Go l R Z ws h0 Q κ S h pc Ls (v :: .ref a :: st) ce sl := by
  subst hpc
  obtain ⟨p, e, s, m, args, below, meth, c⟩ := κ
  intro T locs X N eT I
  obtain ⟨hx, hby, hml, hown, hnm, hret, hlk, hZ⟩ := C
  obtain ⟨T', h', X', e', W, st'⟩ := putF X hx hZ hown (host := "") (Or.inl w) via eT F E (L.imp id fun q => ⟨q.1, q.2.1, hnm.trans q.2.2⟩) wi hty hn hf (g := mkF m pc Ls (v :: .ref a :: st)) rfl rfl (hb hby hd)
  obtain ⟨s₂, o, hs, r⟩ := (k h' W) T' _ X' (fr_snoc N (I.2.2 _ ha).2.1) e' (I.wr W ha)
  exact ⟨s₂, o, st' _ hs, r⟩
theorem go_putFN (C : Cx Z a0 y by0 ml rt κ) (pc' : Nat) {ix kk : Nat} {R0 O n d Cn : String} {ty : FieldType} {a : Addr} {v v' old : Value} (hd : decode by0 pc = .ok (.putfield ix, 3)) (hpc : pc + 3 = pc') (w : (Cond.fieldLink y.cls ix R0 n d).before a0 Z = true) (via : Via Z R0 O n d) (F : Fld Z h a O n d old) (E : Exa Z h a Cn) (L : (Cond.lays Cn O n d).before a0 Z = true ∨ ((Cond.laysFinal Cn O n d).before a0 Z = true ∧ y.cls = O ∧ y.name = "<init>")) (wi : (Cond.instantiable Cn kk).before a0 Z = true) (hty : parseFieldDescriptor d = some ty) (hn : narrow ty v = v') (hf : fits ty v' = true) (ha : a ∈ S) (k : ∀ h', Wr h h' a (RoadKit.slotOf Z O n d) v' → Go l R Z ws h0 Q κ S h' pc' Ls st ce sl) : Go l R Z ws h0 Q κ S h pc Ls (v :: .ref a :: st) ce sl := by
  subst hpc
  obtain ⟨p, e, s, m, args, below, meth, c⟩ := κ
  intro T locs X N eT I
  obtain ⟨hx, hby, hml, hown, hnm, hret, hlk, hZ⟩ := C
  obtain ⟨T', h', X', e', W, st'⟩ := putFN X hx hZ hown w via eT F E (L.imp id fun q => ⟨q.1, q.2.1, hnm.trans q.2.2⟩) wi hty hn hf (g := mkF m pc Ls (v :: .ref a :: st)) rfl rfl (hb hby hd)
  obtain ⟨s₂, o, hs, r⟩ := (k h' W) T' _ X' (fr_snoc N (I.2.2 _ ha).2.1) e' (I.wr W ha)
  exact ⟨s₂, o, st' _ hs, r⟩
theorem go_new (C : Cx Z a0 y by0 ml rt κ) (pc' ce' sl' : Nat) {ix n : Nat} {Cn : String} (hd : decode by0 pc = .ok (.new ix, 3)) (hce : ce + 1 = ce') (hsl' : sl + n = sl') (hpc : pc + 3 = pc') (w : (Cond.classLink y.cls ix Cn).before a0 Z = true) (wi : (Cond.instantiable Cn n).before a0 Z = true) (wz : (Cond.initialized Cn).before a0 Z = true) (hc : ce + 1 ≤ R.cells) (hsl : sl + n ≤ R.slots) (k : ∀ (a : Addr) h', a = h.size → Ext h h' → Exa Z h' a Cn → (∀ {O nm d : String} {ty : FieldType}, Laid Z a0 Cn O nm d → parseFieldDescriptor d = some ty → Fld Z h' a O nm d (defaultValue ty)) → Go l R Z ws h0 Q κ (a :: S) h' pc' Ls (.ref a :: st) ce' sl') : Go l R Z ws h0 Q κ S h pc Ls st ce sl := by
  subst hpc hce hsl'
  obtain ⟨p, e, s, m, args, below, meth, c⟩ := κ
  intro T locs X N eT I
  obtain ⟨hx, hby, hml, hown, hnm, hret, hlk, hZ⟩ := C
  obtain ⟨T', h', X', e', E, A, D, -, st'⟩ := newO X hx hZ hown w wi wz eT (g := mkF m pc Ls st) rfl (hb hby hd) hc hsl
  obtain ⟨s₂, o, hs, r⟩ := (k _ h' rfl E A @D) T' _ X' N e' (I.new E A.lt)
  exact ⟨s₂, o, st' _ hs, r⟩
theorem go_newP (C : Cx Z a0 y by0 ml rt κ) (pc' ce' sl' : Nat) {aty : ArrayType} {ty : FieldType} {n : Int32} {cap : Nat} (hd : decode by0 pc = .ok (.newarray aty, 2)) (hce : ce + 1 = ce') (hsl' : sl + cap = sl') (hpc : pc + 2 = pc') (hty : newarray.typeOf aty = ty) (w : (Cond.arrayClass ty).before a0 Z = true) (hn : ¬ n < 0) (hcap : n.toNatClampNeg ≤ cap) (hbig : cap * 8 ≤ 536870912) (hc : ce + 1 ≤ R.cells) (hsl : sl + cap ≤ R.slots) (k : ∀ (a : Addr) h' kc, a = h.size → Ext h h' → Arv Z h' a kc ty n (List.replicate n.toNatClampNeg (defaultValue ty)) (defaultValue ty) → Go l R Z ws h0 Q κ (a :: S) h' pc' Ls (.ref a :: st) ce' sl') : Go l R Z ws h0 Q κ S h pc Ls (.int n :: st) ce sl := by
  subst hpc hce hsl'
  subst hty
  obtain ⟨p, e, s, m, args, below, meth, c⟩ := κ
  intro T locs X N eT I
  obtain ⟨hx, hby, hml, hown, hnm, hret, hlk, hZ⟩ := C
  obtain ⟨T', h', kc, X', e', E, A, st'⟩ := newP X hx hZ w eT (g := mkF m pc Ls (.int n :: st)) rfl (hb hby hd) rfl hn hcap hbig hc hsl
  have V := (Arv.new A hn).pad (vs' := List.replicate n.toNatClampNeg (defaultValue (newarray.typeOf aty))) (pad_rep [] (defaultValue (newarray.typeOf aty)) n.toNatClampNeg)
  obtain ⟨s₂, o, hs, r⟩ := (k _ h' kc rfl E V) T' _ X' N e' (I.new E A.lt)
  exact ⟨s₂, o, st' _ hs, r⟩
theorem go_newR (C : Cx Z a0 y by0 ml rt κ) (pc' ce' sl' : Nat) {ix : Nat} {Cn : String} {n : Int32} {cap : Nat} (hd : decode by0 pc = .ok (.anewarray ix, 3)) (hce : ce + 1 = ce') (hsl' : sl + cap = sl') (hpc : pc + 3 = pc') (w1 : (Cond.classLink y.cls ix Cn).before a0 Z = true) (w2 : (Cond.arrayOver (.object Cn)).before a0 Z = true) (hn : ¬ n < 0) (hcap : n.toNatClampNeg ≤ cap) (hbig : cap * 8 ≤ 536870912) (hc : ce + 1 ≤ R.cells) (hsl : sl + cap ≤ R.slots) (k : ∀ (a : Addr) h' kc, a = h.size → Ext h h' → Arv Z h' a kc (.object Cn) n (List.replicate n.toNatClampNeg .null) .null → Ovr Z kc Cn → Go l R Z ws h0 Q κ (a :: S) h' pc' Ls (.ref a :: st) ce' sl') : Go l R Z ws h0 Q κ S h pc Ls (.int n :: st) ce sl := by
  subst hpc hce hsl'
  obtain ⟨p, e, s, m, args, below, meth, c⟩ := κ
  intro T locs X N eT I
  obtain ⟨hx, hby, hml, hown, hnm, hret, hlk, hZ⟩ := C
  obtain ⟨T', h', kc, X', e', E, A, OV, st'⟩ := newR X hx hZ hown w1 w2 eT (g := mkF m pc Ls (.int n :: st)) rfl (hb hby hd) rfl hn hcap hbig hc hsl
  have V := (Arv.new A hn).pad (vs' := List.replicate n.toNatClampNeg .null) (pad_rep [] .null n.toNatClampNeg)
  obtain ⟨s₂, o, hs, r⟩ := (k _ h' kc rfl E V OV) T' _ X' N e' (I.new E A.lt)
  exact ⟨s₂, o, st' _ hs, r⟩
theorem go_castore (C : Cx Z a0 y by0 ml rt κ) (pc' : Nat) {a : Addr} {kc : ClassId} {n j x : Int32} {vs : List Value} {d : Value} (i : Nat) {v : Int32} (hv : nar .char x = v) (hd : decode by0 pc = .ok (.castore, 1)) (hpc : pc + 1 = pc') (F : Arv Z h a kc .char n vs d) (hj : ¬ j < 0 ∧ j < n) (hi : j.toNatClampNeg = i) (hl : i < vs.length) (ha : a ∈ S) (k : ∀ h', Wr h h' a j.toNatClampNeg (.int v) → Arv Z h' a kc .char n (vs.set i (.int v)) d → Go l R Z ws h0 Q κ S h' pc' Ls st ce sl) : Go l R Z ws h0 Q κ S h pc Ls (.int x :: .int j :: .ref a :: st) ce sl := by
  subst hv hpc
  obtain ⟨p, e, s, m, args, below, meth, c⟩ := κ
  intro T locs X N eT I
  obtain ⟨hx, hby, hml, hown, hnm, hret, hlk, hZ⟩ := C
  obtain ⟨cl, A, q1, S1, q3, H, G⟩ := F
  obtain ⟨T', h', X', e', W, st'⟩ := stC X hx hZ eT A (inb_of S1 hj) (g := mkF m pc Ls (.int x :: .int j :: .ref a :: st)) rfl rfl (hb hby hd)
  have V := Arv.set A q1 S1 q3 H G (fits_nar_char _) W i hi hl
  obtain ⟨s₂, o, hs, r⟩ := (k h' W V) T' _ X' (fr_snoc N (I.2.2 _ ha).2.1) e' (I.wr W ha)
  exact ⟨s₂, o, st' _ hs, r⟩
theorem go_bastore (C : Cx Z a0 y by0 ml rt κ) (pc' : Nat) {a : Addr} {kc : ClassId} {n j x : Int32} {vs : List Value} {d : Value} (i : Nat) {v : Int32} (hv : nar .byte x = v) (hd : decode by0 pc = .ok (.bastore, 1)) (hpc : pc + 1 = pc') (F : Arv Z h a kc .byte n vs d) (hj : ¬ j < 0 ∧ j < n) (hi : j.toNatClampNeg = i) (hl : i < vs.length) (ha : a ∈ S) (k : ∀ h', Wr h h' a j.toNatClampNeg (.int v) → Arv Z h' a kc .byte n (vs.set i (.int v)) d → Go l R Z ws h0 Q κ S h' pc' Ls st ce sl) : Go l R Z ws h0 Q κ S h pc Ls (.int x :: .int j :: .ref a :: st) ce sl := by
  subst hv hpc
  obtain ⟨p, e, s, m, args, below, meth, c⟩ := κ
  intro T locs X N eT I
  obtain ⟨hx, hby, hml, hown, hnm, hret, hlk, hZ⟩ := C
  obtain ⟨cl, A, q1, S1, q3, H, G⟩ := F
  obtain ⟨T', h', X', e', W, st'⟩ := stB X hx hZ eT A (inb_of S1 hj) (g := mkF m pc Ls (.int x :: .int j :: .ref a :: st)) rfl rfl (hb hby hd)
  have V := Arv.set A q1 S1 q3 H G (fits_nar_byte _) W i hi hl
  obtain ⟨s₂, o, hs, r⟩ := (k h' W V) T' _ X' (fr_snoc N (I.2.2 _ ha).2.1) e' (I.wr W ha)
  exact ⟨s₂, o, st' _ hs, r⟩
theorem go_aastore (C : Cx Z a0 y by0 ml rt κ) (pc' : Nat) {a : Addr} {kc : ClassId} {ty : FieldType} {n j : Int32} {v : Value} {vs : List Value} {d : Value} (i : Nat) (hd : decode by0 pc = .ok (.aastore, 1)) (hpc : pc + 1 = pc') (F : Arv Z h a kc ty n vs d) (ht : ty.isReference = true) (hf : fits ty v = true) (hSt : Sto Z h a v) (hj : ¬ j < 0 ∧ j < n) (hi : j.toNatClampNeg = i) (hl : i < vs.length) (ha : a ∈ S) (k : ∀ h', Wr h h' a j.toNatClampNeg v → Arv Z h' a kc ty n (vs.set i v) d → Go l R Z ws h0 Q κ S h' pc' Ls st ce sl) : Go l R Z ws h0 Q κ S h pc Ls (v :: .int j :: .ref a :: st) ce sl := by
  subst hpc
  obtain ⟨p, e, s, m, args, below, meth, c⟩ := κ
  intro T locs X N eT I
  obtain ⟨hx, hby, hml, hown, hnm, hret, hlk, hZ⟩ := C
  obtain ⟨cl, A, q1, S1, q3, H, G⟩ := F
  obtain ⟨T', h', X', e', W, st'⟩ := stR X hx hZ eT A (inb_of S1 hj) ht hSt (g := mkF m pc Ls (v :: .int j :: .ref a :: st)) rfl rfl (hb hby hd)
  have V := Arv.set A q1 S1 q3 H G hf W i hi hl
  obtain ⟨s₂, o, hs, r⟩ := (k h' W V) T' _ X' (fr_snoc N (I.2.2 _ ha).2.1) e' (I.wr W ha)
  exact ⟨s₂, o, st' _ hs, r⟩
theorem go_old (k : Ext Z.heap h → h0.size ≤ h.size → Go l R Z ws h0 Q κ S h pc Ls st ce sl) : Go l R Z ws h0 Q κ S h pc Ls st ce sl := by
  obtain ⟨p, e, s, m, args, below, meth, c⟩ := κ
  intro T locs X N eT I
  exact k I.1 I.2.1.1 T locs X N eT I
theorem go_ret (C : Cx Z a0 y by0 ml rt κ) (hd : decode by0 pc = .ok (.return_, 1)) (hrt : rt = none) (hc : ce ≤ R.cells) (hsl : sl ≤ R.slots) (hq : Q none h) : Go l R Z ws h0 Q κ S h pc Ls [] ce sl := by
  obtain ⟨p, e, s, m, args, below, meth, c⟩ := κ
  intro T locs X N eT I
  obtain ⟨hx, hby, hml, hown, hnm, hret, hlk, hZ⟩ := C
  obtain ⟨fs, hr, hrun, hended, hW, hsame⟩ := X.leave (v := none) (fun _ => rfl) hlk
  have hq' : Keep h0 (T.setFrames fs).heap ws ∧ Q (none) (T.setFrames fs).heap := by
    show Keep h0 T.heap ws ∧ Q _ T.heap
    rw [eT]; exact ⟨I.2.1, hq⟩
  exact ⟨_, _, X.returnOut hx (hret.trans hrt) (hb hby hd) hr, hrun, hended, _, _, rfl, ⟨hq'.1, hq'.2, N⟩, ⟨_, rfl⟩, hW, hsame.mono hc hsl⟩
theorem go_retN (C : Cx Z a0 y by0 ml rt κ) {t : FieldType} {x z : Int32} (hd : decode by0 pc = .ok (.ireturn, 1)) (hrt : rt = some t) (ht : t = .boolean ∨ t = .byte ∨ t = .char ∨ t = .short) (hz : nar t x = z) (hc : ce ≤ R.cells) (hsl : sl ≤ R.slots) (hq : Q (some (.int z)) h) : Go l R Z ws h0 Q κ S h pc Ls (.int x :: st) ce sl := by
  subst hz
  obtain ⟨p, e, s, m, args, below, meth, c⟩ := κ
  intro T locs X N eT I
  obtain ⟨hx, hby, hml, hown, hnm, hret, hlk, hZ⟩ := C
  obtain ⟨fs, hr, hrun, hended, hW, hsame⟩ := X.leave (v := some (.int (nar t x))) (fun q => by rw [hret, hrt] at q; cases q) hlk
  have hq' : Keep h0 (T.setFrames fs).heap ws ∧ Q (some (.int (nar t x))) (T.setFrames fs).heap := by
    show Keep h0 T.heap ws ∧ Q _ T.heap
    rw [eT]; exact ⟨I.2.1, hq⟩
  exact ⟨_, _, retN X hx (hret.trans hrt) ht (hb hby hd) hr, hrun, hended, _, _, rfl, ⟨hq'.1, hq'.2, N⟩, ⟨_, rfl⟩, hW, hsame.mono hc hsl⟩
theorem go_retI (C : Cx Z a0 y by0 ml rt κ) {x : Int32} (hd : decode by0 pc = .ok (.ireturn, 1)) (hrt : rt = some .int) (hc : ce ≤ R.cells) (hsl : sl ≤ R.slots) (hq : Q (some (.int x)) h) : Go l R Z ws h0 Q κ S h pc Ls (.int x :: st) ce sl := by
  obtain ⟨p, e, s, m, args, below, meth, c⟩ := κ
  intro T locs X N eT I
  obtain ⟨hx, hby, hml, hown, hnm, hret, hlk, hZ⟩ := C
  obtain ⟨fs, hr, hrun, hended, hW, hsame⟩ := X.leave (v := some (.int x)) (fun q => by rw [hret, hrt] at q; cases q) hlk
  have hq' : Keep h0 (T.setFrames fs).heap ws ∧ Q (some (.int x)) (T.setFrames fs).heap := by
    show Keep h0 T.heap ws ∧ Q _ T.heap
    rw [eT]; exact ⟨I.2.1, hq⟩
  exact ⟨_, _, retOut X hx (hret.trans hrt) rfl (Or.inl ⟨rfl, Or.inl rfl, _, rfl⟩) (hb hby hd) hr, hrun, hended, _, _, rfl, ⟨hq'.1, hq'.2, N⟩, ⟨_, rfl⟩, hW, hsame.mono hc hsl⟩
theorem go_retA (C : Cx Z a0 y by0 ml rt κ) {v : Value} {t : FieldType} (hd : decode by0 pc = .ok (.areturn, 1)) (hrt : rt = some t) (ht : t.isReference = true) (hv : v.isRef = true) (hc : ce ≤ R.cells) (hsl : sl ≤ R.slots) (hq : Q (some v) h) : Go l R Z ws h0 Q κ S h pc Ls (v :: st) ce sl := by
  obtain ⟨p, e, s, m, args, below, meth, c⟩ := κ
  intro T locs X N eT I
  obtain ⟨hx, hby, hml, hown, hnm, hret, hlk, hZ⟩ := C
  obtain ⟨fs, hr, hrun, hended, hW, hsame⟩ := X.leave (v := some v) (fun q => by rw [hret, hrt] at q; cases q) hlk
  have hq' : Keep h0 (T.setFrames fs).heap ws ∧ Q (some v) (T.setFrames fs).heap := by
    show Keep h0 T.heap ws ∧ Q _ T.heap
    rw [eT]; exact ⟨I.2.1, hq⟩
  have hn : narrow t v = v := by cases t <;> first | (cases ht; done) | (cases v <;> first | rfl | cases hv)
  exact ⟨_, _, retOut X hx (hret.trans hrt) hn (Or.inr (Or.inr (Or.inr (Or.inr ⟨rfl, ht, hv⟩)))) (hb hby hd) hr, hrun, hended, _, _, rfl, ⟨hq'.1, hq'.2, N⟩, ⟨_, rfl⟩, hW, hsame.mono hc hsl⟩
theorem go_callS (C : Cx Z a0 y by0 ml rt κ) {z : MethodName} {fr lo cc ss : Nat} {ws' : List Addr} {Qz : Option Value → Heap → Prop} {ps : List FieldType} {rr : Option FieldType} {argsL : List Value} {ix W : Nat} (hd : decode by0 pc = .ok (.invokestatic ix, 3)) {bz : ByteArray} {mlz : Nat} {rtz : Option FieldType} (w1 : (Cond.methodLink y.cls ix z).before a0 Z = true) (w2 : (Cond.static z).before a0 Z = true) (wz : (Cond.initialized z.cls).before a0 Z = true) (wc : (Cond.code z bz mlz rtz).before a0 Z = true) (hy : z.cls ≠ "java/lang/invoke/MethodHandle" ∧ z.cls ≠ "java/lang/invoke/VarHandle") (hps : parseMethodDescriptor z.desc = some ⟨ps, rr⟩) (hM : Py l Z z fr lo cc ss argsL.toArray h ws' Qz) (hlen : argsL.length = ps.length) (hf : fr ≤ R.frames) (hW : (st.map fun v => v.category).sum ≤ W) (hlo : W + lo ≤ R.locals) (hls : Ls.size = ml) (hc : ce + cc ≤ R.cells) (hsl : sl + ss ≤ R.slots) (hws : ∀ x ∈ ws', x ∈ S) (k : ∀ v h', Keep h h' ws' → Qz v h' → ∃ bs, (∀ b ∈ bs, h.size ≤ b ∧ b < h'.size) ∧ Go l R Z ws h0 Q κ (bs ++ S) h' (pc + 3) Ls (v.toList ++ st) (ce + cc) (sl + ss)) : Go l R Z ws h0 Q κ S h pc Ls (argsL.reverse ++ st) ce sl := by
  obtain ⟨p, e, s, m, args, below, meth, c⟩ := κ
  intro T locs X N eT I
  obtain ⟨hx, hby, hml, hown, hnm, hret, hlk, hZ⟩ := C
  have hO := fun x hx => (⟨(I.2.2 x (hws x hx)).1, (I.2.2 x (hws x hx)).2.1⟩ : x < h.size ∧ Z.heap.size ≤ x)
  have hB := hM I.1 hO p e R below s args 3 W hZ hf hlo
  obtain ⟨v, _, ⟨T', L', k', n'⟩, -, X', ⟨Lc, hQ, l', y', z'⟩, st'⟩ := Jvm.LawKit.callS X hx hown (mvT hZ w1) (mvT hZ w2) (mvT hZ wz) (mvT hZ wc) hy hB (g := mkF m pc Ls (argsL.reverse ++ st)) rfl (hls.trans hml.symm) (argsL := argsL) (rest := st) (lenOf hps hlen) rfl (by show 2 * 0 + _ ≤ _; rw [Nat.mul_zero, Nat.zero_add]; exact hW) (hb hby hd) (fun _ _ => ⟨rfl, eT, hc, hsl⟩)
  dsimp only [Pt.U, Pt.locs, Pt.cells, Pt.slots] at X' l' y' z' st' hQ
  subst l' y' z'
  obtain ⟨K, hQ, N'⟩ := hQ
  have NN := Fr.app N N'
  obtain ⟨bs, hbs, kk⟩ := k v T'.heap K hQ
  obtain ⟨s₂, o, hs, r⟩ := kk T' _ X' NN rfl (I.add (I.keep K hws) hbs)
  exact ⟨s₂, o, st' _ hs, r⟩
theorem go_callI (C : Cx Z a0 y by0 ml rt κ) {z : MethodName} {fr lo cc ss : Nat} {ws' : List Addr} {Qz : Option Value → Heap → Prop} {ps : List FieldType} {rr : Option FieldType} {argsL : List Value} {ix W : Nat} {a : Addr} (hd : decode by0 pc = .ok (.invokespecial ix, 3)) {bz : ByteArray} {mlz : Nat} (hin : z.name = "<init>") (w1 : (Cond.methodLink y.cls ix z).before a0 Z = true) (w2 : (Cond.instanceMethod z).before a0 Z = true) (wc : (Cond.code z bz mlz none).before a0 Z = true) (hy : z.cls ≠ "java/lang/invoke/MethodHandle" ∧ z.cls ≠ "java/lang/invoke/VarHandle") (hps : parseMethodDescriptor z.desc = some ⟨ps, rr⟩) (hM : Py l Z z fr lo cc ss (.ref a :: argsL).toArray h ws' Qz) (hlen : argsL.length = ps.length) (hf : fr ≤ R.frames) (hW : (st.map fun v => v.category).sum ≤ W) (hlo : W + lo ≤ R.locals) (hls : Ls.size = ml) (hc : ce + cc ≤ R.cells) (hsl : sl + ss ≤ R.slots) (hws : ∀ x ∈ ws', x ∈ S) (k : ∀ v h', Keep h h' ws' → Qz v h' → ∃ bs, (∀ b ∈ bs, h.size ≤ b ∧ b < h'.size) ∧ Go l R Z ws h0 Q κ (bs ++ S) h' (pc + 3) Ls (v.toList ++ st) (ce + cc) (sl + ss)) : Go l R Z ws h0 Q κ S h pc Ls (argsL.reverse ++ .ref a :: st) ce sl := by
  obtain ⟨p, e, s, m, args, below, meth, c⟩ := κ
  intro T locs X N eT I
  obtain ⟨hx, hby, hml, hown, hnm, hret, hlk, hZ⟩ := C
  have hO := fun x hx => (⟨(I.2.2 x (hws x hx)).1, (I.2.2 x (hws x hx)).2.1⟩ : x < h.size ∧ Z.heap.size ≤ x)
  have hB := hM I.1 hO p e R below s args 3 W hZ hf hlo
  obtain ⟨v, _, ⟨T', L', k', n'⟩, -, X', ⟨Lc, hQ, l', y', z'⟩, st'⟩ := X.specialBack hx hin hown (mvT hZ w1) (mvT hZ w2) (mvT hZ wc) hy hB (g := mkF m pc Ls (argsL.reverse ++ Value.ref a :: st)) rfl (hls.trans hml.symm) (Steps.refl _) (a := a) (argsL := argsL) (rest := st) (lenOf hps hlen) rfl (by show 2 * 0 + _ ≤ _; rw [Nat.mul_zero, Nat.zero_add]; exact hW) (hb hby hd) (fun _ _ => ⟨rfl, eT, hc, hsl⟩)
  dsimp only [Pt.U, Pt.locs, Pt.cells, Pt.slots] at X' l' y' z' st' hQ
  subst l' y' z'
  obtain ⟨K, hQ, N'⟩ := hQ
  have NN := Fr.app N N'
  obtain ⟨bs, hbs, kk⟩ := k v T'.heap K hQ
  obtain ⟨s₂, o, hs, r⟩ := kk T' _ X' NN rfl (I.add (I.keep K hws) hbs)
  exact ⟨s₂, o, st'.trans hs, r⟩
theorem go_callV (C : Cx Z a0 y by0 ml rt κ) {z : MethodName} {fr lo cc ss : Nat} {ws' : List Addr} {Qz : Option Value → Heap → Prop} {ps : List FieldType} {rr : Option FieldType} {argsL : List Value} {ix W : Nat} {a : Addr} (hd : decode by0 pc = .ok (.invokevirtual ix, 3)) {y1 : MethodName} {Cn : String} (w1 : (Cond.methodLink y.cls ix y1).before a0 Z = true) (w2 : (Cond.declares y1).before a0 Z = true) (nf : ∀ (s : State), Z.Warmed39 s.vm → NotFace s y1) (w3 : (Cond.selects Cn y1 z).before a0 Z = true) (w4 : (Cond.instanceMethod z).before a0 Z = true) (EX : Exa Z h a Cn) (hy : y1.cls ≠ "java/lang/invoke/MethodHandle" ∧ y1.cls ≠ "java/lang/invoke/VarHandle") (hps : parseMethodDescriptor y1.desc = some ⟨ps, rr⟩) (hM : Py l Z z fr lo cc ss (.ref a :: argsL).toArray h ws' Qz) (hlen : argsL.length = ps.length) (hf : fr ≤ R.frames) (hW : (st.map fun v => v.category).sum ≤ W) (hlo : W + lo ≤ R.locals) (hls : Ls.size = ml) (hc : ce + cc ≤ R.cells) (hsl : sl + ss ≤ R.slots) (hws : ∀ x ∈ ws', x ∈ S) (k : ∀ v h', Keep h h' ws' → Qz v h' → ∃ bs, (∀ b ∈ bs, h.size ≤ b ∧ b < h'.size) ∧ Go l R Z ws h0 Q κ (bs ++ S) h' (pc + 3) Ls (v.toList ++ st) (ce + cc) (sl + ss)) : Go l R Z ws h0 Q κ S h pc Ls (argsL.reverse ++ .ref a :: st) ce sl := by
  obtain ⟨p, e, s, m, args, below, meth, c⟩ := κ
  intro T locs X N eT I
  obtain ⟨hx, hby, hml, hown, hnm, hret, hlk, hZ⟩ := C
  have hO := fun x hx => (⟨(I.2.2 x (hws x hx)).1, (I.2.2 x (hws x hx)).2.1⟩ : x < h.size ∧ Z.heap.size ≤ x)
  have hB := hM I.1 hO p e R below s args 3 W hZ hf hlo
  obtain ⟨v, _, ⟨T', L', k', n'⟩, -, X', ⟨Lc, hQ, l', y', z'⟩, st'⟩ := (let ⟨cq, kq, qa, qb, qc⟩ := isOf hZ eT EX; X.virtualBack hx hown (mvT hZ w1) (mvT hZ w2) (nf _ hZ) (mvT hZ w3) (mvT hZ w4) hy hB qa qc (g := mkF m pc Ls (argsL.reverse ++ Value.ref a :: st)) rfl (hls.trans hml.symm) (Steps.refl _) (argsL := argsL) (rest := st) (lenOf hps hlen) rfl (by show 2 * 0 + _ ≤ _; rw [Nat.mul_zero, Nat.zero_add]; exact hW) (hb hby hd) (fun _ _ => ⟨rfl, eT, hc, hsl⟩))
  dsimp only [Pt.U, Pt.locs, Pt.cells, Pt.slots] at X' l' y' z' st' hQ
  subst l' y' z'
  obtain ⟨K, hQ, N'⟩ := hQ
  have NN := Fr.app N N'
  obtain ⟨bs, hbs, kk⟩ := k v T'.heap K hQ
  obtain ⟨s₂, o, hs, r⟩ := kk T' _ X' NN rfl (I.add (I.keep K hws) hbs)
  exact ⟨s₂, o, st'.trans hs, r⟩
theorem go_callF (C : Cx Z a0 y by0 ml rt κ) {z : MethodName} {fr lo cc ss : Nat} {ws' : List Addr} {Qz : Option Value → Heap → Prop} {ps : List FieldType} {rr : Option FieldType} {argsL : List Value} {ix W : Nat} {cn : Nat} {a : Addr} (hd : decode by0 pc = .ok (.invokeinterface ix cn, 5)) {y1 : MethodName} {Cn : String} (w1 : (Cond.methodLink y.cls ix y1).before a0 Z = true) (w2 : (Cond.declares y1).before a0 Z = true) (w3 : (Cond.interfaceMethod y1.cls y1.cls y1.name y1.desc).before a0 Z = true) (w4 : (Cond.selects Cn y1 z).before a0 Z = true) (w5 : (Cond.instanceMethod z).before a0 Z = true) (w6 : (Cond.publicMethod z).before a0 Z = true) (w7 : (Cond.unhidden Cn y1.name y1.desc).before a0 Z = true) (w8 : (Cond.castable Cn y1.cls).before a0 Z = true) (EX : Exa Z h a Cn) (hy : y1.cls ≠ "java/lang/invoke/MethodHandle" ∧ y1.cls ≠ "java/lang/invoke/VarHandle") (hps : parseMethodDescriptor y1.desc = some ⟨ps, rr⟩) (hM : Py l Z z fr lo cc ss (.ref a :: argsL).toArray h ws' Qz) (hlen : argsL.length = ps.length) (hf : fr ≤ R.frames) (hW : (st.map fun v => v.category).sum ≤ W) (hlo : W + lo ≤ R.locals) (hls : Ls.size = ml) (hc : ce + cc ≤ R.cells) (hsl : sl + ss ≤ R.slots) (hws : ∀ x ∈ ws', x ∈ S) (k : ∀ v h', Keep h h' ws' → Qz v h' → ∃ bs, (∀ b ∈ bs, h.size ≤ b ∧ b < h'.size) ∧ Go l R Z ws h0 Q κ (bs ++ S) h' (pc + 5) Ls (v.toList ++ st) (ce + cc) (sl + ss)) : Go l R Z ws h0 Q κ S h pc Ls (argsL.reverse ++ .ref a :: st) ce sl := by
  obtain ⟨p, e, s, m, args, below, meth, c⟩ := κ
  intro T locs X N eT I
  obtain ⟨hx, hby, hml, hown, hnm, hret, hlk, hZ⟩ := C
  have hO := fun x hx => (⟨(I.2.2 x (hws x hx)).1, (I.2.2 x (hws x hx)).2.1⟩ : x < h.size ∧ Z.heap.size ≤ x)
  have hB := hM I.1 hO p e R below s args 5 W hZ hf hlo
  obtain ⟨v, _, ⟨T', L', k', n'⟩, -, X', ⟨Lc, hQ, l', y', z'⟩, st'⟩ := (let ⟨cq, kq, qa, qb, qc⟩ := isOf hZ eT EX; X.interfaceBack hx hown (mvT hZ w1) (mvT hZ w2) (mvT hZ w3 (by simp [Cond.onTables, Cond.keepsFace, Cond.faceAtom, Cond.keeps, Cond.steady, hy.1, hy.2])) (mvT hZ w4) (mvT hZ w5) (mvT hZ w6) (mvT hZ w7) (mvT hZ w8) hy hB qa qb qc (g := mkF m pc Ls (argsL.reverse ++ Value.ref a :: st)) rfl (hls.trans hml.symm) (Steps.refl _) (argsL := argsL) (rest := st) (lenOf hps hlen) rfl (by show 2 * 0 + _ ≤ _; rw [Nat.mul_zero, Nat.zero_add]; exact hW) (hb hby hd) (fun _ _ => ⟨rfl, eT, hc, hsl⟩))
  dsimp only [Pt.U, Pt.locs, Pt.cells, Pt.slots] at X' l' y' z' st' hQ
  subst l' y' z'
  obtain ⟨K, hQ, N'⟩ := hQ
  have NN := Fr.app N N'
  obtain ⟨bs, hbs, kk⟩ := k v T'.heap K hQ
  obtain ⟨s₂, o, hs, r⟩ := kk T' _ X' NN rfl (I.add (I.keep K hws) hbs)
  exact ⟨s₂, o, st'.trans hs, r⟩
end StepsN

theorem sto_arv {Z : State} {h : Heap} {a b : Addr} {kc : ClassId} {ty : FieldType} {n : Int32} {vs : List Value} {d : Value} {C : String} (F : Arv Z h a kc ty n vs d) (O : Ovr Z kc C) (I : Ins Z h b C true) : Sto Z h a (.ref b) := by
  obtain ⟨c, A, q, -⟩ := F
  exact Sto.ofV A q O I
theorem and_small (x m : Int32) (hm : 0 ≤ m.toInt) : ¬ (x &&& m) < 0 ∧ ¬ m < (x &&& m) := by
  have h := c_and x m hm
  constructor
  · rw [Int32.lt_iff_toInt_lt]; have e : (0 : Int32).toInt = 0 := rfl; omega
  · rw [Int32.lt_iff_toInt_lt]; omega
/-- a char: 0 to 65535 -/
def Chr (c : Int32) : Prop := ¬ c < 0 ∧ ¬ (65535 : Int32) < c
theorem Chr.nar {c : Int32} (h : Chr c) : nar .char c = c := by
  have e := c_i2c c
  have r := h
  unfold Chr at r
  rw [Int32.lt_iff_toInt_lt, Int32.lt_iff_toInt_lt] at r
  have e0 : (0 : Int32).toInt = 0 := rfl
  have e1 : (65535 : Int32).toInt = 65535 := rfl
  have q := rng32 c
  show c.toUInt32.toUInt16.toUInt32.toInt32 = c
  rw [← Int32.toInt_inj]
  omega
theorem Chr.i2c {c : Int32} (h : Chr c) : c.toUInt32.toUInt16.toUInt32.toInt32 = c := h.nar
theorem Chr.lat {c : Int32} (h0 : ¬ c < 0) (h1 : ¬ (255 : Int32) < c) : Chr c := ⟨h0, fun q => h1 (by rw [Int32.lt_iff_toInt_lt] at q ⊢; have e1 : (65535 : Int32).toInt = 65535 := rfl; have e2 : (255 : Int32).toInt = 255 := rfl; omega)⟩
theorem chr_and255 (x : Int32) : Chr (x &&& 255) := Chr.lat (and_small x 255 (by decide)).1 (and_small x 255 (by decide)).2
def lo8 (c : Int32) : Int32 := c.toInt8.toInt32
def hi8 (c : Int32) : Int32 := (c >>> ((8 : Int32) &&& 31)).toInt8.toInt32
theorem nar_byte (c : Int32) : nar .byte (c.toInt8.toInt32) = c.toInt8.toInt32 := by show c.toInt8.toInt32.toInt8.toInt32 = _; simp
theorem nar_lo8 (c : Int32) : nar .byte (lo8 c) = lo8 c := nar_byte c
theorem nar_hi8 (c : Int32) : nar .byte (hi8 c) = hi8 c := nar_byte _
theorem shr_0 (c : Int32) : c >>> ((0 : Int32) &&& 31) = c := by
  have h := c_ishr c 0 0 (by decide)
  rw [← Int32.toInt_inj, h]; simp
theorem lo8_and (c : Int32) : (lo8 c &&& 255).toInt = c.toInt % 256 := by
  have h := c_mask (lo8 c) 255 8 (by decide) (by decide)
  have q := c_i2b c
  have e : (lo8 c).toInt = c.toInt8.toInt32.toInt := rfl
  rw [h, e]
  have e2 : ((2 ^ 8 : Nat) : Int) = 256 := rfl
  rw [e2]; omega
theorem hi8_and {c : Int32} (hc : Chr c) : (hi8 c &&& 255).toInt = c.toInt / 256 := by
  have h := c_mask (hi8 c) 255 8 (by decide) (by decide)
  have q := c_i2b (c >>> ((8 : Int32) &&& 31))
  have s := c_ishr c 8 8 (by decide)
  have e : (hi8 c).toInt = (c >>> ((8 : Int32) &&& 31)).toInt8.toInt32.toInt := rfl
  obtain ⟨r1, r2⟩ := hc
  rw [Int32.lt_iff_toInt_lt] at r1 r2
  have e0 : (0 : Int32).toInt = 0 := rfl
  have e1 : (65535 : Int32).toInt = 65535 := rfl
  have e2 : ((2 ^ 8 : Nat) : Int) = 256 := rfl
  rw [h, e, e2]
  rw [e2] at s
  omega
theorem lo8_mask {c : Int32} (h0 : ¬ c < 0) (h1 : ¬ (255 : Int32) < c) : lo8 c &&& 255 = c := by
  have h := lo8_and c
  rw [Int32.lt_iff_toInt_lt] at h0 h1
  have e0 : (0 : Int32).toInt = 0 := rfl
  have e1 : (255 : Int32).toInt = 255 := rfl
  rw [← Int32.toInt_inj, h]; omega
theorem get16 {c : Int32} (hc : Chr c) : (((lo8 c &&& 255) <<< ((0 : Int32) &&& 31)) ||| ((hi8 c &&& 255) <<< ((8 : Int32) &&& 31))).toUInt32.toUInt16.toUInt32.toInt32 = c := by
  have a1 := lo8_and c
  have a2 := hi8_and hc
  have s1 := c_ishl (lo8 c &&& 255) 0 0 (by decide)
  have s2 := c_ishl (hi8 c &&& 255) 8 8 (by decide)
  have e8 : ((2 ^ 8 : Nat) : Int) = 256 := rfl
  have e00 : ((2 ^ 0 : Nat) : Int) = 1 := rfl
  rw [e00] at s1
  rw [e8] at s2
  have o := c_or' ((lo8 c &&& 255) <<< ((0 : Int32) &&& 31)) ((hi8 c &&& 255) <<< ((8 : Int32) &&& 31)) 8 (by decide) 256 rfl
  have z := c_i2c (((lo8 c &&& 255) <<< ((0 : Int32) &&& 31)) ||| ((hi8 c &&& 255) <<< ((8 : Int32) &&& 31)))
  obtain ⟨r1, r2⟩ := hc
  rw [Int32.lt_iff_toInt_lt] at r1 r2
  have e0 : (0 : Int32).toInt = 0 := rfl
  have e1 : (65535 : Int32).toInt = 65535 := rfl
  have t1 := rng32 ((lo8 c &&& 255) <<< ((0 : Int32) &&& 31))
  have t2 := rng32 ((hi8 c &&& 255) <<< ((8 : Int32) &&& 31))
  have t3 := rng32 (((lo8 c &&& 255) <<< ((0 : Int32) &&& 31)) ||| ((hi8 c &&& 255) <<< ((8 : Int32) &&& 31)))
  rw [← Int32.toInt_inj]
  have o' := o (by omega) (by omega) (by omega)
  omega

theorem rem3 (x : Int32) : ((x &&& (2147483647 : Int32)) % (3 : Int32)) = 0 ∨ ((x &&& (2147483647 : Int32)) % (3 : Int32)) = 1 ∨ ((x &&& (2147483647 : Int32)) % (3 : Int32)) = 2 := by
  have h := c_and x (2147483647 : Int32) (by decide)
  have q := (c_irem (x &&& (2147483647 : Int32)) 3 3 (by decide)).1 h.1
  simp only [← Int32.toInt_inj]
  have e0 : (0 : Int32).toInt = 0 := rfl
  have e1 : (1 : Int32).toInt = 1 := rfl
  have e2 : (2 : Int32).toInt = 2 := rfl
  omega

theorem own_len {args : Array Value} {s : State} {t : Term} {a : Addr} {c : Cell} {ty : FieldType} {z : Int32} (A : Arr s s.heap a c ty) (ht : t.eval args s none [] s = some (.ref a)) (h : (Term.length t).eval args s none [] s = some (.int z)) : c.slots.size < 2 ^ 31 ∧ c.slots.size.toInt32 = z := by
  have ha := A.fin (Vm.Alike.refl _)
  by_cases hl : c.slots.size < 2 ^ 31
  · have q := len_f ht ha hl
    rw [q] at h
    exact ⟨hl, Value.int.inj (Option.some.inj h)⟩
  · simp [Term.eval, ht, ha, hl] at h

def Amb (Z : State) (a0 : Array Value) (cS : Int32) (dE : Addr) (kE : ClassId) : Prop := Sta Z Z.heap "java/lang/String" "COMPACT_STRINGS" "Z" (.int cS) ∧ ¬ (cS = 0) ∧ Sta Z Z.heap "java/util/ArrayList" "DEFAULTCAPACITY_EMPTY_ELEMENTDATA" "[Ljava/lang/Object;" (.ref dE) ∧ Arv Z Z.heap dE kE (.object "java/lang/Object") (0 : Int32) [] .null
abbrev HW (a0 : Array Value) (Z : State) : Prop := ∀ d ∈ tables_1, d.before a0 Z = true
set_option maxRecDepth 65536
set_option maxHeartbeats 40000000
theorem d6_0 : decode jdk_52_method_21_code 0 = .ok (.iconst 0, 1) := by decide +kernel
theorem d6_1 : decode jdk_52_method_21_code 1 = .ok (.istore 5, 2) := by decide +kernel
theorem d6_3 : decode jdk_52_method_21_code 3 = .ok (.iload 5, 2) := by decide +kernel
theorem d6_5 : decode jdk_52_method_21_code 5 = .ok (.iload 4, 2) := by decide +kernel
theorem d6_7 : decode jdk_52_method_21_code 7 = .ok (.if_icmp .ge 37, 3) := by decide +kernel
theorem d6_10 : decode jdk_52_method_21_code 10 = .ok (.aload_n 0, 1) := by decide +kernel
theorem d6_11 : decode jdk_52_method_21_code 11 = .ok (.iload_n 1, 1) := by decide +kernel
theorem d6_12 : decode jdk_52_method_21_code 12 = .ok (.caload, 1) := by decide +kernel
theorem d6_13 : decode jdk_52_method_21_code 13 = .ok (.istore 6, 2) := by decide +kernel
theorem d6_15 : decode jdk_52_method_21_code 15 = .ok (.iload 6, 2) := by decide +kernel
theorem d6_17 : decode jdk_52_method_21_code 17 = .ok (.sipush 255, 3) := by decide +kernel
theorem d6_20 : decode jdk_52_method_21_code 20 = .ok (.if_icmp .le 6, 3) := by decide +kernel
theorem d6_26 : decode jdk_52_method_21_code 26 = .ok (.aload_n 2, 1) := by decide +kernel
theorem d6_27 : decode jdk_52_method_21_code 27 = .ok (.iload_n 3, 1) := by decide +kernel
theorem d6_28 : decode jdk_52_method_21_code 28 = .ok (.iload 6, 2) := by decide +kernel
theorem d6_30 : decode jdk_52_method_21_code 30 = .ok (.i2b, 1) := by decide +kernel
theorem d6_31 : decode jdk_52_method_21_code 31 = .ok (.bastore, 1) := by decide +kernel
theorem d6_32 : decode jdk_52_method_21_code 32 = .ok (.iinc 1 1, 3) := by decide +kernel
theorem d6_35 : decode jdk_52_method_21_code 35 = .ok (.iinc 3 1, 3) := by decide +kernel
theorem d6_38 : decode jdk_52_method_21_code 38 = .ok (.iinc 5 1, 3) := by decide +kernel
theorem d6_41 : decode jdk_52_method_21_code 41 = .ok (.goto (-38), 3) := by decide +kernel
theorem d6_44 : decode jdk_52_method_21_code 44 = .ok (.iload 4, 2) := by decide +kernel
theorem d6_46 : decode jdk_52_method_21_code 46 = .ok (.ireturn, 1) := by decide +kernel
theorem pn_java_lang_StringUTF16 : plainName "java/lang/StringUTF16" = true := by first | (simp [plainName, overriddenIn]; done) | decide +kernel
theorem d5_0 : decode jdk_52_method_16_code 0 = .ok (.iload_n 2, 1) := by decide +kernel
theorem d5_1 : decode jdk_52_method_16_code 1 = .ok (.newarray .byte, 2) := by decide +kernel
theorem d5_3 : decode jdk_52_method_16_code 3 = .ok (.astore_n 3, 1) := by decide +kernel
theorem d5_4 : decode jdk_52_method_16_code 4 = .ok (.aload_n 0, 1) := by decide +kernel
theorem d5_5 : decode jdk_52_method_16_code 5 = .ok (.iload_n 1, 1) := by decide +kernel
theorem d5_6 : decode jdk_52_method_16_code 6 = .ok (.aload_n 3, 1) := by decide +kernel
theorem d5_7 : decode jdk_52_method_16_code 7 = .ok (.iconst 0, 1) := by decide +kernel
theorem d5_8 : decode jdk_52_method_16_code 8 = .ok (.iload_n 2, 1) := by decide +kernel
theorem d5_9 : decode jdk_52_method_16_code 9 = .ok (.invokestatic 115, 3) := by decide +kernel
theorem pd___CI_BII_I : parseMethodDescriptor "([CI[BII)I" = some ⟨[(.array .char), .int, (.array .byte), .int, .int], some .int⟩ := by decide +kernel
theorem d5_12 : decode jdk_52_method_16_code 12 = .ok (.istore 4, 2) := by decide +kernel
theorem d5_14 : decode jdk_52_method_16_code 14 = .ok (.iload 4, 2) := by decide +kernel
theorem d5_16 : decode jdk_52_method_16_code 16 = .ok (.iload_n 2, 1) := by decide +kernel
theorem d5_17 : decode jdk_52_method_16_code 17 = .ok (.if_icmp .eq 40, 3) := by decide +kernel
theorem d5_57 : decode jdk_52_method_16_code 57 = .ok (.aload_n 3, 1) := by decide +kernel
theorem d5_58 : decode jdk_52_method_16_code 58 = .ok (.areturn, 1) := by decide +kernel
theorem d7_0 : decode jdk_52_method_15_code 0 = .ok (.iload_n 1, 1) := by decide +kernel
theorem d7_1 : decode jdk_52_method_15_code 1 = .ok (.aload_n 0, 1) := by decide +kernel
theorem d7_2 : decode jdk_52_method_15_code 2 = .ok (.arraylength, 1) := by decide +kernel
theorem d7_3 : decode jdk_52_method_15_code 3 = .ok (.isub, 1) := by decide +kernel
theorem d7_4 : decode jdk_52_method_15_code 4 = .ok (.bipush 31, 2) := by decide +kernel
theorem d7_6 : decode jdk_52_method_15_code 6 = .ok (.iushr, 1) := by decide +kernel
theorem d7_7 : decode jdk_52_method_15_code 7 = .ok (.i2b, 1) := by decide +kernel
theorem d7_8 : decode jdk_52_method_15_code 8 = .ok (.ireturn, 1) := by decide +kernel
theorem d3_0 : decode jdk_42_method_149_code 0 = .ok (.aload_n 0, 1) := by decide +kernel
theorem d3_1 : decode jdk_42_method_149_code 1 = .ok (.invokespecial 1, 3) := by decide +kernel
theorem d3_4 : decode jdk_42_method_149_code 4 = .ok (.iload_n 3, 1) := by decide +kernel
theorem d3_5 : decode jdk_42_method_149_code 5 = .ok (.ifCond .ne 22, 3) := by decide +kernel
theorem d3_27 : decode jdk_42_method_149_code 27 = .ok (.getstatic 38, 3) := by decide +kernel
theorem d3_30 : decode jdk_42_method_149_code 30 = .ok (.ifCond .eq 28, 3) := by decide +kernel
theorem d3_33 : decode jdk_42_method_149_code 33 = .ok (.aload_n 1, 1) := by decide +kernel
theorem d3_34 : decode jdk_42_method_149_code 34 = .ok (.iload_n 2, 1) := by decide +kernel
theorem d3_35 : decode jdk_42_method_149_code 35 = .ok (.iload_n 3, 1) := by decide +kernel
theorem d3_36 : decode jdk_42_method_149_code 36 = .ok (.invokestatic 177, 3) := by decide +kernel
theorem pd___CII__B : parseMethodDescriptor "([CII)[B" = some ⟨[(.array .char), .int, .int], some (.array .byte)⟩ := by decide +kernel
theorem d3_39 : decode jdk_42_method_149_code 39 = .ok (.astore 5, 2) := by decide +kernel
theorem d3_41 : decode jdk_42_method_149_code 41 = .ok (.aload_n 0, 1) := by decide +kernel
theorem d3_42 : decode jdk_42_method_149_code 42 = .ok (.aload 5, 2) := by decide +kernel
theorem d3_44 : decode jdk_42_method_149_code 44 = .ok (.iload_n 3, 1) := by decide +kernel
theorem d3_45 : decode jdk_42_method_149_code 45 = .ok (.invokestatic 47, 3) := by decide +kernel
theorem pd___BI_B : parseMethodDescriptor "([BI)B" = some ⟨[(.array .byte), .int], some .byte⟩ := by decide +kernel
theorem d3_48 : decode jdk_42_method_149_code 48 = .ok (.putfield 15, 3) := by decide +kernel
theorem d3_51 : decode jdk_42_method_149_code 51 = .ok (.aload_n 0, 1) := by decide +kernel
theorem d3_52 : decode jdk_42_method_149_code 52 = .ok (.aload 5, 2) := by decide +kernel
theorem d3_54 : decode jdk_42_method_149_code 54 = .ok (.putfield 9, 3) := by decide +kernel
theorem d3_57 : decode jdk_42_method_149_code 57 = .ok (.return_, 1) := by decide +kernel
theorem pn_java_lang_String : plainName "java/lang/String" = true := by first | (simp [plainName, overriddenIn]; done) | decide +kernel
theorem d2_0 : decode jdk_42_method_3_code 0 = .ok (.aload_n 0, 1) := by decide +kernel
theorem d2_1 : decode jdk_42_method_3_code 1 = .ok (.aload_n 1, 1) := by decide +kernel
theorem d2_2 : decode jdk_42_method_3_code 2 = .ok (.iconst 0, 1) := by decide +kernel
theorem d2_3 : decode jdk_42_method_3_code 3 = .ok (.aload_n 1, 1) := by decide +kernel
theorem d2_4 : decode jdk_42_method_3_code 4 = .ok (.arraylength, 1) := by decide +kernel
theorem d2_5 : decode jdk_42_method_3_code 5 = .ok (.aconst_null, 1) := by decide +kernel
theorem d2_6 : decode jdk_42_method_3_code 6 = .ok (.invokespecial 27, 3) := by decide +kernel
theorem pd___CIILjava_lang_Void__V : parseMethodDescriptor "([CIILjava/lang/Void;)V" = some ⟨[(.array .char), .int, .int, (.object "java/lang/Void")], none⟩ := by decide +kernel
theorem d2_9 : decode jdk_42_method_3_code 9 = .ok (.return_, 1) := by decide +kernel
theorem d1_0 : decode method_2_code 0 = .ok (.iconst 2, 1) := by decide +kernel
theorem d1_1 : decode method_2_code 1 = .ok (.newarray .char, 2) := by decide +kernel
theorem d1_3 : decode method_2_code 3 = .ok (.astore_n 1, 1) := by decide +kernel
theorem d1_4 : decode method_2_code 4 = .ok (.aload_n 1, 1) := by decide +kernel
theorem d1_5 : decode method_2_code 5 = .ok (.iconst 0, 1) := by decide +kernel
theorem d1_6 : decode method_2_code 6 = .ok (.iload_n 0, 1) := by decide +kernel
theorem d1_7 : decode method_2_code 7 = .ok (.sipush 255, 3) := by decide +kernel
theorem d1_10 : decode method_2_code 10 = .ok (.iand, 1) := by decide +kernel
theorem d1_11 : decode method_2_code 11 = .ok (.i2c, 1) := by decide +kernel
theorem d1_12 : decode method_2_code 12 = .ok (.castore, 1) := by decide +kernel
theorem d1_13 : decode method_2_code 13 = .ok (.aload_n 1, 1) := by decide +kernel
theorem d1_14 : decode method_2_code 14 = .ok (.iconst 1, 1) := by decide +kernel
theorem d1_15 : decode method_2_code 15 = .ok (.iload_n 0, 1) := by decide +kernel
theorem d1_16 : decode method_2_code 16 = .ok (.bipush 8, 2) := by decide +kernel
theorem d1_18 : decode method_2_code 18 = .ok (.iushr, 1) := by decide +kernel
theorem d1_19 : decode method_2_code 19 = .ok (.sipush 255, 3) := by decide +kernel
theorem d1_22 : decode method_2_code 22 = .ok (.iand, 1) := by decide +kernel
theorem d1_23 : decode method_2_code 23 = .ok (.i2c, 1) := by decide +kernel
theorem d1_24 : decode method_2_code 24 = .ok (.castore, 1) := by decide +kernel
theorem d1_25 : decode method_2_code 25 = .ok (.new 7, 3) := by decide +kernel
theorem d1_28 : decode method_2_code 28 = .ok (.dup, 1) := by decide +kernel
theorem d1_29 : decode method_2_code 29 = .ok (.aload_n 1, 1) := by decide +kernel
theorem d1_30 : decode method_2_code 30 = .ok (.invokespecial 9, 3) := by decide +kernel
theorem pd___C_V : parseMethodDescriptor "([C)V" = some ⟨[(.array .char)], none⟩ := by decide +kernel
theorem d1_33 : decode method_2_code 33 = .ok (.areturn, 1) := by decide +kernel
theorem pn_com_example_slicewise_slicewise_input_RowFieldPinLaw : plainName "com/example/slicewise/slicewise/input/RowFieldPinLaw" = true := by first | (simp [plainName, overriddenIn]; done) | decide +kernel
theorem d10_0 : decode jdk_22_method_1_code 0 = .ok (.aload_n 0, 1) := by decide +kernel
theorem d10_1 : decode jdk_22_method_1_code 1 = .ok (.invokespecial 1, 3) := by decide +kernel
theorem d10_4 : decode jdk_22_method_1_code 4 = .ok (.return_, 1) := by decide +kernel
theorem pn_java_util_AbstractCollection : plainName "java/util/AbstractCollection" = true := by first | (simp [plainName, overriddenIn]; done) | decide +kernel
theorem d17_0 : decode jdk_30_method_1_code 0 = .ok (.aload_n 0, 1) := by decide +kernel
theorem d17_1 : decode jdk_30_method_1_code 1 = .ok (.invokespecial 1, 3) := by decide +kernel
theorem d17_4 : decode jdk_30_method_1_code 4 = .ok (.return_, 1) := by decide +kernel
theorem pn_java_lang_Record : plainName "java/lang/Record" = true := by first | (simp [plainName, overriddenIn]; done) | decide +kernel
theorem d9_0 : decode jdk_39_method_1_code 0 = .ok (.aload_n 0, 1) := by decide +kernel
theorem d9_1 : decode jdk_39_method_1_code 1 = .ok (.invokespecial 1, 3) := by decide +kernel
theorem pd___V : parseMethodDescriptor "()V" = some ⟨[], none⟩ := by decide +kernel
theorem d9_4 : decode jdk_39_method_1_code 4 = .ok (.aload_n 0, 1) := by decide +kernel
theorem d9_5 : decode jdk_39_method_1_code 5 = .ok (.iconst 0, 1) := by decide +kernel
theorem d9_6 : decode jdk_39_method_1_code 6 = .ok (.putfield 7, 3) := by decide +kernel
theorem d9_9 : decode jdk_39_method_1_code 9 = .ok (.return_, 1) := by decide +kernel
theorem pn_java_util_AbstractList : plainName "java/util/AbstractList" = true := by first | (simp [plainName, overriddenIn]; done) | decide +kernel
theorem d8_0 : decode jdk_38_method_2_code 0 = .ok (.aload_n 0, 1) := by decide +kernel
theorem d8_1 : decode jdk_38_method_2_code 1 = .ok (.invokespecial 1, 3) := by decide +kernel
theorem d8_4 : decode jdk_38_method_2_code 4 = .ok (.aload_n 0, 1) := by decide +kernel
theorem d8_5 : decode jdk_38_method_2_code 5 = .ok (.getstatic 39, 3) := by decide +kernel
theorem d8_8 : decode jdk_38_method_2_code 8 = .ok (.putfield 9, 3) := by decide +kernel
theorem d8_11 : decode jdk_38_method_2_code 11 = .ok (.return_, 1) := by decide +kernel
theorem pn_java_util_ArrayList : plainName "java/util/ArrayList" = true := by first | (simp [plainName, overriddenIn]; done) | decide +kernel
theorem d15_0 : decode jdk_29_method_65_code 0 = .ok (.iload_n 0, 1) := by decide +kernel
theorem d15_1 : decode jdk_29_method_65_code 1 = .ok (.iload_n 1, 1) := by decide +kernel
theorem d15_2 : decode jdk_29_method_65_code 2 = .ok (.if_icmp .lt 7, 3) := by decide +kernel
theorem d15_5 : decode jdk_29_method_65_code 5 = .ok (.iload_n 0, 1) := by decide +kernel
theorem d15_6 : decode jdk_29_method_65_code 6 = .ok (.goto 4, 3) := by decide +kernel
theorem d15_10 : decode jdk_29_method_65_code 10 = .ok (.ireturn, 1) := by decide +kernel
theorem d14_0 : decode jdk_38_method_6_code 0 = .ok (.aload_n 0, 1) := by decide +kernel
theorem d14_1 : decode jdk_38_method_6_code 1 = .ok (.getfield 9, 3) := by decide +kernel
theorem d14_4 : decode jdk_38_method_6_code 4 = .ok (.arraylength, 1) := by decide +kernel
theorem d14_5 : decode jdk_38_method_6_code 5 = .ok (.istore_n 2, 1) := by decide +kernel
theorem d14_6 : decode jdk_38_method_6_code 6 = .ok (.iload_n 2, 1) := by decide +kernel
theorem d14_7 : decode jdk_38_method_6_code 7 = .ok (.ifCond .gt 13, 3) := by decide +kernel
theorem d14_10 : decode jdk_38_method_6_code 10 = .ok (.aload_n 0, 1) := by decide +kernel
theorem d14_11 : decode jdk_38_method_6_code 11 = .ok (.getfield 9, 3) := by decide +kernel
theorem d14_14 : decode jdk_38_method_6_code 14 = .ok (.getstatic 39, 3) := by decide +kernel
theorem d14_17 : decode jdk_38_method_6_code 17 = .ok (.if_acmp .eq 28, 3) := by decide +kernel
theorem d14_45 : decode jdk_38_method_6_code 45 = .ok (.aload_n 0, 1) := by decide +kernel
theorem d14_46 : decode jdk_38_method_6_code 46 = .ok (.bipush 10, 2) := by decide +kernel
theorem d14_48 : decode jdk_38_method_6_code 48 = .ok (.iload_n 1, 1) := by decide +kernel
theorem d14_49 : decode jdk_38_method_6_code 49 = .ok (.invokestatic 79, 3) := by decide +kernel
theorem pd__II_I : parseMethodDescriptor "(II)I" = some ⟨[.int, .int], some .int⟩ := by decide +kernel
theorem d14_52 : decode jdk_38_method_6_code 52 = .ok (.anewarray 7, 3) := by decide +kernel
theorem d14_55 : decode jdk_38_method_6_code 55 = .ok (.dup_x1, 1) := by decide +kernel
theorem d14_56 : decode jdk_38_method_6_code 56 = .ok (.putfield 9, 3) := by decide +kernel
theorem d14_59 : decode jdk_38_method_6_code 59 = .ok (.areturn, 1) := by decide +kernel
theorem d13_0 : decode jdk_38_method_7_code 0 = .ok (.aload_n 0, 1) := by decide +kernel
theorem d13_1 : decode jdk_38_method_7_code 1 = .ok (.aload_n 0, 1) := by decide +kernel
theorem d13_2 : decode jdk_38_method_7_code 2 = .ok (.getfield 48, 3) := by decide +kernel
theorem d13_5 : decode jdk_38_method_7_code 5 = .ok (.iconst 1, 1) := by decide +kernel
theorem d13_6 : decode jdk_38_method_7_code 6 = .ok (.iadd, 1) := by decide +kernel
theorem d13_7 : decode jdk_38_method_7_code 7 = .ok (.invokevirtual 69, 3) := by decide +kernel
theorem pd__I__Ljava_lang_Object_ : parseMethodDescriptor "(I)[Ljava/lang/Object;" = some ⟨[.int], some (.array (.object "java/lang/Object"))⟩ := by decide +kernel
theorem d13_10 : decode jdk_38_method_7_code 10 = .ok (.areturn, 1) := by decide +kernel
theorem d12_0 : decode jdk_38_method_24_code 0 = .ok (.iload_n 3, 1) := by decide +kernel
theorem d12_1 : decode jdk_38_method_24_code 1 = .ok (.aload_n 2, 1) := by decide +kernel
theorem d12_2 : decode jdk_38_method_24_code 2 = .ok (.arraylength, 1) := by decide +kernel
theorem d12_3 : decode jdk_38_method_24_code 3 = .ok (.if_icmp .ne 8, 3) := by decide +kernel
theorem d12_6 : decode jdk_38_method_24_code 6 = .ok (.aload_n 0, 1) := by decide +kernel
theorem d12_7 : decode jdk_38_method_24_code 7 = .ok (.invokevirtual 129, 3) := by decide +kernel
theorem pd____Ljava_lang_Object_ : parseMethodDescriptor "()[Ljava/lang/Object;" = some ⟨[], some (.array (.object "java/lang/Object"))⟩ := by decide +kernel
theorem d12_10 : decode jdk_38_method_24_code 10 = .ok (.astore_n 2, 1) := by decide +kernel
theorem d12_11 : decode jdk_38_method_24_code 11 = .ok (.aload_n 2, 1) := by decide +kernel
theorem d12_12 : decode jdk_38_method_24_code 12 = .ok (.iload_n 3, 1) := by decide +kernel
theorem d12_13 : decode jdk_38_method_24_code 13 = .ok (.aload_n 1, 1) := by decide +kernel
theorem d12_14 : decode jdk_38_method_24_code 14 = .ok (.aastore, 1) := by decide +kernel
theorem d12_15 : decode jdk_38_method_24_code 15 = .ok (.aload_n 0, 1) := by decide +kernel
theorem d12_16 : decode jdk_38_method_24_code 16 = .ok (.iload_n 3, 1) := by decide +kernel
theorem d12_17 : decode jdk_38_method_24_code 17 = .ok (.iconst 1, 1) := by decide +kernel
theorem d12_18 : decode jdk_38_method_24_code 18 = .ok (.iadd, 1) := by decide +kernel
theorem d12_19 : decode jdk_38_method_24_code 19 = .ok (.putfield 48, 3) := by decide +kernel
theorem d12_22 : decode jdk_38_method_24_code 22 = .ok (.return_, 1) := by decide +kernel
theorem d11_0 : decode jdk_38_method_25_code 0 = .ok (.aload_n 0, 1) := by decide +kernel
theorem d11_1 : decode jdk_38_method_25_code 1 = .ok (.dup, 1) := by decide +kernel
theorem d11_2 : decode jdk_38_method_25_code 2 = .ok (.getfield 63, 3) := by decide +kernel
theorem d11_5 : decode jdk_38_method_25_code 5 = .ok (.iconst 1, 1) := by decide +kernel
theorem d11_6 : decode jdk_38_method_25_code 6 = .ok (.iadd, 1) := by decide +kernel
theorem d11_7 : decode jdk_38_method_25_code 7 = .ok (.putfield 63, 3) := by decide +kernel
theorem d11_10 : decode jdk_38_method_25_code 10 = .ok (.aload_n 0, 1) := by decide +kernel
theorem d11_11 : decode jdk_38_method_25_code 11 = .ok (.aload_n 1, 1) := by decide +kernel
theorem d11_12 : decode jdk_38_method_25_code 12 = .ok (.aload_n 0, 1) := by decide +kernel
theorem d11_13 : decode jdk_38_method_25_code 13 = .ok (.getfield 9, 3) := by decide +kernel
theorem d11_16 : decode jdk_38_method_25_code 16 = .ok (.aload_n 0, 1) := by decide +kernel
theorem d11_17 : decode jdk_38_method_25_code 17 = .ok (.getfield 48, 3) := by decide +kernel
theorem d11_20 : decode jdk_38_method_25_code 20 = .ok (.invokevirtual 131, 3) := by decide +kernel
theorem pd__Ljava_lang_Object__Ljava_lang_Object_I_V : parseMethodDescriptor "(Ljava/lang/Object;[Ljava/lang/Object;I)V" = some ⟨[(.object "java/lang/Object"), (.array (.object "java/lang/Object")), .int], none⟩ := by decide +kernel
theorem d11_23 : decode jdk_38_method_25_code 23 = .ok (.iconst 1, 1) := by decide +kernel
theorem d11_24 : decode jdk_38_method_25_code 24 = .ok (.ireturn, 1) := by decide +kernel
theorem d16_0 : decode prog_5_method_1_code 0 = .ok (.aload_n 0, 1) := by decide +kernel
theorem d16_1 : decode prog_5_method_1_code 1 = .ok (.invokespecial 1, 3) := by decide +kernel
theorem d16_4 : decode prog_5_method_1_code 4 = .ok (.aload_n 0, 1) := by decide +kernel
theorem d16_5 : decode prog_5_method_1_code 5 = .ok (.iload_n 1, 1) := by decide +kernel
theorem d16_6 : decode prog_5_method_1_code 6 = .ok (.putfield 7, 3) := by decide +kernel
theorem d16_9 : decode prog_5_method_1_code 9 = .ok (.aload_n 0, 1) := by decide +kernel
theorem d16_10 : decode prog_5_method_1_code 10 = .ok (.aload_n 2, 1) := by decide +kernel
theorem d16_11 : decode prog_5_method_1_code 11 = .ok (.putfield 13, 3) := by decide +kernel
theorem d16_14 : decode prog_5_method_1_code 14 = .ok (.return_, 1) := by decide +kernel
theorem pn_com_example_slicewise_slicewise_input_CsvFile_Row : plainName "com/example/slicewise/slicewise/input/CsvFile$Row" = true := by first | (simp [plainName, overriddenIn]; done) | decide +kernel
theorem d21_0 : decode jdk_41_method_11_code 0 = .ok (.iload_n 0, 1) := by decide +kernel
theorem d21_1 : decode jdk_41_method_11_code 1 = .ok (.ifCond .lt 8, 3) := by decide +kernel
theorem d21_4 : decode jdk_41_method_11_code 4 = .ok (.iload_n 0, 1) := by decide +kernel
theorem d21_5 : decode jdk_41_method_11_code 5 = .ok (.iload_n 1, 1) := by decide +kernel
theorem d21_6 : decode jdk_41_method_11_code 6 = .ok (.if_icmp .lt 10, 3) := by decide +kernel
theorem d21_16 : decode jdk_41_method_11_code 16 = .ok (.iload_n 0, 1) := by decide +kernel
theorem d21_17 : decode jdk_41_method_11_code 17 = .ok (.ireturn, 1) := by decide +kernel
theorem pn_jdk_internal_util_Preconditions : plainName "jdk/internal/util/Preconditions" = true := by first | (simp [plainName, overriddenIn]; done) | decide +kernel
theorem d20_0 : decode jdk_31_method_17_code 0 = .ok (.iload_n 0, 1) := by decide +kernel
theorem d20_1 : decode jdk_31_method_17_code 1 = .ok (.iload_n 1, 1) := by decide +kernel
theorem d20_2 : decode jdk_31_method_17_code 2 = .ok (.aconst_null, 1) := by decide +kernel
theorem d20_3 : decode jdk_31_method_17_code 3 = .ok (.invokestatic 105, 3) := by decide +kernel
theorem pd__IILjava_util_function_BiFunction__I : parseMethodDescriptor "(IILjava/util/function/BiFunction;)I" = some ⟨[.int, .int, (.object "java/util/function/BiFunction")], some .int⟩ := by decide +kernel
theorem d20_6 : decode jdk_31_method_17_code 6 = .ok (.ireturn, 1) := by decide +kernel
theorem pn_java_util_Objects : plainName "java/util/Objects" = true := by first | (simp [plainName, overriddenIn]; done) | decide +kernel
theorem d22_0 : decode jdk_38_method_18_code 0 = .ok (.aload_n 0, 1) := by decide +kernel
theorem d22_1 : decode jdk_38_method_18_code 1 = .ok (.getfield 9, 3) := by decide +kernel
theorem d22_4 : decode jdk_38_method_18_code 4 = .ok (.iload_n 1, 1) := by decide +kernel
theorem d22_5 : decode jdk_38_method_18_code 5 = .ok (.aaload, 1) := by decide +kernel
theorem d22_6 : decode jdk_38_method_18_code 6 = .ok (.areturn, 1) := by decide +kernel
theorem d19_0 : decode jdk_38_method_20_code 0 = .ok (.iload_n 1, 1) := by decide +kernel
theorem d19_1 : decode jdk_38_method_20_code 1 = .ok (.aload_n 0, 1) := by decide +kernel
theorem d19_2 : decode jdk_38_method_20_code 2 = .ok (.getfield 48, 3) := by decide +kernel
theorem d19_5 : decode jdk_38_method_20_code 5 = .ok (.invokestatic 118, 3) := by decide +kernel
theorem d19_8 : decode jdk_38_method_20_code 8 = .ok (.pop, 1) := by decide +kernel
theorem d19_9 : decode jdk_38_method_20_code 9 = .ok (.aload_n 0, 1) := by decide +kernel
theorem d19_10 : decode jdk_38_method_20_code 10 = .ok (.iload_n 1, 1) := by decide +kernel
theorem d19_11 : decode jdk_38_method_20_code 11 = .ok (.invokevirtual 123, 3) := by decide +kernel
theorem pd__I_Ljava_lang_Object_ : parseMethodDescriptor "(I)Ljava/lang/Object;" = some ⟨[.int], some (.object "java/lang/Object")⟩ := by decide +kernel
theorem d19_14 : decode jdk_38_method_20_code 14 = .ok (.areturn, 1) := by decide +kernel
theorem d18_0 : decode prog_5_method_2_code 0 = .ok (.aload_n 0, 1) := by decide +kernel
theorem d18_1 : decode prog_5_method_2_code 1 = .ok (.getfield 13, 3) := by decide +kernel
theorem d18_4 : decode prog_5_method_2_code 4 = .ok (.iload_n 1, 1) := by decide +kernel
theorem d18_5 : decode prog_5_method_2_code 5 = .ok (.invokeinterface 17 2, 5) := by decide +kernel
theorem d18_10 : decode prog_5_method_2_code 10 = .ok (.checkcast 23, 3) := by decide +kernel
theorem d18_13 : decode prog_5_method_2_code 13 = .ok (.areturn, 1) := by decide +kernel
theorem d23_0 : decode jdk_42_method_66_code 0 = .ok (.aload_n 0, 1) := by decide +kernel
theorem d23_1 : decode jdk_42_method_66_code 1 = .ok (.aload_n 1, 1) := by decide +kernel
theorem d23_2 : decode jdk_42_method_66_code 2 = .ok (.if_acmp .ne 5, 3) := by decide +kernel
theorem d23_5 : decode jdk_42_method_66_code 5 = .ok (.iconst 1, 1) := by decide +kernel
theorem d23_6 : decode jdk_42_method_66_code 6 = .ok (.ireturn, 1) := by decide +kernel
theorem pd__I_Ljava_lang_String_ : parseMethodDescriptor "(I)Ljava/lang/String;" = some ⟨[.int], some (.object "java/lang/String")⟩ := by decide +kernel
theorem pd__Ljava_lang_Object__Z : parseMethodDescriptor "(Ljava/lang/Object;)Z" = some ⟨[(.object "java/lang/Object")], some .boolean⟩ := by decide +kernel
theorem pd__ILjava_util_List__V : parseMethodDescriptor "(ILjava/util/List;)V" = some ⟨[.int, (.object "java/util/List")], none⟩ := by decide +kernel
theorem ct_cmp2 (l : Launch) (Z : State) (a0 : Array Value) (hw : HW a0 Z) {cS : Int32} {dE : Addr} {kE : ClassId} (am : Amb Z a0 cS dE kE) {b : Addr} {t : Addr} {kC : ClassId} {kB : ClassId} {c0 : Int32} {c1 : Int32} {h0 : Heap} (p0 : Arv Z h0 b kC .char (2 : Int32) [(.int c0), (.int c1)] (.int 0)) (p1 : Arv Z h0 t kB .byte (2 : Int32) [(.int 0), (.int 0)] (.int 0)) (l0 : ¬ (255 : Int32) < c0) (l1 : ¬ (255 : Int32) < c1) (hbt : b ≠ t) :
    Py l Z (⟨"java/lang/StringUTF16", "compress", "([CI[BII)I"⟩ : MethodName) 1 18 0 0 #[(.ref b), (.int 0), (.ref t), (.int 0), (.int 2)] h0 [t] (fun v h' => v = some (.int 2) ∧ Arv Z h' t kB .byte (2 : Int32) [(.int (lo8 c0)), (.int (lo8 c1))] (.int 0)) := by
  refine Ct.py (by0 := jdk_52_method_21_code) (ml := 7) (rt := (some .int)) (rm := ({ frames := 0, cells := 0, slots := 0, locals := 0 } : Room)) ?_ (hq hw 26 rfl) (hq hw 21 rfl)
  refine Ct.mk (a0 := a0) (Ls := #[.val (.ref b), .val (.int 0), .val (.ref t), .val (.int 0), .val (.int 2), .unset, .unset]) (plainFor_of_name pn_java_lang_StringUTF16) (fun m => by first | (simp [entryFrame, mkF, argsToLocals, Value.category]; done) | rfl) ?_
  intro κ C
  show Go l _ Z _ _ _ κ [t] h0 0 #[.val (.ref b), .val (.int 0), .val (.ref t), .val (.int 0), .val (.int 2), .unset, .unset] [] 0 0
  refine go_iconst C 1 (0 : Int32) d6_0 rfl (by decide) ?_
  refine go_istore C 3 (Ls' := #[.val (.ref b), .val (.int 0), .val (.ref t), .val (.int 0), .val (.int 2), .val (.int 0), .unset]) d6_1 rfl rfl ?_
  refine go_iload C 5 d6_3 rfl rfl ?_
  refine go_iload C 7 d6_5 rfl rfl ?_
  refine go_icmpN C 10 d6_7 rfl (tlt ((by decide) : (0 : Int32) < (2 : Int32))).2.1 ?_
  refine go_aloadN C 11 d6_10 rfl rfl rfl ?_
  refine go_iloadN C 12 d6_11 rfl rfl ?_
  refine go_caload C 13 (v := (.int c0)) d6_12 rfl p0 (by decide) rfl ?_
  refine go_istore C 15 (Ls' := #[.val (.ref b), .val (.int 0), .val (.ref t), .val (.int 0), .val (.int 2), .val (.int 0), .val (.int c0)]) d6_13 rfl rfl ?_
  refine go_iload C 17 d6_15 rfl rfl ?_
  refine go_sipush C 20 (255 : Int32) d6_17 rfl (by decide) ?_
  refine go_icmpY C (pc' := 26) d6_20 (flt (l0 : ¬ ((255 : Int32) < c0))).2.2.2 (by decide) (by decide) ?_
  refine go_aloadN C 27 d6_26 rfl rfl rfl ?_
  refine go_iloadN C 28 d6_27 rfl rfl ?_
  refine go_iload C 30 d6_28 rfl rfl ?_
  refine go_i2b C 31 (lo8 c0) d6_30 rfl rfl ?_
  refine go_bastore C 32 0 (v := (lo8 c0)) (nar_lo8 _) d6_31 rfl p1 (by decide) rfl (nble rfl) (mi 0 rfl) ?_
  intro h1 W2 x3
  have x4 : Arv Z h1 t kB .byte (2 : Int32) [(.int (lo8 c0)), (.int 0)] (.int 0) := x3
  refine go_iinc C 35 (Ls' := #[.val (.ref b), .val (.int 1), .val (.ref t), .val (.int 0), .val (.int 2), .val (.int 0), .val (.int c0)]) (1 : Int32) d6_32 rfl (by decide) rfl rfl ?_
  refine go_iinc C 38 (Ls' := #[.val (.ref b), .val (.int 1), .val (.ref t), .val (.int 1), .val (.int 2), .val (.int 0), .val (.int c0)]) (1 : Int32) d6_35 rfl (by decide) rfl rfl ?_
  refine go_iinc C 41 (Ls' := #[.val (.ref b), .val (.int 1), .val (.ref t), .val (.int 1), .val (.int 2), .val (.int 1), .val (.int c0)]) (1 : Int32) d6_38 rfl (by decide) rfl rfl ?_
  refine go_goto C (pc' := 3) d6_41 (by decide) (by decide) ?_
  refine go_iload C 5 d6_3 rfl rfl ?_
  refine go_iload C 7 d6_5 rfl rfl ?_
  refine go_icmpN C 10 d6_7 rfl (tlt ((by decide) : (1 : Int32) < (2 : Int32))).2.1 ?_
  refine go_aloadN C 11 d6_10 rfl rfl rfl ?_
  refine go_iloadN C 12 d6_11 rfl rfl ?_
  have x5 := (p0.other W2 hbt)
  refine go_caload C 13 (v := (.int c1)) d6_12 rfl x5 (by decide) rfl ?_
  refine go_istore C 15 (Ls' := #[.val (.ref b), .val (.int 1), .val (.ref t), .val (.int 1), .val (.int 2), .val (.int 1), .val (.int c1)]) d6_13 rfl rfl ?_
  refine go_iload C 17 d6_15 rfl rfl ?_
  refine go_sipush C 20 (255 : Int32) d6_17 rfl (by decide) ?_
  refine go_icmpY C (pc' := 26) d6_20 (flt (l1 : ¬ ((255 : Int32) < c1))).2.2.2 (by decide) (by decide) ?_
  refine go_aloadN C 27 d6_26 rfl rfl rfl ?_
  refine go_iloadN C 28 d6_27 rfl rfl ?_
  refine go_iload C 30 d6_28 rfl rfl ?_
  refine go_i2b C 31 (lo8 c1) d6_30 rfl rfl ?_
  refine go_bastore C 32 1 (v := (lo8 c1)) (nar_lo8 _) d6_31 rfl x4 (by decide) rfl (nble rfl) (mi 0 rfl) ?_
  intro h6 W7 x8
  have x9 : Arv Z h6 t kB .byte (2 : Int32) [(.int (lo8 c0)), (.int (lo8 c1))] (.int 0) := x8
  refine go_iinc C 35 (Ls' := #[.val (.ref b), .val (.int 2), .val (.ref t), .val (.int 1), .val (.int 2), .val (.int 1), .val (.int c1)]) (1 : Int32) d6_32 rfl (by decide) rfl rfl ?_
  refine go_iinc C 38 (Ls' := #[.val (.ref b), .val (.int 2), .val (.ref t), .val (.int 2), .val (.int 2), .val (.int 1), .val (.int c1)]) (1 : Int32) d6_35 rfl (by decide) rfl rfl ?_
  refine go_iinc C 41 (Ls' := #[.val (.ref b), .val (.int 2), .val (.ref t), .val (.int 2), .val (.int 2), .val (.int 2), .val (.int c1)]) (1 : Int32) d6_38 rfl (by decide) rfl rfl ?_
  refine go_goto C (pc' := 3) d6_41 (by decide) (by decide) ?_
  refine go_iload C 5 d6_3 rfl rfl ?_
  refine go_iload C 7 d6_5 rfl rfl ?_
  refine go_icmpY C (pc' := 44) d6_7 (flt ((by decide) : ¬ ((2 : Int32) < (2 : Int32)))).2.1 (by decide) (by decide) ?_
  refine go_iload C 46 d6_44 rfl rfl ?_
  refine go_retI C d6_46 rfl (by decide) (by decide) ?_
  exact ⟨rfl, x9⟩
theorem ct_cmpA2 (l : Launch) (Z : State) (a0 : Array Value) (hw : HW a0 Z) {cS : Int32} {dE : Addr} {kE : ClassId} (am : Amb Z a0 cS dE kE) {b : Addr} {kC : ClassId} {c0 : Int32} {c1 : Int32} {h0 : Heap} (p0 : Arv Z h0 b kC .char (2 : Int32) [(.int c0), (.int c1)] (.int 0)) (l0 : ¬ (255 : Int32) < c0) (l1 : ¬ (255 : Int32) < c1) :
    Py l Z (⟨"java/lang/StringUTF16", "compress", "([CII)[B"⟩ : MethodName) 2 35 1 2 #[(.ref b), (.int 0), (.int 2)] h0 [] (fun v h' => ∃ (t : Addr) (kB : ClassId), v = some (.ref t) ∧ Arv Z h' t kB .byte (2 : Int32) [(.int (lo8 c0)), (.int (lo8 c1))] (.int 0) ∧ h0.size ≤ t) := by
  refine Ct.py (by0 := jdk_52_method_16_code) (ml := 6) (rt := (some (.array .byte))) (rm := ({ frames := 1, cells := 1, slots := 2, locals := 18 } : Room)) ?_ (hq hw 22 rfl) (hq hw 21 rfl)
  refine Ct.mk (a0 := a0) (Ls := #[.val (.ref b), .val (.int 0), .val (.int 2), .unset, .unset, .unset]) (plainFor_of_name pn_java_lang_StringUTF16) (fun m => by first | (simp [entryFrame, mkF, argsToLocals, Value.category]; done) | rfl) ?_
  intro κ C
  show Go l _ Z _ _ _ κ [] h0 0 #[.val (.ref b), .val (.int 0), .val (.int 2), .unset, .unset, .unset] [] 0 0
  refine go_iloadN C 1 d5_0 rfl rfl ?_
  refine go_newP C 3 1 2 (ty := .byte) (cap := 2) d5_1 rfl rfl rfl rfl (hq hw 23 rfl) (by decide) (by decide) (by decide) (by decide) (by decide) ?_
  intro b1 h2 k3 g4 E5 V6
  have x7 : Arv Z h2 b1 k3 .byte (2 : Int32) [(.int 0), (.int 0)] (.int 0) := V6
  refine go_astoreN C 4 (Ls' := #[.val (.ref b), .val (.int 0), .val (.int 2), .val (.ref b1), .unset, .unset]) d5_3 rfl rfl rfl ?_
  refine go_aloadN C 5 d5_4 rfl rfl rfl ?_
  refine go_iloadN C 6 d5_5 rfl rfl ?_
  refine go_aloadN C 7 d5_6 rfl rfl rfl ?_
  refine go_iconst C 8 (0 : Int32) d5_7 rfl (by decide) ?_
  refine go_iloadN C 9 d5_8 rfl rfl ?_
  have x8 := (p0.ext E5)
  refine go_callS C (argsL := [(.ref b), (.int 0), (.ref b1), (.int 0), (.int 2)]) (W := 0) d5_9 (hq hw 24 rfl) (hq hw 25 rfl) (hq hw 21 rfl) (hq hw 26 rfl) (by decide) pd___CI_BII_I (ct_cmp2 l Z a0 hw am (b := b) (t := b1) (kC := kC) (kB := k3) (c0 := c0) (c1 := c1) x8 x7 l0 l1 (Nat.ne_of_lt (Nat.lt_of_lt_of_le (p0).lt (Nat.le_of_eq g4.symm)))) rfl (by decide) (Nat.le_of_eq rfl) (by decide) rfl (by decide) (by decide) (memsS (mi 0 rfl) mems0) ?_
  intro v9 h10 K11 q12
  obtain ⟨rfl, x13⟩ := q12
  refine ⟨[], fresh0, ?_⟩
  show Go l _ Z _ _ _ κ _ _ 12 _ [(.int 2)] 1 2
  refine go_istore C 14 (Ls' := #[.val (.ref b), .val (.int 0), .val (.int 2), .val (.ref b1), .val (.int 2), .unset]) d5_12 rfl rfl ?_
  refine go_iload C 16 d5_14 rfl rfl ?_
  refine go_iloadN C 17 d5_16 rfl rfl ?_
  refine go_icmpY C (pc' := 57) d5_17 (teq ((by decide) : (2 : Int32) = (2 : Int32))).1 (by decide) (by decide) ?_
  refine go_aloadN C 58 d5_57 rfl rfl rfl ?_
  refine go_retA C (v := (.ref b1)) d5_58 rfl rfl rfl (by decide) (by decide) ?_
  exact ⟨b1, k3, rfl, x13, (Nat.le_of_eq g4.symm)⟩
theorem ct_coder2 (l : Launch) (Z : State) (a0 : Array Value) (hw : HW a0 Z) {cS : Int32} {dE : Addr} {kE : ClassId} (am : Amb Z a0 cS dE kE) {t : Addr} {kB : ClassId} {vs : List Value} {h0 : Heap} (p0 : Arv Z h0 t kB .byte (2 : Int32) vs (.int 0)) :
    Py l Z (⟨"java/lang/StringUTF16", "coderFromArrayLen", "([BI)B"⟩ : MethodName) 1 13 0 0 #[(.ref t), (.int 2)] h0 [] (fun v h' => v = some (.int 0) ∧ h' = h0) := by
  refine Ct.py (by0 := jdk_52_method_15_code) (ml := 2) (rt := (some .byte)) (rm := ({ frames := 0, cells := 0, slots := 0, locals := 0 } : Room)) ?_ (hq hw 29 rfl) (hq hw 21 rfl)
  refine Ct.mk (a0 := a0) (Ls := #[.val (.ref t), .val (.int 2)]) (plainFor_of_name pn_java_lang_StringUTF16) (fun m => by first | (simp [entryFrame, mkF, argsToLocals, Value.category]; done) | rfl) ?_
  intro κ C
  show Go l _ Z _ _ _ κ [] h0 0 #[.val (.ref t), .val (.int 2)] [] 0 0
  refine go_iloadN C 1 d7_0 rfl rfl ?_
  refine go_aloadN C 2 d7_1 rfl rfl rfl ?_
  refine go_arraylength C 3 d7_2 rfl p0 ?_
  refine go_isub C 4 (0 : Int32) d7_3 rfl (by decide) ?_
  refine go_bipush C 6 (31 : Int32) d7_4 rfl (by decide) ?_
  refine go_iushr C 7 (0 : Int32) d7_6 rfl (by decide) ?_
  refine go_i2b C 8 (0 : Int32) d7_7 rfl (by decide) ?_
  refine go_retN C (t := .byte) (z := (0 : Int32)) d7_8 rfl (by decide) (by decide) (by decide) (by decide) ?_
  exact ⟨rfl, rfl⟩
theorem ct_strV2 (l : Launch) (Z : State) (a0 : Array Value) (hw : HW a0 Z) {cS : Int32} {dE : Addr} {kE : ClassId} (am : Amb Z a0 cS dE kE) {a : Addr} {b : Addr} {kC : ClassId} {c0 : Int32} {c1 : Int32} {h0 : Heap} (p0 : Exa Z h0 a "java/lang/String") (p1 : Fld Z h0 a "java/lang/String" "value" "[B" .null) (p2 : Fld Z h0 a "java/lang/String" "coder" "B" (.int 0)) (p3 : Arv Z h0 b kC .char (2 : Int32) [(.int c0), (.int c1)] (.int 0)) (l0 : ¬ (255 : Int32) < c0) (l1 : ¬ (255 : Int32) < c1) :
    Py l Z (⟨"java/lang/String", "<init>", "([CIILjava/lang/Void;)V"⟩ : MethodName) 3 52 1 2 #[(.ref a), (.ref b), (.int 0), (.int 2), .null] h0 [a] (fun v h' => ∃ (t : Addr) (kB : ClassId), v = none ∧ Exa Z h' a "java/lang/String" ∧ Fld Z h' a "java/lang/String" "coder" "B" (.int 0) ∧ Fld Z h' a "java/lang/String" "value" "[B" (.ref t) ∧ Arv Z h' t kB .byte (2 : Int32) [(.int (lo8 c0)), (.int (lo8 c1))] (.int 0) ∧ h0.size ≤ t) := by
  refine Ct.py (by0 := jdk_42_method_149_code) (ml := 6) (rt := none) (rm := ({ frames := 2, cells := 1, slots := 2, locals := 35 } : Room)) ?_ (hq hw 14 rfl) (hq hw 7 rfl)
  refine Ct.mk (a0 := a0) (Ls := #[.val (.ref a), .val (.ref b), .val (.int 0), .val (.int 2), .val .null, .unset]) (plainFor_of_name pn_java_lang_String) (fun m => by first | (simp [entryFrame, mkF, argsToLocals, Value.category]; done) | rfl) ?_
  intro κ C
  show Go l _ Z _ _ _ κ [a] h0 0 #[.val (.ref a), .val (.ref b), .val (.int 0), .val (.int 2), .val .null, .unset] [] 0 0
  refine go_aloadN C 1 d3_0 rfl rfl rfl ?_
  refine go_initO C 4 (W := 0) d3_1 rfl (hq hw 15 rfl) (hq hw 16 rfl) (hq hw 17 rfl) rfl (by decide) (Nat.le_of_eq rfl) (by decide) ?_
  refine go_iloadN C 5 d3_4 rfl rfl ?_
  refine go_ifY C (pc' := 27) d3_5 (feq ((by decide) : ¬ ((2 : Int32) = (0 : Int32)))).2 (by decide) (by decide) ?_
  refine go_getS C 30 d3_27 rfl (hq hw 18 rfl) am.1 ?_
  refine go_ifN C 33 d3_30 rfl (feq (am.2.1 : ¬ (cS = (0 : Int32)))).1 ?_
  refine go_aloadN C 34 d3_33 rfl rfl rfl ?_
  refine go_iloadN C 35 d3_34 rfl rfl ?_
  refine go_iloadN C 36 d3_35 rfl rfl ?_
  refine go_callS C (argsL := [(.ref b), (.int 0), (.int 2)]) (W := 0) d3_36 (hq hw 19 rfl) (hq hw 20 rfl) (hq hw 21 rfl) (hq hw 22 rfl) (by decide) pd___CII__B (ct_cmpA2 l Z a0 hw am (b := b) (kC := kC) (c0 := c0) (c1 := c1) p3 l0 l1) rfl (by decide) (Nat.le_of_eq rfl) (by decide) rfl (by decide) (by decide) mems0 ?_
  intro v1 h2 K3 q4
  obtain ⟨t5, kB6, rfl, x7, x8⟩ := q4
  refine ⟨[t5], (freshS ⟨x8, (x7).lt⟩ fresh0), ?_⟩
  show Go l _ Z _ _ _ κ [t5, a] _ 39 _ [(.ref t5)] 1 2
  refine go_astore C 41 (Ls' := #[.val (.ref a), .val (.ref b), .val (.int 0), .val (.int 2), .val .null, .val (.ref t5)]) d3_39 rfl rfl rfl ?_
  refine go_aloadN C 42 d3_41 rfl rfl rfl ?_
  refine go_aload C 44 d3_42 rfl rfl rfl ?_
  refine go_iloadN C 45 d3_44 rfl rfl ?_
  refine go_callS C (argsL := [(.ref t5), (.int 2)]) (W := 1) d3_45 (hq hw 27 rfl) (hq hw 28 rfl) (hq hw 21 rfl) (hq hw 29 rfl) (by decide) pd___BI_B (ct_coder2 l Z a0 hw am (t := t5) (kB := kB6) (vs := [(.int (lo8 c0)), (.int (lo8 c1))]) x7) rfl (by decide) (Nat.le_of_eq rfl) (by decide) rfl (by decide) (by decide) mems0 ?_
  intro v9 h10 K11 q12
  obtain ⟨rfl, rfl⟩ := q12
  refine ⟨[], fresh0, ?_⟩
  show Go l _ Z _ _ _ κ _ _ 48 _ [(.int 0), (.ref a)] 1 2
  have x13 := (p2.keep K3 nin0)
  have x14 := (p0.keep K3)
  refine go_putFN C 51 (ty := .byte) (v' := .int 0) d3_48 rfl (hq hw 30 rfl) Via.refl x13 x14 (Or.inr ⟨(hq hw 31 rfl), rfl, rfl⟩) (hq hw 6 rfl) (by decide) rfl (by decide) (mi 1 rfl) ?_
  intro h15 W16
  have x17 : Fld Z h15 a "java/lang/String" "coder" "B" (.int 0) := Fld.same W16 x13
  refine go_aloadN C 52 d3_51 rfl rfl rfl ?_
  refine go_aload C 54 d3_52 rfl rfl rfl ?_
  have x18 := (Fld.other W16 (p1.keep K3 nin0) (Or.inr (slot_ne (Or.inr (hq hw 33 rfl)) (Or.inr (hq hw 31 rfl)) (by decide) (t := (.array .byte)) (t' := .byte) (by decide) (by decide))))
  have x19 := (Exa.wr W16 x14)
  refine go_putF C 57 (ty := (.array .byte)) d3_54 rfl (hq hw 32 rfl) Via.refl x18 x19 (Or.inr ⟨(hq hw 33 rfl), rfl, rfl⟩) (hq hw 6 rfl) (by decide) rfl rfl (mi 1 rfl) ?_
  intro h20 W21
  have x22 : Fld Z h20 a "java/lang/String" "value" "[B" (.ref t5) := Fld.same W21 x18
  refine go_ret C d3_57 rfl (by decide) (by decide) ?_
  have x23 := (Exa.wr W21 x19)
  have x24 := (Fld.other W21 x17 (Or.inr (slot_ne (Or.inr (hq hw 31 rfl)) (Or.inr (hq hw 33 rfl)) (by decide) (t := .byte) (t' := (.array .byte)) (by decide) (by decide))))
  have x25 := ((x7.other W16 (Ne.symm (Nat.ne_of_lt (Nat.lt_of_lt_of_le (p0).lt x8)))).other W21 (Ne.symm (Nat.ne_of_lt (Nat.lt_of_lt_of_le (p0).lt x8))))
  exact ⟨t5, kB6, rfl, x23, x24, x22, x25, x8⟩
theorem ct_str2 (l : Launch) (Z : State) (a0 : Array Value) (hw : HW a0 Z) {cS : Int32} {dE : Addr} {kE : ClassId} (am : Amb Z a0 cS dE kE) {a : Addr} {b : Addr} {kC : ClassId} {c0 : Int32} {c1 : Int32} {h0 : Heap} (p0 : Exa Z h0 a "java/lang/String") (p1 : Fld Z h0 a "java/lang/String" "value" "[B" .null) (p2 : Fld Z h0 a "java/lang/String" "coder" "B" (.int 0)) (p3 : Arv Z h0 b kC .char (2 : Int32) [(.int c0), (.int c1)] (.int 0)) (l0 : ¬ (255 : Int32) < c0) (l1 : ¬ (255 : Int32) < c1) :
    Py l Z (⟨"java/lang/String", "<init>", "([C)V"⟩ : MethodName) 4 65 1 2 #[(.ref a), (.ref b)] h0 [a] (fun v h' => ∃ (t : Addr) (kB : ClassId), v = none ∧ Exa Z h' a "java/lang/String" ∧ Fld Z h' a "java/lang/String" "coder" "B" (.int 0) ∧ Fld Z h' a "java/lang/String" "value" "[B" (.ref t) ∧ Arv Z h' t kB .byte (2 : Int32) [(.int (lo8 c0)), (.int (lo8 c1))] (.int 0) ∧ h0.size ≤ t) := by
  refine Ct.py (by0 := jdk_42_method_3_code) (ml := 2) (rt := none) (rm := ({ frames := 3, cells := 1, slots := 2, locals := 52 } : Room)) ?_ (hq hw 10 rfl) (hq hw 7 rfl)
  refine Ct.mk (a0 := a0) (Ls := #[.val (.ref a), .val (.ref b)]) (plainFor_of_name pn_java_lang_String) (fun m => by first | (simp [entryFrame, mkF, argsToLocals, Value.category]; done) | rfl) ?_
  intro κ C
  show Go l _ Z _ _ _ κ [a] h0 0 #[.val (.ref a), .val (.ref b)] [] 0 0
  refine go_aloadN C 1 d2_0 rfl rfl rfl ?_
  refine go_aloadN C 2 d2_1 rfl rfl rfl ?_
  refine go_iconst C 3 (0 : Int32) d2_2 rfl (by decide) ?_
  refine go_aloadN C 4 d2_3 rfl rfl rfl ?_
  refine go_arraylength C 5 d2_4 rfl p3 ?_
  refine go_aconstNull C 6 d2_5 rfl ?_
  refine go_callI C (a := a) (argsL := [(.ref b), (.int 0), (.int 2), .null]) (W := 0) d2_6 rfl (hq hw 11 rfl) (hq hw 12 rfl) (hq hw 14 rfl) (by decide) pd___CIILjava_lang_Void__V (ct_strV2 l Z a0 hw am (a := a) (b := b) (kC := kC) (c0 := c0) (c1 := c1) p0 p1 p2 p3 l0 l1) rfl (by decide) (Nat.le_of_eq rfl) (by decide) rfl (by decide) (by decide) (memsS (mi 0 rfl) mems0) ?_
  intro v1 h2 K3 q4
  obtain ⟨t5, kB6, rfl, x7, x8, x9, x10, x11⟩ := q4
  refine ⟨[t5], (freshS ⟨x11, (x10).lt⟩ fresh0), ?_⟩
  show Go l _ Z _ _ _ κ [t5, a] _ 9 _ [] 1 2
  refine go_ret C d2_9 rfl (by decide) (by decide) ?_
  exact ⟨t5, kB6, rfl, x7, x8, x9, x10, x11⟩
theorem ct_str (l : Launch) (Z : State) (a0 : Array Value) (hw : HW a0 Z) {cS : Int32} {dE : Addr} {kE : ClassId} (am : Amb Z a0 cS dE kE) {x : Int32} {h0 : Heap} :
    Py l Z (⟨"com/example/slicewise/slicewise/input/RowFieldPinLaw", "str", "(I)Ljava/lang/String;"⟩ : MethodName) 5 79 3 8 #[(.int x)] h0 [] (fun v h' => ∃ (a : Addr), v = some (.ref a) ∧ Exa Z h' a "java/lang/String" ∧ h0.size ≤ a) := by
  refine Ct.py (by0 := method_2_code) (ml := 2) (rt := (some (.object "java/lang/String"))) (rm := ({ frames := 4, cells := 3, slots := 8, locals := 66 } : Room)) ?_ (hq hw 3 rfl) (hq hw 2 rfl)
  refine Ct.mk (a0 := a0) (Ls := #[.val (.int x), .unset]) (plainFor_of_name pn_com_example_slicewise_slicewise_input_RowFieldPinLaw) (fun m => by first | (simp [entryFrame, mkF, argsToLocals, Value.category]; done) | rfl) ?_
  intro κ C
  show Go l _ Z _ _ _ κ [] h0 0 #[.val (.int x), .unset] [] 0 0
  refine go_iconst C 1 (2 : Int32) d1_0 rfl (by decide) ?_
  refine go_newP C 3 1 2 (ty := .char) (cap := 2) d1_1 rfl rfl rfl rfl (hq hw 4 rfl) (by decide) (by decide) (by decide) (by decide) (by decide) ?_
  intro b1 h2 k3 g4 E5 V6
  have x7 : Arv Z h2 b1 k3 .char (2 : Int32) [(.int 0), (.int 0)] (.int 0) := V6
  refine go_astoreN C 4 (Ls' := #[.val (.int x), .val (.ref b1)]) d1_3 rfl rfl rfl ?_
  refine go_aloadN C 5 d1_4 rfl rfl rfl ?_
  refine go_iconst C 6 (0 : Int32) d1_5 rfl (by decide) ?_
  refine go_iloadN C 7 d1_6 rfl rfl ?_
  refine go_sipush C 10 (255 : Int32) d1_7 rfl (by decide) ?_
  refine go_iand C 11 (x &&& (255 : Int32)) d1_10 rfl rfl ?_
  refine go_i2c C 12 (x &&& (255 : Int32)) d1_11 rfl (chr_and255 _).i2c ?_
  refine go_castore C 13 0 (v := (x &&& (255 : Int32))) (chr_and255 _).nar d1_12 rfl x7 (by decide) rfl (nble rfl) (mi 0 rfl) ?_
  intro h8 W9 x10
  have x11 : Arv Z h8 b1 k3 .char (2 : Int32) [(.int (x &&& (255 : Int32))), (.int 0)] (.int 0) := x10
  refine go_aloadN C 14 d1_13 rfl rfl rfl ?_
  refine go_iconst C 15 (1 : Int32) d1_14 rfl (by decide) ?_
  refine go_iloadN C 16 d1_15 rfl rfl ?_
  refine go_bipush C 18 (8 : Int32) d1_16 rfl (by decide) ?_
  refine go_iushr C 19 (XT.ushr x (8 : Int32)) d1_18 rfl rfl ?_
  refine go_sipush C 22 (255 : Int32) d1_19 rfl (by decide) ?_
  refine go_iand C 23 ((XT.ushr x (8 : Int32)) &&& (255 : Int32)) d1_22 rfl rfl ?_
  refine go_i2c C 24 ((XT.ushr x (8 : Int32)) &&& (255 : Int32)) d1_23 rfl (chr_and255 _).i2c ?_
  refine go_castore C 25 1 (v := ((XT.ushr x (8 : Int32)) &&& (255 : Int32))) (chr_and255 _).nar d1_24 rfl x11 (by decide) rfl (nble rfl) (mi 0 rfl) ?_
  intro h12 W13 x14
  have x15 : Arv Z h12 b1 k3 .char (2 : Int32) [(.int (x &&& (255 : Int32))), (.int ((XT.ushr x (8 : Int32)) &&& (255 : Int32)))] (.int 0) := x14
  refine go_new C 28 2 6 d1_25 rfl rfl rfl (hq hw 5 rfl) (hq hw 6 rfl) (hq hw 7 rfl) (by decide) (by decide) ?_
  intro b16 h17 g18 E19 A20 D21
  have x22 : Fld Z h17 b16 "java/lang/String" "coder" "B" (.int 0) := D21 (Or.inr (hq hw 31 rfl)) (ty := .byte) (by decide)
  have x23 : Fld Z h17 b16 "java/lang/String" "value" "[B" .null := D21 (Or.inr (hq hw 33 rfl)) (ty := (.array .byte)) (by decide)
  refine go_dup C 29 d1_28 rfl rfl ?_
  refine go_aloadN C 30 d1_29 rfl rfl rfl ?_
  have x24 := (x15.ext E19)
  refine go_callI C (a := b16) (argsL := [(.ref b1)]) (W := 1) d1_30 rfl (hq hw 8 rfl) (hq hw 9 rfl) (hq hw 10 rfl) (by decide) pd___C_V (ct_str2 l Z a0 hw am (a := b16) (b := b1) (kC := k3) (c0 := (x &&& (255 : Int32))) (c1 := ((XT.ushr x (8 : Int32)) &&& (255 : Int32))) A20 x23 x22 x24 (and_small _ 255 (by decide)).2 (and_small _ 255 (by decide)).2) rfl (by decide) (Nat.le_of_eq rfl) (by decide) rfl (by decide) (by decide) (memsS (mi 0 rfl) mems0) ?_
  intro v25 h26 K27 q28
  obtain ⟨t29, kB30, rfl, x31, x32, x33, x34, x35⟩ := q28
  refine ⟨[t29], (freshS ⟨x35, (x34).lt⟩ fresh0), ?_⟩
  show Go l _ Z _ _ _ κ [t29, b16, b1] _ 33 _ [(.ref b16)] 3 8
  refine go_retA C (v := (.ref b16)) d1_33 rfl rfl rfl (by decide) (by decide) ?_
  exact ⟨b16, rfl, x31, (Nat.le_trans E5.1 (Nat.le_trans (Nat.le_of_eq W9.size.symm) (Nat.le_trans (Nat.le_of_eq W13.size.symm) (Nat.le_of_eq g18.symm))))⟩
theorem ct_acinit (l : Launch) (Z : State) (a0 : Array Value) (hw : HW a0 Z) {cS : Int32} {dE : Addr} {kE : ClassId} (am : Amb Z a0 cS dE kE) {a : Addr} {h0 : Heap} :
    Py l Z (⟨"java/util/AbstractCollection", "<init>", "()V"⟩ : MethodName) 2 24 0 0 #[(.ref a)] h0 [] (fun v h' => v = none ∧ h' = h0) := by
  refine Ct.py (by0 := jdk_22_method_1_code) (ml := 1) (rt := none) (rm := ({ frames := 1, cells := 0, slots := 0, locals := 12 } : Room)) ?_ (hq hw 51 rfl) (hq hw 50 rfl)
  refine Ct.mk (a0 := a0) (Ls := #[.val (.ref a)]) (plainFor_of_name pn_java_util_AbstractCollection) (fun m => by first | (simp [entryFrame, mkF, argsToLocals, Value.category]; done) | rfl) ?_
  intro κ C
  show Go l _ Z _ _ _ κ [] h0 0 #[.val (.ref a)] [] 0 0
  refine go_aloadN C 1 d10_0 rfl rfl rfl ?_
  refine go_initO C 4 (W := 0) d10_1 rfl (hq hw 52 rfl) (hq hw 16 rfl) (hq hw 17 rfl) rfl (by decide) (Nat.le_of_eq rfl) (by decide) ?_
  refine go_ret C d10_4 rfl (by decide) (by decide) ?_
  exact ⟨rfl, rfl⟩
theorem ct_recinit (l : Launch) (Z : State) (a0 : Array Value) (hw : HW a0 Z) {cS : Int32} {dE : Addr} {kE : ClassId} (am : Amb Z a0 cS dE kE) {a : Addr} {h0 : Heap} :
    Py l Z (⟨"java/lang/Record", "<init>", "()V"⟩ : MethodName) 2 24 0 0 #[(.ref a)] h0 [] (fun v h' => v = none ∧ h' = h0) := by
  refine Ct.py (by0 := jdk_30_method_1_code) (ml := 1) (rt := none) (rm := ({ frames := 1, cells := 0, slots := 0, locals := 12 } : Room)) ?_ (hq hw 99 rfl) (hq hw 98 rfl)
  refine Ct.mk (a0 := a0) (Ls := #[.val (.ref a)]) (plainFor_of_name pn_java_lang_Record) (fun m => by first | (simp [entryFrame, mkF, argsToLocals, Value.category]; done) | rfl) ?_
  intro κ C
  show Go l _ Z _ _ _ κ [] h0 0 #[.val (.ref a)] [] 0 0
  refine go_aloadN C 1 d17_0 rfl rfl rfl ?_
  refine go_initO C 4 (W := 0) d17_1 rfl (hq hw 100 rfl) (hq hw 16 rfl) (hq hw 17 rfl) rfl (by decide) (Nat.le_of_eq rfl) (by decide) ?_
  refine go_ret C d17_4 rfl (by decide) (by decide) ?_
  exact ⟨rfl, rfl⟩
theorem ct_alinit0 (l : Launch) (Z : State) (a0 : Array Value) (hw : HW a0 Z) {cS : Int32} {dE : Addr} {kE : ClassId} (am : Amb Z a0 cS dE kE) {a : Addr} {u1 : Value} {u2 : Value} {h0 : Heap} (p0 : Exa Z h0 a "java/util/ArrayList") (p1 : Fld Z h0 a "java/util/AbstractList" "modCount" "I" (.int 0)) (p2 : Fld Z h0 a "java/util/ArrayList" "size" "I" u1) (p3 : Fld Z h0 a "java/util/ArrayList" "elementData" "[Ljava/lang/Object;" u2) :
    Py l Z (⟨"java/util/AbstractList", "<init>", "()V"⟩ : MethodName) 3 36 0 0 #[(.ref a)] h0 [a] (fun v h' => v = none ∧ Exa Z h' a "java/util/ArrayList" ∧ Fld Z h' a "java/util/AbstractList" "modCount" "I" (.int 0) ∧ Fld Z h' a "java/util/ArrayList" "size" "I" u1 ∧ Fld Z h' a "java/util/ArrayList" "elementData" "[Ljava/lang/Object;" u2) := by
  refine Ct.py (by0 := jdk_39_method_1_code) (ml := 1) (rt := none) (rm := ({ frames := 2, cells := 0, slots := 0, locals := 24 } : Room)) ?_ (hq hw 45 rfl) (hq hw 44 rfl)
  refine Ct.mk (a0 := a0) (Ls := #[.val (.ref a)]) (plainFor_of_name pn_java_util_AbstractList) (fun m => by first | (simp [entryFrame, mkF, argsToLocals, Value.category]; done) | rfl) ?_
  intro κ C
  show Go l _ Z _ _ _ κ [a] h0 0 #[.val (.ref a)] [] 0 0
  refine go_aloadN C 1 d9_0 rfl rfl rfl ?_
  refine go_callI C (a := a) (argsL := []) (W := 0) d9_1 rfl (hq hw 46 rfl) (hq hw 47 rfl) (hq hw 51 rfl) (by decide) pd___V (ct_acinit l Z a0 hw am (a := a)) rfl (by decide) (Nat.le_of_eq rfl) (by decide) rfl (by decide) (by decide) mems0 ?_
  intro v1 h2 K3 q4
  obtain ⟨rfl, rfl⟩ := q4
  refine ⟨[], fresh0, ?_⟩
  show Go l _ Z _ _ _ κ _ _ 4 _ [] 0 0
  refine go_aloadN C 5 d9_4 rfl rfl rfl ?_
  refine go_iconst C 6 (0 : Int32) d9_5 rfl (by decide) ?_
  refine go_putF C 9 (ty := .int) d9_6 rfl (hq hw 53 rfl) Via.refl p1 p0 (Or.inl (hq hw 54 rfl)) (hq hw 35 rfl) (by decide) rfl rfl (mi 0 rfl) ?_
  intro h5 W6
  have x7 : Fld Z h5 a "java/util/AbstractList" "modCount" "I" (.int 0) := Fld.same W6 p1
  refine go_ret C d9_9 rfl (by decide) (by decide) ?_
  have x8 := (Exa.wr W6 p0)
  have x9 := (Fld.other W6 p2 (Or.inr (slot_ne (Or.inl (hq hw 66 rfl)) (Or.inl (hq hw 54 rfl)) (by decide) (t := .int) (t' := .int) (by decide) (by decide))))
  have x10 := (Fld.other W6 p3 (Or.inr (slot_ne (Or.inl (hq hw 57 rfl)) (Or.inl (hq hw 54 rfl)) (by decide) (t := (.array (.object "java/lang/Object"))) (t' := .int) (by decide) (by decide))))
  exact ⟨rfl, x8, x7, x9, x10⟩
theorem ct_alinit (l : Launch) (Z : State) (a0 : Array Value) (hw : HW a0 Z) {cS : Int32} {dE : Addr} {kE : ClassId} (am : Amb Z a0 cS dE kE) {a : Addr} {h0 : Heap} (p0 : Exa Z h0 a "java/util/ArrayList") (p1 : Fld Z h0 a "java/util/AbstractList" "modCount" "I" (.int 0)) (p2 : Fld Z h0 a "java/util/ArrayList" "size" "I" (.int 0)) (p3 : Fld Z h0 a "java/util/ArrayList" "elementData" "[Ljava/lang/Object;" .null) :
    Py l Z (⟨"java/util/ArrayList", "<init>", "()V"⟩ : MethodName) 4 48 0 0 #[(.ref a)] h0 [a] (fun v h' => v = none ∧ Exa Z h' a "java/util/ArrayList" ∧ Fld Z h' a "java/util/AbstractList" "modCount" "I" (.int 0) ∧ Fld Z h' a "java/util/ArrayList" "size" "I" (.int 0) ∧ Fld Z h' a "java/util/ArrayList" "elementData" "[Ljava/lang/Object;" (.ref dE)) := by
  refine Ct.py (by0 := jdk_38_method_2_code) (ml := 1) (rt := none) (rm := ({ frames := 3, cells := 0, slots := 0, locals := 36 } : Room)) ?_ (hq hw 39 rfl) (hq hw 36 rfl)
  refine Ct.mk (a0 := a0) (Ls := #[.val (.ref a)]) (plainFor_of_name pn_java_util_ArrayList) (fun m => by first | (simp [entryFrame, mkF, argsToLocals, Value.category]; done) | rfl) ?_
  intro κ C
  show Go l _ Z _ _ _ κ [a] h0 0 #[.val (.ref a)] [] 0 0
  refine go_aloadN C 1 d8_0 rfl rfl rfl ?_
  refine go_callI C (a := a) (argsL := []) (W := 0) d8_1 rfl (hq hw 40 rfl) (hq hw 41 rfl) (hq hw 45 rfl) (by decide) pd___V (ct_alinit0 l Z a0 hw am (a := a) (u1 := (.int 0)) (u2 := .null) p0 p1 p2 p3) rfl (by decide) (Nat.le_of_eq rfl) (by decide) rfl (by decide) (by decide) (memsS (mi 0 rfl) mems0) ?_
  intro v1 h2 K3 q4
  obtain ⟨rfl, x5, x6, x7, x8⟩ := q4
  refine ⟨[], fresh0, ?_⟩
  show Go l _ Z _ _ _ κ _ _ 4 _ [] 0 0
  refine go_aloadN C 5 d8_4 rfl rfl rfl ?_
  refine go_getS C 8 d8_5 rfl (hq hw 55 rfl) am.2.2.1 ?_
  refine go_putF C 11 (ty := (.array (.object "java/lang/Object"))) d8_8 rfl (hq hw 56 rfl) Via.refl x8 x5 (Or.inl (hq hw 57 rfl)) (hq hw 35 rfl) (by decide) rfl rfl (mi 0 rfl) ?_
  intro h9 W10
  have x11 : Fld Z h9 a "java/util/ArrayList" "elementData" "[Ljava/lang/Object;" (.ref dE) := Fld.same W10 x8
  refine go_ret C d8_11 rfl (by decide) (by decide) ?_
  have x12 := (Exa.wr W10 x5)
  have x13 := (Fld.other W10 x6 (Or.inr (slot_ne (Or.inl (hq hw 54 rfl)) (Or.inl (hq hw 57 rfl)) (by decide) (t := .int) (t' := (.array (.object "java/lang/Object"))) (by decide) (by decide))))
  have x14 := (Fld.other W10 x7 (Or.inr (slot_ne (Or.inl (hq hw 66 rfl)) (Or.inl (hq hw 57 rfl)) (by decide) (t := .int) (t' := (.array (.object "java/lang/Object"))) (by decide) (by decide))))
  exact ⟨rfl, x12, x13, x14, x11⟩
theorem ct_max (l : Launch) (Z : State) (a0 : Array Value) (hw : HW a0 Z) {cS : Int32} {dE : Addr} {kE : ClassId} (am : Amb Z a0 cS dE kE) {h0 : Heap} :
    Py l Z (⟨"java/lang/Math", "max", "(II)I"⟩ : MethodName) 1 13 0 0 #[(.int 10), (.int 1)] h0 [] (fun v h' => v = some (.int 10) ∧ h' = h0) := by
  refine Ct.py (by0 := jdk_29_method_65_code) (ml := 2) (rt := (some .int)) (rm := ({ frames := 0, cells := 0, slots := 0, locals := 0 } : Room)) ?_ (hq hw 85 rfl) (hq hw 84 rfl)
  refine Ct.mk (a0 := a0) (Ls := #[.val (.int 10), .val (.int 1)]) (Jvm.Free.JP.mathPlain rfl (by decide +kernel)) (fun m => by first | (simp [entryFrame, mkF, argsToLocals, Value.category]; done) | rfl) ?_
  intro κ C
  show Go l _ Z _ _ _ κ [] h0 0 #[.val (.int 10), .val (.int 1)] [] 0 0
  refine go_iloadN C 1 d15_0 rfl rfl ?_
  refine go_iloadN C 2 d15_1 rfl rfl ?_
  refine go_icmpN C 5 d15_2 rfl (flt ((by decide) : ¬ ((10 : Int32) < (1 : Int32)))).1 ?_
  refine go_iloadN C 6 d15_5 rfl rfl ?_
  refine go_goto C (pc' := 10) d15_6 (by decide) (by decide) ?_
  refine go_retI C d15_10 rfl (by decide) (by decide) ?_
  exact ⟨rfl, rfl⟩
theorem ct_growI (l : Launch) (Z : State) (a0 : Array Value) (hw : HW a0 Z) {cS : Int32} {dE : Addr} {kE : ClassId} (am : Amb Z a0 cS dE kE) {a : Addr} {h0 : Heap} (p0 : Exa Z h0 a "java/util/ArrayList") (p1 : Fld Z h0 a "java/util/ArrayList" "elementData" "[Ljava/lang/Object;" (.ref dE)) (p2 : Fld Z h0 a "java/util/ArrayList" "size" "I" (.int 0)) (p3 : Fld Z h0 a "java/util/AbstractList" "modCount" "I" (.int 1)) :
    Py l Z (⟨"java/util/ArrayList", "grow", "(I)[Ljava/lang/Object;"⟩ : MethodName) 2 29 1 10 #[(.ref a), (.int 1)] h0 [a] (fun v h' => ∃ (t : Addr) (kt : ClassId), v = some (.ref t) ∧ Exa Z h' a "java/util/ArrayList" ∧ Fld Z h' a "java/util/AbstractList" "modCount" "I" (.int 1) ∧ Fld Z h' a "java/util/ArrayList" "size" "I" (.int 0) ∧ Fld Z h' a "java/util/ArrayList" "elementData" "[Ljava/lang/Object;" (.ref t) ∧ Arv Z h' t kt (.object "java/lang/Object") (10 : Int32) [.null, .null, .null, .null, .null, .null, .null, .null, .null, .null] .null ∧ Ovr Z kt "java/lang/Object" ∧ h0.size ≤ t) := by
  refine Ct.py (by0 := jdk_38_method_6_code) (ml := 4) (rt := (some (.array (.object "java/lang/Object")))) (rm := ({ frames := 1, cells := 1, slots := 10, locals := 14 } : Room)) ?_ (hq hw 81 rfl) (hq hw 36 rfl)
  refine Ct.mk (a0 := a0) (Ls := #[.val (.ref a), .val (.int 1), .unset, .unset]) (plainFor_of_name pn_java_util_ArrayList) (fun m => by first | (simp [entryFrame, mkF, argsToLocals, Value.category]; done) | rfl) ?_
  intro κ C
  show Go l _ Z _ _ _ κ [a] h0 0 #[.val (.ref a), .val (.int 1), .unset, .unset] [] 0 0
  refine go_aloadN C 1 d14_0 rfl rfl rfl ?_
  refine go_getF C 4 d14_1 rfl (hq hw 56 rfl) Via.refl p1 ?_
  refine go_old ?_
  intro O1 zO1
  refine go_arraylength C 5 d14_4 rfl (am.2.2.2.ext O1) ?_
  refine go_istoreN C 6 (Ls' := #[.val (.ref a), .val (.int 1), .val (.int 0), .unset]) d14_5 rfl rfl ?_
  refine go_iloadN C 7 d14_6 rfl rfl ?_
  refine go_ifN C 10 d14_7 rfl (flt ((by decide) : ¬ ((0 : Int32) < (0 : Int32)))).2.2.1 ?_
  refine go_aloadN C 11 d14_10 rfl rfl rfl ?_
  refine go_getF C 14 d14_11 rfl (hq hw 56 rfl) Via.refl p1 ?_
  refine go_getS C 17 d14_14 rfl (hq hw 55 rfl) am.2.2.1 ?_
  refine go_acmp C (b := true) (pc' := 45) d14_17 rfl rfl (decide_eq_true rfl) (by decide) (by decide) ?_
  refine go_aloadN C 46 d14_45 rfl rfl rfl ?_
  refine go_bipush C 48 (10 : Int32) d14_46 rfl (by decide) ?_
  refine go_iloadN C 49 d14_48 rfl rfl ?_
  refine go_callS C (argsL := [(.int 10), (.int 1)]) (W := 1) d14_49 (hq hw 82 rfl) (hq hw 83 rfl) (hq hw 84 rfl) (hq hw 85 rfl) (by decide) pd__II_I (ct_max l Z a0 hw am) rfl (by decide) (Nat.le_of_eq rfl) (by decide) rfl (by decide) (by decide) mems0 ?_
  intro v2 h3 K4 q5
  obtain ⟨rfl, rfl⟩ := q5
  refine ⟨[], fresh0, ?_⟩
  show Go l _ Z _ _ _ κ _ _ 52 _ [(.int 10), (.ref a)] 0 0
  refine go_newR C 55 1 10 (cap := 10) d14_52 rfl rfl rfl (hq hw 86 rfl) (hq hw 87 rfl) (by decide) (by decide) (by decide) (by decide) (by decide) ?_
  intro b6 h7 k8 g9 E10 V11 O12
  have x13 : Arv Z h7 b6 k8 (.object "java/lang/Object") (10 : Int32) [.null, .null, .null, .null, .null, .null, .null, .null, .null, .null] .null := V11
  refine go_dupX1 C 56 d14_55 rfl rfl rfl ?_
  have x14 := (Fld.ext E10 p1)
  have x15 := (Exa.ext E10 p0)
  refine go_putF C 59 (ty := (.array (.object "java/lang/Object"))) d14_56 rfl (hq hw 56 rfl) Via.refl x14 x15 (Or.inl (hq hw 57 rfl)) (hq hw 35 rfl) (by decide) rfl rfl (mi 1 rfl) ?_
  intro h16 W17
  have x18 : Fld Z h16 a "java/util/ArrayList" "elementData" "[Ljava/lang/Object;" (.ref b6) := Fld.same W17 x14
  refine go_retA C (v := (.ref b6)) d14_59 rfl rfl rfl (by decide) (by decide) ?_
  have x19 := (Exa.wr W17 x15)
  have x20 := (Fld.other W17 (Fld.ext E10 p3) (Or.inr (slot_ne (Or.inl (hq hw 54 rfl)) (Or.inl (hq hw 57 rfl)) (by decide) (t := .int) (t' := (.array (.object "java/lang/Object"))) (by decide) (by decide))))
  have x21 := (Fld.other W17 (Fld.ext E10 p2) (Or.inr (slot_ne (Or.inl (hq hw 66 rfl)) (Or.inl (hq hw 57 rfl)) (by decide) (t := .int) (t' := (.array (.object "java/lang/Object"))) (by decide) (by decide))))
  have x22 := (x13.other W17 (Ne.symm (Nat.ne_of_lt (Nat.lt_of_lt_of_le (p0).lt (Nat.le_of_eq g9.symm)))))
  exact ⟨b6, k8, rfl, x19, x20, x21, x18, x22, O12, (Nat.le_of_eq g9.symm)⟩
theorem ct_grow (l : Launch) (Z : State) (a0 : Array Value) (hw : HW a0 Z) {cS : Int32} {dE : Addr} {kE : ClassId} (am : Amb Z a0 cS dE kE) {a : Addr} {h0 : Heap} (p0 : Exa Z h0 a "java/util/ArrayList") (p1 : Fld Z h0 a "java/util/ArrayList" "elementData" "[Ljava/lang/Object;" (.ref dE)) (p2 : Fld Z h0 a "java/util/ArrayList" "size" "I" (.int 0)) (p3 : Fld Z h0 a "java/util/AbstractList" "modCount" "I" (.int 1)) :
    Py l Z (⟨"java/util/ArrayList", "grow", "()[Ljava/lang/Object;"⟩ : MethodName) 3 41 1 10 #[(.ref a)] h0 [a] (fun v h' => ∃ (t : Addr) (kt : ClassId), v = some (.ref t) ∧ Exa Z h' a "java/util/ArrayList" ∧ Fld Z h' a "java/util/AbstractList" "modCount" "I" (.int 1) ∧ Fld Z h' a "java/util/ArrayList" "size" "I" (.int 0) ∧ Fld Z h' a "java/util/ArrayList" "elementData" "[Ljava/lang/Object;" (.ref t) ∧ Arv Z h' t kt (.object "java/lang/Object") (10 : Int32) [.null, .null, .null, .null, .null, .null, .null, .null, .null, .null] .null ∧ Ovr Z kt "java/lang/Object" ∧ h0.size ≤ t) := by
  refine Ct.py (by0 := jdk_38_method_7_code) (ml := 1) (rt := (some (.array (.object "java/lang/Object")))) (rm := ({ frames := 2, cells := 1, slots := 10, locals := 29 } : Room)) ?_ (hq hw 76 rfl) (hq hw 36 rfl)
  refine Ct.mk (a0 := a0) (Ls := #[.val (.ref a)]) (plainFor_of_name pn_java_util_ArrayList) (fun m => by first | (simp [entryFrame, mkF, argsToLocals, Value.category]; done) | rfl) ?_
  intro κ C
  show Go l _ Z _ _ _ κ [a] h0 0 #[.val (.ref a)] [] 0 0
  refine go_aloadN C 1 d13_0 rfl rfl rfl ?_
  refine go_aloadN C 2 d13_1 rfl rfl rfl ?_
  refine go_getF C 5 d13_2 rfl (hq hw 65 rfl) Via.refl p2 ?_
  refine go_iconst C 6 (1 : Int32) d13_5 rfl (by decide) ?_
  refine go_iadd C 7 (1 : Int32) d13_6 rfl (by decide) ?_
  refine go_callV C (a := a) (argsL := [(.int 1)]) (W := 0) d13_7 (hq hw 77 rfl) (decl_of (hq hw 78 rfl) (hq hw 81 rfl)) (fun _ hZ => notFace_of_selects (args := #[]) (mvT hZ (hq hw 80 rfl))) (hq hw 80 rfl) (hq hw 78 rfl) p0 (by decide) pd__I__Ljava_lang_Object_ (ct_growI l Z a0 hw am (a := a) p0 p1 p2 p3) rfl (by decide) (Nat.le_of_eq rfl) (by decide) rfl (by decide) (by decide) (memsS (mi 0 rfl) mems0) ?_
  intro v1 h2 K3 q4
  obtain ⟨t5, kt6, rfl, x7, x8, x9, x10, x11, x12, x13⟩ := q4
  refine ⟨[t5], (freshS ⟨x13, (x11).lt⟩ fresh0), ?_⟩
  show Go l _ Z _ _ _ κ [t5, a] _ 10 _ [(.ref t5)] 1 10
  refine go_retA C (v := (.ref t5)) d13_10 rfl rfl rfl (by decide) (by decide) ?_
  exact ⟨t5, kt6, rfl, x7, x8, x9, x10, x11, x12, x13⟩
theorem ct_addI0 (l : Launch) (Z : State) (a0 : Array Value) (hw : HW a0 Z) {cS : Int32} {dE : Addr} {kE : ClassId} (am : Amb Z a0 cS dE kE) {a : Addr} {s : Addr} {h0 : Heap} (p0 : Exa Z h0 a "java/util/ArrayList") (p1 : Exa Z h0 s "java/lang/String") (p2 : Fld Z h0 a "java/util/ArrayList" "size" "I" (.int 0)) (p3 : Fld Z h0 a "java/util/AbstractList" "modCount" "I" (.int 1)) (p4 : Fld Z h0 a "java/util/ArrayList" "elementData" "[Ljava/lang/Object;" (.ref dE)) :
    Py l Z (⟨"java/util/ArrayList", "add", "(Ljava/lang/Object;[Ljava/lang/Object;I)V"⟩ : MethodName) 4 56 1 10 #[(.ref a), (.ref s), (.ref dE), (.int 0)] h0 [a] (fun v h' => ∃ (t : Addr) (kt : ClassId), v = none ∧ Exa Z h' a "java/util/ArrayList" ∧ Fld Z h' a "java/util/AbstractList" "modCount" "I" (.int 1) ∧ Fld Z h' a "java/util/ArrayList" "size" "I" (.int 1) ∧ Fld Z h' a "java/util/ArrayList" "elementData" "[Ljava/lang/Object;" (.ref t) ∧ Arv Z h' t kt (.object "java/lang/Object") (10 : Int32) [(.ref s), .null, .null, .null, .null, .null, .null, .null, .null, .null] .null ∧ Ovr Z kt "java/lang/Object" ∧ h0.size ≤ t) := by
  refine Ct.py (by0 := jdk_38_method_24_code) (ml := 4) (rt := none) (rm := ({ frames := 3, cells := 1, slots := 10, locals := 41 } : Room)) ?_ (hq hw 71 rfl) (hq hw 36 rfl)
  refine Ct.mk (a0 := a0) (Ls := #[.val (.ref a), .val (.ref s), .val (.ref dE), .val (.int 0)]) (plainFor_of_name pn_java_util_ArrayList) (fun m => by first | (simp [entryFrame, mkF, argsToLocals, Value.category]; done) | rfl) ?_
  intro κ C
  show Go l _ Z _ _ _ κ [a] h0 0 #[.val (.ref a), .val (.ref s), .val (.ref dE), .val (.int 0)] [] 0 0
  refine go_iloadN C 1 d12_0 rfl rfl ?_
  refine go_aloadN C 2 d12_1 rfl rfl rfl ?_
  refine go_old ?_
  intro O1 zO1
  refine go_arraylength C 3 d12_2 rfl (am.2.2.2.ext O1) ?_
  refine go_icmpN C 6 d12_3 rfl (teq ((by decide) : (0 : Int32) = (0 : Int32))).2 ?_
  refine go_aloadN C 7 d12_6 rfl rfl rfl ?_
  refine go_callV C (a := a) (argsL := []) (W := 0) d12_7 (hq hw 72 rfl) (decl_of (hq hw 73 rfl) (hq hw 76 rfl)) (fun _ hZ => notFace_of_selects (args := #[]) (mvT hZ (hq hw 75 rfl))) (hq hw 75 rfl) (hq hw 73 rfl) p0 (by decide) pd____Ljava_lang_Object_ (ct_grow l Z a0 hw am (a := a) p0 p4 p2 p3) rfl (by decide) (Nat.le_of_eq rfl) (by decide) rfl (by decide) (by decide) (memsS (mi 0 rfl) mems0) ?_
  intro v2 h3 K4 q5
  obtain ⟨t6, kt7, rfl, x8, x9, x10, x11, x12, x13, x14⟩ := q5
  refine ⟨[t6], (freshS ⟨x14, (x12).lt⟩ fresh0), ?_⟩
  show Go l _ Z _ _ _ κ [t6, a] _ 10 _ [(.ref t6)] 1 10
  refine go_astoreN C 11 (Ls' := #[.val (.ref a), .val (.ref s), .val (.ref t6), .val (.int 0)]) d12_10 rfl rfl rfl ?_
  refine go_aloadN C 12 d12_11 rfl rfl rfl ?_
  refine go_iloadN C 13 d12_12 rfl rfl ?_
  refine go_aloadN C 14 d12_13 rfl rfl rfl ?_
  have x18 := (p1.keep K4)
  refine go_aastore C 15 0 d12_14 rfl x12 rfl rfl (sto_arv x12 x13 (Ins.of_exa x18 (hq hw 88 rfl))) (by decide) rfl (nble rfl) (mi 0 rfl) ?_
  intro h15 W16 x17
  have x19 : Arv Z h15 t6 kt7 (.object "java/lang/Object") (10 : Int32) [(.ref s), .null, .null, .null, .null, .null, .null, .null, .null, .null] .null := x17
  refine go_aloadN C 16 d12_15 rfl rfl rfl ?_
  refine go_iloadN C 17 d12_16 rfl rfl ?_
  refine go_iconst C 18 (1 : Int32) d12_17 rfl (by decide) ?_
  refine go_iadd C 19 (1 : Int32) d12_18 rfl (by decide) ?_
  have x20 := (Fld.other W16 x10 (Or.inl (Nat.ne_of_lt (Nat.lt_of_lt_of_le (p0).lt x14))))
  have x21 := (Exa.wr W16 x8)
  refine go_putF C 22 (ty := .int) d12_19 rfl (hq hw 65 rfl) Via.refl x20 x21 (Or.inl (hq hw 66 rfl)) (hq hw 35 rfl) (by decide) rfl rfl (mi 1 rfl) ?_
  intro h22 W23
  have x24 : Fld Z h22 a "java/util/ArrayList" "size" "I" (.int 1) := Fld.same W23 x20
  refine go_ret C d12_22 rfl (by decide) (by decide) ?_
  have x25 := (Exa.wr W23 x21)
  have x26 := (Fld.other W23 (Fld.other W16 x9 (Or.inl (Nat.ne_of_lt (Nat.lt_of_lt_of_le (p0).lt x14)))) (Or.inr (slot_ne (Or.inl (hq hw 54 rfl)) (Or.inl (hq hw 66 rfl)) (by decide) (t := .int) (t' := .int) (by decide) (by decide))))
  have x27 := (Fld.other W23 (Fld.other W16 x11 (Or.inl (Nat.ne_of_lt (Nat.lt_of_lt_of_le (p0).lt x14)))) (Or.inr (slot_ne (Or.inl (hq hw 57 rfl)) (Or.inl (hq hw 66 rfl)) (by decide) (t := (.array (.object "java/lang/Object"))) (t' := .int) (by decide) (by decide))))
  have x28 := (x19.other W23 (Ne.symm (Nat.ne_of_lt (Nat.lt_of_lt_of_le (p0).lt x14))))
  exact ⟨t6, kt7, rfl, x25, x26, x24, x27, x28, x13, x14⟩
theorem ct_add0 (l : Launch) (Z : State) (a0 : Array Value) (hw : HW a0 Z) {cS : Int32} {dE : Addr} {kE : ClassId} (am : Amb Z a0 cS dE kE) {a : Addr} {s : Addr} {h0 : Heap} (p0 : Exa Z h0 a "java/util/ArrayList") (p1 : Exa Z h0 s "java/lang/String") (p2 : Fld Z h0 a "java/util/ArrayList" "size" "I" (.int 0)) (p3 : Fld Z h0 a "java/util/AbstractList" "modCount" "I" (.int 0)) (p4 : Fld Z h0 a "java/util/ArrayList" "elementData" "[Ljava/lang/Object;" (.ref dE)) :
    Py l Z (⟨"java/util/ArrayList", "add", "(Ljava/lang/Object;)Z"⟩ : MethodName) 5 69 1 10 #[(.ref a), (.ref s)] h0 [a] (fun v h' => ∃ (t : Addr) (kt : ClassId), v = some (.int 1) ∧ Exa Z h' a "java/util/ArrayList" ∧ Fld Z h' a "java/util/AbstractList" "modCount" "I" (.int 1) ∧ Fld Z h' a "java/util/ArrayList" "size" "I" (.int 1) ∧ Fld Z h' a "java/util/ArrayList" "elementData" "[Ljava/lang/Object;" (.ref t) ∧ Arv Z h' t kt (.object "java/lang/Object") (10 : Int32) [(.ref s), .null, .null, .null, .null, .null, .null, .null, .null, .null] .null ∧ Ovr Z kt "java/lang/Object" ∧ h0.size ≤ t) := by
  refine Ct.py (by0 := jdk_38_method_25_code) (ml := 2) (rt := (some .boolean)) (rm := ({ frames := 4, cells := 1, slots := 10, locals := 56 } : Room)) ?_ (hq hw 62 rfl) (hq hw 36 rfl)
  refine Ct.mk (a0 := a0) (Ls := #[.val (.ref a), .val (.ref s)]) (plainFor_of_name pn_java_util_ArrayList) (fun m => by first | (simp [entryFrame, mkF, argsToLocals, Value.category]; done) | rfl) ?_
  intro κ C
  show Go l _ Z _ _ _ κ [a] h0 0 #[.val (.ref a), .val (.ref s)] [] 0 0
  refine go_aloadN C 1 d11_0 rfl rfl rfl ?_
  refine go_dup C 2 d11_1 rfl rfl ?_
  refine go_getF C 5 d11_2 rfl (hq hw 63 rfl) (Via.of (hq hw 64 rfl)) p3 ?_
  refine go_iconst C 6 (1 : Int32) d11_5 rfl (by decide) ?_
  refine go_iadd C 7 (1 : Int32) d11_6 rfl (by decide) ?_
  refine go_putF C 10 (ty := .int) d11_7 rfl (hq hw 63 rfl) (Via.of (hq hw 64 rfl)) p3 p0 (Or.inl (hq hw 54 rfl)) (hq hw 35 rfl) (by decide) rfl rfl (mi 0 rfl) ?_
  intro h1 W2
  have x3 : Fld Z h1 a "java/util/AbstractList" "modCount" "I" (.int 1) := Fld.same W2 p3
  refine go_aloadN C 11 d11_10 rfl rfl rfl ?_
  refine go_aloadN C 12 d11_11 rfl rfl rfl ?_
  refine go_aloadN C 13 d11_12 rfl rfl rfl ?_
  have x4 := (Fld.other W2 p4 (Or.inr (slot_ne (Or.inl (hq hw 57 rfl)) (Or.inl (hq hw 54 rfl)) (by decide) (t := (.array (.object "java/lang/Object"))) (t' := .int) (by decide) (by decide))))
  refine go_getF C 16 d11_13 rfl (hq hw 56 rfl) Via.refl x4 ?_
  refine go_aloadN C 17 d11_16 rfl rfl rfl ?_
  have x5 := (Fld.other W2 p2 (Or.inr (slot_ne (Or.inl (hq hw 66 rfl)) (Or.inl (hq hw 54 rfl)) (by decide) (t := .int) (t' := .int) (by decide) (by decide))))
  refine go_getF C 20 d11_17 rfl (hq hw 65 rfl) Via.refl x5 ?_
  have x6 := (Exa.wr W2 p0)
  have x7 := (Exa.wr W2 p1)
  refine go_callV C (a := a) (argsL := [(.ref s), (.ref dE), (.int 0)]) (W := 0) d11_20 (hq hw 67 rfl) (decl_of (hq hw 68 rfl) (hq hw 71 rfl)) (fun _ hZ => notFace_of_selects (args := #[]) (mvT hZ (hq hw 70 rfl))) (hq hw 70 rfl) (hq hw 68 rfl) x6 (by decide) pd__Ljava_lang_Object__Ljava_lang_Object_I_V (ct_addI0 l Z a0 hw am (a := a) (s := s) x6 x7 x5 x3 x4) rfl (by decide) (Nat.le_of_eq rfl) (by decide) rfl (by decide) (by decide) (memsS (mi 0 rfl) mems0) ?_
  intro v8 h9 K10 q11
  obtain ⟨t12, kt13, rfl, x14, x15, x16, x17, x18, x19, x20⟩ := q11
  refine ⟨[t12], (freshS ⟨x20, (x18).lt⟩ fresh0), ?_⟩
  show Go l _ Z _ _ _ κ [t12, a] _ 23 _ [] 1 10
  refine go_iconst C 24 (1 : Int32) d11_23 rfl (by decide) ?_
  refine go_retN C (t := .boolean) (z := (1 : Int32)) d11_24 rfl (by decide) (by decide) (by decide) (by decide) ?_
  exact ⟨t12, kt13, rfl, x14, x15, x16, x17, x18, x19, (Nat.le_trans (Nat.le_of_eq W2.size.symm) x20)⟩
theorem ct_addI1 (l : Launch) (Z : State) (a0 : Array Value) (hw : HW a0 Z) {cS : Int32} {dE : Addr} {kE : ClassId} (am : Amb Z a0 cS dE kE) {a : Addr} {s : Addr} {t : Addr} {kt : ClassId} {e0 : Addr} {h0 : Heap} (p0 : Exa Z h0 a "java/util/ArrayList") (p1 : Exa Z h0 s "java/lang/String") (p2 : Fld Z h0 a "java/util/ArrayList" "size" "I" (.int 1)) (p3 : Fld Z h0 a "java/util/AbstractList" "modCount" "I" (.int 2)) (p4 : Fld Z h0 a "java/util/ArrayList" "elementData" "[Ljava/lang/Object;" (.ref t)) (p5 : Arv Z h0 t kt (.object "java/lang/Object") (10 : Int32) [(.ref e0), .null, .null, .null, .null, .null, .null, .null, .null, .null] .null) (ov : Ovr Z kt "java/lang/Object") :
    Py l Z (⟨"java/util/ArrayList", "add", "(Ljava/lang/Object;[Ljava/lang/Object;I)V"⟩ : MethodName) 1 15 0 0 #[(.ref a), (.ref s), (.ref t), (.int 1)] h0 [a, t] (fun v h' => v = none ∧ Exa Z h' a "java/util/ArrayList" ∧ Fld Z h' a "java/util/AbstractList" "modCount" "I" (.int 2) ∧ Fld Z h' a "java/util/ArrayList" "size" "I" (.int 2) ∧ Fld Z h' a "java/util/ArrayList" "elementData" "[Ljava/lang/Object;" (.ref t) ∧ Arv Z h' t kt (.object "java/lang/Object") (10 : Int32) [(.ref e0), (.ref s), .null, .null, .null, .null, .null, .null, .null, .null] .null) := by
  refine Ct.py (by0 := jdk_38_method_24_code) (ml := 4) (rt := none) (rm := ({ frames := 0, cells := 0, slots := 0, locals := 0 } : Room)) ?_ (hq hw 71 rfl) (hq hw 36 rfl)
  refine Ct.mk (a0 := a0) (Ls := #[.val (.ref a), .val (.ref s), .val (.ref t), .val (.int 1)]) (plainFor_of_name pn_java_util_ArrayList) (fun m => by first | (simp [entryFrame, mkF, argsToLocals, Value.category]; done) | rfl) ?_
  intro κ C
  show Go l _ Z _ _ _ κ [a, t] h0 0 #[.val (.ref a), .val (.ref s), .val (.ref t), .val (.int 1)] [] 0 0
  refine go_iloadN C 1 d12_0 rfl rfl ?_
  refine go_aloadN C 2 d12_1 rfl rfl rfl ?_
  refine go_arraylength C 3 d12_2 rfl p5 ?_
  refine go_icmpY C (pc' := 11) d12_3 (feq ((by decide) : ¬ ((1 : Int32) = (10 : Int32)))).2 (by decide) (by decide) ?_
  refine go_aloadN C 12 d12_11 rfl rfl rfl ?_
  refine go_iloadN C 13 d12_12 rfl rfl ?_
  refine go_aloadN C 14 d12_13 rfl rfl rfl ?_
  refine go_aastore C 15 1 d12_14 rfl p5 rfl rfl (sto_arv p5 ov (Ins.of_exa p1 (hq hw 88 rfl))) (by decide) rfl (nble rfl) (mi 1 rfl) ?_
  intro h1 W2 x3
  have x4 : Arv Z h1 t kt (.object "java/lang/Object") (10 : Int32) [(.ref e0), (.ref s), .null, .null, .null, .null, .null, .null, .null, .null] .null := x3
  refine go_aloadN C 16 d12_15 rfl rfl rfl ?_
  refine go_iloadN C 17 d12_16 rfl rfl ?_
  refine go_iconst C 18 (1 : Int32) d12_17 rfl (by decide) ?_
  refine go_iadd C 19 (2 : Int32) d12_18 rfl (by decide) ?_
  have x5 := (Fld.other W2 p2 (Or.inl (Exa.neArv (Exa.wr W2 p0) x4 (hq hw 35 rfl))))
  have x6 := (Exa.wr W2 p0)
  refine go_putF C 22 (ty := .int) d12_19 rfl (hq hw 65 rfl) Via.refl x5 x6 (Or.inl (hq hw 66 rfl)) (hq hw 35 rfl) (by decide) rfl rfl (mi 0 rfl) ?_
  intro h7 W8
  have x9 : Fld Z h7 a "java/util/ArrayList" "size" "I" (.int 2) := Fld.same W8 x5
  refine go_ret C d12_22 rfl (by decide) (by decide) ?_
  have x10 := (Exa.wr W8 x6)
  have x11 := (Fld.other W8 (Fld.other W2 p3 (Or.inl (Exa.neArv (Exa.wr W2 p0) x4 (hq hw 35 rfl)))) (Or.inr (slot_ne (Or.inl (hq hw 54 rfl)) (Or.inl (hq hw 66 rfl)) (by decide) (t := .int) (t' := .int) (by decide) (by decide))))
  have x12 := (Fld.other W8 (Fld.other W2 p4 (Or.inl (Exa.neArv (Exa.wr W2 p0) x4 (hq hw 35 rfl)))) (Or.inr (slot_ne (Or.inl (hq hw 57 rfl)) (Or.inl (hq hw 66 rfl)) (by decide) (t := (.array (.object "java/lang/Object"))) (t' := .int) (by decide) (by decide))))
  have x13 := (x4.other W8 (Ne.symm (Exa.neArv (Exa.wr W2 p0) x4 (hq hw 35 rfl))))
  exact ⟨rfl, x10, x11, x9, x12, x13⟩
theorem ct_add1 (l : Launch) (Z : State) (a0 : Array Value) (hw : HW a0 Z) {cS : Int32} {dE : Addr} {kE : ClassId} (am : Amb Z a0 cS dE kE) {a : Addr} {s : Addr} {t : Addr} {kt : ClassId} {e0 : Addr} {h0 : Heap} (p0 : Exa Z h0 a "java/util/ArrayList") (p1 : Exa Z h0 s "java/lang/String") (p2 : Fld Z h0 a "java/util/ArrayList" "size" "I" (.int 1)) (p3 : Fld Z h0 a "java/util/AbstractList" "modCount" "I" (.int 1)) (p4 : Fld Z h0 a "java/util/ArrayList" "elementData" "[Ljava/lang/Object;" (.ref t)) (p5 : Arv Z h0 t kt (.object "java/lang/Object") (10 : Int32) [(.ref e0), .null, .null, .null, .null, .null, .null, .null, .null, .null] .null) (ov : Ovr Z kt "java/lang/Object") :
    Py l Z (⟨"java/util/ArrayList", "add", "(Ljava/lang/Object;)Z"⟩ : MethodName) 2 28 0 0 #[(.ref a), (.ref s)] h0 [a, t] (fun v h' => v = some (.int 1) ∧ Exa Z h' a "java/util/ArrayList" ∧ Fld Z h' a "java/util/AbstractList" "modCount" "I" (.int 2) ∧ Fld Z h' a "java/util/ArrayList" "size" "I" (.int 2) ∧ Fld Z h' a "java/util/ArrayList" "elementData" "[Ljava/lang/Object;" (.ref t) ∧ Arv Z h' t kt (.object "java/lang/Object") (10 : Int32) [(.ref e0), (.ref s), .null, .null, .null, .null, .null, .null, .null, .null] .null) := by
  refine Ct.py (by0 := jdk_38_method_25_code) (ml := 2) (rt := (some .boolean)) (rm := ({ frames := 1, cells := 0, slots := 0, locals := 15 } : Room)) ?_ (hq hw 62 rfl) (hq hw 36 rfl)
  refine Ct.mk (a0 := a0) (Ls := #[.val (.ref a), .val (.ref s)]) (plainFor_of_name pn_java_util_ArrayList) (fun m => by first | (simp [entryFrame, mkF, argsToLocals, Value.category]; done) | rfl) ?_
  intro κ C
  show Go l _ Z _ _ _ κ [a, t] h0 0 #[.val (.ref a), .val (.ref s)] [] 0 0
  refine go_aloadN C 1 d11_0 rfl rfl rfl ?_
  refine go_dup C 2 d11_1 rfl rfl ?_
  refine go_getF C 5 d11_2 rfl (hq hw 63 rfl) (Via.of (hq hw 64 rfl)) p3 ?_
  refine go_iconst C 6 (1 : Int32) d11_5 rfl (by decide) ?_
  refine go_iadd C 7 (2 : Int32) d11_6 rfl (by decide) ?_
  refine go_putF C 10 (ty := .int) d11_7 rfl (hq hw 63 rfl) (Via.of (hq hw 64 rfl)) p3 p0 (Or.inl (hq hw 54 rfl)) (hq hw 35 rfl) (by decide) rfl rfl (mi 0 rfl) ?_
  intro h1 W2
  have x3 : Fld Z h1 a "java/util/AbstractList" "modCount" "I" (.int 2) := Fld.same W2 p3
  refine go_aloadN C 11 d11_10 rfl rfl rfl ?_
  refine go_aloadN C 12 d11_11 rfl rfl rfl ?_
  refine go_aloadN C 13 d11_12 rfl rfl rfl ?_
  have x4 := (Fld.other W2 p4 (Or.inr (slot_ne (Or.inl (hq hw 57 rfl)) (Or.inl (hq hw 54 rfl)) (by decide) (t := (.array (.object "java/lang/Object"))) (t' := .int) (by decide) (by decide))))
  refine go_getF C 16 d11_13 rfl (hq hw 56 rfl) Via.refl x4 ?_
  refine go_aloadN C 17 d11_16 rfl rfl rfl ?_
  have x5 := (Fld.other W2 p2 (Or.inr (slot_ne (Or.inl (hq hw 66 rfl)) (Or.inl (hq hw 54 rfl)) (by decide) (t := .int) (t' := .int) (by decide) (by decide))))
  refine go_getF C 20 d11_17 rfl (hq hw 65 rfl) Via.refl x5 ?_
  have x6 := (Exa.wr W2 p0)
  have x7 := (Exa.wr W2 p1)
  have x8 := (p5.other W2 (Ne.symm (Exa.neArv p0 p5 (hq hw 35 rfl))))
  refine go_callV C (a := a) (argsL := [(.ref s), (.ref t), (.int 1)]) (W := 0) d11_20 (hq hw 67 rfl) (decl_of (hq hw 68 rfl) (hq hw 71 rfl)) (fun _ hZ => notFace_of_selects (args := #[]) (mvT hZ (hq hw 70 rfl))) (hq hw 70 rfl) (hq hw 68 rfl) x6 (by decide) pd__Ljava_lang_Object__Ljava_lang_Object_I_V (ct_addI1 l Z a0 hw am (a := a) (s := s) (t := t) (kt := kt) (e0 := e0) x6 x7 x5 x3 x4 x8 ov) rfl (by decide) (Nat.le_of_eq rfl) (by decide) rfl (by decide) (by decide) (memsS (mi 0 rfl) (memsS (mi 1 rfl) mems0)) ?_
  intro v9 h10 K11 q12
  obtain ⟨rfl, x13, x14, x15, x16, x17⟩ := q12
  refine ⟨[], fresh0, ?_⟩
  show Go l _ Z _ _ _ κ _ _ 23 _ [] 0 0
  refine go_iconst C 24 (1 : Int32) d11_23 rfl (by decide) ?_
  refine go_retN C (t := .boolean) (z := (1 : Int32)) d11_24 rfl (by decide) (by decide) (by decide) (by decide) ?_
  exact ⟨rfl, x13, x14, x15, x16, x17⟩
theorem ct_addI2 (l : Launch) (Z : State) (a0 : Array Value) (hw : HW a0 Z) {cS : Int32} {dE : Addr} {kE : ClassId} (am : Amb Z a0 cS dE kE) {a : Addr} {s : Addr} {t : Addr} {kt : ClassId} {e0 : Addr} {e1 : Addr} {h0 : Heap} (p0 : Exa Z h0 a "java/util/ArrayList") (p1 : Exa Z h0 s "java/lang/String") (p2 : Fld Z h0 a "java/util/ArrayList" "size" "I" (.int 2)) (p3 : Fld Z h0 a "java/util/AbstractList" "modCount" "I" (.int 3)) (p4 : Fld Z h0 a "java/util/ArrayList" "elementData" "[Ljava/lang/Object;" (.ref t)) (p5 : Arv Z h0 t kt (.object "java/lang/Object") (10 : Int32) [(.ref e0), (.ref e1), .null, .null, .null, .null, .null, .null, .null, .null] .null) (ov : Ovr Z kt "java/lang/Object") :
    Py l Z (⟨"java/util/ArrayList", "add", "(Ljava/lang/Object;[Ljava/lang/Object;I)V"⟩ : MethodName) 1 15 0 0 #[(.ref a), (.ref s), (.ref t), (.int 2)] h0 [a, t] (fun v h' => v = none ∧ Exa Z h' a "java/util/ArrayList" ∧ Fld Z h' a "java/util/AbstractList" "modCount" "I" (.int 3) ∧ Fld Z h' a "java/util/ArrayList" "size" "I" (.int 3) ∧ Fld Z h' a "java/util/ArrayList" "elementData" "[Ljava/lang/Object;" (.ref t) ∧ Arv Z h' t kt (.object "java/lang/Object") (10 : Int32) [(.ref e0), (.ref e1), (.ref s), .null, .null, .null, .null, .null, .null, .null] .null) := by
  refine Ct.py (by0 := jdk_38_method_24_code) (ml := 4) (rt := none) (rm := ({ frames := 0, cells := 0, slots := 0, locals := 0 } : Room)) ?_ (hq hw 71 rfl) (hq hw 36 rfl)
  refine Ct.mk (a0 := a0) (Ls := #[.val (.ref a), .val (.ref s), .val (.ref t), .val (.int 2)]) (plainFor_of_name pn_java_util_ArrayList) (fun m => by first | (simp [entryFrame, mkF, argsToLocals, Value.category]; done) | rfl) ?_
  intro κ C
  show Go l _ Z _ _ _ κ [a, t] h0 0 #[.val (.ref a), .val (.ref s), .val (.ref t), .val (.int 2)] [] 0 0
  refine go_iloadN C 1 d12_0 rfl rfl ?_
  refine go_aloadN C 2 d12_1 rfl rfl rfl ?_
  refine go_arraylength C 3 d12_2 rfl p5 ?_
  refine go_icmpY C (pc' := 11) d12_3 (feq ((by decide) : ¬ ((2 : Int32) = (10 : Int32)))).2 (by decide) (by decide) ?_
  refine go_aloadN C 12 d12_11 rfl rfl rfl ?_
  refine go_iloadN C 13 d12_12 rfl rfl ?_
  refine go_aloadN C 14 d12_13 rfl rfl rfl ?_
  refine go_aastore C 15 2 d12_14 rfl p5 rfl rfl (sto_arv p5 ov (Ins.of_exa p1 (hq hw 88 rfl))) (by decide) rfl (nble rfl) (mi 1 rfl) ?_
  intro h1 W2 x3
  have x4 : Arv Z h1 t kt (.object "java/lang/Object") (10 : Int32) [(.ref e0), (.ref e1), (.ref s), .null, .null, .null, .null, .null, .null, .null] .null := x3
  refine go_aloadN C 16 d12_15 rfl rfl rfl ?_
  refine go_iloadN C 17 d12_16 rfl rfl ?_
  refine go_iconst C 18 (1 : Int32) d12_17 rfl (by decide) ?_
  refine go_iadd C 19 (3 : Int32) d12_18 rfl (by decide) ?_
  have x5 := (Fld.other W2 p2 (Or.inl (Exa.neArv (Exa.wr W2 p0) x4 (hq hw 35 rfl))))
  have x6 := (Exa.wr W2 p0)
  refine go_putF C 22 (ty := .int) d12_19 rfl (hq hw 65 rfl) Via.refl x5 x6 (Or.inl (hq hw 66 rfl)) (hq hw 35 rfl) (by decide) rfl rfl (mi 0 rfl) ?_
  intro h7 W8
  have x9 : Fld Z h7 a "java/util/ArrayList" "size" "I" (.int 3) := Fld.same W8 x5
  refine go_ret C d12_22 rfl (by decide) (by decide) ?_
  have x10 := (Exa.wr W8 x6)
  have x11 := (Fld.other W8 (Fld.other W2 p3 (Or.inl (Exa.neArv (Exa.wr W2 p0) x4 (hq hw 35 rfl)))) (Or.inr (slot_ne (Or.inl (hq hw 54 rfl)) (Or.inl (hq hw 66 rfl)) (by decide) (t := .int) (t' := .int) (by decide) (by decide))))
  have x12 := (Fld.other W8 (Fld.other W2 p4 (Or.inl (Exa.neArv (Exa.wr W2 p0) x4 (hq hw 35 rfl)))) (Or.inr (slot_ne (Or.inl (hq hw 57 rfl)) (Or.inl (hq hw 66 rfl)) (by decide) (t := (.array (.object "java/lang/Object"))) (t' := .int) (by decide) (by decide))))
  have x13 := (x4.other W8 (Ne.symm (Exa.neArv (Exa.wr W2 p0) x4 (hq hw 35 rfl))))
  exact ⟨rfl, x10, x11, x9, x12, x13⟩
theorem ct_add2 (l : Launch) (Z : State) (a0 : Array Value) (hw : HW a0 Z) {cS : Int32} {dE : Addr} {kE : ClassId} (am : Amb Z a0 cS dE kE) {a : Addr} {s : Addr} {t : Addr} {kt : ClassId} {e0 : Addr} {e1 : Addr} {h0 : Heap} (p0 : Exa Z h0 a "java/util/ArrayList") (p1 : Exa Z h0 s "java/lang/String") (p2 : Fld Z h0 a "java/util/ArrayList" "size" "I" (.int 2)) (p3 : Fld Z h0 a "java/util/AbstractList" "modCount" "I" (.int 2)) (p4 : Fld Z h0 a "java/util/ArrayList" "elementData" "[Ljava/lang/Object;" (.ref t)) (p5 : Arv Z h0 t kt (.object "java/lang/Object") (10 : Int32) [(.ref e0), (.ref e1), .null, .null, .null, .null, .null, .null, .null, .null] .null) (ov : Ovr Z kt "java/lang/Object") :
    Py l Z (⟨"java/util/ArrayList", "add", "(Ljava/lang/Object;)Z"⟩ : MethodName) 2 28 0 0 #[(.ref a), (.ref s)] h0 [a, t] (fun v h' => v = some (.int 1) ∧ Exa Z h' a "java/util/ArrayList" ∧ Fld Z h' a "java/util/AbstractList" "modCount" "I" (.int 3) ∧ Fld Z h' a "java/util/ArrayList" "size" "I" (.int 3) ∧ Fld Z h' a "java/util/ArrayList" "elementData" "[Ljava/lang/Object;" (.ref t) ∧ Arv Z h' t kt (.object "java/lang/Object") (10 : Int32) [(.ref e0), (.ref e1), (.ref s), .null, .null, .null, .null, .null, .null, .null] .null) := by
  refine Ct.py (by0 := jdk_38_method_25_code) (ml := 2) (rt := (some .boolean)) (rm := ({ frames := 1, cells := 0, slots := 0, locals := 15 } : Room)) ?_ (hq hw 62 rfl) (hq hw 36 rfl)
  refine Ct.mk (a0 := a0) (Ls := #[.val (.ref a), .val (.ref s)]) (plainFor_of_name pn_java_util_ArrayList) (fun m => by first | (simp [entryFrame, mkF, argsToLocals, Value.category]; done) | rfl) ?_
  intro κ C
  show Go l _ Z _ _ _ κ [a, t] h0 0 #[.val (.ref a), .val (.ref s)] [] 0 0
  refine go_aloadN C 1 d11_0 rfl rfl rfl ?_
  refine go_dup C 2 d11_1 rfl rfl ?_
  refine go_getF C 5 d11_2 rfl (hq hw 63 rfl) (Via.of (hq hw 64 rfl)) p3 ?_
  refine go_iconst C 6 (1 : Int32) d11_5 rfl (by decide) ?_
  refine go_iadd C 7 (3 : Int32) d11_6 rfl (by decide) ?_
  refine go_putF C 10 (ty := .int) d11_7 rfl (hq hw 63 rfl) (Via.of (hq hw 64 rfl)) p3 p0 (Or.inl (hq hw 54 rfl)) (hq hw 35 rfl) (by decide) rfl rfl (mi 0 rfl) ?_
  intro h1 W2
  have x3 : Fld Z h1 a "java/util/AbstractList" "modCount" "I" (.int 3) := Fld.same W2 p3
  refine go_aloadN C 11 d11_10 rfl rfl rfl ?_
  refine go_aloadN C 12 d11_11 rfl rfl rfl ?_
  refine go_aloadN C 13 d11_12 rfl rfl rfl ?_
  have x4 := (Fld.other W2 p4 (Or.inr (slot_ne (Or.inl (hq hw 57 rfl)) (Or.inl (hq hw 54 rfl)) (by decide) (t := (.array (.object "java/lang/Object"))) (t' := .int) (by decide) (by decide))))
  refine go_getF C 16 d11_13 rfl (hq hw 56 rfl) Via.refl x4 ?_
  refine go_aloadN C 17 d11_16 rfl rfl rfl ?_
  have x5 := (Fld.other W2 p2 (Or.inr (slot_ne (Or.inl (hq hw 66 rfl)) (Or.inl (hq hw 54 rfl)) (by decide) (t := .int) (t' := .int) (by decide) (by decide))))
  refine go_getF C 20 d11_17 rfl (hq hw 65 rfl) Via.refl x5 ?_
  have x6 := (Exa.wr W2 p0)
  have x7 := (Exa.wr W2 p1)
  have x8 := (p5.other W2 (Ne.symm (Exa.neArv p0 p5 (hq hw 35 rfl))))
  refine go_callV C (a := a) (argsL := [(.ref s), (.ref t), (.int 2)]) (W := 0) d11_20 (hq hw 67 rfl) (decl_of (hq hw 68 rfl) (hq hw 71 rfl)) (fun _ hZ => notFace_of_selects (args := #[]) (mvT hZ (hq hw 70 rfl))) (hq hw 70 rfl) (hq hw 68 rfl) x6 (by decide) pd__Ljava_lang_Object__Ljava_lang_Object_I_V (ct_addI2 l Z a0 hw am (a := a) (s := s) (t := t) (kt := kt) (e0 := e0) (e1 := e1) x6 x7 x5 x3 x4 x8 ov) rfl (by decide) (Nat.le_of_eq rfl) (by decide) rfl (by decide) (by decide) (memsS (mi 0 rfl) (memsS (mi 1 rfl) mems0)) ?_
  intro v9 h10 K11 q12
  obtain ⟨rfl, x13, x14, x15, x16, x17⟩ := q12
  refine ⟨[], fresh0, ?_⟩
  show Go l _ Z _ _ _ κ _ _ 23 _ [] 0 0
  refine go_iconst C 24 (1 : Int32) d11_23 rfl (by decide) ?_
  refine go_retN C (t := .boolean) (z := (1 : Int32)) d11_24 rfl (by decide) (by decide) (by decide) (by decide) ?_
  exact ⟨rfl, x13, x14, x15, x16, x17⟩
theorem ct_row (l : Launch) (Z : State) (a0 : Array Value) (hw : HW a0 Z) {cS : Int32} {dE : Addr} {kE : ClassId} (am : Amb Z a0 cS dE kE) {r : Addr} {ln : Int32} {a : Addr} {h0 : Heap} (p0 : Exa Z h0 r "com/example/slicewise/slicewise/input/CsvFile$Row") (p1 : Fld Z h0 r "com/example/slicewise/slicewise/input/CsvFile$Row" "lineNumber" "I" (.int 0)) (p2 : Fld Z h0 r "com/example/slicewise/slicewise/input/CsvFile$Row" "fields" "Ljava/util/List;" .null) :
    Py l Z (⟨"com/example/slicewise/slicewise/input/CsvFile$Row", "<init>", "(ILjava/util/List;)V"⟩ : MethodName) 3 38 0 0 #[(.ref r), (.int ln), (.ref a)] h0 [r] (fun v h' => v = none ∧ Exa Z h' r "com/example/slicewise/slicewise/input/CsvFile$Row" ∧ Fld Z h' r "com/example/slicewise/slicewise/input/CsvFile$Row" "fields" "Ljava/util/List;" (.ref a)) := by
  refine Ct.py (by0 := prog_5_method_1_code) (ml := 3) (rt := none) (rm := ({ frames := 2, cells := 0, slots := 0, locals := 24 } : Room)) ?_ (hq hw 94 rfl) (hq hw 91 rfl)
  refine Ct.mk (a0 := a0) (Ls := #[.val (.ref r), .val (.int ln), .val (.ref a)]) (plainFor_of_name pn_com_example_slicewise_slicewise_input_CsvFile_Row) (fun m => by first | (simp [entryFrame, mkF, argsToLocals, Value.category]; done) | rfl) ?_
  intro κ C
  show Go l _ Z _ _ _ κ [r] h0 0 #[.val (.ref r), .val (.int ln), .val (.ref a)] [] 0 0
  refine go_aloadN C 1 d16_0 rfl rfl rfl ?_
  refine go_callI C (a := r) (argsL := []) (W := 0) d16_1 rfl (hq hw 95 rfl) (hq hw 96 rfl) (hq hw 99 rfl) (by decide) pd___V (ct_recinit l Z a0 hw am (a := r)) rfl (by decide) (Nat.le_of_eq rfl) (by decide) rfl (by decide) (by decide) mems0 ?_
  intro v1 h2 K3 q4
  obtain ⟨rfl, rfl⟩ := q4
  refine ⟨[], fresh0, ?_⟩
  show Go l _ Z _ _ _ κ _ _ 4 _ [] 0 0
  refine go_aloadN C 5 d16_4 rfl rfl rfl ?_
  refine go_iloadN C 6 d16_5 rfl rfl ?_
  refine go_putF C 9 (ty := .int) d16_6 rfl (hq hw 101 rfl) Via.refl p1 p0 (Or.inr ⟨(hq hw 102 rfl), rfl, rfl⟩) (hq hw 90 rfl) (by decide) rfl rfl (mi 0 rfl) ?_
  intro h5 W6
  have x7 : Fld Z h5 r "com/example/slicewise/slicewise/input/CsvFile$Row" "lineNumber" "I" (.int ln) := Fld.same W6 p1
  refine go_aloadN C 10 d16_9 rfl rfl rfl ?_
  refine go_aloadN C 11 d16_10 rfl rfl rfl ?_
  have x8 := (Fld.other W6 p2 (Or.inr (slot_ne (Or.inr (hq hw 104 rfl)) (Or.inr (hq hw 102 rfl)) (by decide) (t := (.object "java/util/List")) (t' := .int) (by decide) (by decide))))
  have x9 := (Exa.wr W6 p0)
  refine go_putF C 14 (ty := (.object "java/util/List")) d16_11 rfl (hq hw 103 rfl) Via.refl x8 x9 (Or.inr ⟨(hq hw 104 rfl), rfl, rfl⟩) (hq hw 90 rfl) (by decide) rfl rfl (mi 0 rfl) ?_
  intro h10 W11
  have x12 : Fld Z h10 r "com/example/slicewise/slicewise/input/CsvFile$Row" "fields" "Ljava/util/List;" (.ref a) := Fld.same W11 x8
  refine go_ret C d16_14 rfl (by decide) (by decide) ?_
  have x13 := (Exa.wr W11 x9)
  exact ⟨rfl, x13, x12⟩
theorem ct_pci0 (l : Launch) (Z : State) (a0 : Array Value) (hw : HW a0 Z) {cS : Int32} {dE : Addr} {kE : ClassId} (am : Amb Z a0 cS dE kE) {h0 : Heap} :
    Py l Z (⟨"jdk/internal/util/Preconditions", "checkIndex", "(IILjava/util/function/BiFunction;)I"⟩ : MethodName) 1 14 0 0 #[(.int 0), (.int 3), .null] h0 [] (fun v h' => v = some (.int 0) ∧ h' = h0) := by
  refine Ct.py (by0 := jdk_41_method_11_code) (ml := 3) (rt := (some .int)) (rm := ({ frames := 0, cells := 0, slots := 0, locals := 0 } : Room)) ?_ (hq hw 127 rfl) (hq hw 126 rfl)
  refine Ct.mk (a0 := a0) (Ls := #[.val (.int 0), .val (.int 3), .val .null]) (plainFor_of_name pn_jdk_internal_util_Preconditions) (fun m => by first | (simp [entryFrame, mkF, argsToLocals, Value.category]; done) | rfl) ?_
  intro κ C
  show Go l _ Z _ _ _ κ [] h0 0 #[.val (.int 0), .val (.int 3), .val .null] [] 0 0
  refine go_iloadN C 1 d21_0 rfl rfl ?_
  refine go_ifN C 4 d21_1 rfl (flt ((by decide) : ¬ ((0 : Int32) < (0 : Int32)))).1 ?_
  refine go_iloadN C 5 d21_4 rfl rfl ?_
  refine go_iloadN C 6 d21_5 rfl rfl ?_
  refine go_icmpY C (pc' := 16) d21_6 (tlt ((by decide) : (0 : Int32) < (3 : Int32))).1 (by decide) (by decide) ?_
  refine go_iloadN C 17 d21_16 rfl rfl ?_
  refine go_retI C d21_17 rfl (by decide) (by decide) ?_
  exact ⟨rfl, rfl⟩
theorem ct_oci0 (l : Launch) (Z : State) (a0 : Array Value) (hw : HW a0 Z) {cS : Int32} {dE : Addr} {kE : ClassId} (am : Amb Z a0 cS dE kE) {h0 : Heap} :
    Py l Z (⟨"java/util/Objects", "checkIndex", "(II)I"⟩ : MethodName) 2 27 0 0 #[(.int 0), (.int 3)] h0 [] (fun v h' => v = some (.int 0) ∧ h' = h0) := by
  refine Ct.py (by0 := jdk_31_method_17_code) (ml := 2) (rt := (some .int)) (rm := ({ frames := 1, cells := 0, slots := 0, locals := 14 } : Room)) ?_ (hq hw 123 rfl) (hq hw 122 rfl)
  refine Ct.mk (a0 := a0) (Ls := #[.val (.int 0), .val (.int 3)]) (plainFor_of_name pn_java_util_Objects) (fun m => by first | (simp [entryFrame, mkF, argsToLocals, Value.category]; done) | rfl) ?_
  intro κ C
  show Go l _ Z _ _ _ κ [] h0 0 #[.val (.int 0), .val (.int 3)] [] 0 0
  refine go_iloadN C 1 d20_0 rfl rfl ?_
  refine go_iloadN C 2 d20_1 rfl rfl ?_
  refine go_aconstNull C 3 d20_2 rfl ?_
  refine go_callS C (argsL := [(.int 0), (.int 3), .null]) (W := 0) d20_3 (hq hw 124 rfl) (hq hw 125 rfl) (hq hw 126 rfl) (hq hw 127 rfl) (by decide) pd__IILjava_util_function_BiFunction__I (ct_pci0 l Z a0 hw am) rfl (by decide) (Nat.le_of_eq rfl) (by decide) rfl (by decide) (by decide) mems0 ?_
  intro v1 h2 K3 q4
  obtain ⟨rfl, rfl⟩ := q4
  refine ⟨[], fresh0, ?_⟩
  show Go l _ Z _ _ _ κ _ _ 6 _ [(.int 0)] 0 0
  refine go_retI C d20_6 rfl (by decide) (by decide) ?_
  exact ⟨rfl, rfl⟩
theorem ct_eld0 (l : Launch) (Z : State) (a0 : Array Value) (hw : HW a0 Z) {cS : Int32} {dE : Addr} {kE : ClassId} (am : Amb Z a0 cS dE kE) {a : Addr} {t : Addr} {kt : ClassId} {e0 : Addr} {e1 : Addr} {e2 : Addr} {h0 : Heap} (p0 : Exa Z h0 a "java/util/ArrayList") (p1 : Fld Z h0 a "java/util/ArrayList" "elementData" "[Ljava/lang/Object;" (.ref t)) (p2 : Arv Z h0 t kt (.object "java/lang/Object") (10 : Int32) [(.ref e0), (.ref e1), (.ref e2), .null, .null, .null, .null, .null, .null, .null] .null) :
    Py l Z (⟨"java/util/ArrayList", "elementData", "(I)Ljava/lang/Object;"⟩ : MethodName) 1 13 0 0 #[(.ref a), (.int 0)] h0 [] (fun v h' => v = some (.ref e0) ∧ h' = h0) := by
  refine Ct.py (by0 := jdk_38_method_18_code) (ml := 2) (rt := (some (.object "java/lang/Object"))) (rm := ({ frames := 0, cells := 0, slots := 0, locals := 0 } : Room)) ?_ (hq hw 132 rfl) (hq hw 36 rfl)
  refine Ct.mk (a0 := a0) (Ls := #[.val (.ref a), .val (.int 0)]) (plainFor_of_name pn_java_util_ArrayList) (fun m => by first | (simp [entryFrame, mkF, argsToLocals, Value.category]; done) | rfl) ?_
  intro κ C
  show Go l _ Z _ _ _ κ [] h0 0 #[.val (.ref a), .val (.int 0)] [] 0 0
  refine go_aloadN C 1 d22_0 rfl rfl rfl ?_
  refine go_getF C 4 d22_1 rfl (hq hw 56 rfl) Via.refl p1 ?_
  refine go_iloadN C 5 d22_4 rfl rfl ?_
  refine go_aaload C 6 (v := (.ref e0)) d22_5 rfl p2 rfl (by decide) rfl ?_
  refine go_retA C (v := (.ref e0)) d22_6 rfl rfl rfl (by decide) (by decide) ?_
  exact ⟨rfl, rfl⟩
theorem ct_get0 (l : Launch) (Z : State) (a0 : Array Value) (hw : HW a0 Z) {cS : Int32} {dE : Addr} {kE : ClassId} (am : Amb Z a0 cS dE kE) {a : Addr} {t : Addr} {kt : ClassId} {e0 : Addr} {e1 : Addr} {e2 : Addr} {h0 : Heap} (p0 : Exa Z h0 a "java/util/ArrayList") (p1 : Fld Z h0 a "java/util/ArrayList" "elementData" "[Ljava/lang/Object;" (.ref t)) (p2 : Arv Z h0 t kt (.object "java/lang/Object") (10 : Int32) [(.ref e0), (.ref e1), (.ref e2), .null, .null, .null, .null, .null, .null, .null] .null) (p3 : Fld Z h0 a "java/util/ArrayList" "size" "I" (.int 3)) :
    Py l Z (⟨"java/util/ArrayList", "get", "(I)Ljava/lang/Object;"⟩ : MethodName) 3 40 0 0 #[(.ref a), (.int 0)] h0 [] (fun v h' => v = some (.ref e0) ∧ h' = h0) := by
  refine Ct.py (by0 := jdk_38_method_20_code) (ml := 2) (rt := (some (.object "java/lang/Object"))) (rm := ({ frames := 2, cells := 0, slots := 0, locals := 27 } : Room)) ?_ (hq hw 119 rfl) (hq hw 36 rfl)
  refine Ct.mk (a0 := a0) (Ls := #[.val (.ref a), .val (.int 0)]) (plainFor_of_name pn_java_util_ArrayList) (fun m => by first | (simp [entryFrame, mkF, argsToLocals, Value.category]; done) | rfl) ?_
  intro κ C
  show Go l _ Z _ _ _ κ [] h0 0 #[.val (.ref a), .val (.int 0)] [] 0 0
  refine go_iloadN C 1 d19_0 rfl rfl ?_
  refine go_aloadN C 2 d19_1 rfl rfl rfl ?_
  refine go_getF C 5 d19_2 rfl (hq hw 65 rfl) Via.refl p3 ?_
  refine go_callS C (argsL := [(.int 0), (.int 3)]) (W := 0) d19_5 (hq hw 120 rfl) (hq hw 121 rfl) (hq hw 122 rfl) (hq hw 123 rfl) (by decide) pd__II_I (ct_oci0 l Z a0 hw am) rfl (by decide) (Nat.le_of_eq rfl) (by decide) rfl (by decide) (by decide) mems0 ?_
  intro v1 h2 K3 q4
  obtain ⟨rfl, rfl⟩ := q4
  refine ⟨[], fresh0, ?_⟩
  show Go l _ Z _ _ _ κ _ _ 8 _ [(.int 0)] 0 0
  refine go_pop C 9 d19_8 rfl rfl ?_
  refine go_aloadN C 10 d19_9 rfl rfl rfl ?_
  refine go_iloadN C 11 d19_10 rfl rfl ?_
  refine go_callV C (a := a) (argsL := [(.int 0)]) (W := 0) d19_11 (hq hw 128 rfl) (hq hw 129 rfl) (fun _ hZ => notFace_of_selects (args := #[]) (mvT hZ (hq hw 131 rfl))) (hq hw 131 rfl) (hq hw 130 rfl) p0 (by decide) pd__I_Ljava_lang_Object_ (ct_eld0 l Z a0 hw am (a := a) (t := t) (kt := kt) (e0 := e0) (e1 := e1) (e2 := e2) p0 p1 p2) rfl (by decide) (Nat.le_of_eq rfl) (by decide) rfl (by decide) (by decide) mems0 ?_
  intro v5 h6 K7 q8
  obtain ⟨rfl, rfl⟩ := q8
  refine ⟨[], fresh0, ?_⟩
  show Go l _ Z _ _ _ κ _ _ 14 _ [(.ref e0)] 0 0
  refine go_retA C (v := (.ref e0)) d19_14 rfl rfl rfl (by decide) (by decide) ?_
  exact ⟨rfl, rfl⟩
theorem ct_field0 (l : Launch) (Z : State) (a0 : Array Value) (hw : HW a0 Z) {cS : Int32} {dE : Addr} {kE : ClassId} (am : Amb Z a0 cS dE kE) {r : Addr} {a : Addr} {t : Addr} {kt : ClassId} {e0 : Addr} {e1 : Addr} {e2 : Addr} {h0 : Heap} (p0 : Fld Z h0 r "com/example/slicewise/slicewise/input/CsvFile$Row" "fields" "Ljava/util/List;" (.ref a)) (p1 : Exa Z h0 a "java/util/ArrayList") (p2 : Fld Z h0 a "java/util/ArrayList" "elementData" "[Ljava/lang/Object;" (.ref t)) (p3 : Arv Z h0 t kt (.object "java/lang/Object") (10 : Int32) [(.ref e0), (.ref e1), (.ref e2), .null, .null, .null, .null, .null, .null, .null] .null) (p4 : Fld Z h0 a "java/util/ArrayList" "size" "I" (.int 3)) (p5 : Exa Z h0 e0 "java/lang/String") :
    Py l Z (⟨"com/example/slicewise/slicewise/input/CsvFile$Row", "field", "(I)Ljava/lang/String;"⟩ : MethodName) 4 53 0 0 #[(.ref r), (.int 0)] h0 [] (fun v h' => v = some (.ref e0) ∧ h' = h0) := by
  refine Ct.py (by0 := prog_5_method_2_code) (ml := 2) (rt := (some (.object "java/lang/String"))) (rm := ({ frames := 3, cells := 0, slots := 0, locals := 40 } : Room)) ?_ (hq hw 110 rfl) (hq hw 91 rfl)
  refine Ct.mk (a0 := a0) (Ls := #[.val (.ref r), .val (.int 0)]) (plainFor_of_name pn_com_example_slicewise_slicewise_input_CsvFile_Row) (fun m => by first | (simp [entryFrame, mkF, argsToLocals, Value.category]; done) | rfl) ?_
  intro κ C
  show Go l _ Z _ _ _ κ [] h0 0 #[.val (.ref r), .val (.int 0)] [] 0 0
  refine go_aloadN C 1 d18_0 rfl rfl rfl ?_
  refine go_getF C 4 d18_1 rfl (hq hw 103 rfl) Via.refl p0 ?_
  refine go_iloadN C 5 d18_4 rfl rfl ?_
  refine go_callF C (a := a) (argsL := [(.int 0)]) (W := 0) d18_5 (hq hw 111 rfl) (hq hw 112 rfl) (hq hw 113 rfl) (hq hw 114 rfl) (hq hw 115 rfl) (hq hw 116 rfl) (hq hw 117 rfl) (hq hw 118 rfl) p1 (by decide) pd__I_Ljava_lang_Object_ (ct_get0 l Z a0 hw am (a := a) (t := t) (kt := kt) (e0 := e0) (e1 := e1) (e2 := e2) p1 p2 p3 p4) rfl (by decide) (Nat.le_of_eq rfl) (by decide) rfl (by decide) (by decide) mems0 ?_
  intro v1 h2 K3 q4
  obtain ⟨rfl, rfl⟩ := q4
  refine ⟨[], fresh0, ?_⟩
  show Go l _ Z _ _ _ κ _ _ 10 _ [(.ref e0)] 0 0
  refine go_cast C 13 d18_10 rfl (hq hw 133 rfl) (Ins.self p5) ?_
  refine go_retA C (v := (.ref e0)) d18_13 rfl rfl rfl (by decide) (by decide) ?_
  exact ⟨rfl, rfl⟩
theorem ct_pci1 (l : Launch) (Z : State) (a0 : Array Value) (hw : HW a0 Z) {cS : Int32} {dE : Addr} {kE : ClassId} (am : Amb Z a0 cS dE kE) {h0 : Heap} :
    Py l Z (⟨"jdk/internal/util/Preconditions", "checkIndex", "(IILjava/util/function/BiFunction;)I"⟩ : MethodName) 1 14 0 0 #[(.int 1), (.int 3), .null] h0 [] (fun v h' => v = some (.int 1) ∧ h' = h0) := by
  refine Ct.py (by0 := jdk_41_method_11_code) (ml := 3) (rt := (some .int)) (rm := ({ frames := 0, cells := 0, slots := 0, locals := 0 } : Room)) ?_ (hq hw 127 rfl) (hq hw 126 rfl)
  refine Ct.mk (a0 := a0) (Ls := #[.val (.int 1), .val (.int 3), .val .null]) (plainFor_of_name pn_jdk_internal_util_Preconditions) (fun m => by first | (simp [entryFrame, mkF, argsToLocals, Value.category]; done) | rfl) ?_
  intro κ C
  show Go l _ Z _ _ _ κ [] h0 0 #[.val (.int 1), .val (.int 3), .val .null] [] 0 0
  refine go_iloadN C 1 d21_0 rfl rfl ?_
  refine go_ifN C 4 d21_1 rfl (flt ((by decide) : ¬ ((1 : Int32) < (0 : Int32)))).1 ?_
  refine go_iloadN C 5 d21_4 rfl rfl ?_
  refine go_iloadN C 6 d21_5 rfl rfl ?_
  refine go_icmpY C (pc' := 16) d21_6 (tlt ((by decide) : (1 : Int32) < (3 : Int32))).1 (by decide) (by decide) ?_
  refine go_iloadN C 17 d21_16 rfl rfl ?_
  refine go_retI C d21_17 rfl (by decide) (by decide) ?_
  exact ⟨rfl, rfl⟩
theorem ct_oci1 (l : Launch) (Z : State) (a0 : Array Value) (hw : HW a0 Z) {cS : Int32} {dE : Addr} {kE : ClassId} (am : Amb Z a0 cS dE kE) {h0 : Heap} :
    Py l Z (⟨"java/util/Objects", "checkIndex", "(II)I"⟩ : MethodName) 2 27 0 0 #[(.int 1), (.int 3)] h0 [] (fun v h' => v = some (.int 1) ∧ h' = h0) := by
  refine Ct.py (by0 := jdk_31_method_17_code) (ml := 2) (rt := (some .int)) (rm := ({ frames := 1, cells := 0, slots := 0, locals := 14 } : Room)) ?_ (hq hw 123 rfl) (hq hw 122 rfl)
  refine Ct.mk (a0 := a0) (Ls := #[.val (.int 1), .val (.int 3)]) (plainFor_of_name pn_java_util_Objects) (fun m => by first | (simp [entryFrame, mkF, argsToLocals, Value.category]; done) | rfl) ?_
  intro κ C
  show Go l _ Z _ _ _ κ [] h0 0 #[.val (.int 1), .val (.int 3)] [] 0 0
  refine go_iloadN C 1 d20_0 rfl rfl ?_
  refine go_iloadN C 2 d20_1 rfl rfl ?_
  refine go_aconstNull C 3 d20_2 rfl ?_
  refine go_callS C (argsL := [(.int 1), (.int 3), .null]) (W := 0) d20_3 (hq hw 124 rfl) (hq hw 125 rfl) (hq hw 126 rfl) (hq hw 127 rfl) (by decide) pd__IILjava_util_function_BiFunction__I (ct_pci1 l Z a0 hw am) rfl (by decide) (Nat.le_of_eq rfl) (by decide) rfl (by decide) (by decide) mems0 ?_
  intro v1 h2 K3 q4
  obtain ⟨rfl, rfl⟩ := q4
  refine ⟨[], fresh0, ?_⟩
  show Go l _ Z _ _ _ κ _ _ 6 _ [(.int 1)] 0 0
  refine go_retI C d20_6 rfl (by decide) (by decide) ?_
  exact ⟨rfl, rfl⟩
theorem ct_eld1 (l : Launch) (Z : State) (a0 : Array Value) (hw : HW a0 Z) {cS : Int32} {dE : Addr} {kE : ClassId} (am : Amb Z a0 cS dE kE) {a : Addr} {t : Addr} {kt : ClassId} {e0 : Addr} {e1 : Addr} {e2 : Addr} {h0 : Heap} (p0 : Exa Z h0 a "java/util/ArrayList") (p1 : Fld Z h0 a "java/util/ArrayList" "elementData" "[Ljava/lang/Object;" (.ref t)) (p2 : Arv Z h0 t kt (.object "java/lang/Object") (10 : Int32) [(.ref e0), (.ref e1), (.ref e2), .null, .null, .null, .null, .null, .null, .null] .null) :
    Py l Z (⟨"java/util/ArrayList", "elementData", "(I)Ljava/lang/Object;"⟩ : MethodName) 1 13 0 0 #[(.ref a), (.int 1)] h0 [] (fun v h' => v = some (.ref e1) ∧ h' = h0) := by
  refine Ct.py (by0 := jdk_38_method_18_code) (ml := 2) (rt := (some (.object "java/lang/Object"))) (rm := ({ frames := 0, cells := 0, slots := 0, locals := 0 } : Room)) ?_ (hq hw 132 rfl) (hq hw 36 rfl)
  refine Ct.mk (a0 := a0) (Ls := #[.val (.ref a), .val (.int 1)]) (plainFor_of_name pn_java_util_ArrayList) (fun m => by first | (simp [entryFrame, mkF, argsToLocals, Value.category]; done) | rfl) ?_
  intro κ C
  show Go l _ Z _ _ _ κ [] h0 0 #[.val (.ref a), .val (.int 1)] [] 0 0
  refine go_aloadN C 1 d22_0 rfl rfl rfl ?_
  refine go_getF C 4 d22_1 rfl (hq hw 56 rfl) Via.refl p1 ?_
  refine go_iloadN C 5 d22_4 rfl rfl ?_
  refine go_aaload C 6 (v := (.ref e1)) d22_5 rfl p2 rfl (by decide) rfl ?_
  refine go_retA C (v := (.ref e1)) d22_6 rfl rfl rfl (by decide) (by decide) ?_
  exact ⟨rfl, rfl⟩
theorem ct_get1 (l : Launch) (Z : State) (a0 : Array Value) (hw : HW a0 Z) {cS : Int32} {dE : Addr} {kE : ClassId} (am : Amb Z a0 cS dE kE) {a : Addr} {t : Addr} {kt : ClassId} {e0 : Addr} {e1 : Addr} {e2 : Addr} {h0 : Heap} (p0 : Exa Z h0 a "java/util/ArrayList") (p1 : Fld Z h0 a "java/util/ArrayList" "elementData" "[Ljava/lang/Object;" (.ref t)) (p2 : Arv Z h0 t kt (.object "java/lang/Object") (10 : Int32) [(.ref e0), (.ref e1), (.ref e2), .null, .null, .null, .null, .null, .null, .null] .null) (p3 : Fld Z h0 a "java/util/ArrayList" "size" "I" (.int 3)) :
    Py l Z (⟨"java/util/ArrayList", "get", "(I)Ljava/lang/Object;"⟩ : MethodName) 3 40 0 0 #[(.ref a), (.int 1)] h0 [] (fun v h' => v = some (.ref e1) ∧ h' = h0) := by
  refine Ct.py (by0 := jdk_38_method_20_code) (ml := 2) (rt := (some (.object "java/lang/Object"))) (rm := ({ frames := 2, cells := 0, slots := 0, locals := 27 } : Room)) ?_ (hq hw 119 rfl) (hq hw 36 rfl)
  refine Ct.mk (a0 := a0) (Ls := #[.val (.ref a), .val (.int 1)]) (plainFor_of_name pn_java_util_ArrayList) (fun m => by first | (simp [entryFrame, mkF, argsToLocals, Value.category]; done) | rfl) ?_
  intro κ C
  show Go l _ Z _ _ _ κ [] h0 0 #[.val (.ref a), .val (.int 1)] [] 0 0
  refine go_iloadN C 1 d19_0 rfl rfl ?_
  refine go_aloadN C 2 d19_1 rfl rfl rfl ?_
  refine go_getF C 5 d19_2 rfl (hq hw 65 rfl) Via.refl p3 ?_
  refine go_callS C (argsL := [(.int 1), (.int 3)]) (W := 0) d19_5 (hq hw 120 rfl) (hq hw 121 rfl) (hq hw 122 rfl) (hq hw 123 rfl) (by decide) pd__II_I (ct_oci1 l Z a0 hw am) rfl (by decide) (Nat.le_of_eq rfl) (by decide) rfl (by decide) (by decide) mems0 ?_
  intro v1 h2 K3 q4
  obtain ⟨rfl, rfl⟩ := q4
  refine ⟨[], fresh0, ?_⟩
  show Go l _ Z _ _ _ κ _ _ 8 _ [(.int 1)] 0 0
  refine go_pop C 9 d19_8 rfl rfl ?_
  refine go_aloadN C 10 d19_9 rfl rfl rfl ?_
  refine go_iloadN C 11 d19_10 rfl rfl ?_
  refine go_callV C (a := a) (argsL := [(.int 1)]) (W := 0) d19_11 (hq hw 128 rfl) (hq hw 129 rfl) (fun _ hZ => notFace_of_selects (args := #[]) (mvT hZ (hq hw 131 rfl))) (hq hw 131 rfl) (hq hw 130 rfl) p0 (by decide) pd__I_Ljava_lang_Object_ (ct_eld1 l Z a0 hw am (a := a) (t := t) (kt := kt) (e0 := e0) (e1 := e1) (e2 := e2) p0 p1 p2) rfl (by decide) (Nat.le_of_eq rfl) (by decide) rfl (by decide) (by decide) mems0 ?_
  intro v5 h6 K7 q8
  obtain ⟨rfl, rfl⟩ := q8
  refine ⟨[], fresh0, ?_⟩
  show Go l _ Z _ _ _ κ _ _ 14 _ [(.ref e1)] 0 0
  refine go_retA C (v := (.ref e1)) d19_14 rfl rfl rfl (by decide) (by decide) ?_
  exact ⟨rfl, rfl⟩
theorem ct_field1 (l : Launch) (Z : State) (a0 : Array Value) (hw : HW a0 Z) {cS : Int32} {dE : Addr} {kE : ClassId} (am : Amb Z a0 cS dE kE) {r : Addr} {a : Addr} {t : Addr} {kt : ClassId} {e0 : Addr} {e1 : Addr} {e2 : Addr} {h0 : Heap} (p0 : Fld Z h0 r "com/example/slicewise/slicewise/input/CsvFile$Row" "fields" "Ljava/util/List;" (.ref a)) (p1 : Exa Z h0 a "java/util/ArrayList") (p2 : Fld Z h0 a "java/util/ArrayList" "elementData" "[Ljava/lang/Object;" (.ref t)) (p3 : Arv Z h0 t kt (.object "java/lang/Object") (10 : Int32) [(.ref e0), (.ref e1), (.ref e2), .null, .null, .null, .null, .null, .null, .null] .null) (p4 : Fld Z h0 a "java/util/ArrayList" "size" "I" (.int 3)) (p5 : Exa Z h0 e1 "java/lang/String") :
    Py l Z (⟨"com/example/slicewise/slicewise/input/CsvFile$Row", "field", "(I)Ljava/lang/String;"⟩ : MethodName) 4 53 0 0 #[(.ref r), (.int 1)] h0 [] (fun v h' => v = some (.ref e1) ∧ h' = h0) := by
  refine Ct.py (by0 := prog_5_method_2_code) (ml := 2) (rt := (some (.object "java/lang/String"))) (rm := ({ frames := 3, cells := 0, slots := 0, locals := 40 } : Room)) ?_ (hq hw 110 rfl) (hq hw 91 rfl)
  refine Ct.mk (a0 := a0) (Ls := #[.val (.ref r), .val (.int 1)]) (plainFor_of_name pn_com_example_slicewise_slicewise_input_CsvFile_Row) (fun m => by first | (simp [entryFrame, mkF, argsToLocals, Value.category]; done) | rfl) ?_
  intro κ C
  show Go l _ Z _ _ _ κ [] h0 0 #[.val (.ref r), .val (.int 1)] [] 0 0
  refine go_aloadN C 1 d18_0 rfl rfl rfl ?_
  refine go_getF C 4 d18_1 rfl (hq hw 103 rfl) Via.refl p0 ?_
  refine go_iloadN C 5 d18_4 rfl rfl ?_
  refine go_callF C (a := a) (argsL := [(.int 1)]) (W := 0) d18_5 (hq hw 111 rfl) (hq hw 112 rfl) (hq hw 113 rfl) (hq hw 114 rfl) (hq hw 115 rfl) (hq hw 116 rfl) (hq hw 117 rfl) (hq hw 118 rfl) p1 (by decide) pd__I_Ljava_lang_Object_ (ct_get1 l Z a0 hw am (a := a) (t := t) (kt := kt) (e0 := e0) (e1 := e1) (e2 := e2) p1 p2 p3 p4) rfl (by decide) (Nat.le_of_eq rfl) (by decide) rfl (by decide) (by decide) mems0 ?_
  intro v1 h2 K3 q4
  obtain ⟨rfl, rfl⟩ := q4
  refine ⟨[], fresh0, ?_⟩
  show Go l _ Z _ _ _ κ _ _ 10 _ [(.ref e1)] 0 0
  refine go_cast C 13 d18_10 rfl (hq hw 133 rfl) (Ins.self p5) ?_
  refine go_retA C (v := (.ref e1)) d18_13 rfl rfl rfl (by decide) (by decide) ?_
  exact ⟨rfl, rfl⟩
theorem ct_pci2 (l : Launch) (Z : State) (a0 : Array Value) (hw : HW a0 Z) {cS : Int32} {dE : Addr} {kE : ClassId} (am : Amb Z a0 cS dE kE) {h0 : Heap} :
    Py l Z (⟨"jdk/internal/util/Preconditions", "checkIndex", "(IILjava/util/function/BiFunction;)I"⟩ : MethodName) 1 14 0 0 #[(.int 2), (.int 3), .null] h0 [] (fun v h' => v = some (.int 2) ∧ h' = h0) := by
  refine Ct.py (by0 := jdk_41_method_11_code) (ml := 3) (rt := (some .int)) (rm := ({ frames := 0, cells := 0, slots := 0, locals := 0 } : Room)) ?_ (hq hw 127 rfl) (hq hw 126 rfl)
  refine Ct.mk (a0 := a0) (Ls := #[.val (.int 2), .val (.int 3), .val .null]) (plainFor_of_name pn_jdk_internal_util_Preconditions) (fun m => by first | (simp [entryFrame, mkF, argsToLocals, Value.category]; done) | rfl) ?_
  intro κ C
  show Go l _ Z _ _ _ κ [] h0 0 #[.val (.int 2), .val (.int 3), .val .null] [] 0 0
  refine go_iloadN C 1 d21_0 rfl rfl ?_
  refine go_ifN C 4 d21_1 rfl (flt ((by decide) : ¬ ((2 : Int32) < (0 : Int32)))).1 ?_
  refine go_iloadN C 5 d21_4 rfl rfl ?_
  refine go_iloadN C 6 d21_5 rfl rfl ?_
  refine go_icmpY C (pc' := 16) d21_6 (tlt ((by decide) : (2 : Int32) < (3 : Int32))).1 (by decide) (by decide) ?_
  refine go_iloadN C 17 d21_16 rfl rfl ?_
  refine go_retI C d21_17 rfl (by decide) (by decide) ?_
  exact ⟨rfl, rfl⟩
theorem ct_oci2 (l : Launch) (Z : State) (a0 : Array Value) (hw : HW a0 Z) {cS : Int32} {dE : Addr} {kE : ClassId} (am : Amb Z a0 cS dE kE) {h0 : Heap} :
    Py l Z (⟨"java/util/Objects", "checkIndex", "(II)I"⟩ : MethodName) 2 27 0 0 #[(.int 2), (.int 3)] h0 [] (fun v h' => v = some (.int 2) ∧ h' = h0) := by
  refine Ct.py (by0 := jdk_31_method_17_code) (ml := 2) (rt := (some .int)) (rm := ({ frames := 1, cells := 0, slots := 0, locals := 14 } : Room)) ?_ (hq hw 123 rfl) (hq hw 122 rfl)
  refine Ct.mk (a0 := a0) (Ls := #[.val (.int 2), .val (.int 3)]) (plainFor_of_name pn_java_util_Objects) (fun m => by first | (simp [entryFrame, mkF, argsToLocals, Value.category]; done) | rfl) ?_
  intro κ C
  show Go l _ Z _ _ _ κ [] h0 0 #[.val (.int 2), .val (.int 3)] [] 0 0
  refine go_iloadN C 1 d20_0 rfl rfl ?_
  refine go_iloadN C 2 d20_1 rfl rfl ?_
  refine go_aconstNull C 3 d20_2 rfl ?_
  refine go_callS C (argsL := [(.int 2), (.int 3), .null]) (W := 0) d20_3 (hq hw 124 rfl) (hq hw 125 rfl) (hq hw 126 rfl) (hq hw 127 rfl) (by decide) pd__IILjava_util_function_BiFunction__I (ct_pci2 l Z a0 hw am) rfl (by decide) (Nat.le_of_eq rfl) (by decide) rfl (by decide) (by decide) mems0 ?_
  intro v1 h2 K3 q4
  obtain ⟨rfl, rfl⟩ := q4
  refine ⟨[], fresh0, ?_⟩
  show Go l _ Z _ _ _ κ _ _ 6 _ [(.int 2)] 0 0
  refine go_retI C d20_6 rfl (by decide) (by decide) ?_
  exact ⟨rfl, rfl⟩
theorem ct_eld2 (l : Launch) (Z : State) (a0 : Array Value) (hw : HW a0 Z) {cS : Int32} {dE : Addr} {kE : ClassId} (am : Amb Z a0 cS dE kE) {a : Addr} {t : Addr} {kt : ClassId} {e0 : Addr} {e1 : Addr} {e2 : Addr} {h0 : Heap} (p0 : Exa Z h0 a "java/util/ArrayList") (p1 : Fld Z h0 a "java/util/ArrayList" "elementData" "[Ljava/lang/Object;" (.ref t)) (p2 : Arv Z h0 t kt (.object "java/lang/Object") (10 : Int32) [(.ref e0), (.ref e1), (.ref e2), .null, .null, .null, .null, .null, .null, .null] .null) :
    Py l Z (⟨"java/util/ArrayList", "elementData", "(I)Ljava/lang/Object;"⟩ : MethodName) 1 13 0 0 #[(.ref a), (.int 2)] h0 [] (fun v h' => v = some (.ref e2) ∧ h' = h0) := by
  refine Ct.py (by0 := jdk_38_method_18_code) (ml := 2) (rt := (some (.object "java/lang/Object"))) (rm := ({ frames := 0, cells := 0, slots := 0, locals := 0 } : Room)) ?_ (hq hw 132 rfl) (hq hw 36 rfl)
  refine Ct.mk (a0 := a0) (Ls := #[.val (.ref a), .val (.int 2)]) (plainFor_of_name pn_java_util_ArrayList) (fun m => by first | (simp [entryFrame, mkF, argsToLocals, Value.category]; done) | rfl) ?_
  intro κ C
  show Go l _ Z _ _ _ κ [] h0 0 #[.val (.ref a), .val (.int 2)] [] 0 0
  refine go_aloadN C 1 d22_0 rfl rfl rfl ?_
  refine go_getF C 4 d22_1 rfl (hq hw 56 rfl) Via.refl p1 ?_
  refine go_iloadN C 5 d22_4 rfl rfl ?_
  refine go_aaload C 6 (v := (.ref e2)) d22_5 rfl p2 rfl (by decide) rfl ?_
  refine go_retA C (v := (.ref e2)) d22_6 rfl rfl rfl (by decide) (by decide) ?_
  exact ⟨rfl, rfl⟩
theorem ct_get2 (l : Launch) (Z : State) (a0 : Array Value) (hw : HW a0 Z) {cS : Int32} {dE : Addr} {kE : ClassId} (am : Amb Z a0 cS dE kE) {a : Addr} {t : Addr} {kt : ClassId} {e0 : Addr} {e1 : Addr} {e2 : Addr} {h0 : Heap} (p0 : Exa Z h0 a "java/util/ArrayList") (p1 : Fld Z h0 a "java/util/ArrayList" "elementData" "[Ljava/lang/Object;" (.ref t)) (p2 : Arv Z h0 t kt (.object "java/lang/Object") (10 : Int32) [(.ref e0), (.ref e1), (.ref e2), .null, .null, .null, .null, .null, .null, .null] .null) (p3 : Fld Z h0 a "java/util/ArrayList" "size" "I" (.int 3)) :
    Py l Z (⟨"java/util/ArrayList", "get", "(I)Ljava/lang/Object;"⟩ : MethodName) 3 40 0 0 #[(.ref a), (.int 2)] h0 [] (fun v h' => v = some (.ref e2) ∧ h' = h0) := by
  refine Ct.py (by0 := jdk_38_method_20_code) (ml := 2) (rt := (some (.object "java/lang/Object"))) (rm := ({ frames := 2, cells := 0, slots := 0, locals := 27 } : Room)) ?_ (hq hw 119 rfl) (hq hw 36 rfl)
  refine Ct.mk (a0 := a0) (Ls := #[.val (.ref a), .val (.int 2)]) (plainFor_of_name pn_java_util_ArrayList) (fun m => by first | (simp [entryFrame, mkF, argsToLocals, Value.category]; done) | rfl) ?_
  intro κ C
  show Go l _ Z _ _ _ κ [] h0 0 #[.val (.ref a), .val (.int 2)] [] 0 0
  refine go_iloadN C 1 d19_0 rfl rfl ?_
  refine go_aloadN C 2 d19_1 rfl rfl rfl ?_
  refine go_getF C 5 d19_2 rfl (hq hw 65 rfl) Via.refl p3 ?_
  refine go_callS C (argsL := [(.int 2), (.int 3)]) (W := 0) d19_5 (hq hw 120 rfl) (hq hw 121 rfl) (hq hw 122 rfl) (hq hw 123 rfl) (by decide) pd__II_I (ct_oci2 l Z a0 hw am) rfl (by decide) (Nat.le_of_eq rfl) (by decide) rfl (by decide) (by decide) mems0 ?_
  intro v1 h2 K3 q4
  obtain ⟨rfl, rfl⟩ := q4
  refine ⟨[], fresh0, ?_⟩
  show Go l _ Z _ _ _ κ _ _ 8 _ [(.int 2)] 0 0
  refine go_pop C 9 d19_8 rfl rfl ?_
  refine go_aloadN C 10 d19_9 rfl rfl rfl ?_
  refine go_iloadN C 11 d19_10 rfl rfl ?_
  refine go_callV C (a := a) (argsL := [(.int 2)]) (W := 0) d19_11 (hq hw 128 rfl) (hq hw 129 rfl) (fun _ hZ => notFace_of_selects (args := #[]) (mvT hZ (hq hw 131 rfl))) (hq hw 131 rfl) (hq hw 130 rfl) p0 (by decide) pd__I_Ljava_lang_Object_ (ct_eld2 l Z a0 hw am (a := a) (t := t) (kt := kt) (e0 := e0) (e1 := e1) (e2 := e2) p0 p1 p2) rfl (by decide) (Nat.le_of_eq rfl) (by decide) rfl (by decide) (by decide) mems0 ?_
  intro v5 h6 K7 q8
  obtain ⟨rfl, rfl⟩ := q8
  refine ⟨[], fresh0, ?_⟩
  show Go l _ Z _ _ _ κ _ _ 14 _ [(.ref e2)] 0 0
  refine go_retA C (v := (.ref e2)) d19_14 rfl rfl rfl (by decide) (by decide) ?_
  exact ⟨rfl, rfl⟩
theorem ct_field2 (l : Launch) (Z : State) (a0 : Array Value) (hw : HW a0 Z) {cS : Int32} {dE : Addr} {kE : ClassId} (am : Amb Z a0 cS dE kE) {r : Addr} {a : Addr} {t : Addr} {kt : ClassId} {e0 : Addr} {e1 : Addr} {e2 : Addr} {h0 : Heap} (p0 : Fld Z h0 r "com/example/slicewise/slicewise/input/CsvFile$Row" "fields" "Ljava/util/List;" (.ref a)) (p1 : Exa Z h0 a "java/util/ArrayList") (p2 : Fld Z h0 a "java/util/ArrayList" "elementData" "[Ljava/lang/Object;" (.ref t)) (p3 : Arv Z h0 t kt (.object "java/lang/Object") (10 : Int32) [(.ref e0), (.ref e1), (.ref e2), .null, .null, .null, .null, .null, .null, .null] .null) (p4 : Fld Z h0 a "java/util/ArrayList" "size" "I" (.int 3)) (p5 : Exa Z h0 e2 "java/lang/String") :
    Py l Z (⟨"com/example/slicewise/slicewise/input/CsvFile$Row", "field", "(I)Ljava/lang/String;"⟩ : MethodName) 4 53 0 0 #[(.ref r), (.int 2)] h0 [] (fun v h' => v = some (.ref e2) ∧ h' = h0) := by
  refine Ct.py (by0 := prog_5_method_2_code) (ml := 2) (rt := (some (.object "java/lang/String"))) (rm := ({ frames := 3, cells := 0, slots := 0, locals := 40 } : Room)) ?_ (hq hw 110 rfl) (hq hw 91 rfl)
  refine Ct.mk (a0 := a0) (Ls := #[.val (.ref r), .val (.int 2)]) (plainFor_of_name pn_com_example_slicewise_slicewise_input_CsvFile_Row) (fun m => by first | (simp [entryFrame, mkF, argsToLocals, Value.category]; done) | rfl) ?_
  intro κ C
  show Go l _ Z _ _ _ κ [] h0 0 #[.val (.ref r), .val (.int 2)] [] 0 0
  refine go_aloadN C 1 d18_0 rfl rfl rfl ?_
  refine go_getF C 4 d18_1 rfl (hq hw 103 rfl) Via.refl p0 ?_
  refine go_iloadN C 5 d18_4 rfl rfl ?_
  refine go_callF C (a := a) (argsL := [(.int 2)]) (W := 0) d18_5 (hq hw 111 rfl) (hq hw 112 rfl) (hq hw 113 rfl) (hq hw 114 rfl) (hq hw 115 rfl) (hq hw 116 rfl) (hq hw 117 rfl) (hq hw 118 rfl) p1 (by decide) pd__I_Ljava_lang_Object_ (ct_get2 l Z a0 hw am (a := a) (t := t) (kt := kt) (e0 := e0) (e1 := e1) (e2 := e2) p1 p2 p3 p4) rfl (by decide) (Nat.le_of_eq rfl) (by decide) rfl (by decide) (by decide) mems0 ?_
  intro v1 h2 K3 q4
  obtain ⟨rfl, rfl⟩ := q4
  refine ⟨[], fresh0, ?_⟩
  show Go l _ Z _ _ _ κ _ _ 10 _ [(.ref e2)] 0 0
  refine go_cast C 13 d18_10 rfl (hq hw 133 rfl) (Ins.self p5) ?_
  refine go_retA C (v := (.ref e2)) d18_13 rfl rfl rfl (by decide) (by decide) ?_
  exact ⟨rfl, rfl⟩
theorem ct_eqs (l : Launch) (Z : State) (a0 : Array Value) (hw : HW a0 Z) {cS : Int32} {dE : Addr} {kE : ClassId} (am : Amb Z a0 cS dE kE) {a : Addr} {h0 : Heap} :
    Py l Z (⟨"java/lang/String", "equals", "(Ljava/lang/Object;)Z"⟩ : MethodName) 1 14 0 0 #[(.ref a), (.ref a)] h0 [] (fun v h' => v = some (.int 1) ∧ h' = h0) := by
  refine Ct.py (by0 := jdk_42_method_66_code) (ml := 3) (rt := (some .boolean)) (rm := ({ frames := 0, cells := 0, slots := 0, locals := 0 } : Room)) ?_ (hq hw 138 rfl) (hq hw 7 rfl)
  refine Ct.mk (a0 := a0) (Ls := #[.val (.ref a), .val (.ref a), .unset]) (plainFor_of_name pn_java_lang_String) (fun m => by first | (simp [entryFrame, mkF, argsToLocals, Value.category]; done) | rfl) ?_
  intro κ C
  show Go l _ Z _ _ _ κ [] h0 0 #[.val (.ref a), .val (.ref a), .unset] [] 0 0
  refine go_aloadN C 1 d23_0 rfl rfl rfl ?_
  refine go_aloadN C 2 d23_1 rfl rfl rfl ?_
  refine go_acmp C (b := true) (pc' := 5) d23_2 rfl rfl (decide_eq_true rfl) (by decide) (by decide) ?_
  refine go_iconst C 6 (1 : Int32) d23_5 rfl (by decide) ?_
  refine go_retN C (t := .boolean) (z := (1 : Int32)) d23_6 rfl (by decide) (by decide) (by decide) (by decide) ?_
  exact ⟨rfl, rfl⟩
theorem law0 (l : Launch) (Z : State) (a0 : Array Value) (hw : HW a0 Z) {cS : Int32} {dE : Addr} {kE : ClassId} (am : Amb Z a0 cS dE kE) {p0 : Int32} {p1 : Int32} {p2 : Int32} {p3 : Int32} {p4 : Int32} {h0 : Heap} :
    Ct l Z x code maxLocals ret room_1 #[(.int p0), (.int p1), (.int p2), (.int p3), (.int p4)] h0 [] (fun v h' => v = some (.int 1)) := by
  refine Ct.mk (a0 := a0) (Ls := #[.val (.int p0), .val (.int p1), .val (.int p2), .val (.int p3), .val (.int p4), .unset, .unset, .unset, .unset, .unset, .unset, .unset, .unset]) (plainFor_of_name pn_com_example_slicewise_slicewise_input_RowFieldPinLaw) (fun m => by first | (simp [entryFrame, mkF, argsToLocals, Value.category, maxLocals]; done) | rfl) ?_
  intro κ C
  show Go l _ Z _ _ _ κ [] h0 0 #[.val (.int p0), .val (.int p1), .val (.int p2), .val (.int p3), .val (.int p4), .unset, .unset, .unset, .unset, .unset, .unset, .unset, .unset] [] 0 0
  refine go_iloadN C 1 at_0 rfl rfl ?_
  refine go_callS C (argsL := [(.int p2)]) (W := 0) at_1 (hq hw 0 rfl) (hq hw 1 rfl) (hq hw 2 rfl) (hq hw 3 rfl) (by decide) pd__I_Ljava_lang_String_ (ct_str l Z a0 hw am (x := p2)) rfl (by decide) (Nat.le_of_eq rfl) (by decide) rfl (by decide) (by decide) mems0 ?_
  intro v1 h2 K3 q4
  obtain ⟨a5, rfl, x6, x7⟩ := q4
  refine ⟨[a5], (freshS ⟨x7, (x6).lt⟩ fresh0), ?_⟩
  show Go l _ Z _ _ _ κ [a5] _ 4 _ [(.ref a5)] 3 8
  refine go_astore C 6 (Ls' := #[.val (.int p0), .val (.int p1), .val (.int p2), .val (.int p3), .val (.int p4), .val (.ref a5), .unset, .unset, .unset, .unset, .unset, .unset, .unset]) at_4 rfl rfl rfl ?_
  refine go_iloadN C 7 at_6 rfl rfl ?_
  refine go_callS C (argsL := [(.int p3)]) (W := 0) at_7 (hq hw 0 rfl) (hq hw 1 rfl) (hq hw 2 rfl) (hq hw 3 rfl) (by decide) pd__I_Ljava_lang_String_ (ct_str l Z a0 hw am (x := p3)) rfl (by decide) (Nat.le_of_eq rfl) (by decide) rfl (by decide) (by decide) mems0 ?_
  intro v8 h9 K10 q11
  obtain ⟨a12, rfl, x13, x14⟩ := q11
  refine ⟨[a12], (freshS ⟨x14, (x13).lt⟩ fresh0), ?_⟩
  show Go l _ Z _ _ _ κ [a12, a5] _ 10 _ [(.ref a12)] 6 16
  refine go_astore C 12 (Ls' := #[.val (.int p0), .val (.int p1), .val (.int p2), .val (.int p3), .val (.int p4), .val (.ref a5), .val (.ref a12), .unset, .unset, .unset, .unset, .unset, .unset]) at_10 rfl rfl rfl ?_
  refine go_iload C 14 at_12 rfl rfl ?_
  refine go_callS C (argsL := [(.int p4)]) (W := 0) at_14 (hq hw 0 rfl) (hq hw 1 rfl) (hq hw 2 rfl) (hq hw 3 rfl) (by decide) pd__I_Ljava_lang_String_ (ct_str l Z a0 hw am (x := p4)) rfl (by decide) (Nat.le_of_eq rfl) (by decide) rfl (by decide) (by decide) mems0 ?_
  intro v15 h16 K17 q18
  obtain ⟨a19, rfl, x20, x21⟩ := q18
  refine ⟨[a19], (freshS ⟨x21, (x20).lt⟩ fresh0), ?_⟩
  show Go l _ Z _ _ _ κ [a19, a12, a5] _ 17 _ [(.ref a19)] 9 24
  refine go_astore C 19 (Ls' := #[.val (.int p0), .val (.int p1), .val (.int p2), .val (.int p3), .val (.int p4), .val (.ref a5), .val (.ref a12), .val (.ref a19), .unset, .unset, .unset, .unset, .unset]) at_17 rfl rfl rfl ?_
  refine go_new C 22 10 27 at_19 rfl rfl rfl (hq hw 34 rfl) (hq hw 35 rfl) (hq hw 36 rfl) (by decide) (by decide) ?_
  intro b22 h23 g24 E25 A26 D27
  have x28 : Fld Z h23 b22 "java/util/AbstractList" "modCount" "I" (.int 0) := D27 (Or.inl (hq hw 54 rfl)) (ty := .int) (by decide)
  have x29 : Fld Z h23 b22 "java/util/ArrayList" "elementData" "[Ljava/lang/Object;" .null := D27 (Or.inl (hq hw 57 rfl)) (ty := (.array (.object "java/lang/Object"))) (by decide)
  have x30 : Fld Z h23 b22 "java/util/ArrayList" "size" "I" (.int 0) := D27 (Or.inl (hq hw 66 rfl)) (ty := .int) (by decide)
  refine go_dup C 23 at_22 rfl rfl ?_
  refine go_callI C (a := b22) (argsL := []) (W := 1) at_23 rfl (hq hw 37 rfl) (hq hw 38 rfl) (hq hw 39 rfl) (by decide) pd___V (ct_alinit l Z a0 hw am (a := b22) A26 x28 x30 x29) rfl (by decide) (Nat.le_of_eq rfl) (by decide) rfl (by decide) (by decide) (memsS (mi 0 rfl) mems0) ?_
  intro v31 h32 K33 q34
  obtain ⟨rfl, x35, x36, x37, x38⟩ := q34
  refine ⟨[], fresh0, ?_⟩
  show Go l _ Z _ _ _ κ _ _ 26 _ [(.ref b22)] 10 27
  refine go_astore C 28 (Ls' := #[.val (.int p0), .val (.int p1), .val (.int p2), .val (.int p3), .val (.int p4), .val (.ref a5), .val (.ref a12), .val (.ref a19), .val (.ref b22), .unset, .unset, .unset, .unset]) at_26 rfl rfl rfl ?_
  refine go_aload C 30 at_28 rfl rfl rfl ?_
  refine go_aload C 32 at_30 rfl rfl rfl ?_
  have x39 := ((Exa.ext E25 ((x6.keep K10).keep K17)).keep K33)
  refine go_callV C (a := b22) (argsL := [(.ref a5)]) (W := 0) at_32 (hq hw 58 rfl) (hq hw 59 rfl) (fun _ hZ => notFace_of_selects (args := #[]) (mvT hZ (hq hw 61 rfl))) (hq hw 61 rfl) (hq hw 60 rfl) x35 (by decide) pd__Ljava_lang_Object__Z (ct_add0 l Z a0 hw am (a := b22) (s := a5) x35 x39 x37 x36 x38) rfl (by decide) (Nat.le_of_eq rfl) (by decide) rfl (by decide) (by decide) (memsS (mi 0 rfl) mems0) ?_
  intro v40 h41 K42 q43
  obtain ⟨t44, kt45, rfl, x46, x47, x48, x49, x50, x51, x52⟩ := q43
  refine ⟨[t44], (freshS ⟨x52, (x50).lt⟩ fresh0), ?_⟩
  show Go l _ Z _ _ _ κ [t44, b22, a19, a12, a5] _ 35 _ [(.int 1)] 11 37
  refine go_pop C 36 at_35 rfl rfl ?_
  refine go_aload C 38 at_36 rfl rfl rfl ?_
  refine go_aload C 40 at_38 rfl rfl rfl ?_
  have x53 := (((Exa.ext E25 (x13.keep K17)).keep K33).keep K42)
  refine go_callV C (a := b22) (argsL := [(.ref a12)]) (W := 0) at_40 (hq hw 58 rfl) (hq hw 59 rfl) (fun _ hZ => notFace_of_selects (args := #[]) (mvT hZ (hq hw 61 rfl))) (hq hw 61 rfl) (hq hw 60 rfl) x46 (by decide) pd__Ljava_lang_Object__Z (ct_add1 l Z a0 hw am (a := b22) (s := a12) (t := t44) (kt := kt45) (e0 := a5) x46 x53 x48 x47 x49 x50 x51) rfl (by decide) (Nat.le_of_eq rfl) (by decide) rfl (by decide) (by decide) (memsS (mi 1 rfl) (memsS (mi 0 rfl) mems0)) ?_
  intro v54 h55 K56 q57
  obtain ⟨rfl, x58, x59, x60, x61, x62⟩ := q57
  refine ⟨[], fresh0, ?_⟩
  show Go l _ Z _ _ _ κ _ _ 43 _ [(.int 1)] 11 37
  refine go_pop C 44 at_43 rfl rfl ?_
  refine go_aload C 46 at_44 rfl rfl rfl ?_
  refine go_aload C 48 at_46 rfl rfl rfl ?_
  have x63 := ((((Exa.ext E25 x20).keep K33).keep K42).keep K56)
  refine go_callV C (a := b22) (argsL := [(.ref a19)]) (W := 0) at_48 (hq hw 58 rfl) (hq hw 59 rfl) (fun _ hZ => notFace_of_selects (args := #[]) (mvT hZ (hq hw 61 rfl))) (hq hw 61 rfl) (hq hw 60 rfl) x58 (by decide) pd__Ljava_lang_Object__Z (ct_add2 l Z a0 hw am (a := b22) (s := a19) (t := t44) (kt := kt45) (e0 := a5) (e1 := a12) x58 x63 x60 x59 x61 x62 x51) rfl (by decide) (Nat.le_of_eq rfl) (by decide) rfl (by decide) (by decide) (memsS (mi 1 rfl) (memsS (mi 0 rfl) mems0)) ?_
  intro v64 h65 K66 q67
  obtain ⟨rfl, x68, x69, x70, x71, x72⟩ := q67
  refine ⟨[], fresh0, ?_⟩
  show Go l _ Z _ _ _ κ _ _ 51 _ [(.int 1)] 11 37
  refine go_pop C 52 at_51 rfl rfl ?_
  refine go_new C 55 12 39 at_52 rfl rfl rfl (hq hw 89 rfl) (hq hw 90 rfl) (hq hw 91 rfl) (by decide) (by decide) ?_
  intro b73 h74 g75 E76 A77 D78
  have x79 : Fld Z h74 b73 "com/example/slicewise/slicewise/input/CsvFile$Row" "lineNumber" "I" (.int 0) := D78 (Or.inr (hq hw 102 rfl)) (ty := .int) (by decide)
  have x80 : Fld Z h74 b73 "com/example/slicewise/slicewise/input/CsvFile$Row" "fields" "Ljava/util/List;" .null := D78 (Or.inr (hq hw 104 rfl)) (ty := (.object "java/util/List")) (by decide)
  refine go_dup C 56 at_55 rfl rfl ?_
  refine go_iloadN C 57 at_56 rfl rfl ?_
  refine go_aload C 59 at_57 rfl rfl rfl ?_
  refine go_callI C (a := b73) (argsL := [(.int p0), (.ref b22)]) (W := 1) at_59 rfl (hq hw 92 rfl) (hq hw 93 rfl) (hq hw 94 rfl) (by decide) pd__ILjava_util_List__V (ct_row l Z a0 hw am (r := b73) (ln := p0) (a := b22) A77 x79 x80) rfl (by decide) (Nat.le_of_eq rfl) (by decide) rfl (by decide) (by decide) (memsS (mi 0 rfl) mems0) ?_
  intro v81 h82 K83 q84
  obtain ⟨rfl, x85, x86⟩ := q84
  refine ⟨[], fresh0, ?_⟩
  show Go l _ Z _ _ _ κ _ _ 62 _ [(.ref b73)] 12 39
  refine go_astore C 64 (Ls' := #[.val (.int p0), .val (.int p1), .val (.int p2), .val (.int p3), .val (.int p4), .val (.ref a5), .val (.ref a12), .val (.ref a19), .val (.ref b22), .val (.ref b73), .unset, .unset, .unset]) at_62 rfl rfl rfl ?_
  refine go_iloadN C 65 at_64 rfl rfl ?_
  refine go_ldcInt C 67 (v := (2147483647 : Int32)) at_65 rfl (hq hw 105 rfl) ?_
  refine go_iand C 68 (p1 &&& (2147483647 : Int32)) at_67 rfl rfl ?_
  refine go_iconst C 69 (3 : Int32) at_68 rfl (by decide) ?_
  rcases rem3 p1 with ec87 | ec87 | ec87
  · skip
    refine go_irem C 70 (0 : Int32) at_69 rfl (by decide) ec87 ?_
    refine go_istore C 72 (Ls' := #[.val (.int p0), .val (.int p1), .val (.int p2), .val (.int p3), .val (.int p4), .val (.ref a5), .val (.ref a12), .val (.ref a19), .val (.ref b22), .val (.ref b73), .val (.int 0), .unset, .unset]) at_70 rfl rfl ?_
    refine go_iload C 74 at_72 rfl rfl ?_
    refine go_ifN C 77 at_74 rfl (teq ((by decide) : (0 : Int32) = (0 : Int32))).2 ?_
    refine go_aload C 79 at_77 rfl rfl rfl ?_
    refine go_astore C 81 (Ls' := #[.val (.int p0), .val (.int p1), .val (.int p2), .val (.int p3), .val (.int p4), .val (.ref a5), .val (.ref a12), .val (.ref a19), .val (.ref b22), .val (.ref b73), .val (.int 0), .val (.ref a5), .unset]) at_79 rfl rfl rfl ?_
    refine go_goto C (pc' := 101) at_81 (by decide) (by decide) ?_
    refine go_aload C 103 at_101 rfl rfl rfl ?_
    refine go_iload C 105 at_103 rfl rfl ?_
    have x88 := ((Exa.ext E76 x68).keep K83)
    have x89 := ((Fld.ext E76 x71).keep K83 (ninS (Nat.ne_of_lt (Nat.lt_of_lt_of_le (Nat.lt_of_lt_of_le (Nat.lt_of_lt_of_le (Nat.lt_of_lt_of_le (Nat.lt_of_lt_of_le (A26).lt K33.1) K42.1) K56.1) K66.1) (Nat.le_of_eq g75.symm))) nin0))
    have x90 := ((x72.ext E76).keep K83 (ninS (Nat.ne_of_lt (Nat.lt_of_lt_of_le (Nat.lt_of_lt_of_le (Nat.lt_of_lt_of_le (x50).lt K56.1) K66.1) (Nat.le_of_eq g75.symm))) nin0))
    have x91 := ((Fld.ext E76 x70).keep K83 (ninS (Nat.ne_of_lt (Nat.lt_of_lt_of_le (Nat.lt_of_lt_of_le (Nat.lt_of_lt_of_le (Nat.lt_of_lt_of_le (Nat.lt_of_lt_of_le (A26).lt K33.1) K42.1) K56.1) K66.1) (Nat.le_of_eq g75.symm))) nin0))
    have x92 := ((Exa.ext E76 (((x39.keep K42).keep K56).keep K66)).keep K83)
    refine go_callV C (a := b73) (argsL := [(.int 0)]) (W := 0) at_105 (hq hw 106 rfl) (hq hw 107 rfl) (fun _ hZ => notFace_of_selects (args := #[]) (mvT hZ (hq hw 109 rfl))) (hq hw 109 rfl) (hq hw 108 rfl) x85 (by decide) pd__I_Ljava_lang_String_ (ct_field0 l Z a0 hw am (r := b73) (a := b22) (t := t44) (kt := kt45) (e0 := a5) (e1 := a12) (e2 := a19) x86 x88 x89 x90 x91 x92) rfl (by decide) (Nat.le_of_eq rfl) (by decide) rfl (by decide) (by decide) mems0 ?_
    intro v93 h94 K95 q96
    obtain ⟨rfl, rfl⟩ := q96
    refine ⟨[], fresh0, ?_⟩
    show Go l _ Z _ _ _ κ _ _ 108 _ [(.ref a5)] 12 39
    refine go_astore C 110 (Ls' := #[.val (.int p0), .val (.int p1), .val (.int p2), .val (.int p3), .val (.int p4), .val (.ref a5), .val (.ref a12), .val (.ref a19), .val (.ref b22), .val (.ref b73), .val (.int 0), .val (.ref a5), .val (.ref a5)]) at_108 rfl rfl rfl ?_
    refine go_aload C 112 at_110 rfl rfl rfl ?_
    refine go_aload C 114 at_112 rfl rfl rfl ?_
    refine go_callV C (a := a5) (argsL := [(.ref a5)]) (W := 0) at_114 (hq hw 134 rfl) (hq hw 135 rfl) (fun _ hZ => notFace_of_selects (args := #[]) (mvT hZ (hq hw 137 rfl))) (hq hw 137 rfl) (hq hw 136 rfl) x92 (by decide) pd__Ljava_lang_Object__Z (ct_eqs l Z a0 hw am (a := a5)) rfl (by decide) (Nat.le_of_eq rfl) (by decide) rfl (by decide) (by decide) mems0 ?_
    intro v97 h98 K99 q100
    obtain ⟨rfl, rfl⟩ := q100
    refine ⟨[], fresh0, ?_⟩
    show Go l _ Z _ _ _ κ _ _ 117 _ [(.int 1)] 12 39
    refine go_retN C (t := .boolean) (z := (1 : Int32)) at_117 rfl (by decide) (by decide) (by decide) (by decide) ?_
    exact rfl
  · skip
    refine go_irem C 70 (1 : Int32) at_69 rfl (by decide) ec87 ?_
    refine go_istore C 72 (Ls' := #[.val (.int p0), .val (.int p1), .val (.int p2), .val (.int p3), .val (.int p4), .val (.ref a5), .val (.ref a12), .val (.ref a19), .val (.ref b22), .val (.ref b73), .val (.int 1), .unset, .unset]) at_70 rfl rfl ?_
    refine go_iload C 74 at_72 rfl rfl ?_
    refine go_ifY C (pc' := 84) at_74 (feq ((by decide) : ¬ ((1 : Int32) = (0 : Int32)))).2 (by decide) (by decide) ?_
    refine go_iload C 86 at_84 rfl rfl ?_
    refine go_iconst C 87 (1 : Int32) at_86 rfl (by decide) ?_
    refine go_icmpN C 90 at_87 rfl (teq ((by decide) : (1 : Int32) = (1 : Int32))).2 ?_
    refine go_aload C 92 at_90 rfl rfl rfl ?_
    refine go_astore C 94 (Ls' := #[.val (.int p0), .val (.int p1), .val (.int p2), .val (.int p3), .val (.int p4), .val (.ref a5), .val (.ref a12), .val (.ref a19), .val (.ref b22), .val (.ref b73), .val (.int 1), .val (.ref a12), .unset]) at_92 rfl rfl rfl ?_
    refine go_goto C (pc' := 101) at_94 (by decide) (by decide) ?_
    refine go_aload C 103 at_101 rfl rfl rfl ?_
    refine go_iload C 105 at_103 rfl rfl ?_
    have x101 := ((Exa.ext E76 x68).keep K83)
    have x102 := ((Fld.ext E76 x71).keep K83 (ninS (Nat.ne_of_lt (Nat.lt_of_lt_of_le (Nat.lt_of_lt_of_le (Nat.lt_of_lt_of_le (Nat.lt_of_lt_of_le (Nat.lt_of_lt_of_le (A26).lt K33.1) K42.1) K56.1) K66.1) (Nat.le_of_eq g75.symm))) nin0))
    have x103 := ((x72.ext E76).keep K83 (ninS (Nat.ne_of_lt (Nat.lt_of_lt_of_le (Nat.lt_of_lt_of_le (Nat.lt_of_lt_of_le (x50).lt K56.1) K66.1) (Nat.le_of_eq g75.symm))) nin0))
    have x104 := ((Fld.ext E76 x70).keep K83 (ninS (Nat.ne_of_lt (Nat.lt_of_lt_of_le (Nat.lt_of_lt_of_le (Nat.lt_of_lt_of_le (Nat.lt_of_lt_of_le (Nat.lt_of_lt_of_le (A26).lt K33.1) K42.1) K56.1) K66.1) (Nat.le_of_eq g75.symm))) nin0))
    have x105 := ((Exa.ext E76 ((x53.keep K56).keep K66)).keep K83)
    refine go_callV C (a := b73) (argsL := [(.int 1)]) (W := 0) at_105 (hq hw 106 rfl) (hq hw 107 rfl) (fun _ hZ => notFace_of_selects (args := #[]) (mvT hZ (hq hw 109 rfl))) (hq hw 109 rfl) (hq hw 108 rfl) x85 (by decide) pd__I_Ljava_lang_String_ (ct_field1 l Z a0 hw am (r := b73) (a := b22) (t := t44) (kt := kt45) (e0 := a5) (e1 := a12) (e2 := a19) x86 x101 x102 x103 x104 x105) rfl (by decide) (Nat.le_of_eq rfl) (by decide) rfl (by decide) (by decide) mems0 ?_
    intro v106 h107 K108 q109
    obtain ⟨rfl, rfl⟩ := q109
    refine ⟨[], fresh0, ?_⟩
    show Go l _ Z _ _ _ κ _ _ 108 _ [(.ref a12)] 12 39
    refine go_astore C 110 (Ls' := #[.val (.int p0), .val (.int p1), .val (.int p2), .val (.int p3), .val (.int p4), .val (.ref a5), .val (.ref a12), .val (.ref a19), .val (.ref b22), .val (.ref b73), .val (.int 1), .val (.ref a12), .val (.ref a12)]) at_108 rfl rfl rfl ?_
    refine go_aload C 112 at_110 rfl rfl rfl ?_
    refine go_aload C 114 at_112 rfl rfl rfl ?_
    refine go_callV C (a := a12) (argsL := [(.ref a12)]) (W := 0) at_114 (hq hw 134 rfl) (hq hw 135 rfl) (fun _ hZ => notFace_of_selects (args := #[]) (mvT hZ (hq hw 137 rfl))) (hq hw 137 rfl) (hq hw 136 rfl) x105 (by decide) pd__Ljava_lang_Object__Z (ct_eqs l Z a0 hw am (a := a12)) rfl (by decide) (Nat.le_of_eq rfl) (by decide) rfl (by decide) (by decide) mems0 ?_
    intro v110 h111 K112 q113
    obtain ⟨rfl, rfl⟩ := q113
    refine ⟨[], fresh0, ?_⟩
    show Go l _ Z _ _ _ κ _ _ 117 _ [(.int 1)] 12 39
    refine go_retN C (t := .boolean) (z := (1 : Int32)) at_117 rfl (by decide) (by decide) (by decide) (by decide) ?_
    exact rfl
  · skip
    refine go_irem C 70 (2 : Int32) at_69 rfl (by decide) ec87 ?_
    refine go_istore C 72 (Ls' := #[.val (.int p0), .val (.int p1), .val (.int p2), .val (.int p3), .val (.int p4), .val (.ref a5), .val (.ref a12), .val (.ref a19), .val (.ref b22), .val (.ref b73), .val (.int 2), .unset, .unset]) at_70 rfl rfl ?_
    refine go_iload C 74 at_72 rfl rfl ?_
    refine go_ifY C (pc' := 84) at_74 (feq ((by decide) : ¬ ((2 : Int32) = (0 : Int32)))).2 (by decide) (by decide) ?_
    refine go_iload C 86 at_84 rfl rfl ?_
    refine go_iconst C 87 (1 : Int32) at_86 rfl (by decide) ?_
    refine go_icmpY C (pc' := 97) at_87 (feq ((by decide) : ¬ ((2 : Int32) = (1 : Int32)))).2 (by decide) (by decide) ?_
    refine go_aload C 99 at_97 rfl rfl rfl ?_
    refine go_astore C 101 (Ls' := #[.val (.int p0), .val (.int p1), .val (.int p2), .val (.int p3), .val (.int p4), .val (.ref a5), .val (.ref a12), .val (.ref a19), .val (.ref b22), .val (.ref b73), .val (.int 2), .val (.ref a19), .unset]) at_99 rfl rfl rfl ?_
    refine go_aload C 103 at_101 rfl rfl rfl ?_
    refine go_iload C 105 at_103 rfl rfl ?_
    have x114 := ((Exa.ext E76 x68).keep K83)
    have x115 := ((Fld.ext E76 x71).keep K83 (ninS (Nat.ne_of_lt (Nat.lt_of_lt_of_le (Nat.lt_of_lt_of_le (Nat.lt_of_lt_of_le (Nat.lt_of_lt_of_le (Nat.lt_of_lt_of_le (A26).lt K33.1) K42.1) K56.1) K66.1) (Nat.le_of_eq g75.symm))) nin0))
    have x116 := ((x72.ext E76).keep K83 (ninS (Nat.ne_of_lt (Nat.lt_of_lt_of_le (Nat.lt_of_lt_of_le (Nat.lt_of_lt_of_le (x50).lt K56.1) K66.1) (Nat.le_of_eq g75.symm))) nin0))
    have x117 := ((Fld.ext E76 x70).keep K83 (ninS (Nat.ne_of_lt (Nat.lt_of_lt_of_le (Nat.lt_of_lt_of_le (Nat.lt_of_lt_of_le (Nat.lt_of_lt_of_le (Nat.lt_of_lt_of_le (A26).lt K33.1) K42.1) K56.1) K66.1) (Nat.le_of_eq g75.symm))) nin0))
    have x118 := ((Exa.ext E76 (x63.keep K66)).keep K83)
    refine go_callV C (a := b73) (argsL := [(.int 2)]) (W := 0) at_105 (hq hw 106 rfl) (hq hw 107 rfl) (fun _ hZ => notFace_of_selects (args := #[]) (mvT hZ (hq hw 109 rfl))) (hq hw 109 rfl) (hq hw 108 rfl) x85 (by decide) pd__I_Ljava_lang_String_ (ct_field2 l Z a0 hw am (r := b73) (a := b22) (t := t44) (kt := kt45) (e0 := a5) (e1 := a12) (e2 := a19) x86 x114 x115 x116 x117 x118) rfl (by decide) (Nat.le_of_eq rfl) (by decide) rfl (by decide) (by decide) mems0 ?_
    intro v119 h120 K121 q122
    obtain ⟨rfl, rfl⟩ := q122
    refine ⟨[], fresh0, ?_⟩
    show Go l _ Z _ _ _ κ _ _ 108 _ [(.ref a19)] 12 39
    refine go_astore C 110 (Ls' := #[.val (.int p0), .val (.int p1), .val (.int p2), .val (.int p3), .val (.int p4), .val (.ref a5), .val (.ref a12), .val (.ref a19), .val (.ref b22), .val (.ref b73), .val (.int 2), .val (.ref a19), .val (.ref a19)]) at_108 rfl rfl rfl ?_
    refine go_aload C 112 at_110 rfl rfl rfl ?_
    refine go_aload C 114 at_112 rfl rfl rfl ?_
    refine go_callV C (a := a19) (argsL := [(.ref a19)]) (W := 0) at_114 (hq hw 134 rfl) (hq hw 135 rfl) (fun _ hZ => notFace_of_selects (args := #[]) (mvT hZ (hq hw 137 rfl))) (hq hw 137 rfl) (hq hw 136 rfl) x118 (by decide) pd__Ljava_lang_Object__Z (ct_eqs l Z a0 hw am (a := a19)) rfl (by decide) (Nat.le_of_eq rfl) (by decide) rfl (by decide) (by decide) mems0 ?_
    intro v123 h124 K125 q126
    obtain ⟨rfl, rfl⟩ := q126
    refine ⟨[], fresh0, ?_⟩
    show Go l _ Z _ _ _ κ _ _ 117 _ [(.int 1)] 12 39
    refine go_retN C (t := .boolean) (z := (1 : Int32)) at_117 rfl (by decide) (by decide) (by decide) (by decide) ?_
    exact rfl
theorem comes_1 {Post : Tables → Env → Array Value → State → Outcome → State → Prop} (hpost : ∀ tb e args s v u, (limb_1_1.after args s (.returned v) u = true ∧ limb_1_2.after args s (.returned v) u = true ∧ True) → FrameEnd s (.returned v) u (Jvm.fieldLocs frame_1_writes args s ++ Jvm.arrayLocs frame_1_arrays args s ++ Jvm.staticLocs frame_1_statics s) 32 192 → Post tb e args s (.returned v) u) :
    ArmFor flags0 classFile x code maxLocals ret World_1 tables_1 room_1 Calls_1 rest_1 Pre_1 Post := by
  intro l hfl _ _ p e ha hc hk s m args below hf hA hF happ hP
  obtain ⟨hcalls, hrest, hpre⟩ := hP
  obtain ⟨-, -, -, hnamed, -, -, -, hat⟩ := (Spec.applies_iff hf).mp happ
  obtain ⟨hg, hn⟩ := and_e (Cond.before_iff.mp (show (Jvm.Cond.and given_1 narrow_1).before args s = true from hpre))
  obtain ⟨g0, gr0⟩ := and_e hg
  obtain ⟨g1, gr1⟩ := and_e gr0
  obtain ⟨g2, gr2⟩ := and_e gr1
  obtain ⟨g3, gr3⟩ := and_e gr2
  obtain ⟨g4, gr4⟩ := and_e gr3
  have g5 := gr4
  obtain ⟨w0, w1, w2, w3, w4, rfl⟩ : ∃ w0 w1 w2 w3 w4 : Value, args = #[w0, w1, w2, w3, w4] := by
    have hs : args.size = 5 := by simpa [Cond.value, given_1] using g0
    obtain ⟨L⟩ := args
    match L, hs with
    | [w0, w1, w2, w3, w4], _ => exact ⟨w0, w1, w2, w3, w4, rfl⟩
  have hw := fun d (hd : d ∈ tables_1) => atoms_spec (ws := Jvm.Cond.code x code maxLocals ret :: tables_1) hat d (List.mem_cons_of_mem _ hd)
  have hfit : Fit s := fun {y c} hc i hi => by
    obtain ⟨ha, rfl⟩ := Array.getElem?_eq_some_iff.mp hc
    have q := List.all_eq_true.mp ((Array.all_eq_true_iff_forall_mem.mp hF) _ (Array.getElem_mem ha)) i (List.mem_range.mpr hi)
    simpa [Array.getElem?_eq_getElem hi] using q
  obtain ⟨hsets, hown0⟩ := atoms_of _ (rest_1_c_eq ▸ (show rest_1_c.before _ s = true from hrest))
  obtain ⟨i0, ei0⟩ := is_v g1
  obtain rfl : w0 = (.int i0) := Option.some.inj ei0
  obtain ⟨i1, ei1⟩ := is_v g2
  obtain rfl : w1 = (.int i1) := Option.some.inj ei1
  obtain ⟨i2, ei2⟩ := is_v g3
  obtain rfl : w2 = (.int i2) := Option.some.inj ei2
  obtain ⟨i3, ei3⟩ := is_v g4
  obtain rfl : w3 = (.int i3) := Option.some.inj ei3
  obtain ⟨i4, ei4⟩ := is_v g5
  obtain rfl : w4 = (.int i4) := Option.some.inj ei4
  have n3 := not_v (Cond.before_iff.mp (hsets _ (List.mem_of_getElem? (i := 2) rfl)))
  obtain ⟨cS, ecS⟩ := is_v (Cond.before_iff.mp (hsets _ (List.mem_of_getElem? (i := 1) rfl)))
  have S1 : Sta s s.heap "java/lang/String" "COMPACT_STRINGS" "Z" (.int cS) := Sta.start ecS (Or.inl (hsets _ (List.mem_of_getElem? (i := 0) rfl)))
  have c1 : ¬ (cS = (0 : Int32)) := gotF (Cond.eq_ints ecS (Term.int_eval (0))) n3
  obtain ⟨dE, edE⟩ := arr_v (Cond.before_iff.mp (hsets _ (List.mem_of_getElem? (i := 15) rfl)))
  have S2 : Sta s s.heap "java/util/ArrayList" "DEFAULTCAPACITY_EMPTY_ELEMENTDATA" "[Ljava/lang/Object;" (.ref dE) := Sta.start edE (Or.inr ⟨hw _ (List.mem_of_getElem? (i := 36) rfl), hsets _ (List.mem_of_getElem? (i := 11) rfl)⟩)
  obtain ⟨cE, AE⟩ := Arr.start edE (Cond.before_iff.mp (hsets _ (List.mem_of_getElem? (i := 15) rfl)))
  have lE := eqv_i (Term.int_eval (0)) (Cond.before_iff.mp (hsets _ (List.mem_of_getElem? (i := 17) rfl)))
  obtain ⟨ql, qz⟩ := own_len AE edE lE
  have VE : Arv s s.heap dE cE.cls (.object "java/lang/Object") (0 : Int32) [] .null := Arv.start hfit AE ql qz (by decide) rfl trivial
  obtain ⟨n, o, h1, h2, h3, _, L, rfl, ⟨-, rfl, N⟩, hq⟩ := law0 l s _ hw (am := ⟨S1, c1, S2, VE⟩) (p0 := i0) (p1 := i1) (p2 := i2) (p3 := i3) (p4 := i4) (h0 := s.heap) (ext_refl _) (fun _ q => nomatch q) tables_1 p e ha hc hk s m _ below hf ((Spec.applies_iff_loose hf).mp happ).1 ⟨rfl, State.Warmed39.refl s, rfl⟩ trivial
  exact ⟨n, _, h1, h2, h3, hpost _ _ _ _ _ _ ⟨Cond.after_iff.mpr rfl, Cond.after_iff.mpr (eq_i res_at (Term.int_eval (1)) rfl), trivial⟩ ⟨hq.1, hq.2.1, (hq.2.2.sift fun y hy => Or.inr (N y hy)).mono (by decide) (by decide)⟩⟩
theorem main_1_1 : Claimed_1_1 := comes_1 fun _ _ _ _ _ _ h hF => ⟨h.1, hF⟩
theorem main_1_2 : Claimed_1_2 := comes_1 fun _ _ _ _ _ _ h hF => ⟨h.2.1, hF⟩
end Jvm.Pilot.@@N@@
namespace Jvm.Pilot.@@N@@
open Jvm Jvm.ClassFile Sem Op Lib Jvm.Free Jvm.Stand Jvm.Pilot.@@N@@.Jvm.D
/-! MADE BY PROGRAM (witnessworld.py) out of the Statement's table words and the real class files: 32 classes; the members and pool entries that the words name. The judged class is class 1, her method 2. -/
namespace start1
open Jvm.ClassFile
def u (s : String) : CpInfo := .utf8 (stringToUtf16 s)
/-- a pool by its gaps: so many unusable entries, then the entry; so many at the end -/
def gap : Nat → List CpInfo → List CpInfo
  | 0, r => r
  | n + 1, r => .unusable :: gap n r
def poolList (es : List (Nat × CpInfo)) (last : Nat) : List CpInfo := es.foldr (fun e r => gap e.1 (e.2 :: r)) (gap last [])
def pool (es : List (Nat × CpInfo)) (last : Nat) : Array CpInfo := ⟨poolList es last⟩
def fileOf (pool : Array CpInfo) (this : Nat) (attrs : Array Attribute := #[]) (ms : Array MethodInfo := #[]) (fl : Nat := 33) (sup : Nat := 0) (ifs : Array Nat := #[]) (fds : Array FieldInfo := #[]) : ClassFile where
  minorVersion := 0
  majorVersion := 65
  constantPool := pool
  accessFlags := fl
  thisClass := this
  superClass := sup
  interfaces := ifs
  fields := fds
  methods := ms
  attributes := attrs
def plain (name : String) (sup : Option ClassId) : Class where
  name := name
  kind := .ordinary
  loader := none
  accessFlags := 33
  super := sup
  interfaces := #[]
  cf := none
  fields := #[]
  methods := #[]
  instanceTypes := #[]
  staticTypes := #[]
  resolved := #[]
  callSites := []
  init := .initialized
  statics := none
  mirror := none

def pool0 : Array CpInfo := pool [(5, u "<init>"), (0, u "()V"), (1, .class_ 10), (1, u "java/lang/Object")] 113

def k0c0 : Code := { maxStack := 0, maxLocals := 1, code := object_method_1_code, exceptionTable := #[], attributes := #[] }
def k0m0 : Method := { name := "<init>", desc := "()V", sig := { parameters := [], returnType := none }, accessFlags := 1, code := some k0c0 }
/-- java/lang/Object -/
def k0 : Class := { plain "java/lang/Object" none with
  accessFlags := 33
  interfaces := #[]
  cf := some (fileOf pool0 8 #[] #[{ accessFlags := 1, nameIndex := 5, descriptorIndex := 6, attributes := #[] }] 33 0 #[] #[])
  fields := #[]
  methods := #[k0m0]
  instanceTypes := #[]
  staticTypes := #[]
  resolved := Array.replicate 124 none
  statics := none }

def pool1 : Array CpInfo := pool [(2, .class_ 4), (0, .nameAndType 5 6), (0, u "java/lang/Object"), (0, u "<init>"), (0, u "()V"), (0, .class_ 8), (0, u "java/lang/String"), (0, .methodref 7 10), (0, .nameAndType 5 11), (0, u "([C)V"), (0, .methodref 13 14), (0, .class_ 15), (0, .nameAndType 16 17), (0, u "com/example/slicewise/slicewise/input/RowFieldPinLaw"), (0, u "str"), (0, u "(I)Ljava/lang/String;"), (0, .class_ 19), (0, u "java/util/ArrayList"), (0, .methodref 18 3), (0, .methodref 18 22), (0, .nameAndType 23 24), (0, u "add"), (0, u "(Ljava/lang/Object;)Z"), (0, .class_ 26), (0, u "com/example/slicewise/slicewise/input/CsvFile$Row"), (0, .methodref 25 28), (0, .nameAndType 5 29), (0, u "(ILjava/util/List;)V"), (0, .integer 2147483647), (0, .methodref 25 32), (0, .nameAndType 33 17), (0, u "field"), (0, .methodref 7 35), (0, .nameAndType 36 24), (0, u "equals"), (2, u "law"), (0, u "(IIIII)Z")] 7

def k1m0 : Method := { name := "<init>", desc := "()V", sig := { parameters := [], returnType := none }, accessFlags := 1, code := none }
def k1c1 : Code := { maxStack := 4, maxLocals := 2, code := method_2_code, exceptionTable := #[], attributes := #[] }
def k1m1 : Method := { name := "str", desc := "(I)Ljava/lang/String;", sig := { parameters := [.int], returnType := some (.object "java/lang/String") }, accessFlags := 10, code := some k1c1 }
def k1c2 : Code := { maxStack := 4, maxLocals := 13, code := code, exceptionTable := #[], attributes := #[] }
def k1m2 : Method := { name := "law", desc := "(IIIII)Z", sig := { parameters := [.int, .int, .int, .int, .int], returnType := some .boolean }, accessFlags := 9, code := some k1c2 }
/-- com/example/slicewise/slicewise/input/RowFieldPinLaw -/
def k1 : Class := { plain "com/example/slicewise/slicewise/input/RowFieldPinLaw" (some 0) with
  accessFlags := 49
  interfaces := #[]
  cf := some (fileOf pool1 13 #[] #[{ accessFlags := 1, nameIndex := 5, descriptorIndex := 6, attributes := #[] }, { accessFlags := 10, nameIndex := 16, descriptorIndex := 17, attributes := #[] }, { accessFlags := 9, nameIndex := 39, descriptorIndex := 40, attributes := #[] }] 49 2 #[] #[])
  fields := #[]
  methods := #[k1m0, k1m1, k1m2]
  instanceTypes := #[]
  staticTypes := #[]
  resolved := Array.replicate 48 none
  statics := none }

def pool2 : Array CpInfo := pool [(1, .class_ 2), (0, u "java/io/Serializable"), (0, .class_ 4), (0, u "java/lang/Object")] 2

/-- java/io/Serializable -/
def k2 : Class := { plain "java/io/Serializable" (some 0) with
  accessFlags := 1537
  interfaces := #[]
  cf := some (fileOf pool2 1 #[] #[] 1537 3 #[] #[])
  fields := #[]
  methods := #[]
  instanceTypes := #[]
  staticTypes := #[]
  resolved := Array.replicate 7 none
  statics := none }

def pool3 : Array CpInfo := pool [(1, .class_ 2), (0, u "java/lang/Comparable"), (0, .class_ 4), (0, u "java/lang/Object")] 7

/-- java/lang/Comparable -/
def k3 : Class := { plain "java/lang/Comparable" (some 0) with
  accessFlags := 1537
  interfaces := #[]
  cf := some (fileOf pool3 1 #[] #[] 1537 3 #[] #[])
  fields := #[]
  methods := #[]
  instanceTypes := #[]
  staticTypes := #[]
  resolved := Array.replicate 12 none
  statics := none }

def pool4 : Array CpInfo := pool [(2, .class_ 4), (1, u "java/lang/CharSequence"), (42, .class_ 48), (0, u "java/lang/CharSequence$1CodePointIterator"), (10, .class_ 60), (0, u "java/lang/CharSequence$1CharIterator"), (5, .class_ 67), (0, u "java/lang/Object")] 63

/-- java/lang/CharSequence -/
def k4 : Class := { plain "java/lang/CharSequence" (some 0) with
  accessFlags := 1537
  interfaces := #[]
  cf := some (fileOf pool4 2 #[.nestMembers #[47, 59]] #[] 1537 66 #[] #[])
  fields := #[]
  methods := #[]
  instanceTypes := #[]
  staticTypes := #[]
  resolved := Array.replicate 131 none
  statics := none }

def pool5 : Array CpInfo := pool [(1, .class_ 2), (0, u "java/lang/constant/Constable"), (0, .class_ 4), (0, u "java/lang/Object")] 6

/-- java/lang/constant/Constable -/
def k5 : Class := { plain "java/lang/constant/Constable" (some 0) with
  accessFlags := 1537
  interfaces := #[]
  cf := some (fileOf pool5 1 #[] #[] 1537 3 #[] #[])
  fields := #[]
  methods := #[]
  instanceTypes := #[]
  staticTypes := #[]
  resolved := Array.replicate 11 none
  statics := none }

def pool6 : Array CpInfo := pool [(1, .class_ 2), (0, u "java/lang/constant/ConstantDesc"), (0, .class_ 4), (0, u "java/lang/Object")] 32

/-- java/lang/constant/ConstantDesc -/
def k6 : Class := { plain "java/lang/constant/ConstantDesc" (some 0) with
  accessFlags := 1537
  interfaces := #[]
  cf := some (fileOf pool6 1 #[] #[] 1537 3 #[] #[])
  fields := #[]
  methods := #[]
  instanceTypes := #[]
  staticTypes := #[]
  resolved := Array.replicate 37 none
  statics := none }

def pool7 : Array CpInfo := pool [(1, .methodref 2 3), (0, .class_ 4), (0, .nameAndType 5 6), (0, u "java/lang/Object"), (0, u "<init>"), (0, u "()V"), (2, .fieldref 10 11), (0, .class_ 12), (0, .nameAndType 13 14), (0, u "java/lang/String"), (0, u "value"), (0, u "[B"), (0, .fieldref 10 16), (0, .nameAndType 17 18), (0, u "coder"), (0, u "B"), (2, u "hash"), (0, u "I"), (2, u "hashIsZero"), (0, u "Z"), (0, .methodref 10 28), (0, .nameAndType 5 29), (0, u "([CIILjava/lang/Void;)V"), (8, .fieldref 10 39), (0, .nameAndType 40 26), (0, u "COMPACT_STRINGS"), (1, .class_ 44), (1, u "java/lang/StringUTF16"), (0, u "compress"), (1, .methodref 42 48), (0, .nameAndType 49 50), (0, u "coderFromArrayLen"), (0, u "([BI)B"), (126, .methodref 42 178), (0, .nameAndType 45 179), (0, u "([CII)[B"), (363, u "equals"), (29, u "(Ljava/lang/Object;)Z"), (1, .class_ 576), (0, u "java/lang/CharSequence"), (22, u "CASE_INSENSITIVE_ORDER"), (0, u "Ljava/util/Comparator;"), (409, u "([C)V"), (90, u "serialPersistentFields"), (0, u "[Ljava/io/ObjectStreamField;"), (0, .class_ 1104), (0, u "java/lang/String$CaseInsensitiveComparator"), (1, .class_ 1107), (0, u "java/io/Serializable"), (0, .class_ 1109), (0, u "java/lang/Comparable"), (0, .class_ 1111), (0, u "java/lang/constant/Constable"), (0, .class_ 1113), (0, u "java/lang/constant/ConstantDesc"), (2, u "serialVersionUID"), (0, u "J"), (3, u "REPL"), (0, u "C"), (2, u "LATIN1"), (1, u "UTF16")] 323

def k7m0 : Method := { name := "<init>", desc := "()V", sig := { parameters := [], returnType := none }, accessFlags := 1, code := none }
def k7c1 : Code := { maxStack := 5, maxLocals := 2, code := jdk_42_method_3_code, exceptionTable := #[], attributes := #[] }
def k7m1 : Method := { name := "<init>", desc := "([C)V", sig := { parameters := [(.array .char)], returnType := none }, accessFlags := 1, code := some k7c1 }
def k7c2 : Code := { maxStack := 2, maxLocals := 3, code := jdk_42_method_66_code, exceptionTable := #[], attributes := #[] }
def k7m2 : Method := { name := "equals", desc := "(Ljava/lang/Object;)Z", sig := { parameters := [(.object "java/lang/Object")], returnType := some .boolean }, accessFlags := 1, code := some k7c2 }
def k7c3 : Code := { maxStack := 4, maxLocals := 6, code := jdk_42_method_149_code, exceptionTable := #[], attributes := #[] }
def k7m3 : Method := { name := "<init>", desc := "([CIILjava/lang/Void;)V", sig := { parameters := [(.array .char), .int, .int, (.object "java/lang/Void")], returnType := none }, accessFlags := 2, code := some k7c3 }
/-- java/lang/String -/
def k7 : Class := { plain "java/lang/String" (some 0) with
  accessFlags := 49
  interfaces := #[2, 3, 4, 5, 6]
  cf := some (fileOf pool7 10 #[.nestMembers #[1103]] #[{ accessFlags := 1, nameIndex := 5, descriptorIndex := 6, attributes := #[] }, { accessFlags := 1, nameIndex := 5, descriptorIndex := 1010, attributes := #[] }, { accessFlags := 1, nameIndex := 543, descriptorIndex := 573, attributes := #[] }, { accessFlags := 2, nameIndex := 5, descriptorIndex := 29, attributes := #[] }] 49 2 #[1106, 1108, 575, 1110, 1112] #[{ accessFlags := 18, nameIndex := 13, descriptorIndex := 14, attributes := #[] }, { accessFlags := 18, nameIndex := 17, descriptorIndex := 18, attributes := #[] }, { accessFlags := 2, nameIndex := 21, descriptorIndex := 22, attributes := #[] }, { accessFlags := 2, nameIndex := 25, descriptorIndex := 26, attributes := #[] }, { accessFlags := 26, nameIndex := 1116, descriptorIndex := 1117, attributes := #[] }, { accessFlags := 24, nameIndex := 40, descriptorIndex := 26, attributes := #[] }, { accessFlags := 26, nameIndex := 1101, descriptorIndex := 1102, attributes := #[] }, { accessFlags := 26, nameIndex := 1121, descriptorIndex := 1122, attributes := #[] }, { accessFlags := 25, nameIndex := 599, descriptorIndex := 600, attributes := #[] }, { accessFlags := 24, nameIndex := 1125, descriptorIndex := 18, attributes := #[] }, { accessFlags := 24, nameIndex := 1127, descriptorIndex := 18, attributes := #[] }])
  fields := #[{ name := "value", type := (.array .byte), accessFlags := 18, slot := 0, constantValue := 0 }, { name := "coder", type := .byte, accessFlags := 18, slot := 1, constantValue := 0 }, { name := "hash", type := .int, accessFlags := 2, slot := 2, constantValue := 0 }, { name := "hashIsZero", type := .boolean, accessFlags := 2, slot := 3, constantValue := 0 }, { name := "serialVersionUID", type := .long, accessFlags := 26, slot := 0, constantValue := 0 }, { name := "COMPACT_STRINGS", type := .boolean, accessFlags := 24, slot := 1, constantValue := 0 }, { name := "serialPersistentFields", type := (.array (.object "java/io/ObjectStreamField")), accessFlags := 26, slot := 2, constantValue := 0 }, { name := "REPL", type := .char, accessFlags := 26, slot := 3, constantValue := 0 }, { name := "CASE_INSENSITIVE_ORDER", type := (.object "java/util/Comparator"), accessFlags := 25, slot := 4, constantValue := 0 }, { name := "LATIN1", type := .byte, accessFlags := 24, slot := 5, constantValue := 0 }, { name := "UTF16", type := .byte, accessFlags := 24, slot := 6, constantValue := 0 }]
  methods := #[k7m0, k7m1, k7m2, k7m3]
  instanceTypes := #[(.array .byte), .byte, .int, .boolean]
  staticTypes := #[.long, .boolean, (.array (.object "java/io/ObjectStreamField")), .char, (.object "java/util/Comparator"), .byte, .byte]
  resolved := Array.replicate 1451 none
  statics := some 0 }

def pool8 : Array CpInfo := pool [(6, .class_ 8), (1, u "java/lang/Object"), (0, u "<init>"), (0, u "()V"), (1, .class_ 14), (1, u "java/lang/StringUTF16"), (31, u "$assertionsDisabled"), (0, u "Z"), (13, u "HI_BYTE_SHIFT"), (0, u "I"), (2, u "LO_BYTE_SHIFT"), (49, .methodref 12 116), (0, .nameAndType 117 118), (0, u "compress"), (0, u "([CI[BII)I"), (3, u "([CII)[B"), (138, u "coderFromArrayLen"), (0, u "([BI)B"), (106, .class_ 371), (1, u "java/lang/StringUTF16$LinesSpliterator"), (58, u "MAX_LENGTH"), (196, .class_ 628), (0, u "java/lang/StringUTF16$CodePointsSpliterator"), (0, .class_ 630), (0, u "java/lang/StringUTF16$CharsSpliterator")] 4

def k8m0 : Method := { name := "<init>", desc := "()V", sig := { parameters := [], returnType := none }, accessFlags := 0, code := none }
def k8c1 : Code := { maxStack := 2, maxLocals := 2, code := jdk_52_method_15_code, exceptionTable := #[], attributes := #[] }
def k8m1 : Method := { name := "coderFromArrayLen", desc := "([BI)B", sig := { parameters := [(.array .byte), .int], returnType := some .byte }, accessFlags := 8, code := some k8c1 }
def k8c2 : Code := { maxStack := 5, maxLocals := 6, code := jdk_52_method_16_code, exceptionTable := #[], attributes := #[] }
def k8m2 : Method := { name := "compress", desc := "([CII)[B", sig := { parameters := [(.array .char), .int, .int], returnType := some (.array .byte) }, accessFlags := 9, code := some k8c2 }
def k8c3 : Code := { maxStack := 3, maxLocals := 7, code := jdk_52_method_21_code, exceptionTable := #[], attributes := #[] }
def k8m3 : Method := { name := "compress", desc := "([CI[BII)I", sig := { parameters := [(.array .char), .int, (.array .byte), .int, .int], returnType := some .int }, accessFlags := 9, code := some k8c3 }
/-- java/lang/StringUTF16 -/
def k8 : Class := { plain "java/lang/StringUTF16" (some 0) with
  accessFlags := 48
  interfaces := #[]
  cf := some (fileOf pool8 12 #[.nestMembers #[627, 629, 369]] #[{ accessFlags := 0, nameIndex := 9, descriptorIndex := 10, attributes := #[] }, { accessFlags := 8, nameIndex := 261, descriptorIndex := 262, attributes := #[] }, { accessFlags := 9, nameIndex := 117, descriptorIndex := 122, attributes := #[] }, { accessFlags := 9, nameIndex := 117, descriptorIndex := 118, attributes := #[] }] 48 6 #[] #[{ accessFlags := 26, nameIndex := 61, descriptorIndex := 62, attributes := #[] }, { accessFlags := 26, nameIndex := 65, descriptorIndex := 62, attributes := #[] }, { accessFlags := 24, nameIndex := 430, descriptorIndex := 62, attributes := #[] }, { accessFlags := 4120, nameIndex := 46, descriptorIndex := 47, attributes := #[] }])
  fields := #[{ name := "HI_BYTE_SHIFT", type := .int, accessFlags := 26, slot := 0, constantValue := 0 }, { name := "LO_BYTE_SHIFT", type := .int, accessFlags := 26, slot := 1, constantValue := 0 }, { name := "MAX_LENGTH", type := .int, accessFlags := 24, slot := 2, constantValue := 0 }, { name := "$assertionsDisabled", type := .boolean, accessFlags := 4120, slot := 3, constantValue := 0 }]
  methods := #[k8m0, k8m1, k8m2, k8m3]
  instanceTypes := #[]
  staticTypes := #[.int, .int, .int, .boolean]
  resolved := Array.replicate 635 none
  statics := none }

def pool9 : Array CpInfo := pool [(8, .class_ 10), (1, u "java/lang/Iterable"), (24, .class_ 36), (0, u "java/lang/Object")] 25

/-- java/lang/Iterable -/
def k9 : Class := { plain "java/lang/Iterable" (some 0) with
  accessFlags := 1537
  interfaces := #[]
  cf := some (fileOf pool9 8 #[] #[] 1537 35 #[] #[])
  fields := #[]
  methods := #[]
  instanceTypes := #[]
  staticTypes := #[]
  resolved := Array.replicate 62 none
  statics := none }

def pool10 : Array CpInfo := pool [(10, .class_ 12), (1, u "java/util/Collection"), (47, .class_ 61), (0, u "java/lang/Object"), (0, .class_ 63), (0, u "java/lang/Iterable")] 51

/-- java/util/Collection -/
def k10 : Class := { plain "java/util/Collection" (some 0) with
  accessFlags := 1537
  interfaces := #[9]
  cf := some (fileOf pool10 10 #[] #[] 1537 60 #[62] #[])
  fields := #[]
  methods := #[]
  instanceTypes := #[]
  staticTypes := #[]
  resolved := Array.replicate 115 none
  statics := none }

def pool11 : Array CpInfo := pool [(1, .methodref 2 3), (0, .class_ 4), (0, .nameAndType 5 6), (0, u "java/lang/Object"), (0, u "<init>"), (0, u "()V"), (1, .class_ 10), (1, u "java/util/AbstractCollection"), (66, .class_ 78), (0, u "java/util/Collection")] 81

def k11c0 : Code := { maxStack := 1, maxLocals := 1, code := jdk_22_method_1_code, exceptionTable := #[], attributes := #[] }
def k11m0 : Method := { name := "<init>", desc := "()V", sig := { parameters := [], returnType := none }, accessFlags := 4, code := some k11c0 }
/-- java/util/AbstractCollection -/
def k11 : Class := { plain "java/util/AbstractCollection" (some 0) with
  accessFlags := 1057
  interfaces := #[10]
  cf := some (fileOf pool11 8 #[] #[{ accessFlags := 4, nameIndex := 5, descriptorIndex := 6, attributes := #[] }] 1057 2 #[77] #[])
  fields := #[]
  methods := #[k11m0]
  instanceTypes := #[]
  staticTypes := #[]
  resolved := Array.replicate 160 none
  statics := none }

def pool12 : Array CpInfo := pool [(8, .class_ 10), (1, u "java/util/SequencedCollection"), (15, .class_ 27), (0, u "java/lang/Object"), (0, .class_ 29), (0, u "java/util/Collection")] 27

/-- java/util/SequencedCollection -/
def k12 : Class := { plain "java/util/SequencedCollection" (some 0) with
  accessFlags := 1537
  interfaces := #[10]
  cf := some (fileOf pool12 8 #[] #[] 1537 26 #[28] #[])
  fields := #[]
  methods := #[]
  instanceTypes := #[]
  staticTypes := #[]
  resolved := Array.replicate 57 none
  statics := none }

def pool13 : Array CpInfo := pool [(8, .class_ 10), (1, u "java/util/List"), (64, u "get"), (0, u "(I)Ljava/lang/Object;"), (26, .class_ 104), (0, u "java/lang/Object"), (15, .class_ 121), (0, u "java/util/SequencedCollection")] 129

def k13m0 : Method := { name := "get", desc := "(I)Ljava/lang/Object;", sig := { parameters := [.int], returnType := some (.object "java/lang/Object") }, accessFlags := 1025, code := none }
/-- java/util/List -/
def k13 : Class := { plain "java/util/List" (some 0) with
  accessFlags := 1537
  interfaces := #[12]
  cf := some (fileOf pool13 8 #[] #[{ accessFlags := 1025, nameIndex := 75, descriptorIndex := 76, attributes := #[] }] 1537 103 #[120] #[])
  fields := #[]
  methods := #[k13m0]
  instanceTypes := #[]
  staticTypes := #[]
  resolved := Array.replicate 251 none
  statics := none }

def pool14 : Array CpInfo := pool [(1, .methodref 2 3), (0, .class_ 4), (0, .nameAndType 5 6), (0, u "java/util/AbstractCollection"), (0, u "<init>"), (0, u "()V"), (0, .fieldref 8 9), (0, .class_ 10), (0, .nameAndType 11 12), (0, u "java/util/AbstractList"), (0, u "modCount"), (0, u "I"), (64, .class_ 78), (0, u "java/util/AbstractList$Itr"), (3, .class_ 83), (0, u "java/util/AbstractList$ListItr"), (9, .class_ 94), (0, u "java/util/AbstractList$RandomAccessSubList"), (3, .class_ 99), (0, u "java/util/AbstractList$SubList"), (33, .class_ 134), (0, u "java/util/List"), (73, .class_ 209), (0, u "java/util/AbstractList$SubList$1"), (0, .class_ 211), (0, u "java/util/AbstractList$RandomAccessSpliterator")] 6

def k14c0 : Code := { maxStack := 2, maxLocals := 1, code := jdk_39_method_1_code, exceptionTable := #[], attributes := #[] }
def k14m0 : Method := { name := "<init>", desc := "()V", sig := { parameters := [], returnType := none }, accessFlags := 4, code := some k14c0 }
/-- java/util/AbstractList -/
def k14 : Class := { plain "java/util/AbstractList" (some 11) with
  accessFlags := 1057
  interfaces := #[13]
  cf := some (fileOf pool14 8 #[.nestMembers #[93, 98, 208, 210, 82, 77]] #[{ accessFlags := 4, nameIndex := 5, descriptorIndex := 6, attributes := #[] }] 1057 2 #[133] #[{ accessFlags := 132, nameIndex := 11, descriptorIndex := 12, attributes := #[] }])
  fields := #[{ name := "modCount", type := .int, accessFlags := 132, slot := 0, constantValue := 0 }]
  methods := #[k14m0]
  instanceTypes := #[.int]
  staticTypes := #[]
  resolved := Array.replicate 218 none
  statics := none }

def pool15 : Array CpInfo := pool [(1, .class_ 2), (0, u "java/util/RandomAccess"), (0, .class_ 4), (0, u "java/lang/Object")] 2

/-- java/util/RandomAccess -/
def k15 : Class := { plain "java/util/RandomAccess" (some 0) with
  accessFlags := 1537
  interfaces := #[]
  cf := some (fileOf pool15 1 #[] #[] 1537 3 #[] #[])
  fields := #[]
  methods := #[]
  instanceTypes := #[]
  staticTypes := #[]
  resolved := Array.replicate 7 none
  statics := none }

def pool16 : Array CpInfo := pool [(1, .class_ 2), (0, u "java/lang/Cloneable"), (0, .class_ 4), (0, u "java/lang/Object")] 2

/-- java/lang/Cloneable -/
def k16 : Class := { plain "java/lang/Cloneable" (some 0) with
  accessFlags := 1537
  interfaces := #[]
  cf := some (fileOf pool16 1 #[] #[] 1537 3 #[] #[])
  fields := #[]
  methods := #[]
  instanceTypes := #[]
  staticTypes := #[]
  resolved := Array.replicate 7 none
  statics := none }

def pool17 : Array CpInfo := pool [(1, .methodref 2 3), (0, .class_ 4), (0, .nameAndType 5 6), (0, u "java/util/AbstractList"), (0, u "<init>"), (0, u "()V"), (0, .class_ 8), (0, u "java/lang/Object"), (0, .fieldref 10 11), (0, .class_ 12), (0, .nameAndType 13 14), (0, u "java/util/ArrayList"), (0, u "elementData"), (0, u "[Ljava/lang/Object;"), (2, u "EMPTY_ELEMENTDATA"), (21, .fieldref 10 40), (0, .nameAndType 41 14), (0, u "DEFAULTCAPACITY_EMPTY_ELEMENTDATA"), (5, u "()[Ljava/lang/Object;"), (0, .fieldref 10 49), (0, .nameAndType 50 51), (0, u "size"), (0, u "I"), (11, .fieldref 10 64), (0, .nameAndType 65 51), (0, u "modCount"), (3, .methodref 10 70), (0, .nameAndType 71 72), (0, u "grow"), (0, u "(I)[Ljava/lang/Object;"), (6, .methodref 80 81), (0, .class_ 82), (0, .nameAndType 83 84), (0, u "java/lang/Math"), (0, u "max"), (0, u "(II)I"), (11, u "(Ljava/lang/Object;)Z"), (21, .methodref 119 120), (0, .class_ 121), (0, .nameAndType 122 84), (0, u "java/util/Objects"), (0, u "checkIndex"), (0, .methodref 10 124), (0, .nameAndType 13 125), (0, u "(I)Ljava/lang/Object;"), (3, .methodref 10 130), (0, .nameAndType 71 47), (0, .methodref 10 132), (0, .nameAndType 133 134), (0, u "add"), (0, u "(Ljava/lang/Object;[Ljava/lang/Object;I)V"), (13, .class_ 149), (0, u "java/util/List"), (112, .class_ 263), (0, u "java/util/ArrayList$ListItr"), (3, .class_ 268), (0, u "java/util/ArrayList$Itr"), (7, .class_ 277), (0, u "java/util/ArrayList$SubList"), (12, .class_ 291), (0, u "java/util/ArrayList$ArrayListSpliterator"), (37, .class_ 330), (0, u "java/util/RandomAccess"), (0, .class_ 332), (0, u "java/lang/Cloneable"), (0, .class_ 334), (0, u "java/io/Serializable"), (0, u "serialVersionUID"), (0, u "J"), (3, u "DEFAULT_CAPACITY"), (40, u "get"), (118, .class_ 501), (0, u "java/util/ArrayList$SubList$2"), (0, .class_ 503), (0, u "java/util/ArrayList$SubList$1")] 5

def k17c0 : Code := { maxStack := 2, maxLocals := 1, code := jdk_38_method_2_code, exceptionTable := #[], attributes := #[] }
def k17m0 : Method := { name := "<init>", desc := "()V", sig := { parameters := [], returnType := none }, accessFlags := 1, code := some k17c0 }
def k17c1 : Code := { maxStack := 4, maxLocals := 4, code := jdk_38_method_6_code, exceptionTable := #[], attributes := #[] }
def k17m1 : Method := { name := "grow", desc := "(I)[Ljava/lang/Object;", sig := { parameters := [.int], returnType := some (.array (.object "java/lang/Object")) }, accessFlags := 2, code := some k17c1 }
def k17c2 : Code := { maxStack := 3, maxLocals := 1, code := jdk_38_method_7_code, exceptionTable := #[], attributes := #[] }
def k17m2 : Method := { name := "grow", desc := "()[Ljava/lang/Object;", sig := { parameters := [], returnType := some (.array (.object "java/lang/Object")) }, accessFlags := 2, code := some k17c2 }
def k17c3 : Code := { maxStack := 2, maxLocals := 2, code := jdk_38_method_18_code, exceptionTable := #[], attributes := #[] }
def k17m3 : Method := { name := "elementData", desc := "(I)Ljava/lang/Object;", sig := { parameters := [.int], returnType := some (.object "java/lang/Object") }, accessFlags := 0, code := some k17c3 }
def k17c4 : Code := { maxStack := 2, maxLocals := 2, code := jdk_38_method_20_code, exceptionTable := #[], attributes := #[] }
def k17m4 : Method := { name := "get", desc := "(I)Ljava/lang/Object;", sig := { parameters := [.int], returnType := some (.object "java/lang/Object") }, accessFlags := 1, code := some k17c4 }
def k17c5 : Code := { maxStack := 3, maxLocals := 4, code := jdk_38_method_24_code, exceptionTable := #[], attributes := #[] }
def k17m5 : Method := { name := "add", desc := "(Ljava/lang/Object;[Ljava/lang/Object;I)V", sig := { parameters := [(.object "java/lang/Object"), (.array (.object "java/lang/Object")), .int], returnType := none }, accessFlags := 2, code := some k17c5 }
def k17c6 : Code := { maxStack := 4, maxLocals := 2, code := jdk_38_method_25_code, exceptionTable := #[], attributes := #[] }
def k17m6 : Method := { name := "add", desc := "(Ljava/lang/Object;)Z", sig := { parameters := [(.object "java/lang/Object")], returnType := some .boolean }, accessFlags := 1, code := some k17c6 }
/-- java/util/ArrayList -/
def k17 : Class := { plain "java/util/ArrayList" (some 14) with
  accessFlags := 33
  interfaces := #[13, 15, 16, 2]
  cf := some (fileOf pool17 10 #[.nestMembers #[290, 276, 500, 502, 262, 267]] #[{ accessFlags := 1, nameIndex := 5, descriptorIndex := 6, attributes := #[] }, { accessFlags := 2, nameIndex := 71, descriptorIndex := 72, attributes := #[] }, { accessFlags := 2, nameIndex := 71, descriptorIndex := 47, attributes := #[] }, { accessFlags := 0, nameIndex := 13, descriptorIndex := 125, attributes := #[] }, { accessFlags := 1, nameIndex := 381, descriptorIndex := 125, attributes := #[] }, { accessFlags := 2, nameIndex := 133, descriptorIndex := 134, attributes := #[] }, { accessFlags := 1, nameIndex := 133, descriptorIndex := 96, attributes := #[] }] 33 2 #[148, 329, 331, 333] #[{ accessFlags := 26, nameIndex := 335, descriptorIndex := 336, attributes := #[] }, { accessFlags := 26, nameIndex := 340, descriptorIndex := 51, attributes := #[] }, { accessFlags := 26, nameIndex := 17, descriptorIndex := 14, attributes := #[] }, { accessFlags := 26, nameIndex := 41, descriptorIndex := 14, attributes := #[] }, { accessFlags := 128, nameIndex := 13, descriptorIndex := 14, attributes := #[] }, { accessFlags := 2, nameIndex := 50, descriptorIndex := 51, attributes := #[] }])
  fields := #[{ name := "serialVersionUID", type := .long, accessFlags := 26, slot := 0, constantValue := 0 }, { name := "DEFAULT_CAPACITY", type := .int, accessFlags := 26, slot := 1, constantValue := 0 }, { name := "EMPTY_ELEMENTDATA", type := (.array (.object "java/lang/Object")), accessFlags := 26, slot := 2, constantValue := 0 }, { name := "DEFAULTCAPACITY_EMPTY_ELEMENTDATA", type := (.array (.object "java/lang/Object")), accessFlags := 26, slot := 3, constantValue := 0 }, { name := "elementData", type := (.array (.object "java/lang/Object")), accessFlags := 128, slot := 1, constantValue := 0 }, { name := "size", type := .int, accessFlags := 2, slot := 2, constantValue := 0 }]
  methods := #[k17m0, k17m1, k17m2, k17m3, k17m4, k17m5, k17m6]
  instanceTypes := #[.int, (.array (.object "java/lang/Object")), .int]
  staticTypes := #[.long, .int, (.array (.object "java/lang/Object")), (.array (.object "java/lang/Object"))]
  resolved := Array.replicate 509 none
  statics := some 1 }

def pool18 : Array CpInfo := pool [(1, .class_ 2), (0, u "java/lang/Math"), (1, .class_ 6), (1, u "java/lang/Object"), (0, u "<init>"), (0, u "()V"), (89, .class_ 100), (1, u "java/lang/Math$RandomNumberGeneratorHolder"), (71, u "negativeZeroFloatBits"), (0, u "J"), (2, u "negativeZeroDoubleBits"), (21, u "max"), (46, u "$assertionsDisabled"), (0, u "Z"), (88, u "(II)I"), (2, u "twoToTheDoubleScaleDown"), (0, u "D"), (4, u "twoToTheDoubleScaleUp"), (9, u "E"), (3, u "PI"), (2, u "TAU"), (2, u "DEGREES_TO_RADIANS"), (0, u "RADIANS_TO_DEGREES")] 94

def k18m0 : Method := { name := "<init>", desc := "()V", sig := { parameters := [], returnType := none }, accessFlags := 2, code := none }
def k18c1 : Code := { maxStack := 2, maxLocals := 2, code := jdk_29_method_65_code, exceptionTable := #[], attributes := #[] }
def k18m1 : Method := { name := "max", desc := "(II)I", sig := { parameters := [.int, .int], returnType := some .int }, accessFlags := 9, code := some k18c1 }
/-- java/lang/Math -/
def k18 : Class := { plain "java/lang/Math" (some 0) with
  accessFlags := 49
  interfaces := #[]
  cf := some (fileOf pool18 1 #[.nestMembers #[98]] #[{ accessFlags := 2, nameIndex := 7, descriptorIndex := 8, attributes := #[] }, { accessFlags := 9, nameIndex := 198, descriptorIndex := 335, attributes := #[] }] 49 4 #[] #[{ accessFlags := 25, nameIndex := 354, descriptorIndex := 339, attributes := #[] }, { accessFlags := 25, nameIndex := 358, descriptorIndex := 339, attributes := #[] }, { accessFlags := 25, nameIndex := 361, descriptorIndex := 339, attributes := #[] }, { accessFlags := 26, nameIndex := 364, descriptorIndex := 339, attributes := #[] }, { accessFlags := 26, nameIndex := 365, descriptorIndex := 339, attributes := #[] }, { accessFlags := 26, nameIndex := 172, descriptorIndex := 173, attributes := #[] }, { accessFlags := 26, nameIndex := 176, descriptorIndex := 173, attributes := #[] }, { accessFlags := 8, nameIndex := 344, descriptorIndex := 339, attributes := #[] }, { accessFlags := 8, nameIndex := 338, descriptorIndex := 339, attributes := #[] }, { accessFlags := 4120, nameIndex := 245, descriptorIndex := 246, attributes := #[] }])
  fields := #[{ name := "E", type := .double, accessFlags := 25, slot := 0, constantValue := 0 }, { name := "PI", type := .double, accessFlags := 25, slot := 1, constantValue := 0 }, { name := "TAU", type := .double, accessFlags := 25, slot := 2, constantValue := 0 }, { name := "DEGREES_TO_RADIANS", type := .double, accessFlags := 26, slot := 3, constantValue := 0 }, { name := "RADIANS_TO_DEGREES", type := .double, accessFlags := 26, slot := 4, constantValue := 0 }, { name := "negativeZeroFloatBits", type := .long, accessFlags := 26, slot := 5, constantValue := 0 }, { name := "negativeZeroDoubleBits", type := .long, accessFlags := 26, slot := 6, constantValue := 0 }, { name := "twoToTheDoubleScaleUp", type := .double, accessFlags := 8, slot := 7, constantValue := 0 }, { name := "twoToTheDoubleScaleDown", type := .double, accessFlags := 8, slot := 8, constantValue := 0 }, { name := "$assertionsDisabled", type := .boolean, accessFlags := 4120, slot := 9, constantValue := 0 }]
  methods := #[k18m0, k18m1]
  instanceTypes := #[]
  staticTypes := #[.double, .double, .double, .double, .double, .long, .long, .double, .double, .boolean]
  resolved := Array.replicate 460 none
  statics := none }

def pool19 : Array CpInfo := pool [(1, .methodref 2 3), (0, .class_ 4), (0, .nameAndType 5 6), (0, u "java/lang/Object"), (0, u "<init>"), (0, u "()V"), (0, .class_ 8), (0, u "java/lang/Record")] 13

def k19c0 : Code := { maxStack := 1, maxLocals := 1, code := jdk_30_method_1_code, exceptionTable := #[], attributes := #[] }
def k19m0 : Method := { name := "<init>", desc := "()V", sig := { parameters := [], returnType := none }, accessFlags := 4, code := some k19c0 }
/-- java/lang/Record -/
def k19 : Class := { plain "java/lang/Record" (some 0) with
  accessFlags := 1057
  interfaces := #[]
  cf := some (fileOf pool19 7 #[] #[{ accessFlags := 4, nameIndex := 5, descriptorIndex := 6, attributes := #[] }] 1057 2 #[] #[])
  fields := #[]
  methods := #[k19m0]
  instanceTypes := #[]
  staticTypes := #[]
  resolved := Array.replicate 22 none
  statics := none }

def pool20 : Array CpInfo := pool [(1, .methodref 2 3), (0, .class_ 4), (0, .nameAndType 5 6), (0, u "java/lang/Record"), (0, u "<init>"), (0, u "()V"), (0, .fieldref 8 9), (0, .class_ 10), (0, .nameAndType 11 12), (0, u "com/example/slicewise/slicewise/input/CsvFile$Row"), (0, u "lineNumber"), (0, u "I"), (0, .fieldref 8 14), (0, .nameAndType 15 16), (0, u "fields"), (0, u "Ljava/util/List;"), (0, .interfaceMethodref 18 19), (0, .class_ 20), (0, .nameAndType 21 22), (0, u "java/util/List"), (0, u "get"), (0, u "(I)Ljava/lang/Object;"), (0, .class_ 24), (0, u "java/lang/String"), (14, u "(ILjava/util/List;)V"), (4, u "field"), (0, u "(I)Ljava/lang/String;"), (8, .class_ 55), (0, u "com/example/slicewise/slicewise/input/CsvFile")] 20

def k20c0 : Code := { maxStack := 2, maxLocals := 3, code := prog_5_method_1_code, exceptionTable := #[], attributes := #[] }
def k20m0 : Method := { name := "<init>", desc := "(ILjava/util/List;)V", sig := { parameters := [.int, (.object "java/util/List")], returnType := none }, accessFlags := 1, code := some k20c0 }
def k20c1 : Code := { maxStack := 2, maxLocals := 2, code := prog_5_method_2_code, exceptionTable := #[], attributes := #[] }
def k20m1 : Method := { name := "field", desc := "(I)Ljava/lang/String;", sig := { parameters := [.int], returnType := some (.object "java/lang/String") }, accessFlags := 1, code := some k20c1 }
/-- com/example/slicewise/slicewise/input/CsvFile$Row -/
def k20 : Class := { plain "com/example/slicewise/slicewise/input/CsvFile$Row" (some 19) with
  accessFlags := 49
  interfaces := #[]
  cf := some (fileOf pool20 8 #[.nestHost 54] #[{ accessFlags := 1, nameIndex := 5, descriptorIndex := 39, attributes := #[] }, { accessFlags := 1, nameIndex := 44, descriptorIndex := 45, attributes := #[] }] 49 2 #[] #[{ accessFlags := 18, nameIndex := 11, descriptorIndex := 12, attributes := #[] }, { accessFlags := 18, nameIndex := 15, descriptorIndex := 16, attributes := #[] }])
  fields := #[{ name := "lineNumber", type := .int, accessFlags := 18, slot := 0, constantValue := 0 }, { name := "fields", type := (.object "java/util/List"), accessFlags := 18, slot := 1, constantValue := 0 }]
  methods := #[k20m0, k20m1]
  instanceTypes := #[.int, (.object "java/util/List")]
  staticTypes := #[]
  resolved := Array.replicate 76 none
  statics := none }

def pool21 : Array CpInfo := pool [(2, .class_ 4), (1, u "java/lang/Object"), (0, u "<init>"), (0, u "()V"), (35, .class_ 44), (1, u "java/util/Objects"), (60, .methodref 106 107), (0, .class_ 108), (0, .nameAndType 109 110), (0, u "jdk/internal/util/Preconditions"), (0, u "checkIndex"), (0, u "(IILjava/util/function/BiFunction;)I"), (60, u "(II)I")] 12

def k21m0 : Method := { name := "<init>", desc := "()V", sig := { parameters := [], returnType := none }, accessFlags := 2, code := none }
def k21c1 : Code := { maxStack := 3, maxLocals := 2, code := jdk_31_method_17_code, exceptionTable := #[], attributes := #[] }
def k21m1 : Method := { name := "checkIndex", desc := "(II)I", sig := { parameters := [.int, .int], returnType := some .int }, accessFlags := 9, code := some k21c1 }
/-- java/util/Objects -/
def k21 : Class := { plain "java/util/Objects" (some 0) with
  accessFlags := 49
  interfaces := #[]
  cf := some (fileOf pool21 42 #[] #[{ accessFlags := 2, nameIndex := 5, descriptorIndex := 6, attributes := #[] }, { accessFlags := 9, nameIndex := 109, descriptorIndex := 171, attributes := #[] }] 49 2 #[] #[])
  fields := #[]
  methods := #[k21m0, k21m1]
  instanceTypes := #[]
  staticTypes := #[]
  resolved := Array.replicate 184 none
  statics := none }

def pool22 : Array CpInfo := pool [(2, .class_ 4), (1, u "java/lang/Object"), (0, u "<init>"), (0, u "()V"), (17, .class_ 26), (1, u "jdk/internal/util/Preconditions"), (6, u "checkIndex"), (21, .class_ 56), (0, u "jdk/internal/util/Preconditions$4"), (57, .class_ 115), (0, u "jdk/internal/util/Preconditions$1"), (7, u "SIOOBE_FORMATTER"), (0, u "Ljava/util/function/BiFunction;"), (0, .class_ 126), (0, u "jdk/internal/util/Preconditions$2"), (3, u "AIOOBE_FORMATTER"), (0, .class_ 132), (0, u "jdk/internal/util/Preconditions$3"), (3, u "IOOBE_FORMATTER"), (41, u "(IILjava/util/function/BiFunction;)I")] 15

def k22m0 : Method := { name := "<init>", desc := "()V", sig := { parameters := [], returnType := none }, accessFlags := 1, code := none }
def k22c1 : Code := { maxStack := 3, maxLocals := 3, code := jdk_41_method_11_code, exceptionTable := #[], attributes := #[] }
def k22m1 : Method := { name := "checkIndex", desc := "(IILjava/util/function/BiFunction;)I", sig := { parameters := [.int, .int, (.object "java/util/function/BiFunction")], returnType := some .int }, accessFlags := 9, code := some k22c1 }
/-- jdk/internal/util/Preconditions -/
def k22 : Class := { plain "jdk/internal/util/Preconditions" (some 0) with
  accessFlags := 33
  interfaces := #[]
  cf := some (fileOf pool22 24 #[.nestMembers #[55, 131, 125, 114]] #[{ accessFlags := 1, nameIndex := 5, descriptorIndex := 6, attributes := #[] }, { accessFlags := 9, nameIndex := 33, descriptorIndex := 178, attributes := #[] }] 33 2 #[] #[{ accessFlags := 25, nameIndex := 123, descriptorIndex := 124, attributes := #[] }, { accessFlags := 25, nameIndex := 130, descriptorIndex := 124, attributes := #[] }, { accessFlags := 25, nameIndex := 136, descriptorIndex := 124, attributes := #[] }])
  fields := #[{ name := "SIOOBE_FORMATTER", type := (.object "java/util/function/BiFunction"), accessFlags := 25, slot := 0, constantValue := 0 }, { name := "AIOOBE_FORMATTER", type := (.object "java/util/function/BiFunction"), accessFlags := 25, slot := 1, constantValue := 0 }, { name := "IOOBE_FORMATTER", type := (.object "java/util/function/BiFunction"), accessFlags := 25, slot := 2, constantValue := 0 }]
  methods := #[k22m0, k22m1]
  instanceTypes := #[]
  staticTypes := #[(.object "java/util/function/BiFunction"), (.object "java/util/function/BiFunction"), (.object "java/util/function/BiFunction")]
  resolved := Array.replicate 194 none
  statics := some 2 }

def pool23 : Array CpInfo := pool [(4, .class_ 6), (1, u "java/lang/Object"), (0, u "<init>"), (0, u "()V"), (5, .class_ 16), (1, u "java/lang/StringLatin1"), (104, u "$assertionsDisabled"), (0, u "Z"), (98, .class_ 223), (1, u "java/lang/StringLatin1$LinesSpliterator"), (166, .class_ 391), (0, u "java/lang/StringLatin1$CharsSpliterator")] 3

def k23m0 : Method := { name := "<init>", desc := "()V", sig := { parameters := [], returnType := none }, accessFlags := 0, code := none }
/-- java/lang/StringLatin1 -/
def k23 : Class := { plain "java/lang/StringLatin1" (some 0) with
  accessFlags := 48
  interfaces := #[]
  cf := some (fileOf pool23 14 #[.nestMembers #[390, 221]] #[{ accessFlags := 0, nameIndex := 7, descriptorIndex := 8, attributes := #[] }] 48 4 #[] #[{ accessFlags := 4120, nameIndex := 121, descriptorIndex := 122, attributes := #[] }])
  fields := #[{ name := "$assertionsDisabled", type := .boolean, accessFlags := 4120, slot := 0, constantValue := 0 }]
  methods := #[k23m0]
  instanceTypes := #[]
  staticTypes := #[.boolean]
  resolved := Array.replicate 395 none
  statics := none }

def pool24 : Array CpInfo := pool [(9, u "<init>"), (6, .class_ 18), (1, u "java/lang/Object"), (0, u "()V"), (1, .class_ 23), (1, u "jdk/internal/util/ArraysSupport"), (0, u "LOG2_ARRAY_LONG_INDEX_SCALE"), (0, u "I"), (2, u "U"), (0, u "Ljdk/internal/misc/Unsafe;"), (8, u "BIG_ENDIAN"), (0, u "Z"), (8, u "LOG2_BYTE_BIT_SIZE"), (4, u "LOG2_ARRAY_INT_INDEX_SCALE"), (54, u "JLA"), (0, u "Ljdk/internal/access/JavaLangAccess;"), (11, u "LOG2_ARRAY_BOOLEAN_INDEX_SCALE"), (9, u "LOG2_ARRAY_BYTE_INDEX_SCALE"), (5, u "LOG2_ARRAY_CHAR_INDEX_SCALE"), (5, u "LOG2_ARRAY_SHORT_INDEX_SCALE"), (18, u "LOG2_ARRAY_FLOAT_INDEX_SCALE"), (24, u "LOG2_ARRAY_DOUBLE_INDEX_SCALE"), (89, u "T_BOOLEAN"), (2, u "T_CHAR"), (1, u "T_FLOAT"), (1, u "T_DOUBLE"), (1, u "T_BYTE"), (1, u "T_SHORT"), (1, u "T_INT"), (1, u "T_LONG"), (1, u "SOFT_MAX_ARRAY_LENGTH")] 83

def k24m0 : Method := { name := "<init>", desc := "()V", sig := { parameters := [], returnType := none }, accessFlags := 2, code := none }
/-- jdk/internal/util/ArraysSupport -/
def k24 : Class := { plain "jdk/internal/util/ArraysSupport" (some 0) with
  accessFlags := 33
  interfaces := #[]
  cf := some (fileOf pool24 21 #[] #[{ accessFlags := 2, nameIndex := 9, descriptorIndex := 19, attributes := #[] }] 33 16 #[] #[{ accessFlags := 24, nameIndex := 28, descriptorIndex := 29, attributes := #[] }, { accessFlags := 26, nameIndex := 38, descriptorIndex := 39, attributes := #[] }, { accessFlags := 25, nameIndex := 121, descriptorIndex := 25, attributes := #[] }, { accessFlags := 25, nameIndex := 131, descriptorIndex := 25, attributes := #[] }, { accessFlags := 25, nameIndex := 137, descriptorIndex := 25, attributes := #[] }, { accessFlags := 25, nameIndex := 143, descriptorIndex := 25, attributes := #[] }, { accessFlags := 25, nameIndex := 53, descriptorIndex := 25, attributes := #[] }, { accessFlags := 25, nameIndex := 24, descriptorIndex := 25, attributes := #[] }, { accessFlags := 25, nameIndex := 162, descriptorIndex := 25, attributes := #[] }, { accessFlags := 25, nameIndex := 187, descriptorIndex := 25, attributes := #[] }, { accessFlags := 26, nameIndex := 48, descriptorIndex := 25, attributes := #[] }, { accessFlags := 25, nameIndex := 277, descriptorIndex := 25, attributes := #[] }, { accessFlags := 25, nameIndex := 280, descriptorIndex := 25, attributes := #[] }, { accessFlags := 25, nameIndex := 282, descriptorIndex := 25, attributes := #[] }, { accessFlags := 25, nameIndex := 284, descriptorIndex := 25, attributes := #[] }, { accessFlags := 25, nameIndex := 286, descriptorIndex := 25, attributes := #[] }, { accessFlags := 25, nameIndex := 288, descriptorIndex := 25, attributes := #[] }, { accessFlags := 25, nameIndex := 290, descriptorIndex := 25, attributes := #[] }, { accessFlags := 25, nameIndex := 292, descriptorIndex := 25, attributes := #[] }, { accessFlags := 26, nameIndex := 108, descriptorIndex := 109, attributes := #[] }, { accessFlags := 25, nameIndex := 294, descriptorIndex := 25, attributes := #[] }])
  fields := #[{ name := "U", type := (.object "jdk/internal/misc/Unsafe"), accessFlags := 24, slot := 0, constantValue := 0 }, { name := "BIG_ENDIAN", type := .boolean, accessFlags := 26, slot := 1, constantValue := 0 }, { name := "LOG2_ARRAY_BOOLEAN_INDEX_SCALE", type := .int, accessFlags := 25, slot := 2, constantValue := 0 }, { name := "LOG2_ARRAY_BYTE_INDEX_SCALE", type := .int, accessFlags := 25, slot := 3, constantValue := 0 }, { name := "LOG2_ARRAY_CHAR_INDEX_SCALE", type := .int, accessFlags := 25, slot := 4, constantValue := 0 }, { name := "LOG2_ARRAY_SHORT_INDEX_SCALE", type := .int, accessFlags := 25, slot := 5, constantValue := 0 }, { name := "LOG2_ARRAY_INT_INDEX_SCALE", type := .int, accessFlags := 25, slot := 6, constantValue := 0 }, { name := "LOG2_ARRAY_LONG_INDEX_SCALE", type := .int, accessFlags := 25, slot := 7, constantValue := 0 }, { name := "LOG2_ARRAY_FLOAT_INDEX_SCALE", type := .int, accessFlags := 25, slot := 8, constantValue := 0 }, { name := "LOG2_ARRAY_DOUBLE_INDEX_SCALE", type := .int, accessFlags := 25, slot := 9, constantValue := 0 }, { name := "LOG2_BYTE_BIT_SIZE", type := .int, accessFlags := 26, slot := 10, constantValue := 0 }, { name := "T_BOOLEAN", type := .int, accessFlags := 25, slot := 11, constantValue := 0 }, { name := "T_CHAR", type := .int, accessFlags := 25, slot := 12, constantValue := 0 }, { name := "T_FLOAT", type := .int, accessFlags := 25, slot := 13, constantValue := 0 }, { name := "T_DOUBLE", type := .int, accessFlags := 25, slot := 14, constantValue := 0 }, { name := "T_BYTE", type := .int, accessFlags := 25, slot := 15, constantValue := 0 }, { name := "T_SHORT", type := .int, accessFlags := 25, slot := 16, constantValue := 0 }, { name := "T_INT", type := .int, accessFlags := 25, slot := 17, constantValue := 0 }, { name := "T_LONG", type := .int, accessFlags := 25, slot := 18, constantValue := 0 }, { name := "JLA", type := (.object "jdk/internal/access/JavaLangAccess"), accessFlags := 26, slot := 19, constantValue := 0 }, { name := "SOFT_MAX_ARRAY_LENGTH", type := .int, accessFlags := 25, slot := 20, constantValue := 0 }]
  methods := #[k24m0]
  instanceTypes := #[]
  staticTypes := #[(.object "jdk/internal/misc/Unsafe"), .boolean, .int, .int, .int, .int, .int, .int, .int, .int, .int, .int, .int, .int, .int, .int, .int, .int, .int, (.object "jdk/internal/access/JavaLangAccess"), .int]
  resolved := Array.replicate 378 none
  statics := none }

/-- the primitive byte -/
def k25 : Class := { plain "byte" none with kind := .primitive 'B', accessFlags := 0x411 }
/-- [B -/
def k26 : Class := { plain "[B" (some 0) with kind := .array 25 .byte, interfaces := #[16, 2], accessFlags := 1041 }

/-- the primitive char -/
def k27 : Class := { plain "char" none with kind := .primitive 'C', accessFlags := 0x411 }
/-- [C -/
def k28 : Class := { plain "[C" (some 0) with kind := .array 27 .char, interfaces := #[16, 2], accessFlags := 1041 }

/-- the primitive int -/
def k29 : Class := { plain "int" none with kind := .primitive 'I', accessFlags := 0x411 }
/-- [I -/
def k30 : Class := { plain "[I" (some 0) with kind := .array 29 .int, interfaces := #[16, 2], accessFlags := 1041 }

/-- [Ljava/lang/Object; -/
def k31 : Class := { plain "[Ljava/lang/Object;" (some 0) with kind := .array 0 (.object "java/lang/Object"), interfaces := #[16, 2], accessFlags := 1041 }

def heap : Heap := #[{ cls := 7, slots := #[.long 0, .int 1, .null, .int 0, .null, .int 0, .int 0], vm := .statics 7 },
  { cls := 17, slots := #[.long 0, .int 0, .ref 3, .ref 4], vm := .statics 17 },
  { cls := 22, slots := #[.null, .null, .null], vm := .statics 22 },
  { cls := 31, slots := #[], vm := .none },
  { cls := 31, slots := #[], vm := .none }]
def classes : Array Class := #[k0, k1, k2, k3, k4, k5, k6, k7, k8, k9, k10, k11, k12, k13, k14, k15, k16, k17, k18, k19, k20, k21, k22, k23, k24, k25, k26, k27, k28, k29, k30, k31]
def interned : List (Array UInt16 × Addr) := []
def slotsUsed : Nat := 14
def theMethod : MethodId := ⟨1, 2⟩
def args0 : Array Value := #[.int 5, .int 1, .int 2, .int 3, .int 4]
def aboutOver (below : List Frame) : State where
  vm := { classes := classes, interned := interned.toArray }
  heap := heap
  slotsUsed := slotsUsed
  threads := #[{ frames := .invoking theMethod args0 :: below }]
def below0 : List Frame := [.native { method := ⟨0, 0⟩, args := #[] }]
def about1 : State := aboutOver below0
def p0 : Program := .bare "" "" ""
def e0 : Env := launch0.env 0 0 0
theorem w_frames : about1.frames = Frame.invoking theMethod args0 :: below0 := rfl
set_option maxRecDepth 65536 in
theorem w_args : argsFit about1.vm theMethod args0 = true := by decide +kernel
set_option maxRecDepth 65536 in
theorem w_heap : heapFits about1 = true := by decide +kernel
set_option maxRecDepth 65536 in
theorem w_runnable : about1.curStatus? = some .runnable := by decide +kernel
set_option maxRecDepth 65536 in
theorem w_alone : about1.alone = true := by decide +kernel
set_option maxRecDepth 65536 in
theorem w_named : about1.methodNamed? x = some theMethod := by decide +kernel
set_option maxRecDepth 65536 in
theorem w_hears : about1.hears theMethod below0 = true := by decide +kernel
set_option maxRecDepth 65536 in
theorem w_ripe : about1.ripe theMethod args0 below0 = true := by decide +kernel
theorem w_running : about1.status = .running := rfl
set_option maxRecDepth 65536 in
theorem w_room : about1.hasRoom e0.platform room_1 = true :=
  launch0.hasRoom_least _ room_1 (by decide +kernel) (by decide +kernel) (by decide +kernel) (by decide +kernel) (by decide +kernel) (by decide +kernel)
theorem allAtoms_all (ts : List Jvm.Cond) (a : Array Jvm.Value) (st : Jvm.State) : (allAtoms ts).before a st = ts.all (fun c => c.before a st) := by
  induction ts with
  | nil => rfl
  | cons c t ih =>
    show (Jvm.Cond.and c (allAtoms t)).before a st = _
    rw [Jvm.Cond.before_and, ih, List.all_cons]
def words1 : List Jvm.Cond := Jvm.Cond.code x code maxLocals ret :: tables_1
/-- a 'code' word, met by the world's own term for the bytes: nothing is compared byte by byte -/
theorem code_word {y : MethodName} {bytes : ByteArray} {mx : Nat} {rt : Option FieldType} {a : Array Value} {s : State} {m : MethodId} {meth : Method} {c : Code} (h1 : s.methodNamed? y = some m) (h2 : s.vm.method? m = some meth) (h3 : meth.code = some c) (h4 : c.code = bytes)
    (h5 : (c.maxLocals == mx && c.exceptionTable.isEmpty && decide (c.maxStack ≤ mostOperands) && decide (meth.sig.returnType = rt) && !meth.locks && decide (parseMethodDescriptor y.desc = some meth.sig)) = true) : (Jvm.Cond.code y bytes mx rt).before a s = true := by
  simp only [Bool.and_eq_true, beq_iff_eq, Bool.not_eq_true', decide_eq_true_eq] at h5
  obtain ⟨⟨⟨⟨⟨g1, g2⟩, g3⟩, g4⟩, g5⟩, g6⟩ := h5
  simp [Cond.before, Cond.holds, Cond.value, h1, h2, h3, h4, g1, g2, g3, g4, g5, g6]
def isCode : Jvm.Cond → Bool
  | .code _ _ _ _ => true
  | _ => false
theorem all_split {L : List Jvm.Cond} {P : Jvm.Cond → Bool} (h1 : L.all (fun c => isCode c || P c) = true) (h2 : ∀ c ∈ L.filter isCode, P c = true) : L.all P = true := by
  refine List.all_eq_true.mpr fun c hc => ?_
  have h := List.all_eq_true.mp h1 c hc
  rcases Bool.eq_false_or_eq_true (isCode c) with hi | hi
  · exact h2 c (List.mem_filter.mpr ⟨hc, hi⟩)
  · simpa [hi] using h
set_option maxRecDepth 65536 in
theorem w_c0 : (Jvm.Cond.code x code maxLocals ret).before args0 about1 = true := code_word (m := ⟨1, 2⟩) (meth := k1m2) (c := k1c2) (by decide +kernel) rfl rfl rfl (by decide +kernel)
set_option maxRecDepth 65536 in
theorem w_c1 : (Jvm.Cond.code ({ cls := "com/example/slicewise/slicewise/input/RowFieldPinLaw", name := "str", desc := "(I)Ljava/lang/String;" } : Jvm.MethodName) method_2_code (2 : Nat) (Option.some (Jvm.ClassFile.FieldType.object "java/lang/String"))).before args0 about1 = true := code_word (m := ⟨1, 1⟩) (meth := k1m1) (c := k1c1) (by decide +kernel) rfl rfl rfl (by decide +kernel)
set_option maxRecDepth 65536 in
theorem w_c2 : (Jvm.Cond.code ({ cls := "java/lang/String", name := "<init>", desc := "([C)V" } : Jvm.MethodName) jdk_42_method_3_code (2 : Nat) (Option.none : Option Jvm.ClassFile.FieldType)).before args0 about1 = true := code_word (m := ⟨7, 1⟩) (meth := k7m1) (c := k7c1) (by decide +kernel) rfl rfl rfl (by decide +kernel)
set_option maxRecDepth 65536 in
theorem w_c3 : (Jvm.Cond.code ({ cls := "java/lang/String", name := "<init>", desc := "([CIILjava/lang/Void;)V" } : Jvm.MethodName) jdk_42_method_149_code (6 : Nat) (Option.none : Option Jvm.ClassFile.FieldType)).before args0 about1 = true := code_word (m := ⟨7, 3⟩) (meth := k7m3) (c := k7c3) (by decide +kernel) rfl rfl rfl (by decide +kernel)
set_option maxRecDepth 65536 in
theorem w_c4 : (Jvm.Cond.code ({ cls := "java/lang/Object", name := "<init>", desc := "()V" } : Jvm.MethodName) object_method_1_code (1 : Nat) (Option.none : Option Jvm.ClassFile.FieldType)).before args0 about1 = true := code_word (m := ⟨0, 0⟩) (meth := k0m0) (c := k0c0) (by decide +kernel) rfl rfl rfl (by decide +kernel)
set_option maxRecDepth 65536 in
theorem w_c5 : (Jvm.Cond.code ({ cls := "java/lang/StringUTF16", name := "compress", desc := "([CII)[B" } : Jvm.MethodName) jdk_52_method_16_code (6 : Nat) (Option.some (Jvm.ClassFile.FieldType.array Jvm.ClassFile.FieldType.byte))).before args0 about1 = true := code_word (m := ⟨8, 2⟩) (meth := k8m2) (c := k8c2) (by decide +kernel) rfl rfl rfl (by decide +kernel)
set_option maxRecDepth 65536 in
theorem w_c6 : (Jvm.Cond.code ({ cls := "java/lang/StringUTF16", name := "compress", desc := "([CI[BII)I" } : Jvm.MethodName) jdk_52_method_21_code (7 : Nat) (Option.some Jvm.ClassFile.FieldType.int)).before args0 about1 = true := code_word (m := ⟨8, 3⟩) (meth := k8m3) (c := k8c3) (by decide +kernel) rfl rfl rfl (by decide +kernel)
set_option maxRecDepth 65536 in
theorem w_c7 : (Jvm.Cond.code ({ cls := "java/lang/StringUTF16", name := "coderFromArrayLen", desc := "([BI)B" } : Jvm.MethodName) jdk_52_method_15_code (2 : Nat) (Option.some Jvm.ClassFile.FieldType.byte)).before args0 about1 = true := code_word (m := ⟨8, 1⟩) (meth := k8m1) (c := k8c1) (by decide +kernel) rfl rfl rfl (by decide +kernel)
set_option maxRecDepth 65536 in
theorem w_c8 : (Jvm.Cond.code ({ cls := "java/util/ArrayList", name := "<init>", desc := "()V" } : Jvm.MethodName) jdk_38_method_2_code (1 : Nat) (Option.none : Option Jvm.ClassFile.FieldType)).before args0 about1 = true := code_word (m := ⟨17, 0⟩) (meth := k17m0) (c := k17c0) (by decide +kernel) rfl rfl rfl (by decide +kernel)
set_option maxRecDepth 65536 in
theorem w_c9 : (Jvm.Cond.code ({ cls := "java/util/AbstractList", name := "<init>", desc := "()V" } : Jvm.MethodName) jdk_39_method_1_code (1 : Nat) (Option.none : Option Jvm.ClassFile.FieldType)).before args0 about1 = true := code_word (m := ⟨14, 0⟩) (meth := k14m0) (c := k14c0) (by decide +kernel) rfl rfl rfl (by decide +kernel)
set_option maxRecDepth 65536 in
theorem w_c10 : (Jvm.Cond.code ({ cls := "java/util/AbstractCollection", name := "<init>", desc := "()V" } : Jvm.MethodName) jdk_22_method_1_code (1 : Nat) (Option.none : Option Jvm.ClassFile.FieldType)).before args0 about1 = true := code_word (m := ⟨11, 0⟩) (meth := k11m0) (c := k11c0) (by decide +kernel) rfl rfl rfl (by decide +kernel)
set_option maxRecDepth 65536 in
theorem w_c11 : (Jvm.Cond.code ({ cls := "java/util/ArrayList", name := "add", desc := "(Ljava/lang/Object;)Z" } : Jvm.MethodName) jdk_38_method_25_code (2 : Nat) (Option.some Jvm.ClassFile.FieldType.boolean)).before args0 about1 = true := code_word (m := ⟨17, 6⟩) (meth := k17m6) (c := k17c6) (by decide +kernel) rfl rfl rfl (by decide +kernel)
set_option maxRecDepth 65536 in
theorem w_c12 : (Jvm.Cond.code ({ cls := "java/util/ArrayList", name := "add", desc := "(Ljava/lang/Object;[Ljava/lang/Object;I)V" } : Jvm.MethodName) jdk_38_method_24_code (4 : Nat) (Option.none : Option Jvm.ClassFile.FieldType)).before args0 about1 = true := code_word (m := ⟨17, 5⟩) (meth := k17m5) (c := k17c5) (by decide +kernel) rfl rfl rfl (by decide +kernel)
set_option maxRecDepth 65536 in
theorem w_c13 : (Jvm.Cond.code ({ cls := "java/util/ArrayList", name := "grow", desc := "()[Ljava/lang/Object;" } : Jvm.MethodName) jdk_38_method_7_code (1 : Nat) (Option.some (Jvm.ClassFile.FieldType.array (Jvm.ClassFile.FieldType.object "java/lang/Object")))).before args0 about1 = true := code_word (m := ⟨17, 2⟩) (meth := k17m2) (c := k17c2) (by decide +kernel) rfl rfl rfl (by decide +kernel)
set_option maxRecDepth 65536 in
theorem w_c14 : (Jvm.Cond.code ({ cls := "java/util/ArrayList", name := "grow", desc := "(I)[Ljava/lang/Object;" } : Jvm.MethodName) jdk_38_method_6_code (4 : Nat) (Option.some (Jvm.ClassFile.FieldType.array (Jvm.ClassFile.FieldType.object "java/lang/Object")))).before args0 about1 = true := code_word (m := ⟨17, 1⟩) (meth := k17m1) (c := k17c1) (by decide +kernel) rfl rfl rfl (by decide +kernel)
set_option maxRecDepth 65536 in
theorem w_c15 : (Jvm.Cond.code ({ cls := "java/lang/Math", name := "max", desc := "(II)I" } : Jvm.MethodName) jdk_29_method_65_code (2 : Nat) (Option.some Jvm.ClassFile.FieldType.int)).before args0 about1 = true := code_word (m := ⟨18, 1⟩) (meth := k18m1) (c := k18c1) (by decide +kernel) rfl rfl rfl (by decide +kernel)
set_option maxRecDepth 65536 in
theorem w_c16 : (Jvm.Cond.code ({ cls := "com/example/slicewise/slicewise/input/CsvFile$Row", name := "<init>", desc := "(ILjava/util/List;)V" } : Jvm.MethodName) prog_5_method_1_code (3 : Nat) (Option.none : Option Jvm.ClassFile.FieldType)).before args0 about1 = true := code_word (m := ⟨20, 0⟩) (meth := k20m0) (c := k20c0) (by decide +kernel) rfl rfl rfl (by decide +kernel)
set_option maxRecDepth 65536 in
theorem w_c17 : (Jvm.Cond.code ({ cls := "java/lang/Record", name := "<init>", desc := "()V" } : Jvm.MethodName) jdk_30_method_1_code (1 : Nat) (Option.none : Option Jvm.ClassFile.FieldType)).before args0 about1 = true := code_word (m := ⟨19, 0⟩) (meth := k19m0) (c := k19c0) (by decide +kernel) rfl rfl rfl (by decide +kernel)
set_option maxRecDepth 65536 in
theorem w_c18 : (Jvm.Cond.code ({ cls := "com/example/slicewise/slicewise/input/CsvFile$Row", name := "field", desc := "(I)Ljava/lang/String;" } : Jvm.MethodName) prog_5_method_2_code (2 : Nat) (Option.some (Jvm.ClassFile.FieldType.object "java/lang/String"))).before args0 about1 = true := code_word (m := ⟨20, 1⟩) (meth := k20m1) (c := k20c1) (by decide +kernel) rfl rfl rfl (by decide +kernel)
set_option maxRecDepth 65536 in
theorem w_c19 : (Jvm.Cond.code ({ cls := "java/util/ArrayList", name := "get", desc := "(I)Ljava/lang/Object;" } : Jvm.MethodName) jdk_38_method_20_code (2 : Nat) (Option.some (Jvm.ClassFile.FieldType.object "java/lang/Object"))).before args0 about1 = true := code_word (m := ⟨17, 4⟩) (meth := k17m4) (c := k17c4) (by decide +kernel) rfl rfl rfl (by decide +kernel)
set_option maxRecDepth 65536 in
theorem w_c20 : (Jvm.Cond.code ({ cls := "java/util/Objects", name := "checkIndex", desc := "(II)I" } : Jvm.MethodName) jdk_31_method_17_code (2 : Nat) (Option.some Jvm.ClassFile.FieldType.int)).before args0 about1 = true := code_word (m := ⟨21, 1⟩) (meth := k21m1) (c := k21c1) (by decide +kernel) rfl rfl rfl (by decide +kernel)
set_option maxRecDepth 65536 in
theorem w_c21 : (Jvm.Cond.code ({ cls := "jdk/internal/util/Preconditions", name := "checkIndex", desc := "(IILjava/util/function/BiFunction;)I" } : Jvm.MethodName) jdk_41_method_11_code (3 : Nat) (Option.some Jvm.ClassFile.FieldType.int)).before args0 about1 = true := code_word (m := ⟨22, 1⟩) (meth := k22m1) (c := k22c1) (by decide +kernel) rfl rfl rfl (by decide +kernel)
set_option maxRecDepth 65536 in
theorem w_c22 : (Jvm.Cond.code ({ cls := "java/util/ArrayList", name := "elementData", desc := "(I)Ljava/lang/Object;" } : Jvm.MethodName) jdk_38_method_18_code (2 : Nat) (Option.some (Jvm.ClassFile.FieldType.object "java/lang/Object"))).before args0 about1 = true := code_word (m := ⟨17, 3⟩) (meth := k17m3) (c := k17c3) (by decide +kernel) rfl rfl rfl (by decide +kernel)
set_option maxRecDepth 65536 in
theorem w_c23 : (Jvm.Cond.code ({ cls := "java/lang/String", name := "equals", desc := "(Ljava/lang/Object;)Z" } : Jvm.MethodName) jdk_42_method_66_code (3 : Nat) (Option.some Jvm.ClassFile.FieldType.boolean)).before args0 about1 = true := code_word (m := ⟨7, 2⟩) (meth := k7m2) (c := k7c2) (by decide +kernel) rfl rfl rfl (by decide +kernel)
def codes1 : List Jvm.Cond := [Jvm.Cond.code x code maxLocals ret, Jvm.Cond.code ({ cls := "com/example/slicewise/slicewise/input/RowFieldPinLaw", name := "str", desc := "(I)Ljava/lang/String;" } : Jvm.MethodName) method_2_code (2 : Nat) (Option.some (Jvm.ClassFile.FieldType.object "java/lang/String")), Jvm.Cond.code ({ cls := "java/lang/String", name := "<init>", desc := "([C)V" } : Jvm.MethodName) jdk_42_method_3_code (2 : Nat) (Option.none : Option Jvm.ClassFile.FieldType), Jvm.Cond.code ({ cls := "java/lang/String", name := "<init>", desc := "([CIILjava/lang/Void;)V" } : Jvm.MethodName) jdk_42_method_149_code (6 : Nat) (Option.none : Option Jvm.ClassFile.FieldType), Jvm.Cond.code ({ cls := "java/lang/Object", name := "<init>", desc := "()V" } : Jvm.MethodName) object_method_1_code (1 : Nat) (Option.none : Option Jvm.ClassFile.FieldType), Jvm.Cond.code ({ cls := "java/lang/StringUTF16", name := "compress", desc := "([CII)[B" } : Jvm.MethodName) jdk_52_method_16_code (6 : Nat) (Option.some (Jvm.ClassFile.FieldType.array Jvm.ClassFile.FieldType.byte)), Jvm.Cond.code ({ cls := "java/lang/StringUTF16", name := "compress", desc := "([CI[BII)I" } : Jvm.MethodName) jdk_52_method_21_code (7 : Nat) (Option.some Jvm.ClassFile.FieldType.int), Jvm.Cond.code ({ cls := "java/lang/StringUTF16", name := "coderFromArrayLen", desc := "([BI)B" } : Jvm.MethodName) jdk_52_method_15_code (2 : Nat) (Option.some Jvm.ClassFile.FieldType.byte), Jvm.Cond.code ({ cls := "java/util/ArrayList", name := "<init>", desc := "()V" } : Jvm.MethodName) jdk_38_method_2_code (1 : Nat) (Option.none : Option Jvm.ClassFile.FieldType), Jvm.Cond.code ({ cls := "java/util/AbstractList", name := "<init>", desc := "()V" } : Jvm.MethodName) jdk_39_method_1_code (1 : Nat) (Option.none : Option Jvm.ClassFile.FieldType), Jvm.Cond.code ({ cls := "java/util/AbstractCollection", name := "<init>", desc := "()V" } : Jvm.MethodName) jdk_22_method_1_code (1 : Nat) (Option.none : Option Jvm.ClassFile.FieldType), Jvm.Cond.code ({ cls := "java/util/ArrayList", name := "add", desc := "(Ljava/lang/Object;)Z" } : Jvm.MethodName) jdk_38_method_25_code (2 : Nat) (Option.some Jvm.ClassFile.FieldType.boolean), Jvm.Cond.code ({ cls := "java/util/ArrayList", name := "add", desc := "(Ljava/lang/Object;[Ljava/lang/Object;I)V" } : Jvm.MethodName) jdk_38_method_24_code (4 : Nat) (Option.none : Option Jvm.ClassFile.FieldType), Jvm.Cond.code ({ cls := "java/util/ArrayList", name := "grow", desc := "()[Ljava/lang/Object;" } : Jvm.MethodName) jdk_38_method_7_code (1 : Nat) (Option.some (Jvm.ClassFile.FieldType.array (Jvm.ClassFile.FieldType.object "java/lang/Object"))), Jvm.Cond.code ({ cls := "java/util/ArrayList", name := "grow", desc := "(I)[Ljava/lang/Object;" } : Jvm.MethodName) jdk_38_method_6_code (4 : Nat) (Option.some (Jvm.ClassFile.FieldType.array (Jvm.ClassFile.FieldType.object "java/lang/Object"))), Jvm.Cond.code ({ cls := "java/lang/Math", name := "max", desc := "(II)I" } : Jvm.MethodName) jdk_29_method_65_code (2 : Nat) (Option.some Jvm.ClassFile.FieldType.int), Jvm.Cond.code ({ cls := "com/example/slicewise/slicewise/input/CsvFile$Row", name := "<init>", desc := "(ILjava/util/List;)V" } : Jvm.MethodName) prog_5_method_1_code (3 : Nat) (Option.none : Option Jvm.ClassFile.FieldType), Jvm.Cond.code ({ cls := "java/lang/Record", name := "<init>", desc := "()V" } : Jvm.MethodName) jdk_30_method_1_code (1 : Nat) (Option.none : Option Jvm.ClassFile.FieldType), Jvm.Cond.code ({ cls := "com/example/slicewise/slicewise/input/CsvFile$Row", name := "field", desc := "(I)Ljava/lang/String;" } : Jvm.MethodName) prog_5_method_2_code (2 : Nat) (Option.some (Jvm.ClassFile.FieldType.object "java/lang/String")), Jvm.Cond.code ({ cls := "java/util/ArrayList", name := "get", desc := "(I)Ljava/lang/Object;" } : Jvm.MethodName) jdk_38_method_20_code (2 : Nat) (Option.some (Jvm.ClassFile.FieldType.object "java/lang/Object")), Jvm.Cond.code ({ cls := "java/util/Objects", name := "checkIndex", desc := "(II)I" } : Jvm.MethodName) jdk_31_method_17_code (2 : Nat) (Option.some Jvm.ClassFile.FieldType.int), Jvm.Cond.code ({ cls := "jdk/internal/util/Preconditions", name := "checkIndex", desc := "(IILjava/util/function/BiFunction;)I" } : Jvm.MethodName) jdk_41_method_11_code (3 : Nat) (Option.some Jvm.ClassFile.FieldType.int), Jvm.Cond.code ({ cls := "java/util/ArrayList", name := "elementData", desc := "(I)Ljava/lang/Object;" } : Jvm.MethodName) jdk_38_method_18_code (2 : Nat) (Option.some (Jvm.ClassFile.FieldType.object "java/lang/Object")), Jvm.Cond.code ({ cls := "java/lang/String", name := "equals", desc := "(Ljava/lang/Object;)Z" } : Jvm.MethodName) jdk_42_method_66_code (3 : Nat) (Option.some Jvm.ClassFile.FieldType.boolean)]
set_option maxRecDepth 65536 in
theorem codes_eq : words1.filter isCode = codes1 := rfl
theorem w_codes : ∀ c ∈ words1.filter isCode, c.before args0 about1 = true := by
  rw [codes_eq]
  intro c hc
  simp only [codes1, List.mem_cons, List.not_mem_nil, or_false] at hc
  rcases hc with rfl | rfl | rfl | rfl | rfl | rfl | rfl | rfl | rfl | rfl | rfl | rfl | rfl | rfl | rfl | rfl | rfl | rfl | rfl | rfl | rfl | rfl | rfl | rfl
  · exact w_c0
  · exact w_c1
  · exact w_c2
  · exact w_c3
  · exact w_c4
  · exact w_c5
  · exact w_c6
  · exact w_c7
  · exact w_c8
  · exact w_c9
  · exact w_c10
  · exact w_c11
  · exact w_c12
  · exact w_c13
  · exact w_c14
  · exact w_c15
  · exact w_c16
  · exact w_c17
  · exact w_c18
  · exact w_c19
  · exact w_c20
  · exact w_c21
  · exact w_c22
  · exact w_c23
set_option maxRecDepth 65536 in
theorem w_t1 : (words1.take 24).all (fun c => isCode c || c.before args0 about1) = true := by decide +kernel
set_option maxRecDepth 65536 in
theorem w_t2 : ((words1.drop 24).take 24).all (fun c => isCode c || c.before args0 about1) = true := by decide +kernel
set_option maxRecDepth 65536 in
theorem w_t3 : (((words1.drop 24).drop 24).take 24).all (fun c => isCode c || c.before args0 about1) = true := by decide +kernel
set_option maxRecDepth 65536 in
theorem w_t4 : ((((words1.drop 24).drop 24).drop 24).take 24).all (fun c => isCode c || c.before args0 about1) = true := by decide +kernel
set_option maxRecDepth 65536 in
theorem w_t5 : (((((words1.drop 24).drop 24).drop 24).drop 24).take 24).all (fun c => isCode c || c.before args0 about1) = true := by decide +kernel
set_option maxRecDepth 65536 in
theorem w_t6 : (((((words1.drop 24).drop 24).drop 24).drop 24).drop 24).all (fun c => isCode c || c.before args0 about1) = true := by decide +kernel
theorem w_tables : (allAtoms (Jvm.Cond.code x code maxLocals ret :: tables_1)).before args0 about1 = true := by
  rw [allAtoms_all]
  show words1.all (fun c => c.before args0 about1) = true
  refine all_split ?_ w_codes
  rw [← List.take_append_drop 24 words1, List.all_append, w_t1, ← List.take_append_drop 24 (words1.drop 24), List.all_append, w_t2, ← List.take_append_drop 24 ((words1.drop 24).drop 24), List.all_append, w_t3, ← List.take_append_drop 24 (((words1.drop 24).drop 24).drop 24), List.all_append, w_t4, ← List.take_append_drop 24 ((((words1.drop 24).drop 24).drop 24).drop 24), List.all_append, w_t5, w_t6]
  rfl
set_option maxRecDepth 65536 in
theorem w_rest : rest_1_c.before args0 about1 = true := by decide +kernel
set_option maxRecDepth 65536 in
theorem w_case : (Jvm.Cond.and given_1 narrow_1).before args0 about1 = true := by decide +kernel
theorem w_applies : (headSpec (Jvm.Cond.code x code maxLocals ret :: tables_1) room_1).applies x e0.platform about1 = true :=
  (Spec.applies_iff w_frames).mpr ⟨w_running, w_runnable, w_alone, w_named, w_hears, w_ripe, w_room, w_tables⟩
theorem atStart : AtStart classFile x code maxLocals ret World_1 tables_1 room_1 Calls_1 rest_1 Pre_1 launch0 p0 e0 about1 theMethod args0 below0 :=
  ⟨lists_1, trivial, launch0.admits_env _ _ _, launch0.least_env, fairChoices_fair.cas, fairChoices_fair.clock, w_frames, w_args, w_heap, w_applies, trivial, w_rest, w_case⟩
end start1
theorem witness_1 : WitnessClaimed_1 := ⟨start1.p0, start1.e0, start1.about1, start1.theMethod, start1.args0, start1.below0, start1.atStart⟩
end Jvm.Pilot.@@N@@
