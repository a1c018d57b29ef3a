import JvmDerived
import JvmDerived.Pilot.@@N@@Statement
import JvmDerived.Pilot.@@N@@Code
set_option linter.unusedVariables false
set_option linter.unusedSimpArgs false
namespace Jvm.Pilot.@@N@@
open Jvm Jvm.ClassFile Sem Op Lib Jvm.Free Jvm.Stand Jvm.LawKit Jvm.RoadKit Bundle Jvm.Free.SB Jvm.Free.SBG Jvm.Pilot.@@N@@.Jvm.D
abbrev Kx : Type := Program × Env × State × MethodId × Array Value × List Frame × Method × Code
def Inv (Z : State) (ws : List Addr) (h0 : Heap) (S : List Addr) (h : Heap) : Prop :=
  Ext Z.heap h ∧ Keep h0 h ws ∧ ∀ x ∈ S, x < h.size ∧ Z.heap.size ≤ x ∧ (x ∈ ws ∨ h0.size ≤ x)
def Cx (Z : State) (a0 : Array Value) (y : MethodName) (by0 : ByteArray) (ml : Nat) (rt : Option FieldType) : Kx → Prop
  | (p, _, s, m, _, _, meth, c) => p.tables.exec = Jvm.exec ∧ c.code = by0 ∧ c.maxLocals = ml ∧ s.vm.findClass y.cls = some m.cls ∧ meth.name = y.name ∧ meth.sig.returnType = rt ∧ meth.locks = false ∧ Z.Warmed39 s.vm
theorem fr_snoc {k : Nat} {L : List Loc} (N : Fr k L) {a : Addr} {i : Nat} (q : k ≤ a) : Fr k (L ++ [⟨a, i⟩]) := fun y hy => by
  rcases List.mem_append.mp hy with hy | hy
  · exact N y hy
  · rw [List.mem_singleton.mp hy]; exact q
theorem hq {Z : State} {a0 : Array Value} {ts : List Jvm.Cond} (hw : ∀ d ∈ ts, d.before a0 Z = true) (i : Nat) {d : Jvm.Cond} (q : ts[i]? = some d) : d.before a0 Z = true := hw _ (List.mem_of_getElem? q)
theorem nble {a b : Nat} (h : Nat.ble a b = true) : a ≤ b := Nat.le_of_ble_eq_true h
theorem mi {S : List Addr} (i : Nat) {a : Addr} (q : S[i]? = some a) : a ∈ S := List.mem_of_getElem? q
section InvLaws
variable {Z : State} {ws ws' S bs : List Addr} {h0 h h' : Heap} {a : Addr} {i : Nat} {v : Value}
theorem Inv.new (I : Inv Z ws h0 S h) (E : Ext h h') (hl : h.size < h'.size) : Inv Z ws h0 (h.size :: S) h' := by
  refine ⟨⟨Nat.le_trans I.1.1 E.1, fun a c q => E.2 a c (I.1.2 a c q)⟩, I.2.1.ext E, fun x hx => ?_⟩
  rcases List.mem_cons.mp hx with rfl | hx
  · exact ⟨hl, I.1.1, Or.inr I.2.1.1⟩
  · exact ⟨Nat.lt_of_lt_of_le (I.2.2 x hx).1 E.1, (I.2.2 x hx).2⟩
theorem Inv.ext (I : Inv Z ws h0 S h) (E : Ext h h') : Inv Z ws h0 S h' :=
  ⟨⟨Nat.le_trans I.1.1 E.1, fun a c q => E.2 a c (I.1.2 a c q)⟩, I.2.1.ext E, fun x hx => ⟨Nat.lt_of_lt_of_le (I.2.2 x hx).1 E.1, (I.2.2 x hx).2⟩⟩
theorem Inv.wr (I : Inv Z ws h0 S h) (W : Wr h h' a i v) (ha : a ∈ S) : Inv Z ws h0 S h' :=
  ⟨(Old.wr ⟨rfl, I.1⟩ W (I.2.2 a ha).2.1).2, I.2.1.wr W (I.2.2 a ha).2.2, fun x hx => ⟨W.size.symm ▸ (I.2.2 x hx).1, (I.2.2 x hx).2⟩⟩
theorem Inv.keep (I : Inv Z ws h0 S h) (K : Keep h h' ws') (hs : ∀ x ∈ ws', x ∈ S) : Inv Z ws h0 S h' :=
  ⟨(Old.keep ⟨rfl, I.1⟩ K (fun x hx => (I.2.2 x (hs x hx)).2.1)).2, I.2.1.trans K (fun x hx => (I.2.2 x (hs x hx)).2.2), fun x hx => ⟨Nat.lt_of_lt_of_le (I.2.2 x hx).1 K.1, (I.2.2 x hx).2⟩⟩
theorem Inv.add (I : Inv Z ws h0 S h) (I' : Inv Z ws h0 S h') (hb : ∀ b ∈ bs, h.size ≤ b ∧ b < h'.size) : Inv Z ws h0 (bs ++ S) h' :=
  ⟨I'.1, I'.2.1, fun x hx => (List.mem_append.mp hx).elim (fun q => ⟨(hb x q).2, Nat.le_trans I.1.1 (hb x q).1, Or.inr (Nat.le_trans I.2.1.1 (hb x q).1)⟩) (fun q => I'.2.2 x q)⟩
theorem Inv.drop (I : Inv Z ws h0 S h) {S' : List Addr} (hs : ∀ x ∈ S', x ∈ S) : Inv Z ws h0 S' h := ⟨I.1, I.2.1, fun x hx => I.2.2 x (hs x hx)⟩
end InvLaws
theorem decl_of {Z : State} {a0 : Array Value} {y : MethodName} {b : ByteArray} {ml : Nat} {rt : Option FieldType} (wi : (Cond.instanceMethod y).before a0 Z = true) (wc : (Cond.code y b ml rt).before a0 Z = true) : (Cond.declares y).before a0 Z = true := by
  obtain ⟨mk, meth, h1, h2, h3, h4⟩ := Cond.instanceMethod_spec wi
  obtain ⟨m2, c, q1, -, -, -, -, -, -, hsig⟩ := Cond.code_spec h1 wc
  cases h2.symm.trans q1
  simp [Cond.before, Cond.holds, Cond.value, h1, h2, h3, hsig]
theorem nf_cls {s : State} {a0 : Array Value} {y y' y0 : MethodName} {C : String} (w : (Cond.selects C y0 y').before a0 s = true) (hc : y'.cls = y.cls) : NotFace s y := fun r0 h0 => by
  obtain ⟨c2, r2, m2, q1, q2, q3, q4, kP, hkP, hkPi⟩ := Cond.selects_spec w
  have e1 := findClass_of_methodNamed h0
  have e2 := findClass_of_methodNamed q3
  rw [hc] at e2
  have e3 : r0.cls = m2.cls := Option.some.inj (e1.symm.trans e2)
  exact ⟨kP, by rw [e3]; exact hkP, hkPi⟩
theorem same_of {Z : State} {a0 : Array Value} {y : MethodName} (wi : (Cond.instanceMethod y).before a0 Z = true) (nf : NotFace Z y) (hx : y.cls ≠ "java/lang/invoke/MethodHandle" ∧ y.cls ≠ "java/lang/invoke/VarHandle") : (Cond.sameMethod y.cls y.cls y.name y.desc).before a0 Z = true := by
  obtain ⟨mk, meth, h1, h2, h3, h4⟩ := Cond.instanceMethod_spec wi
  have hf := State.methodFound?_of_named h1 hx
  have hc := findClass_of_methodNamed h1
  obtain ⟨k, hk, hi⟩ := nf mk h1
  have h1' : Z.methodNamed? ⟨y.cls, y.name, y.desc⟩ = some mk := h1
  simp [Cond.before, Cond.holds, Cond.value, hc, hf, h1', hk, hi]
theorem ext_refl (h : Heap) : Ext h h := ⟨Nat.le_refl _, fun _ _ q => q⟩
theorem mems0 {S : List Addr} : ∀ x ∈ ([] : List Addr), x ∈ S := fun _ q => nomatch q
theorem memsS {x : Addr} {L S : List Addr} (q : x ∈ S) (r : ∀ z ∈ L, z ∈ S) : ∀ z ∈ x :: L, z ∈ S := fun z hz => by
  rcases List.mem_cons.mp hz with rfl | hz
  · exact q
  · exact r z hz
theorem fresh0 {n n' : Nat} : ∀ b ∈ ([] : List Addr), n ≤ b ∧ b < n' := fun _ q => nomatch q
theorem freshS {n n' : Nat} {b : Addr} {L : List Addr} (q : n ≤ b ∧ b < n') (r : ∀ z ∈ L, n ≤ z ∧ z < n') : ∀ z ∈ b :: L, n ≤ z ∧ z < n' := fun z hz => by
  rcases List.mem_cons.mp hz with rfl | hz
  · exact q
  · exact r z hz
/-- the contract of a body that interns nothing -/
def Ct (l : Launch) (Z : State) (y : MethodName) (by0 : ByteArray) (ml : Nat) (rt : Option FieldType) (rm : Room) (as : Array Value) (h0 : Heap) (ws : List Addr) (Q : Option Value → Heap → Prop) : Prop :=
  Ext Z.heap h0 → (∀ x ∈ ws, x < h0.size ∧ Z.heap.size ≤ x) → ∀ tw : List Jvm.Cond, MetFree l y (head1 (Jvm.Cond.code y by0 ml rt :: tw) rm) (fun a U => a = as ∧ Z.Warmed39 U.vm ∧ U.heap = h0) (fun _ _ _ _ _ => True)
    (fun _ U o U' => ∃ v L, o = .returned v ∧ (Keep h0 U'.heap ws ∧ Q v U'.heap ∧ Fr Z.heap.size L) ∧ FrameEnd U o U' L rm.cells rm.slots)
/-- what a call of z costs and gives: fr frames, lo words, cc cells, ss slots -/
def Py (l : Launch) (Z : State) (z : MethodName) (fr lo cc ss : Nat) (as : Array Value) (h : Heap) (ws : List Addr) (Q : Option Value → Heap → Prop) : Prop :=
  Ext Z.heap h → (∀ x ∈ ws, x < h.size ∧ Z.heap.size ≤ x) → ∀ (p : Program) (e : Env) (R : Room) (below : List Frame) (s : State) (args : Array Value) (len W : Nat), Z.Warmed39 s.vm → fr ≤ R.frames → W + lo ≤ R.locals →
    Back l R p e below s args z len W (fun A a => a = as ∧ A.U.heap = h ∧ A.cells + cc ≤ R.cells ∧ A.slots + ss ≤ R.slots) (fun A _ v B => ∃ L, (Keep h B.U.heap ws ∧ Q v B.U.heap ∧ Fr Z.heap.size L) ∧ B.locs = A.locs ++ L ∧ B.cells = A.cells + cc ∧ B.slots = A.slots + ss)
theorem Ct.py {l : Launch} {Z : State} {a0 : Array Value} {y : MethodName} {by0 : ByteArray} {ml : Nat} {rt : Option FieldType} {rm : Room} {as : Array Value} {h0 : Heap} {ws : List Addr} {Q : Option Value → Heap → Prop} (hM : Ct l Z y by0 ml rt rm as h0 ws Q) (wc : (Cond.code y by0 ml rt).before a0 Z = true) (wz : (Cond.initialized y.cls).before a0 Z = true) : Py l Z y (rm.frames + 1) (ml + 11 + rm.locals) rm.cells rm.slots as h0 ws Q :=
  fun hO hws p e R below s args len W hZ hf hl => backOf (W := W) (Q := fun v hp L => Keep h0 hp ws ∧ Q v hp ∧ Fr Z.heap.size L) (hM hO hws []) hZ wc wz hf (by rw [Nat.add_assoc]; exact hl)
def Go (l : Launch) (R : Room) (Z : State) (ws : List Addr) (h0 : Heap) (Q : Option Value → Heap → Prop) (κ : Kx) (S : List Addr) (h : Heap) (pc : Nat) (Ls : Array Slot) (st : List Value) (ce sl : Nat) : Prop := match κ with
  | (p, e, s, m, args, below, meth, c) => ∀ T locs, Stand p l e R s m args below meth c T locs ce sl → Fr Z.heap.size locs → T.heap = h → Inv Z ws h0 S h →
    ∃ s₂ o, Steps p.tables e below (T.setTop (mkF m pc Ls st)) s₂ ∧ s₂.status = .running ∧ Ended s₂ below o ∧ ∃ v L, o = .returned v ∧ (Keep h0 s₂.heap ws ∧ Q v s₂.heap ∧ Fr Z.heap.size L) ∧ FrameEnd s o s₂ L R.cells R.slots
theorem Ct.mk {l : Launch} {Z : State} {a0 : Array Value} {y : MethodName} {by0 : ByteArray} {ml : Nat} {rt : Option FieldType} {rm : Room} {as : Array Value} {h0 : Heap} {ws : List Addr} {Q : Option Value → Heap → Prop} {Ls : Array Slot} (hpl : plainFor y = true) (hef : ∀ m, entryFrame m as ml = mkF m 0 Ls [])
    (k : ∀ κ, Cx Z a0 y by0 ml rt κ → Go l rm Z ws h0 Q κ ws h0 0 Ls [] 0 0) : Ct l Z y by0 ml rt rm as h0 ws Q := by
  intro hO hws tw
  refine MetFree.of_bodySF hpl hisR ?_
  intro p e s m args below meth c s₁ Bd hml0 hP hK
  obtain ⟨rfl, hZ, hh⟩ := hP
  have X0 : Stand p l e rm s m args below meth c s₁ [] 0 0 := Stand.of_body Bd
  have e0 : s₁.heap = h0 := by rw [← hh, Bd.state]; rfl
  obtain ⟨s₂, o, hs, r⟩ := k (p, e, s, m, args, below, meth, c) ⟨Bd.exec, Bd.bytes, hml0, findClass_of_methodNamed Bd.named, (name_of_methodNamed Bd.named Bd.method).1, Bd.returns, BodyLoose.notSynchronized Bd, hZ⟩ s₁ [] X0 (Fr.nil _) e0
    ⟨hO, Keep.refl _ _, fun x hx => ⟨(hws x hx).1, (hws x hx).2, Or.inl hx⟩⟩
  exact ⟨s₂, o, castTop (hef m) hs, r⟩
section StepsN
variable {Z : State} {a0 : Array Value} {y : MethodName} {by0 : ByteArray} {ml : Nat} {rt : Option FieldType} {l : Launch} {R : Room} {ws : List Addr} {h0 : Heap} {Q : Option Value → Heap → Prop} {κ : Kx} {S : List Addr} {h : Heap} {pc : Nat} {Ls : Array Slot} {st : List Value} {ce sl : Nat}
theorem go_iloadN (C : Cx Z a0 y by0 ml rt κ) (pc' : Nat) {j : Fin 4} {v : Int32} (hd : decode by0 pc = .ok (.iload_n j, 1)) (hpc : pc + 1 = pc') (hl : Ls[j.val]? = some (.val (.int v))) (k : Go l R Z ws h0 Q κ S h pc' Ls (.int v :: st) ce sl) : Go l R Z ws h0 Q κ S h pc Ls st ce sl := by
  subst hpc
  obtain ⟨p, e, s, m, args, below, meth, c⟩ := κ
  intro T locs X N eT I
  obtain ⟨hx, hby, hml, hown, hnm, hret, hlk, hZ⟩ := C
  obtain ⟨s₂, o, hs, r⟩ := k T _ X N eT I
  exact ⟨s₂, o, XS.iloadN X.here hx rfl (hb hby hd) hl hs, r⟩
theorem go_iload (C : Cx Z a0 y by0 ml rt κ) (pc' : Nat) {j : Nat} {v : Int32} (hd : decode by0 pc = .ok (.iload j, 2)) (hpc : pc + 2 = pc') (hl : Ls[j]? = some (.val (.int v))) (k : Go l R Z ws h0 Q κ S h pc' Ls (.int v :: st) ce sl) : Go l R Z ws h0 Q κ S h pc Ls st ce sl := by
  subst hpc
  obtain ⟨p, e, s, m, args, below, meth, c⟩ := κ
  intro T locs X N eT I
  obtain ⟨hx, hby, hml, hown, hnm, hret, hlk, hZ⟩ := C
  obtain ⟨s₂, o, hs, r⟩ := k T _ X N eT I
  exact ⟨s₂, o, XS.iload X.here hx rfl (hb hby hd) hl hs, r⟩
theorem go_aloadN (C : Cx Z a0 y by0 ml rt κ) (pc' : Nat) {j : Fin 4} {v : Value} (hd : decode by0 pc = .ok (.aload_n j, 1)) (hpc : pc + 1 = pc') (hl : Ls[j.val]? = some (.val v)) (hv : v.isRef = true) (k : Go l R Z ws h0 Q κ S h pc' Ls (v :: st) ce sl) : Go l R Z ws h0 Q κ S h pc Ls st ce sl := by
  subst hpc
  obtain ⟨p, e, s, m, args, below, meth, c⟩ := κ
  intro T locs X N eT I
  obtain ⟨hx, hby, hml, hown, hnm, hret, hlk, hZ⟩ := C
  obtain ⟨s₂, o, hs, r⟩ := k T _ X N eT I
  exact ⟨s₂, o, XS.aloadN X.here hx rfl (hb hby hd) hl hv hs, r⟩
theorem go_aload (C : Cx Z a0 y by0 ml rt κ) (pc' : Nat) {j : Nat} {v : Value} (hd : decode by0 pc = .ok (.aload j, 2)) (hpc : pc + 2 = pc') (hl : Ls[j]? = some (.val v)) (hv : v.isRef = true) (k : Go l R Z ws h0 Q κ S h pc' Ls (v :: st) ce sl) : Go l R Z ws h0 Q κ S h pc Ls st ce sl := by
  subst hpc
  obtain ⟨p, e, s, m, args, below, meth, c⟩ := κ
  intro T locs X N eT I
  obtain ⟨hx, hby, hml, hown, hnm, hret, hlk, hZ⟩ := C
  obtain ⟨s₂, o, hs, r⟩ := k T _ X N eT I
  exact ⟨s₂, o, XS.aload X.here hx rfl (hb hby hd) hl hv hs, r⟩
theorem go_iconst (C : Cx Z a0 y by0 ml rt κ) (pc' : Nat) {i : Int} (v : Int32) (hd : decode by0 pc = .ok (.iconst i, 1)) (hpc : pc + 1 = pc') (hv : Int32.ofInt i = v) (k : Go l R Z ws h0 Q κ S h pc' Ls (.int v :: st) ce sl) : Go l R Z ws h0 Q κ S h pc Ls st ce sl := by
  subst hpc
  obtain ⟨p, e, s, m, args, below, meth, c⟩ := κ
  intro T locs X N eT I
  obtain ⟨hx, hby, hml, hown, hnm, hret, hlk, hZ⟩ := C
  obtain ⟨s₂, o, hs, r⟩ := k T _ X N eT I
  exact ⟨s₂, o, XT.iconstV X.here hx rfl v (hb hby hd) hv hs, r⟩
theorem go_bipush (C : Cx Z a0 y by0 ml rt κ) (pc' : Nat) {i : Int} (v : Int32) (hd : decode by0 pc = .ok (.bipush i, 2)) (hpc : pc + 2 = pc') (hv : (Int8.ofInt i).toInt32 = v) (k : Go l R Z ws h0 Q κ S h pc' Ls (.int v :: st) ce sl) : Go l R Z ws h0 Q κ S h pc Ls st ce sl := by
  subst hpc
  obtain ⟨p, e, s, m, args, below, meth, c⟩ := κ
  intro T locs X N eT I
  obtain ⟨hx, hby, hml, hown, hnm, hret, hlk, hZ⟩ := C
  obtain ⟨s₂, o, hs, r⟩ := k T _ X N eT I
  exact ⟨s₂, o, XT.bipushV X.here hx rfl v (hb hby hd) hv hs, r⟩
theorem go_sipush (C : Cx Z a0 y by0 ml rt κ) (pc' : Nat) {i : Int} (v : Int32) (hd : decode by0 pc = .ok (.sipush i, 3)) (hpc : pc + 3 = pc') (hv : (Int16.ofInt i).toInt32 = v) (k : Go l R Z ws h0 Q κ S h pc' Ls (.int v :: st) ce sl) : Go l R Z ws h0 Q κ S h pc Ls st ce sl := by
  subst hpc
  obtain ⟨p, e, s, m, args, below, meth, c⟩ := κ
  intro T locs X N eT I
  obtain ⟨hx, hby, hml, hown, hnm, hret, hlk, hZ⟩ := C
  obtain ⟨s₂, o, hs, r⟩ := k T _ X N eT I
  exact ⟨s₂, o, XT.sipushV X.here hx rfl v (hb hby hd) hv hs, r⟩
theorem go_aconstNull (C : Cx Z a0 y by0 ml rt κ) (pc' : Nat)  (hd : decode by0 pc = .ok (.aconst_null, 1)) (hpc : pc + 1 = pc')  (k : Go l R Z ws h0 Q κ S h pc' Ls (.null :: st) ce sl) : Go l R Z ws h0 Q κ S h pc Ls st ce sl := by
  subst hpc
  obtain ⟨p, e, s, m, args, below, meth, c⟩ := κ
  intro T locs X N eT I
  obtain ⟨hx, hby, hml, hown, hnm, hret, hlk, hZ⟩ := C
  obtain ⟨s₂, o, hs, r⟩ := k T _ X N eT I
  exact ⟨s₂, o, XS.aconstNull X.here hx rfl (hb hby hd) hs, r⟩
theorem go_iadd (C : Cx Z a0 y by0 ml rt κ) (pc' : Nat) {x z : Int32} (v : Int32) (hd : decode by0 pc = .ok (.iadd, 1)) (hpc : pc + 1 = pc') (hv : x + z = v) (k : Go l R Z ws h0 Q κ S h pc' Ls (.int v :: st) ce sl) : Go l R Z ws h0 Q κ S h pc Ls (.int z :: .int x :: st) ce sl := by
  subst hpc
  subst hv
  obtain ⟨p, e, s, m, args, below, meth, c⟩ := κ
  intro T locs X N eT I
  obtain ⟨hx, hby, hml, hown, hnm, hret, hlk, hZ⟩ := C
  obtain ⟨s₂, o, hs, r⟩ := k T _ X N eT I
  exact ⟨s₂, o, XS.iadd X.here hx rfl (hb hby hd) rfl hs, r⟩
theorem go_isub (C : Cx Z a0 y by0 ml rt κ) (pc' : Nat) {x z : Int32} (v : Int32) (hd : decode by0 pc = .ok (.isub, 1)) (hpc : pc + 1 = pc') (hv : x - z = v) (k : Go l R Z ws h0 Q κ S h pc' Ls (.int v :: st) ce sl) : Go l R Z ws h0 Q κ S h pc Ls (.int z :: .int x :: st) ce sl := by
  subst hpc
  subst hv
  obtain ⟨p, e, s, m, args, below, meth, c⟩ := κ
  intro T locs X N eT I
  obtain ⟨hx, hby, hml, hown, hnm, hret, hlk, hZ⟩ := C
  obtain ⟨s₂, o, hs, r⟩ := k T _ X N eT I
  exact ⟨s₂, o, XS.isub X.here hx rfl (hb hby hd) rfl hs, r⟩
theorem go_iand (C : Cx Z a0 y by0 ml rt κ) (pc' : Nat) {x z : Int32} (v : Int32) (hd : decode by0 pc = .ok (.iand, 1)) (hpc : pc + 1 = pc') (hv : x &&& z = v) (k : Go l R Z ws h0 Q κ S h pc' Ls (.int v :: st) ce sl) : Go l R Z ws h0 Q κ S h pc Ls (.int z :: .int x :: st) ce sl := by
  subst hpc
  subst hv
  obtain ⟨p, e, s, m, args, below, meth, c⟩ := κ
  intro T locs X N eT I
  obtain ⟨hx, hby, hml, hown, hnm, hret, hlk, hZ⟩ := C
  obtain ⟨s₂, o, hs, r⟩ := k T _ X N eT I
  exact ⟨s₂, o, XS.iand X.here hx rfl (hb hby hd) rfl hs, r⟩
theorem go_ior (C : Cx Z a0 y by0 ml rt κ) (pc' : Nat) {x z : Int32} (v : Int32) (hd : decode by0 pc = .ok (.ior, 1)) (hpc : pc + 1 = pc') (hv : x ||| z = v) (k : Go l R Z ws h0 Q κ S h pc' Ls (.int v :: st) ce sl) : Go l R Z ws h0 Q κ S h pc Ls (.int z :: .int x :: st) ce sl := by
  subst hpc
  subst hv
  obtain ⟨p, e, s, m, args, below, meth, c⟩ := κ
  intro T locs X N eT I
  obtain ⟨hx, hby, hml, hown, hnm, hret, hlk, hZ⟩ := C
  obtain ⟨s₂, o, hs, r⟩ := k T _ X N eT I
  exact ⟨s₂, o, XT.ior X.here hx rfl (hb hby hd) rfl hs, r⟩
theorem go_ishl (C : Cx Z a0 y by0 ml rt κ) (pc' : Nat) {x z : Int32} (v : Int32) (hd : decode by0 pc = .ok (.ishl, 1)) (hpc : pc + 1 = pc') (hv : x <<< (z &&& 31) = v) (k : Go l R Z ws h0 Q κ S h pc' Ls (.int v :: st) ce sl) : Go l R Z ws h0 Q κ S h pc Ls (.int z :: .int x :: st) ce sl := by
  subst hpc
  subst hv
  obtain ⟨p, e, s, m, args, below, meth, c⟩ := κ
  intro T locs X N eT I
  obtain ⟨hx, hby, hml, hown, hnm, hret, hlk, hZ⟩ := C
  obtain ⟨s₂, o, hs, r⟩ := k T _ X N eT I
  exact ⟨s₂, o, XT.ishl X.here hx rfl (hb hby hd) rfl hs, r⟩
theorem go_ishr (C : Cx Z a0 y by0 ml rt κ) (pc' : Nat) {x z : Int32} (v : Int32) (hd : decode by0 pc = .ok (.ishr, 1)) (hpc : pc + 1 = pc') (hv : x >>> (z &&& 31) = v) (k : Go l R Z ws h0 Q κ S h pc' Ls (.int v :: st) ce sl) : Go l R Z ws h0 Q κ S h pc Ls (.int z :: .int x :: st) ce sl := by
  subst hpc
  subst hv
  obtain ⟨p, e, s, m, args, below, meth, c⟩ := κ
  intro T locs X N eT I
  obtain ⟨hx, hby, hml, hown, hnm, hret, hlk, hZ⟩ := C
  obtain ⟨s₂, o, hs, r⟩ := k T _ X N eT I
  exact ⟨s₂, o, XT.ishr X.here hx rfl (hb hby hd) rfl hs, r⟩
theorem go_iushr (C : Cx Z a0 y by0 ml rt κ) (pc' : Nat) {x z : Int32} (v : Int32) (hd : decode by0 pc = .ok (.iushr, 1)) (hpc : pc + 1 = pc') (hv : XT.ushr x z = v) (k : Go l R Z ws h0 Q κ S h pc' Ls (.int v :: st) ce sl) : Go l R Z ws h0 Q κ S h pc Ls (.int z :: .int x :: st) ce sl := by
  subst hpc
  subst hv
  obtain ⟨p, e, s, m, args, below, meth, c⟩ := κ
  intro T locs X N eT I
  obtain ⟨hx, hby, hml, hown, hnm, hret, hlk, hZ⟩ := C
  obtain ⟨s₂, o, hs, r⟩ := k T _ X N eT I
  exact ⟨s₂, o, XT.iushr X.here hx rfl (hb hby hd) rfl hs, r⟩
theorem go_irem (C : Cx Z a0 y by0 ml rt κ) (pc' : Nat) {x z : Int32} (v : Int32) (hd : decode by0 pc = .ok (.irem, 1)) (hpc : pc + 1 = pc') (hz : z ≠ 0) (hv : x % z = v) (k : Go l R Z ws h0 Q κ S h pc' Ls (.int v :: st) ce sl) : Go l R Z ws h0 Q κ S h pc Ls (.int z :: .int x :: st) ce sl := by
  subst hpc
  subst hv
  obtain ⟨p, e, s, m, args, below, meth, c⟩ := κ
  intro T locs X N eT I
  obtain ⟨hx, hby, hml, hown, hnm, hret, hlk, hZ⟩ := C
  obtain ⟨s₂, o, hs, r⟩ := k T _ X N eT I
  exact ⟨s₂, o, iremM X hx rfl (hb hby hd) rfl hz hs, r⟩
theorem go_i2b (C : Cx Z a0 y by0 ml rt κ) (pc' : Nat) {x : Int32} (v : Int32) (hd : decode by0 pc = .ok (.i2b, 1)) (hpc : pc + 1 = pc') (hv : x.toInt8.toInt32 = v) (k : Go l R Z ws h0 Q κ S h pc' Ls (.int v :: st) ce sl) : Go l R Z ws h0 Q κ S h pc Ls (.int x :: st) ce sl := by
  subst hpc
  subst hv
  obtain ⟨p, e, s, m, args, below, meth, c⟩ := κ
  intro T locs X N eT I
  obtain ⟨hx, hby, hml, hown, hnm, hret, hlk, hZ⟩ := C
  obtain ⟨s₂, o, hs, r⟩ := k T _ X N eT I
  exact ⟨s₂, o, XT.i2b X.here hx rfl (hb hby hd) rfl hs, r⟩
theorem go_i2c (C : Cx Z a0 y by0 ml rt κ) (pc' : Nat) {x : Int32} (v : Int32) (hd : decode by0 pc = .ok (.i2c, 1)) (hpc : pc + 1 = pc') (hv : x.toUInt32.toUInt16.toUInt32.toInt32 = v) (k : Go l R Z ws h0 Q κ S h pc' Ls (.int v :: st) ce sl) : Go l R Z ws h0 Q κ S h pc Ls (.int x :: st) ce sl := by
  subst hpc
  subst hv
  obtain ⟨p, e, s, m, args, below, meth, c⟩ := κ
  intro T locs X N eT I
  obtain ⟨hx, hby, hml, hown, hnm, hret, hlk, hZ⟩ := C
  obtain ⟨s₂, o, hs, r⟩ := k T _ X N eT I
  exact ⟨s₂, o, XT.i2c X.here hx rfl (hb hby hd) rfl hs, r⟩
theorem go_dup (C : Cx Z a0 y by0 ml rt κ) (pc' : Nat) {x : Value} (hd : decode by0 pc = .ok (.dup, 1)) (hpc : pc + 1 = pc') (hc : x.category = 1) (k : Go l R Z ws h0 Q κ S h pc' Ls (x :: x :: st) ce sl) : Go l R Z ws h0 Q κ S h pc Ls (x :: st) ce sl := by
  subst hpc
  obtain ⟨p, e, s, m, args, below, meth, c⟩ := κ
  intro T locs X N eT I
  obtain ⟨hx, hby, hml, hown, hnm, hret, hlk, hZ⟩ := C
  obtain ⟨s₂, o, hs, r⟩ := k T _ X N eT I
  exact ⟨s₂, o, XS.dup X.here hx rfl (hb hby hd) rfl hc hs, r⟩
theorem go_pop (C : Cx Z a0 y by0 ml rt κ) (pc' : Nat) {x : Value} (hd : decode by0 pc = .ok (.pop, 1)) (hpc : pc + 1 = pc') (hc : x.category = 1) (k : Go l R Z ws h0 Q κ S h pc' Ls st ce sl) : Go l R Z ws h0 Q κ S h pc Ls (x :: st) ce sl := by
  subst hpc
  obtain ⟨p, e, s, m, args, below, meth, c⟩ := κ
  intro T locs X N eT I
  obtain ⟨hx, hby, hml, hown, hnm, hret, hlk, hZ⟩ := C
  obtain ⟨s₂, o, hs, r⟩ := k T _ X N eT I
  exact ⟨s₂, o, XT.pop X.here hx rfl (hb hby hd) rfl hc hs, r⟩
theorem go_istoreN (C : Cx Z a0 y by0 ml rt κ) (pc' : Nat) {j : Fin 4} {x : Int32} {Ls' : Array Slot} (hd : decode by0 pc = .ok (.istore_n j, 1)) (hpc : pc + 1 = pc') (hl : storeLocals Ls j.val (.int x) = some Ls') (k : Go l R Z ws h0 Q κ S h pc' Ls' st ce sl) : Go l R Z ws h0 Q κ S h pc Ls (.int x :: st) ce sl := by
  subst hpc
  obtain ⟨p, e, s, m, args, below, meth, c⟩ := κ
  intro T locs X N eT I
  obtain ⟨hx, hby, hml, hown, hnm, hret, hlk, hZ⟩ := C
  obtain ⟨s₂, o, hs, r⟩ := k T _ X N eT I
  exact ⟨s₂, o, XS.istoreN X.here hx rfl (hb hby hd) rfl hl hs, r⟩
theorem go_istore (C : Cx Z a0 y by0 ml rt κ) (pc' : Nat) {j : Nat} {x : Int32} {Ls' : Array Slot} (hd : decode by0 pc = .ok (.istore j, 2)) (hpc : pc + 2 = pc') (hl : storeLocals Ls j (.int x) = some Ls') (k : Go l R Z ws h0 Q κ S h pc' Ls' st ce sl) : Go l R Z ws h0 Q κ S h pc Ls (.int x :: st) ce sl := by
  subst hpc
  obtain ⟨p, e, s, m, args, below, meth, c⟩ := κ
  intro T locs X N eT I
  obtain ⟨hx, hby, hml, hown, hnm, hret, hlk, hZ⟩ := C
  obtain ⟨s₂, o, hs, r⟩ := k T _ X N eT I
  exact ⟨s₂, o, XS.istore X.here hx rfl (hb hby hd) rfl hl hs, r⟩
theorem go_astoreN (C : Cx Z a0 y by0 ml rt κ) (pc' : Nat) {j : Fin 4} {x : Value} {Ls' : Array Slot} (hd : decode by0 pc = .ok (.astore_n j, 1)) (hpc : pc + 1 = pc') (hv : x.isRef = true) (hl : storeLocals Ls j.val x = some Ls') (k : Go l R Z ws h0 Q κ S h pc' Ls' st ce sl) : Go l R Z ws h0 Q κ S h pc Ls (x :: st) ce sl := by
  subst hpc
  obtain ⟨p, e, s, m, args, below, meth, c⟩ := κ
  intro T locs X N eT I
  obtain ⟨hx, hby, hml, hown, hnm, hret, hlk, hZ⟩ := C
  obtain ⟨s₂, o, hs, r⟩ := k T _ X N eT I
  exact ⟨s₂, o, XS.astoreN X.here hx rfl (hb hby hd) rfl hv hl hs, r⟩
theorem go_astore (C : Cx Z a0 y by0 ml rt κ) (pc' : Nat) {j : Nat} {x : Value} {Ls' : Array Slot} (hd : decode by0 pc = .ok (.astore j, 2)) (hpc : pc + 2 = pc') (hv : x.isRef = true) (hl : storeLocals Ls j x = some Ls') (k : Go l R Z ws h0 Q κ S h pc' Ls' st ce sl) : Go l R Z ws h0 Q κ S h pc Ls (x :: st) ce sl := by
  subst hpc
  obtain ⟨p, e, s, m, args, below, meth, c⟩ := κ
  intro T locs X N eT I
  obtain ⟨hx, hby, hml, hown, hnm, hret, hlk, hZ⟩ := C
  obtain ⟨s₂, o, hs, r⟩ := k T _ X N eT I
  exact ⟨s₂, o, XS.astore X.here hx rfl (hb hby hd) rfl hv hl hs, r⟩
theorem go_iinc (C : Cx Z a0 y by0 ml rt κ) (pc' : Nat) {j : Nat} {i : Int} {x : Int32} {Ls' : Array Slot} (v : Int32) (hd : decode by0 pc = .ok (.iinc j i, 3)) (hpc : pc + 3 = pc') (hv : Int32.ofInt i = v) (hg : Ls[j]? = some (.val (.int x))) (hl : storeLocals Ls j (.int (x + v)) = some Ls') (k : Go l R Z ws h0 Q κ S h pc' Ls' st ce sl) : Go l R Z ws h0 Q κ S h pc Ls st ce sl := by
  subst hpc
  obtain ⟨p, e, s, m, args, below, meth, c⟩ := κ
  intro T locs X N eT I
  obtain ⟨hx, hby, hml, hown, hnm, hret, hlk, hZ⟩ := C
  obtain ⟨s₂, o, hs, r⟩ := k T _ X N eT I
  exact ⟨s₂, o, XT.iincV X.here hx rfl v (hb hby hd) hv hg hl hs, r⟩
theorem go_ifN (C : Cx Z a0 y by0 ml rt κ) (pc' : Nat) {o : Int} {cd : ClassFile.Cond} {x : Int32} (hd : decode by0 pc = .ok (.ifCond cd o, 3)) (hpc : pc + 3 = pc') (hc : if_icmp.holds cd x 0 = false) (k : Go l R Z ws h0 Q κ S h pc' Ls st ce sl) : Go l R Z ws h0 Q κ S h pc Ls (.int x :: st) ce sl := by
  subst hpc
  obtain ⟨p, e, s, m, args, below, meth, c⟩ := κ
  intro T locs X N eT I
  obtain ⟨hx, hby, hml, hown, hnm, hret, hlk, hZ⟩ := C
  obtain ⟨s₂, o, hs, r⟩ := k T _ X N eT I
  exact ⟨s₂, o, XS.ifNo X.here hx rfl (hb hby hd) rfl ((if0 _ _).trans hc) hs, r⟩
theorem go_icmpN (C : Cx Z a0 y by0 ml rt κ) (pc' : Nat) {o : Int} {cd : ClassFile.Cond} {x z : Int32} (hd : decode by0 pc = .ok (.if_icmp cd o, 3)) (hpc : pc + 3 = pc') (hc : if_icmp.holds cd x z = false) (k : Go l R Z ws h0 Q κ S h pc' Ls st ce sl) : Go l R Z ws h0 Q κ S h pc Ls (.int z :: .int x :: st) ce sl := by
  subst hpc
  obtain ⟨p, e, s, m, args, below, meth, c⟩ := κ
  intro T locs X N eT I
  obtain ⟨hx, hby, hml, hown, hnm, hret, hlk, hZ⟩ := C
  obtain ⟨s₂, o, hs, r⟩ := k T _ X N eT I
  exact ⟨s₂, o, XS.icmpNo X.here hx rfl (hb hby hd) rfl hc hs, r⟩
theorem go_ifnullN (C : Cx Z a0 y by0 ml rt κ) (pc' : Nat) {o : Int} {b : Addr} (hd : decode by0 pc = .ok (.ifnull o, 3)) (hpc : pc + 3 = pc')  (k : Go l R Z ws h0 Q κ S h pc' Ls st ce sl) : Go l R Z ws h0 Q κ S h pc Ls (.ref b :: st) ce sl := by
  subst hpc
  obtain ⟨p, e, s, m, args, below, meth, c⟩ := κ
  intro T locs X N eT I
  obtain ⟨hx, hby, hml, hown, hnm, hret, hlk, hZ⟩ := C
  obtain ⟨s₂, o, hs, r⟩ := k T _ X N eT I
  exact ⟨s₂, o, XS.ifnullNo X.here hx rfl (hb hby hd) rfl hs, r⟩
theorem go_ldcInt (C : Cx Z a0 y by0 ml rt κ) (pc' : Nat) {ix : Nat} {v : Int32} (hd : decode by0 pc = .ok (.ldc ix, 2)) (hpc : pc + 2 = pc') (w : (Cond.constant y.cls ix v).before a0 Z = true) (k : Go l R Z ws h0 Q κ S h pc' Ls (.int v :: st) ce sl) : Go l R Z ws h0 Q κ S h pc Ls st ce sl := by
  subst hpc
  obtain ⟨p, e, s, m, args, below, meth, c⟩ := κ
  intro T locs X N eT I
  obtain ⟨hx, hby, hml, hown, hnm, hret, hlk, hZ⟩ := C
  obtain ⟨s₂, o, hs, r⟩ := k T _ X N eT I
  exact ⟨s₂, o, X.ldcInt hx hown (mvT hZ w) (g := mkF m pc Ls st) rfl (hb hby hd) _ hs, r⟩
theorem go_caload (C : Cx Z a0 y by0 ml rt κ) (pc' : Nat) {a : Addr} {kc : ClassId} {n j : Int32} {vs : List Value} {d v : Value} (hd : decode by0 pc = .ok (.caload, 1)) (hpc : pc + 1 = pc') (F : Arv Z h a kc .char n vs d) (hj : ¬ j < 0 ∧ j < n) (hv : vs.getD j.toNatClampNeg d = v) (k : Go l R Z ws h0 Q κ S h pc' Ls (v :: st) ce sl) : Go l R Z ws h0 Q κ S h pc Ls (.int j :: .ref a :: st) ce sl := by
  subst hpc
  obtain ⟨p, e, s, m, args, below, meth, c⟩ := κ
  intro T locs X N eT I
  obtain ⟨hx, hby, hml, hown, hnm, hret, hlk, hZ⟩ := C
  obtain ⟨s₂, o, hs, r⟩ := k T _ X N eT I
  obtain ⟨_, A, q1, S1, q3, H, G⟩ := F
  exact ⟨s₂, o, X.caload hx (j := j) (by rw [eT]; exact A.1) (State.isArrayOf_alike hZ.alike A.2.1) A.2.2 (inb_of S1 hj) (H.at (inb_of S1 hj) hv) (g := mkF m pc Ls (.int j :: .ref a :: st)) rfl rfl (hb hby hd) _ hs, r⟩
theorem go_baload (C : Cx Z a0 y by0 ml rt κ) (pc' : Nat) {a : Addr} {kc : ClassId} {n j : Int32} {vs : List Value} {d v : Value} (hd : decode by0 pc = .ok (.baload, 1)) (hpc : pc + 1 = pc') (F : Arv Z h a kc .byte n vs d) (hj : ¬ j < 0 ∧ j < n) (hv : vs.getD j.toNatClampNeg d = v) (k : Go l R Z ws h0 Q κ S h pc' Ls (v :: st) ce sl) : Go l R Z ws h0 Q κ S h pc Ls (.int j :: .ref a :: st) ce sl := by
  subst hpc
  obtain ⟨p, e, s, m, args, below, meth, c⟩ := κ
  intro T locs X N eT I
  obtain ⟨hx, hby, hml, hown, hnm, hret, hlk, hZ⟩ := C
  obtain ⟨s₂, o, hs, r⟩ := k T _ X N eT I
  obtain ⟨_, A, q1, S1, q3, H, G⟩ := F
  exact ⟨s₂, o, X.baloadBytes hx (j := j) (by rw [eT]; exact A.1) (State.isArrayOf_alike hZ.alike A.2.1) A.2.2 (inb_of S1 hj) (H.at (inb_of S1 hj) hv) (g := mkF m pc Ls (.int j :: .ref a :: st)) rfl rfl (hb hby hd) _ hs, r⟩
theorem go_arraylength (C : Cx Z a0 y by0 ml rt κ) (pc' : Nat) {a : Addr} {kc : ClassId} {ty : FieldType} {n : Int32} {vs : List Value} {d : Value} (hd : decode by0 pc = .ok (.arraylength, 1)) (hpc : pc + 1 = pc') (F : Arv Z h a kc ty n vs d) (k : Go l R Z ws h0 Q κ S h pc' Ls (.int n :: st) ce sl) : Go l R Z ws h0 Q κ S h pc Ls (.ref a :: st) ce sl := by
  subst hpc
  obtain ⟨p, e, s, m, args, below, meth, c⟩ := κ
  intro T locs X N eT I
  obtain ⟨hx, hby, hml, hown, hnm, hret, hlk, hZ⟩ := C
  obtain ⟨s₂, o, hs, r⟩ := k T _ X N eT I
  obtain ⟨cl, A, q1, S1, q3, H, G⟩ := F
  rw [← len_of S1 q3] at hs
  exact ⟨s₂, o, X.arraylength hx (by rw [eT]; exact A.1) (State.isArrayOf_alike hZ.alike A.2.1) (g := mkF m pc Ls (.ref a :: st)) rfl rfl (hb hby hd) _ hs, r⟩
theorem go_goto (C : Cx Z a0 y by0 ml rt κ) {o : Int} {pc' : Nat} (hd : decode by0 pc = .ok (.goto o, 3))  (ho : 0 ≤ (pc : Int) + o) (hp : ((pc : Int) + o).toNat = pc') (k : Go l R Z ws h0 Q κ S h pc' Ls st ce sl) : Go l R Z ws h0 Q κ S h pc Ls st ce sl := by
  obtain ⟨p, e, s, m, args, below, meth, c⟩ := κ
  intro T locs X N eT I
  obtain ⟨hx, hby, hml, hown, hnm, hret, hlk, hZ⟩ := C
  obtain ⟨s₂, o, hs, r⟩ := k T _ X N eT I
  exact ⟨s₂, o, XS.goto X.here hx rfl (pc0 := pc) rfl (hb hby hd) ho hp hs, r⟩
theorem go_ifY (C : Cx Z a0 y by0 ml rt κ) {o : Int} {cd : ClassFile.Cond} {x : Int32} {pc' : Nat} (hd : decode by0 pc = .ok (.ifCond cd o, 3)) (hc : if_icmp.holds cd x 0 = true) (ho : 0 ≤ (pc : Int) + o) (hp : ((pc : Int) + o).toNat = pc') (k : Go l R Z ws h0 Q κ S h pc' Ls st ce sl) : Go l R Z ws h0 Q κ S h pc Ls (.int x :: st) ce sl := by
  obtain ⟨p, e, s, m, args, below, meth, c⟩ := κ
  intro T locs X N eT I
  obtain ⟨hx, hby, hml, hown, hnm, hret, hlk, hZ⟩ := C
  obtain ⟨s₂, o, hs, r⟩ := k T _ X N eT I
  exact ⟨s₂, o, XS.ifYes X.here hx rfl (pc0 := pc) rfl (hb hby hd) rfl ((if0 _ _).trans hc) ho hp hs, r⟩
theorem go_icmpY (C : Cx Z a0 y by0 ml rt κ) {o : Int} {cd : ClassFile.Cond} {x z : Int32} {pc' : Nat} (hd : decode by0 pc = .ok (.if_icmp cd o, 3)) (hc : if_icmp.holds cd x z = true) (ho : 0 ≤ (pc : Int) + o) (hp : ((pc : Int) + o).toNat = pc') (k : Go l R Z ws h0 Q κ S h pc' Ls st ce sl) : Go l R Z ws h0 Q κ S h pc Ls (.int z :: .int x :: st) ce sl := by
  obtain ⟨p, e, s, m, args, below, meth, c⟩ := κ
  intro T locs X N eT I
  obtain ⟨hx, hby, hml, hown, hnm, hret, hlk, hZ⟩ := C
  obtain ⟨s₂, o, hs, r⟩ := k T _ X N eT I
  exact ⟨s₂, o, XS.icmpYes X.here hx rfl (pc0 := pc) rfl (hb hby hd) rfl hc ho hp hs, r⟩
theorem go_ifnullY (C : Cx Z a0 y by0 ml rt κ) {o : Int} {pc' : Nat} (hd : decode by0 pc = .ok (.ifnull o, 3))  (ho : 0 ≤ (pc : Int) + o) (hp : ((pc : Int) + o).toNat = pc') (k : Go l R Z ws h0 Q κ S h pc' Ls st ce sl) : Go l R Z ws h0 Q κ S h pc Ls (.null :: st) ce sl := by
  obtain ⟨p, e, s, m, args, below, meth, c⟩ := κ
  intro T locs X N eT I
  obtain ⟨hx, hby, hml, hown, hnm, hret, hlk, hZ⟩ := C
  obtain ⟨s₂, o, hs, r⟩ := k T _ X N eT I
  exact ⟨s₂, o, XS.ifnullYes X.here hx rfl (pc0 := pc) rfl (hb hby hd) rfl ho hp hs, r⟩
theorem go_acmp (C : Cx Z a0 y by0 ml rt κ) {o : Int} {cd : ACond} {x z : Value} {b : Bool} {pc' : Nat} (hd : decode by0 pc = .ok (.if_acmp cd o, 3)) (h1 : x.isRef = true) (h2 : z.isRef = true) (hq : decide (x = z) = b) (ho : 0 ≤ (pc : Int) + o) (hp : pc' = if acV cd b = true then ((pc : Int) + o).toNat else pc + 3) (k : Go l R Z ws h0 Q κ S h pc' Ls st ce sl) : Go l R Z ws h0 Q κ S h pc Ls (z :: x :: st) ce sl := by
  obtain ⟨p, e, s, m, args, below, meth, c⟩ := κ
  intro T locs X N eT I
  obtain ⟨hx, hby, hml, hown, hnm, hret, hlk, hZ⟩ := C
  obtain ⟨s₂, o, hs, r⟩ := k T _ X N eT I
  exact ⟨s₂, o, Jvm.RoadKit.acmp (g := mkF m pc Ls (z :: x :: st)) X hx rfl h1 h2 (pc0 := pc) rfl (hb hby hd) rfl hq ho hp hs, r⟩
theorem go_getF (C : Cx Z a0 y by0 ml rt κ) (pc' : Nat) {ix : Nat} {R0 O n d : String} {a : Addr} {v : Value} (hd : decode by0 pc = .ok (.getfield ix, 3)) (hpc : pc + 3 = pc') (w : (Cond.fieldLink y.cls ix R0 n d).before a0 Z = true) (via : Via Z R0 O n d) (F : Fld Z h a O n d v) (k : Go l R Z ws h0 Q κ S h pc' Ls (v :: st) ce sl) : Go l R Z ws h0 Q κ S h pc Ls (.ref a :: st) ce sl := by
  subst hpc
  obtain ⟨p, e, s, m, args, below, meth, c⟩ := κ
  intro T locs X N eT I
  obtain ⟨hx, hby, hml, hown, hnm, hret, hlk, hZ⟩ := C
  obtain ⟨T', X', e', st'⟩ := getF X hx hZ hown (host := "") (Or.inl w) via eT F (g := mkF m pc Ls (.ref a :: st)) rfl rfl (hb hby hd)
  obtain ⟨s₂, o, hs, r⟩ := k T' _ X' N e' I
  exact ⟨s₂, o, st' _ hs, r⟩
theorem go_getS (C : Cx Z a0 y by0 ml rt κ) (pc' : Nat) {ix : Nat} {O n d : String} {v : Value} (hd : decode by0 pc = .ok (.getstatic ix, 3)) (hpc : pc + 3 = pc') (w : (Cond.fieldLink y.cls ix O n d).before a0 Z = true) (F : Sta Z Z.heap O n d v) (k : Go l R Z ws h0 Q κ S h pc' Ls (v :: st) ce sl) : Go l R Z ws h0 Q κ S h pc Ls st ce sl := by
  subst hpc
  obtain ⟨p, e, s, m, args, below, meth, c⟩ := κ
  intro T locs X N eT I
  obtain ⟨hx, hby, hml, hown, hnm, hret, hlk, hZ⟩ := C
  obtain ⟨T', X', e', st'⟩ := getS2 X hx hZ hown (host := "") (Or.inl w) Via.refl eT (F.ext I.1) (g := mkF m pc Ls st) rfl (hb hby hd)
  obtain ⟨s₂, o, hs, r⟩ := k T' _ X' N e' I
  exact ⟨s₂, o, st' _ hs, r⟩
theorem go_initO (C : Cx Z a0 y by0 ml rt κ) (pc' : Nat) {ix : Nat} {a : Addr} {W : Nat} (hd : decode by0 pc = .ok (.invokespecial ix, 3)) (hpc : pc + 3 = pc') (w1 : (Cond.methodLink y.cls ix Lib.objectInit).before a0 Z = true) (w2 : (Cond.instanceMethod Lib.objectInit).before a0 Z = true) (w3 : (Cond.code Lib.objectInit ⟨#[0xb1]⟩ 1 none).before a0 Z = true) (hls : Ls.size = ml) (hf : 1 ≤ R.frames) (hW : (st.map fun v => v.category).sum ≤ W) (hlo : W + 12 ≤ R.locals) (k : Go l R Z ws h0 Q κ S h pc' Ls st ce sl) : Go l R Z ws h0 Q κ S h pc Ls (.ref a :: st) ce sl := by
  subst hpc
  obtain ⟨p, e, s, m, args, below, meth, c⟩ := κ
  intro T locs X N eT I
  obtain ⟨hx, hby, hml, hown, hnm, hret, hlk, hZ⟩ := C
  obtain ⟨T', X', e', st'⟩ := initO X hx hZ hown w1 w2 w3 eT (g := mkF m pc Ls (.ref a :: st)) rfl (hls.trans hml.symm) rfl (hb hby hd) hf (W := W) (by show 2 * 0 + _ ≤ _; rw [Nat.mul_zero, Nat.zero_add]; exact hW) hlo
  obtain ⟨s₂, o, hs, r⟩ := k T' _ X' N e' I
  exact ⟨s₂, o, st' _ hs, r⟩
theorem go_putF (C : Cx Z a0 y by0 ml rt κ) (pc' : Nat) {ix kk : Nat} {R0 O n d Cn : String} {ty : FieldType} {a : Addr} {v old : Value} (hd : decode by0 pc = .ok (.putfield ix, 3)) (hpc : pc + 3 = pc') (w : (Cond.fieldLink y.cls ix R0 n d).before a0 Z = true) (via : Via Z R0 O n d) (F : Fld Z h a O n d old) (E : Exa Z h a Cn) (L : (Cond.lays Cn O n d).before a0 Z = true ∨ ((Cond.laysFinal Cn O n d).before a0 Z = true ∧ y.cls = O ∧ y.name = "<init>")) (wi : (Cond.instantiable Cn kk).before a0 Z = true) (hty : parseFieldDescriptor d = some ty) (hn : narrow ty v = v) (hf : fits ty v = true) (ha : a ∈ S) (k : ∀ h', Wr h h' a (RoadKit.slotOf Z O n d) v → Go l R Z ws h0 Q κ S h' pc' Ls st ce sl) : Go l R Z ws h0 Q κ S h pc Ls (v :: .ref a :: st) ce sl := by
  subst hpc
  obtain ⟨p, e, s, m, args, below, meth, c⟩ := κ
  intro T locs X N eT I
  obtain ⟨hx, hby, hml, hown, hnm, hret, hlk, hZ⟩ := C
  obtain ⟨T', h', X', e', W, st'⟩ := putF X hx hZ hown (host := "") (Or.inl w) via eT F E (L.imp id fun q => ⟨q.1, q.2.1, hnm.trans q.2.2⟩) wi hty hn hf (g := mkF m pc Ls (v :: .ref a :: st)) rfl rfl (hb hby hd)
  obtain ⟨s₂, o, hs, r⟩ := (k h' W) T' _ X' (fr_snoc N (I.2.2 _ ha).2.1) e' (I.wr W ha)
  exact ⟨s₂, o, st' _ hs, r⟩
theorem go_putFN (C : Cx Z a0 y by0 ml rt κ) (pc' : Nat) {ix kk : Nat} {R0 O n d Cn : String} {ty : FieldType} {a : Addr} {v v' old : Value} (hd : decode by0 pc = .ok (.putfield ix, 3)) (hpc : pc + 3 = pc') (w : (Cond.fieldLink y.cls ix R0 n d).before a0 Z = true) (via : Via Z R0 O n d) (F : Fld Z h a O n d old) (E : Exa Z h a Cn) (L : (Cond.lays Cn O n d).before a0 Z = true ∨ ((Cond.laysFinal Cn O n d).before a0 Z = true ∧ y.cls = O ∧ y.name = "<init>")) (wi : (Cond.instantiable Cn kk).before a0 Z = true) (hty : parseFieldDescriptor d = some ty) (hn : narrow ty v = v') (hf : fits ty v' = true) (ha : a ∈ S) (k : ∀ h', Wr h h' a (RoadKit.slotOf Z O n d) v' → Go l R Z ws h0 Q κ S h' pc' Ls st ce sl) : Go l R Z ws h0 Q κ S h pc Ls (v :: .ref a :: st) ce sl := by
  subst hpc
  obtain ⟨p, e, s, m, args, below, meth, c⟩ := κ
  intro T locs X N eT I
  obtain ⟨hx, hby, hml, hown, hnm, hret, hlk, hZ⟩ := C
  obtain ⟨T', h', X', e', W, st'⟩ := putFN X hx hZ hown w via eT F E (L.imp id fun q => ⟨q.1, q.2.1, hnm.trans q.2.2⟩) wi hty hn hf (g := mkF m pc Ls (v :: .ref a :: st)) rfl rfl (hb hby hd)
  obtain ⟨s₂, o, hs, r⟩ := (k h' W) T' _ X' (fr_snoc N (I.2.2 _ ha).2.1) e' (I.wr W ha)
  exact ⟨s₂, o, st' _ hs, r⟩
theorem go_new (C : Cx Z a0 y by0 ml rt κ) (pc' ce' sl' : Nat) {ix n : Nat} {Cn : String} (hd : decode by0 pc = .ok (.new ix, 3)) (hce : ce + 1 = ce') (hsl' : sl + n = sl') (hpc : pc + 3 = pc') (w : (Cond.classLink y.cls ix Cn).before a0 Z = true) (wi : (Cond.instantiable Cn n).before a0 Z = true) (wz : (Cond.initialized Cn).before a0 Z = true) (hc : ce + 1 ≤ R.cells) (hsl : sl + n ≤ R.slots) (k : ∀ (a : Addr) h', a = h.size → Ext h h' → Exa Z h' a Cn → (∀ {O nm d : String} {ty : FieldType}, Laid Z a0 Cn O nm d → parseFieldDescriptor d = some ty → Fld Z h' a O nm d (defaultValue ty)) → Go l R Z ws h0 Q κ (a :: S) h' pc' Ls (.ref a :: st) ce' sl') : Go l R Z ws h0 Q κ S h pc Ls st ce sl := by
  subst hpc hce hsl'
  obtain ⟨p, e, s, m, args, below, meth, c⟩ := κ
  intro T locs X N eT I
  obtain ⟨hx, hby, hml, hown, hnm, hret, hlk, hZ⟩ := C
  obtain ⟨T', h', X', e', E, A, D, -, st'⟩ := newO X hx hZ hown w wi wz eT (g := mkF m pc Ls st) rfl (hb hby hd) hc hsl
  obtain ⟨s₂, o, hs, r⟩ := (k _ h' rfl E A @D) T' _ X' N e' (I.new E A.lt)
  exact ⟨s₂, o, st' _ hs, r⟩
theorem go_newP (C : Cx Z a0 y by0 ml rt κ) (pc' ce' sl' : Nat) {aty : ArrayType} {ty : FieldType} {n : Int32} {cap : Nat} (hd : decode by0 pc = .ok (.newarray aty, 2)) (hce : ce + 1 = ce') (hsl' : sl + cap = sl') (hpc : pc + 2 = pc') (hty : newarray.typeOf aty = ty) (w : (Cond.arrayClass ty).before a0 Z = true) (hn : ¬ n < 0) (hcap : n.toNatClampNeg ≤ cap) (hbig : cap * 8 ≤ 536870912) (hc : ce + 1 ≤ R.cells) (hsl : sl + cap ≤ R.slots) (k : ∀ (a : Addr) h' kc, a = h.size → Ext h h' → Arv Z h' a kc ty n (List.replicate n.toNatClampNeg (defaultValue ty)) (defaultValue ty) → Go l R Z ws h0 Q κ (a :: S) h' pc' Ls (.ref a :: st) ce' sl') : Go l R Z ws h0 Q κ S h pc Ls (.int n :: st) ce sl := by
  subst hpc hce hsl'
  subst hty
  obtain ⟨p, e, s, m, args, below, meth, c⟩ := κ
  intro T locs X N eT I
  obtain ⟨hx, hby, hml, hown, hnm, hret, hlk, hZ⟩ := C
  obtain ⟨T', h', kc, X', e', E, A, st'⟩ := newP X hx hZ w eT (g := mkF m pc Ls (.int n :: st)) rfl (hb hby hd) rfl hn hcap hbig hc hsl
  have V := (Arv.new A hn).pad (vs' := List.replicate n.toNatClampNeg (defaultValue (newarray.typeOf aty))) (pad_rep [] (defaultValue (newarray.typeOf aty)) n.toNatClampNeg)
  obtain ⟨s₂, o, hs, r⟩ := (k _ h' kc rfl E V) T' _ X' N e' (I.new E A.lt)
  exact ⟨s₂, o, st' _ hs, r⟩
theorem go_bastore (C : Cx Z a0 y by0 ml rt κ) (pc' : Nat) {a : Addr} {kc : ClassId} {n j x : Int32} {vs : List Value} {d : Value} (i : Nat) {v : Int32} (hv : nar .byte x = v) (hd : decode by0 pc = .ok (.bastore, 1)) (hpc : pc + 1 = pc') (F : Arv Z h a kc .byte n vs d) (hj : ¬ j < 0 ∧ j < n) (hi : j.toNatClampNeg = i) (hl : i < vs.length) (ha : a ∈ S) (k : ∀ h', Wr h h' a j.toNatClampNeg (.int v) → Arv Z h' a kc .byte n (vs.set i (.int v)) d → Go l R Z ws h0 Q κ S h' pc' Ls st ce sl) : Go l R Z ws h0 Q κ S h pc Ls (.int x :: .int j :: .ref a :: st) ce sl := by
  subst hv hpc
  obtain ⟨p, e, s, m, args, below, meth, c⟩ := κ
  intro T locs X N eT I
  obtain ⟨hx, hby, hml, hown, hnm, hret, hlk, hZ⟩ := C
  obtain ⟨cl, A, q1, S1, q3, H, G⟩ := F
  obtain ⟨T', h', X', e', W, st'⟩ := stB X hx hZ eT A (inb_of S1 hj) (g := mkF m pc Ls (.int x :: .int j :: .ref a :: st)) rfl rfl (hb hby hd)
  have V := Arv.set A q1 S1 q3 H G (fits_nar_byte _) W i hi hl
  obtain ⟨s₂, o, hs, r⟩ := (k h' W V) T' _ X' (fr_snoc N (I.2.2 _ ha).2.1) e' (I.wr W ha)
  exact ⟨s₂, o, st' _ hs, r⟩
theorem go_ret (C : Cx Z a0 y by0 ml rt κ) (hd : decode by0 pc = .ok (.return_, 1)) (hrt : rt = none) (hc : ce ≤ R.cells) (hsl : sl ≤ R.slots) (hq : Q none h) : Go l R Z ws h0 Q κ S h pc Ls [] ce sl := by
  obtain ⟨p, e, s, m, args, below, meth, c⟩ := κ
  intro T locs X N eT I
  obtain ⟨hx, hby, hml, hown, hnm, hret, hlk, hZ⟩ := C
  obtain ⟨fs, hr, hrun, hended, hW, hsame⟩ := X.leave (v := none) (fun _ => rfl) hlk
  have hq' : Keep h0 (T.setFrames fs).heap ws ∧ Q (none) (T.setFrames fs).heap := by
    show Keep h0 T.heap ws ∧ Q _ T.heap
    rw [eT]; exact ⟨I.2.1, hq⟩
  exact ⟨_, _, X.returnOut hx (hret.trans hrt) (hb hby hd) hr, hrun, hended, _, _, rfl, ⟨hq'.1, hq'.2, N⟩, ⟨_, rfl⟩, hW, hsame.mono hc hsl⟩
theorem go_retN (C : Cx Z a0 y by0 ml rt κ) {t : FieldType} {x z : Int32} (hd : decode by0 pc = .ok (.ireturn, 1)) (hrt : rt = some t) (ht : t = .boolean ∨ t = .byte ∨ t = .char ∨ t = .short) (hz : nar t x = z) (hc : ce ≤ R.cells) (hsl : sl ≤ R.slots) (hq : Q (some (.int z)) h) : Go l R Z ws h0 Q κ S h pc Ls (.int x :: st) ce sl := by
  subst hz
  obtain ⟨p, e, s, m, args, below, meth, c⟩ := κ
  intro T locs X N eT I
  obtain ⟨hx, hby, hml, hown, hnm, hret, hlk, hZ⟩ := C
  obtain ⟨fs, hr, hrun, hended, hW, hsame⟩ := X.leave (v := some (.int (nar t x))) (fun q => by rw [hret, hrt] at q; cases q) hlk
  have hq' : Keep h0 (T.setFrames fs).heap ws ∧ Q (some (.int (nar t x))) (T.setFrames fs).heap := by
    show Keep h0 T.heap ws ∧ Q _ T.heap
    rw [eT]; exact ⟨I.2.1, hq⟩
  exact ⟨_, _, retN X hx (hret.trans hrt) ht (hb hby hd) hr, hrun, hended, _, _, rfl, ⟨hq'.1, hq'.2, N⟩, ⟨_, rfl⟩, hW, hsame.mono hc hsl⟩
theorem go_retI (C : Cx Z a0 y by0 ml rt κ) {x : Int32} (hd : decode by0 pc = .ok (.ireturn, 1)) (hrt : rt = some .int) (hc : ce ≤ R.cells) (hsl : sl ≤ R.slots) (hq : Q (some (.int x)) h) : Go l R Z ws h0 Q κ S h pc Ls (.int x :: st) ce sl := by
  obtain ⟨p, e, s, m, args, below, meth, c⟩ := κ
  intro T locs X N eT I
  obtain ⟨hx, hby, hml, hown, hnm, hret, hlk, hZ⟩ := C
  obtain ⟨fs, hr, hrun, hended, hW, hsame⟩ := X.leave (v := some (.int x)) (fun q => by rw [hret, hrt] at q; cases q) hlk
  have hq' : Keep h0 (T.setFrames fs).heap ws ∧ Q (some (.int x)) (T.setFrames fs).heap := by
    show Keep h0 T.heap ws ∧ Q _ T.heap
    rw [eT]; exact ⟨I.2.1, hq⟩
  exact ⟨_, _, retOut X hx (hret.trans hrt) rfl (Or.inl ⟨rfl, Or.inl rfl, _, rfl⟩) (hb hby hd) hr, hrun, hended, _, _, rfl, ⟨hq'.1, hq'.2, N⟩, ⟨_, rfl⟩, hW, hsame.mono hc hsl⟩
theorem go_retA (C : Cx Z a0 y by0 ml rt κ) {v : Value} {t : FieldType} (hd : decode by0 pc = .ok (.areturn, 1)) (hrt : rt = some t) (ht : t.isReference = true) (hv : v.isRef = true) (hc : ce ≤ R.cells) (hsl : sl ≤ R.slots) (hq : Q (some v) h) : Go l R Z ws h0 Q κ S h pc Ls (v :: st) ce sl := by
  obtain ⟨p, e, s, m, args, below, meth, c⟩ := κ
  intro T locs X N eT I
  obtain ⟨hx, hby, hml, hown, hnm, hret, hlk, hZ⟩ := C
  obtain ⟨fs, hr, hrun, hended, hW, hsame⟩ := X.leave (v := some v) (fun q => by rw [hret, hrt] at q; cases q) hlk
  have hq' : Keep h0 (T.setFrames fs).heap ws ∧ Q (some v) (T.setFrames fs).heap := by
    show Keep h0 T.heap ws ∧ Q _ T.heap
    rw [eT]; exact ⟨I.2.1, hq⟩
  have hn : narrow t v = v := by cases t <;> first | (cases ht; done) | (cases v <;> first | rfl | cases hv)
  exact ⟨_, _, retOut X hx (hret.trans hrt) hn (Or.inr (Or.inr (Or.inr (Or.inr ⟨rfl, ht, hv⟩)))) (hb hby hd) hr, hrun, hended, _, _, rfl, ⟨hq'.1, hq'.2, N⟩, ⟨_, rfl⟩, hW, hsame.mono hc hsl⟩
theorem go_callS (C : Cx Z a0 y by0 ml rt κ) {z : MethodName} {fr lo cc ss : Nat} {ws' : List Addr} {Qz : Option Value → Heap → Prop} {ps : List FieldType} {rr : Option FieldType} {argsL : List Value} {ix W : Nat} (hd : decode by0 pc = .ok (.invokestatic ix, 3)) {bz : ByteArray} {mlz : Nat} {rtz : Option FieldType} (w1 : (Cond.methodLink y.cls ix z).before a0 Z = true) (w2 : (Cond.static z).before a0 Z = true) (wz : (Cond.initialized z.cls).before a0 Z = true) (wc : (Cond.code z bz mlz rtz).before a0 Z = true) (hy : z.cls ≠ "java/lang/invoke/MethodHandle" ∧ z.cls ≠ "java/lang/invoke/VarHandle") (hps : parseMethodDescriptor z.desc = some ⟨ps, rr⟩) (hM : Py l Z z fr lo cc ss argsL.toArray h ws' Qz) (hlen : argsL.length = ps.length) (hf : fr ≤ R.frames) (hW : (st.map fun v => v.category).sum ≤ W) (hlo : W + lo ≤ R.locals) (hls : Ls.size = ml) (hc : ce + cc ≤ R.cells) (hsl : sl + ss ≤ R.slots) (hws : ∀ x ∈ ws', x ∈ S) (k : ∀ v h', Keep h h' ws' → Qz v h' → ∃ bs, (∀ b ∈ bs, h.size ≤ b ∧ b < h'.size) ∧ Go l R Z ws h0 Q κ (bs ++ S) h' (pc + 3) Ls (v.toList ++ st) (ce + cc) (sl + ss)) : Go l R Z ws h0 Q κ S h pc Ls (argsL.reverse ++ st) ce sl := by
  obtain ⟨p, e, s, m, args, below, meth, c⟩ := κ
  intro T locs X N eT I
  obtain ⟨hx, hby, hml, hown, hnm, hret, hlk, hZ⟩ := C
  have hO := fun x hx => (⟨(I.2.2 x (hws x hx)).1, (I.2.2 x (hws x hx)).2.1⟩ : x < h.size ∧ Z.heap.size ≤ x)
  have hB := hM I.1 hO p e R below s args 3 W hZ hf hlo
  obtain ⟨v, _, ⟨T', L', k', n'⟩, -, X', ⟨Lc, hQ, l', y', z'⟩, st'⟩ := Jvm.LawKit.callS X hx hown (mvT hZ w1) (mvT hZ w2) (mvT hZ wz) (mvT hZ wc) hy hB (g := mkF m pc Ls (argsL.reverse ++ st)) rfl (hls.trans hml.symm) (argsL := argsL) (rest := st) (lenOf hps hlen) rfl (by show 2 * 0 + _ ≤ _; rw [Nat.mul_zero, Nat.zero_add]; exact hW) (hb hby hd) (fun _ _ => ⟨rfl, eT, hc, hsl⟩)
  dsimp only [Pt.U, Pt.locs, Pt.cells, Pt.slots] at X' l' y' z' st' hQ
  subst l' y' z'
  obtain ⟨K, hQ, N'⟩ := hQ
  have NN := Fr.app N N'
  obtain ⟨bs, hbs, kk⟩ := k v T'.heap K hQ
  obtain ⟨s₂, o, hs, r⟩ := kk T' _ X' NN rfl (I.add (I.keep K hws) hbs)
  exact ⟨s₂, o, st' _ hs, r⟩
theorem go_callI (C : Cx Z a0 y by0 ml rt κ) {z : MethodName} {fr lo cc ss : Nat} {ws' : List Addr} {Qz : Option Value → Heap → Prop} {ps : List FieldType} {rr : Option FieldType} {argsL : List Value} {ix W : Nat} {a : Addr} (hd : decode by0 pc = .ok (.invokespecial ix, 3)) {bz : ByteArray} {mlz : Nat} (hin : z.name = "<init>") (w1 : (Cond.methodLink y.cls ix z).before a0 Z = true) (w2 : (Cond.instanceMethod z).before a0 Z = true) (wc : (Cond.code z bz mlz none).before a0 Z = true) (hy : z.cls ≠ "java/lang/invoke/MethodHandle" ∧ z.cls ≠ "java/lang/invoke/VarHandle") (hps : parseMethodDescriptor z.desc = some ⟨ps, rr⟩) (hM : Py l Z z fr lo cc ss (.ref a :: argsL).toArray h ws' Qz) (hlen : argsL.length = ps.length) (hf : fr ≤ R.frames) (hW : (st.map fun v => v.category).sum ≤ W) (hlo : W + lo ≤ R.locals) (hls : Ls.size = ml) (hc : ce + cc ≤ R.cells) (hsl : sl + ss ≤ R.slots) (hws : ∀ x ∈ ws', x ∈ S) (k : ∀ v h', Keep h h' ws' → Qz v h' → ∃ bs, (∀ b ∈ bs, h.size ≤ b ∧ b < h'.size) ∧ Go l R Z ws h0 Q κ (bs ++ S) h' (pc + 3) Ls (v.toList ++ st) (ce + cc) (sl + ss)) : Go l R Z ws h0 Q κ S h pc Ls (argsL.reverse ++ .ref a :: st) ce sl := by
  obtain ⟨p, e, s, m, args, below, meth, c⟩ := κ
  intro T locs X N eT I
  obtain ⟨hx, hby, hml, hown, hnm, hret, hlk, hZ⟩ := C
  have hO := fun x hx => (⟨(I.2.2 x (hws x hx)).1, (I.2.2 x (hws x hx)).2.1⟩ : x < h.size ∧ Z.heap.size ≤ x)
  have hB := hM I.1 hO p e R below s args 3 W hZ hf hlo
  obtain ⟨v, _, ⟨T', L', k', n'⟩, -, X', ⟨Lc, hQ, l', y', z'⟩, st'⟩ := X.specialBack hx hin hown (mvT hZ w1) (mvT hZ w2) (mvT hZ wc) hy hB (g := mkF m pc Ls (argsL.reverse ++ Value.ref a :: st)) rfl (hls.trans hml.symm) (Steps.refl _) (a := a) (argsL := argsL) (rest := st) (lenOf hps hlen) rfl (by show 2 * 0 + _ ≤ _; rw [Nat.mul_zero, Nat.zero_add]; exact hW) (hb hby hd) (fun _ _ => ⟨rfl, eT, hc, hsl⟩)
  dsimp only [Pt.U, Pt.locs, Pt.cells, Pt.slots] at X' l' y' z' st' hQ
  subst l' y' z'
  obtain ⟨K, hQ, N'⟩ := hQ
  have NN := Fr.app N N'
  obtain ⟨bs, hbs, kk⟩ := k v T'.heap K hQ
  obtain ⟨s₂, o, hs, r⟩ := kk T' _ X' NN rfl (I.add (I.keep K hws) hbs)
  exact ⟨s₂, o, st'.trans hs, r⟩
theorem go_callV (C : Cx Z a0 y by0 ml rt κ) {z : MethodName} {fr lo cc ss : Nat} {ws' : List Addr} {Qz : Option Value → Heap → Prop} {ps : List FieldType} {rr : Option FieldType} {argsL : List Value} {ix W : Nat} {a : Addr} (hd : decode by0 pc = .ok (.invokevirtual ix, 3)) {y1 : MethodName} {Cn : String} (w1 : (Cond.methodLink y.cls ix y1).before a0 Z = true) (w2 : (Cond.declares y1).before a0 Z = true) (nf : ∀ (s : State), Z.Warmed39 s.vm → NotFace s y1) (w3 : (Cond.selects Cn y1 z).before a0 Z = true) (w4 : (Cond.instanceMethod z).before a0 Z = true) (EX : Exa Z h a Cn) (hy : y1.cls ≠ "java/lang/invoke/MethodHandle" ∧ y1.cls ≠ "java/lang/invoke/VarHandle") (hps : parseMethodDescriptor y1.desc = some ⟨ps, rr⟩) (hM : Py l Z z fr lo cc ss (.ref a :: argsL).toArray h ws' Qz) (hlen : argsL.length = ps.length) (hf : fr ≤ R.frames) (hW : (st.map fun v => v.category).sum ≤ W) (hlo : W + lo ≤ R.locals) (hls : Ls.size = ml) (hc : ce + cc ≤ R.cells) (hsl : sl + ss ≤ R.slots) (hws : ∀ x ∈ ws', x ∈ S) (k : ∀ v h', Keep h h' ws' → Qz v h' → ∃ bs, (∀ b ∈ bs, h.size ≤ b ∧ b < h'.size) ∧ Go l R Z ws h0 Q κ (bs ++ S) h' (pc + 3) Ls (v.toList ++ st) (ce + cc) (sl + ss)) : Go l R Z ws h0 Q κ S h pc Ls (argsL.reverse ++ .ref a :: st) ce sl := by
  obtain ⟨p, e, s, m, args, below, meth, c⟩ := κ
  intro T locs X N eT I
  obtain ⟨hx, hby, hml, hown, hnm, hret, hlk, hZ⟩ := C
  have hO := fun x hx => (⟨(I.2.2 x (hws x hx)).1, (I.2.2 x (hws x hx)).2.1⟩ : x < h.size ∧ Z.heap.size ≤ x)
  have hB := hM I.1 hO p e R below s args 3 W hZ hf hlo
  obtain ⟨v, _, ⟨T', L', k', n'⟩, -, X', ⟨Lc, hQ, l', y', z'⟩, st'⟩ := (let ⟨cq, kq, qa, qb, qc⟩ := isOf hZ eT EX; X.virtualBack hx hown (mvT hZ w1) (mvT hZ w2) (nf _ hZ) (mvT hZ w3) (mvT hZ w4) hy hB qa qc (g := mkF m pc Ls (argsL.reverse ++ Value.ref a :: st)) rfl (hls.trans hml.symm) (Steps.refl _) (argsL := argsL) (rest := st) (lenOf hps hlen) rfl (by show 2 * 0 + _ ≤ _; rw [Nat.mul_zero, Nat.zero_add]; exact hW) (hb hby hd) (fun _ _ => ⟨rfl, eT, hc, hsl⟩))
  dsimp only [Pt.U, Pt.locs, Pt.cells, Pt.slots] at X' l' y' z' st' hQ
  subst l' y' z'
  obtain ⟨K, hQ, N'⟩ := hQ
  have NN := Fr.app N N'
  obtain ⟨bs, hbs, kk⟩ := k v T'.heap K hQ
  obtain ⟨s₂, o, hs, r⟩ := kk T' _ X' NN rfl (I.add (I.keep K hws) hbs)
  exact ⟨s₂, o, st'.trans hs, r⟩
end StepsN
def IW (Z : State) (EL : List (String × Nat)) (own : String) (s : State) (m : MethodId) (h0 : Heap) (S : List Addr) (h : Heap) (vm0 : Vm) (k0 : Nat) : Prop :=
  s.Since vm0 k0 ∧ k0 ≤ h.size ∧ Z.Warmed39 vm0 ∧ vm0.findClass own = some m.cls ∧ CHr Z EL s.vm h0 vm0 h ∧ ∀ x ∈ S, Safe Z EL vm0 h x
section IWLaws
variable {Z s : State} {EL : List (String × Nat)} {own : String} {m : MethodId} {ws' S bs : List Addr} {h0 h h' : Heap} {a : Addr} {i : Nat} {v : Value} {vm0 : Vm} {k0 : Nat}
theorem IW.ext (J : IW Z EL own s m h0 S h vm0 k0) (E : Ext h h') : IW Z EL own s m h0 S h' vm0 k0 :=
  ⟨J.1, Nat.le_trans J.2.1 E.1, J.2.2.1, J.2.2.2.1, J.2.2.2.2.1.trans (CHr.ext E J.2.2.2.2.1.1), fun x hx => Safe.ext E J.2.2.2.2.1.1 (J.2.2.2.2.2 x hx)⟩
theorem IW.new (J : IW Z EL own s m h0 S h vm0 k0) (E : Ext h h') : IW Z EL own s m h0 (h.size :: S) h' vm0 k0 :=
  ⟨J.1, Nat.le_trans J.2.1 E.1, J.2.2.1, J.2.2.2.1, J.2.2.2.2.1.trans (CHr.ext E J.2.2.2.2.1.1), fun x hx => by
    rcases List.mem_cons.mp hx with rfl | hx
    · exact Safe.ext E J.2.2.2.2.1.1 (Safe.new (Nat.le_refl _))
    · exact Safe.ext E J.2.2.2.2.1.1 (J.2.2.2.2.2 x hx)⟩
theorem IW.wr (J : IW Z EL own s m h0 S h vm0 k0) (W : Wr h h' a i v) (ha : a ∈ S) : IW Z EL own s m h0 S h' vm0 k0 :=
  ⟨J.1, Nat.le_trans J.2.1 (Nat.le_of_eq W.size.symm), J.2.2.1, J.2.2.2.1, J.2.2.2.2.1.trans (CHr.wr W (J.2.2.2.2.2 a ha) J.2.2.2.2.1.1), fun x hx => Safe.wr W (J.2.2.2.2.2 a ha) J.2.2.2.2.1.1 (J.2.2.2.2.2 x hx)⟩
theorem IW.keep (J : IW Z EL own s m h0 S h vm0 k0) (K : Keep h h' ws') (hs : ∀ x ∈ ws', x ∈ S) : IW Z EL own s m h0 S h' vm0 k0 :=
  ⟨J.1, Nat.le_trans J.2.1 K.1, J.2.2.1, J.2.2.2.1, J.2.2.2.2.1.trans (CHr.keep K (fun x hx => J.2.2.2.2.2 x (hs x hx)) J.2.2.2.2.1.1), fun x hx => Safe.keep K (fun x hx => J.2.2.2.2.2 x (hs x hx)) J.2.2.2.2.1.1 (J.2.2.2.2.2 x hx)⟩
theorem IW.add (J : IW Z EL own s m h0 S h vm0 k0) (K : Keep h h' ws') (hs : ∀ x ∈ ws', x ∈ S) (hb : ∀ b ∈ bs, h.size ≤ b ∧ b < h'.size) : IW Z EL own s m h0 (bs ++ S) h' vm0 k0 :=
  have J' := J.keep K hs
  ⟨J'.1, J'.2.1, J'.2.2.1, J'.2.2.2.1, J'.2.2.2.2.1, fun x hx => (List.mem_append.mp hx).elim (fun q => Safe.keep K (fun x hx => J.2.2.2.2.2 x (hs x hx)) J.2.2.2.2.1.1 (Safe.new (hb x q).1)) (fun q => J'.2.2.2.2.2 x q)⟩
end IWLaws
def GoW (l : Launch) (R : Room) (Z : State) (EL : List (String × Nat)) (own : String) (ws : List Addr) (h0 : Heap) (Q : Option Value → Heap → Prop) (κ : Kx) (S : List Addr) (h : Heap) (pc : Nat) (Ls : Array Slot) (st : List Value) (ce sl : Nat) : Prop := match κ with
  | (p, e, s, m, args, below, meth, c) => ∀ vm0 k0 T locs, Stand p l e R (s.setVm vm0) m args below meth c T locs ce sl → Fr Z.heap.size locs → T.heap = h → Inv Z ws h0 S h → IW Z EL own s m h0 S h vm0 k0 →
    ∃ s₂ o, Steps p.tables e below (T.setTop (mkF m pc Ls st)) s₂ ∧ s₂.status = .running ∧ Ended s₂ below o ∧ ∃ v L, o = .returned v ∧ (Keep h0 s₂.heap ws ∧ Q v s₂.heap ∧ Fr Z.heap.size L) ∧ CHr Z EL s.vm h0 s₂.vm s₂.heap ∧ ReturnedEndW s o s₂ L R.cells R.slots
/-- the contract of a body that may intern -/
def CtW (l : Launch) (Z : State) (EL : List (String × Nat)) (y : MethodName) (by0 : ByteArray) (ml : Nat) (rt : Option FieldType) (rm : Room) (as : Array Value) (h0 : Heap) (ws : List Addr) (Q : Option Value → Heap → Prop) : Prop :=
  Ext Z.heap h0 → (∀ x ∈ ws, x < h0.size ∧ Z.heap.size ≤ x) → ∀ tw : List Jvm.Cond, MetFree l y (head1 (Jvm.Cond.code y by0 ml rt :: tw) rm) (fun a U => a = as ∧ Z.Warmed39 U.vm ∧ U.heap = h0 ∧ CHv Z EL U.vm h0 ∧ ∀ x ∈ ws, Safe Z EL U.vm h0 x) (fun _ _ _ _ _ => True)
    (fun _ U o U' => ∃ v L, o = .returned v ∧ (Keep h0 U'.heap ws ∧ Q v U'.heap ∧ Fr Z.heap.size L) ∧ CHr Z EL U.vm h0 U'.vm U'.heap ∧ ReturnedEndW U o U' L rm.cells rm.slots)
theorem CtW.mk {l : Launch} {Z : State} {EL : List (String × Nat)} {a0 : Array Value} {y : MethodName} {by0 : ByteArray} {ml : Nat} {rt : Option FieldType} {rm : Room} {as : Array Value} {h0 : Heap} {ws : List Addr} {Q : Option Value → Heap → Prop} {Ls : Array Slot} (hpl : plainFor y = true) (hef : ∀ m, entryFrame m as ml = mkF m 0 Ls [])
    (k : ∀ κ, Cx Z a0 y by0 ml rt κ → GoW l rm Z EL y.cls ws h0 Q κ ws h0 0 Ls [] 0 0) : CtW l Z EL y by0 ml rt rm as h0 ws Q := by
  intro hO hws tw
  refine MetFree.of_bodySF hpl hisR ?_
  intro p e s m args below meth c s₁ Bd hml0 hP hK
  obtain ⟨rfl, hZ, hh, hCH, hSf⟩ := hP
  have X0 : Stand p l e rm s m args below meth c s₁ [] 0 0 := Stand.of_body Bd
  have e0 : s₁.heap = h0 := by rw [← hh, Bd.state]; rfl
  have hown := findClass_of_methodNamed Bd.named
  obtain ⟨s₂, o, hs, r⟩ := k (p, e, s, m, args, below, meth, c) ⟨Bd.exec, Bd.bytes, hml0, hown, (name_of_methodNamed Bd.named Bd.method).1, Bd.returns, BodyLoose.notSynchronized Bd, hZ⟩ s.vm 0 s₁ [] X0 (Fr.nil _) e0
    ⟨hO, Keep.refl _ _, fun x hx => ⟨(hws x hx).1, (hws x hx).2, Or.inl hx⟩⟩ ⟨(State.WarmedH.refl s).since 0, Nat.zero_le _, hZ, hown, CHr.refl hCH, hSf⟩
  exact ⟨s₂, o, castTop (hef m) hs, r⟩
/-- what a call of a body costs that may intern -/
def PyW (l : Launch) (Z : State) (EL : List (String × Nat)) (a0 : Array Value) (z : MethodName) (fr lo cc ss : Nat) (as : Array Value) (h : Heap) (ws : List Addr) (Q : Option Value → Heap → Prop) : Prop :=
  Ext Z.heap h → (∀ x ∈ ws, x < h.size ∧ Z.heap.size ≤ x) → EW Z a0 EL → ∀ (p : Program) (e : Env) (R : Room) (below : List Frame) (s : State) (vm0 : Vm) (args : Array Value) (len W : Nat), Z.Warmed39 vm0 → fr ≤ R.frames → W + lo ≤ R.locals → CHv Z EL vm0 h → (∀ x ∈ ws, Safe Z EL vm0 h x) →
    BackS l R p e below (s.setVm vm0) args z len W (fun A a => a = as ∧ A.U.heap = h ∧ A.cells + cc ≤ R.cells ∧ A.slots + ss ≤ R.slots)
      (fun A _ v B => ∃ L, (Keep h B.U.heap ws ∧ Q v B.U.heap ∧ Fr Z.heap.size L) ∧ B.locs = A.locs ++ L ∧ B.cells = A.cells + cc ∧ B.slots = A.slots + ss ∧ CHr Z EL vm0 h B.U.vm B.U.heap)
theorem CtW.py {l : Launch} {Z : State} {a0 : Array Value} {EL : List (String × Nat)} {h : Heap} {ws : List Addr} {y : MethodName} {by0 : ByteArray} {ml : Nat} {rt : Option FieldType} {rm : Room} {as : Array Value} {Q : Option Value → Heap → Prop}
    (hM : CtW l Z EL y by0 ml rt rm as h ws Q) (wc : (Cond.code y by0 ml rt).before a0 Z = true) (wz : (Cond.initialized y.cls).before a0 Z = true) : PyW l Z EL a0 y (rm.frames + 1) (ml + 11 + rm.locals) rm.cells rm.slots as h ws Q :=
  fun hO hws hEL p e R below s vm0 args len W hZ hf hl H hSf =>
  BackS.of_freeW (bytes := by0) (maxL := ml) (ret := rt) (E := fun _ first o t L k n => k = rm.cells ∧ n = rm.slots ∧ (∃ v, o = .returned v ∧ (Keep h t.heap ws ∧ Q v t.heap ∧ Fr Z.heap.size L)) ∧ CHr Z EL first.vm h t.vm t.heap) (hM hO hws []) hf (by rw [Nat.add_assoc]; exact hl)
    (fun m meth c A a Y hp => by
      have hU : Z.Warmed39 A.U.vm := wtrans (s := s.setVm vm0) hZ Y.warmed
      refine ⟨?_, mv hU wc, mv hU wz, hp.2.2.1, hp.2.2.2⟩
      show (Cond.and _ .tt).before a A.U = true
      rw [Cond.before_and, mv hU wc]; rfl)
    (fun m meth c A a g mk Y hp => by
      have q := CHv.at Y hZ hEL H
      exact ⟨hp.1, wtrans (s := s.setVm vm0) hZ Y.warmed, hp.2.1, q.1, fun x hx => q.safe (hws x hx).1 (hSf x hx)⟩)
    (fun _ _ _ _ _ _ _ _ _ => trivial)
    (fun _ _ _ _ q => by obtain ⟨v, L, h1, h2, h3, h4⟩ := q; exact ⟨L, _, _, h4, rfl, rfl, ⟨v, h1, h2⟩, h3⟩)
    (fun m meth c A a g mk v t L k n Y hp _ _ q => by
      obtain ⟨e1, e2, ⟨v', e3, e4⟩, e5⟩ := q
      cases e3; subst e1 e2
      exact ⟨L, e4, rfl, rfl, rfl, (CHv.at Y hZ hEL H).trans e5⟩)
section StepsW
variable {Z : State} {a0 : Array Value} {y : MethodName} {by0 : ByteArray} {ml : Nat} {rt : Option FieldType} {l : Launch} {R : Room} {ws : List Addr} {h0 : Heap} {Q : Option Value → Heap → Prop} {κ : Kx} {S : List Addr} {h : Heap} {pc : Nat} {Ls : Array Slot} {st : List Value} {ce sl : Nat} {EL : List (String × Nat)}
theorem gw_iloadN (C : Cx Z a0 y by0 ml rt κ) (pc' : Nat) {j : Fin 4} {v : Int32} (hd : decode by0 pc = .ok (.iload_n j, 1)) (hpc : pc + 1 = pc') (hl : Ls[j.val]? = some (.val (.int v))) (k : GoW l R Z EL y.cls ws h0 Q κ S h pc' Ls (.int v :: st) ce sl) : GoW l R Z EL y.cls ws h0 Q κ S h pc Ls st ce sl := by
  subst hpc
  obtain ⟨p, e, s, m, args, below, meth, c⟩ := κ
  intro vm0 k0 T locs X N eT I J
  obtain ⟨hx, hby, hml, -, hnm, hret, hlk, -⟩ := C
  have hZ : Z.Warmed39 (s.setVm vm0).vm := J.2.2.1
  have hown : (s.setVm vm0).vm.findClass y.cls = some m.cls := J.2.2.2.1
  obtain ⟨s₂, o, hs, r⟩ := k vm0 k0 T _ X N eT I J
  exact ⟨s₂, o, XS.iloadN X.here hx rfl (hb hby hd) hl hs, r⟩
theorem gw_iload (C : Cx Z a0 y by0 ml rt κ) (pc' : Nat) {j : Nat} {v : Int32} (hd : decode by0 pc = .ok (.iload j, 2)) (hpc : pc + 2 = pc') (hl : Ls[j]? = some (.val (.int v))) (k : GoW l R Z EL y.cls ws h0 Q κ S h pc' Ls (.int v :: st) ce sl) : GoW l R Z EL y.cls ws h0 Q κ S h pc Ls st ce sl := by
  subst hpc
  obtain ⟨p, e, s, m, args, below, meth, c⟩ := κ
  intro vm0 k0 T locs X N eT I J
  obtain ⟨hx, hby, hml, -, hnm, hret, hlk, -⟩ := C
  have hZ : Z.Warmed39 (s.setVm vm0).vm := J.2.2.1
  have hown : (s.setVm vm0).vm.findClass y.cls = some m.cls := J.2.2.2.1
  obtain ⟨s₂, o, hs, r⟩ := k vm0 k0 T _ X N eT I J
  exact ⟨s₂, o, XS.iload X.here hx rfl (hb hby hd) hl hs, r⟩
theorem gw_aloadN (C : Cx Z a0 y by0 ml rt κ) (pc' : Nat) {j : Fin 4} {v : Value} (hd : decode by0 pc = .ok (.aload_n j, 1)) (hpc : pc + 1 = pc') (hl : Ls[j.val]? = some (.val v)) (hv : v.isRef = true) (k : GoW l R Z EL y.cls ws h0 Q κ S h pc' Ls (v :: st) ce sl) : GoW l R Z EL y.cls ws h0 Q κ S h pc Ls st ce sl := by
  subst hpc
  obtain ⟨p, e, s, m, args, below, meth, c⟩ := κ
  intro vm0 k0 T locs X N eT I J
  obtain ⟨hx, hby, hml, -, hnm, hret, hlk, -⟩ := C
  have hZ : Z.Warmed39 (s.setVm vm0).vm := J.2.2.1
  have hown : (s.setVm vm0).vm.findClass y.cls = some m.cls := J.2.2.2.1
  obtain ⟨s₂, o, hs, r⟩ := k vm0 k0 T _ X N eT I J
  exact ⟨s₂, o, XS.aloadN X.here hx rfl (hb hby hd) hl hv hs, r⟩
theorem gw_aload (C : Cx Z a0 y by0 ml rt κ) (pc' : Nat) {j : Nat} {v : Value} (hd : decode by0 pc = .ok (.aload j, 2)) (hpc : pc + 2 = pc') (hl : Ls[j]? = some (.val v)) (hv : v.isRef = true) (k : GoW l R Z EL y.cls ws h0 Q κ S h pc' Ls (v :: st) ce sl) : GoW l R Z EL y.cls ws h0 Q κ S h pc Ls st ce sl := by
  subst hpc
  obtain ⟨p, e, s, m, args, below, meth, c⟩ := κ
  intro vm0 k0 T locs X N eT I J
  obtain ⟨hx, hby, hml, -, hnm, hret, hlk, -⟩ := C
  have hZ : Z.Warmed39 (s.setVm vm0).vm := J.2.2.1
  have hown : (s.setVm vm0).vm.findClass y.cls = some m.cls := J.2.2.2.1
  obtain ⟨s₂, o, hs, r⟩ := k vm0 k0 T _ X N eT I J
  exact ⟨s₂, o, XS.aload X.here hx rfl (hb hby hd) hl hv hs, r⟩
theorem gw_iconst (C : Cx Z a0 y by0 ml rt κ) (pc' : Nat) {i : Int} (v : Int32) (hd : decode by0 pc = .ok (.iconst i, 1)) (hpc : pc + 1 = pc') (hv : Int32.ofInt i = v) (k : GoW l R Z EL y.cls ws h0 Q κ S h pc' Ls (.int v :: st) ce sl) : GoW l R Z EL y.cls ws h0 Q κ S h pc Ls st ce sl := by
  subst hpc
  obtain ⟨p, e, s, m, args, below, meth, c⟩ := κ
  intro vm0 k0 T locs X N eT I J
  obtain ⟨hx, hby, hml, -, hnm, hret, hlk, -⟩ := C
  have hZ : Z.Warmed39 (s.setVm vm0).vm := J.2.2.1
  have hown : (s.setVm vm0).vm.findClass y.cls = some m.cls := J.2.2.2.1
  obtain ⟨s₂, o, hs, r⟩ := k vm0 k0 T _ X N eT I J
  exact ⟨s₂, o, XT.iconstV X.here hx rfl v (hb hby hd) hv hs, r⟩
theorem gw_aconstNull (C : Cx Z a0 y by0 ml rt κ) (pc' : Nat)  (hd : decode by0 pc = .ok (.aconst_null, 1)) (hpc : pc + 1 = pc')  (k : GoW l R Z EL y.cls ws h0 Q κ S h pc' Ls (.null :: st) ce sl) : GoW l R Z EL y.cls ws h0 Q κ S h pc Ls st ce sl := by
  subst hpc
  obtain ⟨p, e, s, m, args, below, meth, c⟩ := κ
  intro vm0 k0 T locs X N eT I J
  obtain ⟨hx, hby, hml, -, hnm, hret, hlk, -⟩ := C
  have hZ : Z.Warmed39 (s.setVm vm0).vm := J.2.2.1
  have hown : (s.setVm vm0).vm.findClass y.cls = some m.cls := J.2.2.2.1
  obtain ⟨s₂, o, hs, r⟩ := k vm0 k0 T _ X N eT I J
  exact ⟨s₂, o, XS.aconstNull X.here hx rfl (hb hby hd) hs, r⟩
theorem gw_iand (C : Cx Z a0 y by0 ml rt κ) (pc' : Nat) {x z : Int32} (v : Int32) (hd : decode by0 pc = .ok (.iand, 1)) (hpc : pc + 1 = pc') (hv : x &&& z = v) (k : GoW l R Z EL y.cls ws h0 Q κ S h pc' Ls (.int v :: st) ce sl) : GoW l R Z EL y.cls ws h0 Q κ S h pc Ls (.int z :: .int x :: st) ce sl := by
  subst hpc
  subst hv
  obtain ⟨p, e, s, m, args, below, meth, c⟩ := κ
  intro vm0 k0 T locs X N eT I J
  obtain ⟨hx, hby, hml, -, hnm, hret, hlk, -⟩ := C
  have hZ : Z.Warmed39 (s.setVm vm0).vm := J.2.2.1
  have hown : (s.setVm vm0).vm.findClass y.cls = some m.cls := J.2.2.2.1
  obtain ⟨s₂, o, hs, r⟩ := k vm0 k0 T _ X N eT I J
  exact ⟨s₂, o, XS.iand X.here hx rfl (hb hby hd) rfl hs, r⟩
theorem gw_dup (C : Cx Z a0 y by0 ml rt κ) (pc' : Nat) {x : Value} (hd : decode by0 pc = .ok (.dup, 1)) (hpc : pc + 1 = pc') (hc : x.category = 1) (k : GoW l R Z EL y.cls ws h0 Q κ S h pc' Ls (x :: x :: st) ce sl) : GoW l R Z EL y.cls ws h0 Q κ S h pc Ls (x :: st) ce sl := by
  subst hpc
  obtain ⟨p, e, s, m, args, below, meth, c⟩ := κ
  intro vm0 k0 T locs X N eT I J
  obtain ⟨hx, hby, hml, -, hnm, hret, hlk, -⟩ := C
  have hZ : Z.Warmed39 (s.setVm vm0).vm := J.2.2.1
  have hown : (s.setVm vm0).vm.findClass y.cls = some m.cls := J.2.2.2.1
  obtain ⟨s₂, o, hs, r⟩ := k vm0 k0 T _ X N eT I J
  exact ⟨s₂, o, XS.dup X.here hx rfl (hb hby hd) rfl hc hs, r⟩
theorem gw_istore (C : Cx Z a0 y by0 ml rt κ) (pc' : Nat) {j : Nat} {x : Int32} {Ls' : Array Slot} (hd : decode by0 pc = .ok (.istore j, 2)) (hpc : pc + 2 = pc') (hl : storeLocals Ls j (.int x) = some Ls') (k : GoW l R Z EL y.cls ws h0 Q κ S h pc' Ls' st ce sl) : GoW l R Z EL y.cls ws h0 Q κ S h pc Ls (.int x :: st) ce sl := by
  subst hpc
  obtain ⟨p, e, s, m, args, below, meth, c⟩ := κ
  intro vm0 k0 T locs X N eT I J
  obtain ⟨hx, hby, hml, -, hnm, hret, hlk, -⟩ := C
  have hZ : Z.Warmed39 (s.setVm vm0).vm := J.2.2.1
  have hown : (s.setVm vm0).vm.findClass y.cls = some m.cls := J.2.2.2.1
  obtain ⟨s₂, o, hs, r⟩ := k vm0 k0 T _ X N eT I J
  exact ⟨s₂, o, XS.istore X.here hx rfl (hb hby hd) rfl hl hs, r⟩
theorem gw_astore (C : Cx Z a0 y by0 ml rt κ) (pc' : Nat) {j : Nat} {x : Value} {Ls' : Array Slot} (hd : decode by0 pc = .ok (.astore j, 2)) (hpc : pc + 2 = pc') (hv : x.isRef = true) (hl : storeLocals Ls j x = some Ls') (k : GoW l R Z EL y.cls ws h0 Q κ S h pc' Ls' st ce sl) : GoW l R Z EL y.cls ws h0 Q κ S h pc Ls (x :: st) ce sl := by
  subst hpc
  obtain ⟨p, e, s, m, args, below, meth, c⟩ := κ
  intro vm0 k0 T locs X N eT I J
  obtain ⟨hx, hby, hml, -, hnm, hret, hlk, -⟩ := C
  have hZ : Z.Warmed39 (s.setVm vm0).vm := J.2.2.1
  have hown : (s.setVm vm0).vm.findClass y.cls = some m.cls := J.2.2.2.1
  obtain ⟨s₂, o, hs, r⟩ := k vm0 k0 T _ X N eT I J
  exact ⟨s₂, o, XS.astore X.here hx rfl (hb hby hd) rfl hv hl hs, r⟩
theorem gw_ifN (C : Cx Z a0 y by0 ml rt κ) (pc' : Nat) {o : Int} {cd : ClassFile.Cond} {x : Int32} (hd : decode by0 pc = .ok (.ifCond cd o, 3)) (hpc : pc + 3 = pc') (hc : if_icmp.holds cd x 0 = false) (k : GoW l R Z EL y.cls ws h0 Q κ S h pc' Ls st ce sl) : GoW l R Z EL y.cls ws h0 Q κ S h pc Ls (.int x :: st) ce sl := by
  subst hpc
  obtain ⟨p, e, s, m, args, below, meth, c⟩ := κ
  intro vm0 k0 T locs X N eT I J
  obtain ⟨hx, hby, hml, -, hnm, hret, hlk, -⟩ := C
  have hZ : Z.Warmed39 (s.setVm vm0).vm := J.2.2.1
  have hown : (s.setVm vm0).vm.findClass y.cls = some m.cls := J.2.2.2.1
  obtain ⟨s₂, o, hs, r⟩ := k vm0 k0 T _ X N eT I J
  exact ⟨s₂, o, XS.ifNo X.here hx rfl (hb hby hd) rfl ((if0 _ _).trans hc) hs, r⟩
theorem gw_icmpN (C : Cx Z a0 y by0 ml rt κ) (pc' : Nat) {o : Int} {cd : ClassFile.Cond} {x z : Int32} (hd : decode by0 pc = .ok (.if_icmp cd o, 3)) (hpc : pc + 3 = pc') (hc : if_icmp.holds cd x z = false) (k : GoW l R Z EL y.cls ws h0 Q κ S h pc' Ls st ce sl) : GoW l R Z EL y.cls ws h0 Q κ S h pc Ls (.int z :: .int x :: st) ce sl := by
  subst hpc
  obtain ⟨p, e, s, m, args, below, meth, c⟩ := κ
  intro vm0 k0 T locs X N eT I J
  obtain ⟨hx, hby, hml, -, hnm, hret, hlk, -⟩ := C
  have hZ : Z.Warmed39 (s.setVm vm0).vm := J.2.2.1
  have hown : (s.setVm vm0).vm.findClass y.cls = some m.cls := J.2.2.2.1
  obtain ⟨s₂, o, hs, r⟩ := k vm0 k0 T _ X N eT I J
  exact ⟨s₂, o, XS.icmpNo X.here hx rfl (hb hby hd) rfl hc hs, r⟩
theorem gw_ifnullN (C : Cx Z a0 y by0 ml rt κ) (pc' : Nat) {o : Int} {b : Addr} (hd : decode by0 pc = .ok (.ifnull o, 3)) (hpc : pc + 3 = pc')  (k : GoW l R Z EL y.cls ws h0 Q κ S h pc' Ls st ce sl) : GoW l R Z EL y.cls ws h0 Q κ S h pc Ls (.ref b :: st) ce sl := by
  subst hpc
  obtain ⟨p, e, s, m, args, below, meth, c⟩ := κ
  intro vm0 k0 T locs X N eT I J
  obtain ⟨hx, hby, hml, -, hnm, hret, hlk, -⟩ := C
  have hZ : Z.Warmed39 (s.setVm vm0).vm := J.2.2.1
  have hown : (s.setVm vm0).vm.findClass y.cls = some m.cls := J.2.2.2.1
  obtain ⟨s₂, o, hs, r⟩ := k vm0 k0 T _ X N eT I J
  exact ⟨s₂, o, XS.ifnullNo X.here hx rfl (hb hby hd) rfl hs, r⟩
theorem gw_ifnonnullN (C : Cx Z a0 y by0 ml rt κ) (pc' : Nat) {o : Int} (hd : decode by0 pc = .ok (.ifnonnull o, 3)) (hpc : pc + 3 = pc')  (k : GoW l R Z EL y.cls ws h0 Q κ S h pc' Ls st ce sl) : GoW l R Z EL y.cls ws h0 Q κ S h pc Ls (.null :: st) ce sl := by
  subst hpc
  obtain ⟨p, e, s, m, args, below, meth, c⟩ := κ
  intro vm0 k0 T locs X N eT I J
  obtain ⟨hx, hby, hml, -, hnm, hret, hlk, -⟩ := C
  have hZ : Z.Warmed39 (s.setVm vm0).vm := J.2.2.1
  have hown : (s.setVm vm0).vm.findClass y.cls = some m.cls := J.2.2.2.1
  obtain ⟨s₂, o, hs, r⟩ := k vm0 k0 T _ X N eT I J
  exact ⟨s₂, o, XT.ifnonnullNo X.here hx rfl (hb hby hd) rfl hs, r⟩
theorem gw_arraylength (C : Cx Z a0 y by0 ml rt κ) (pc' : Nat) {a : Addr} {kc : ClassId} {ty : FieldType} {n : Int32} {vs : List Value} {d : Value} (hd : decode by0 pc = .ok (.arraylength, 1)) (hpc : pc + 1 = pc') (F : Arv Z h a kc ty n vs d) (k : GoW l R Z EL y.cls ws h0 Q κ S h pc' Ls (.int n :: st) ce sl) : GoW l R Z EL y.cls ws h0 Q κ S h pc Ls (.ref a :: st) ce sl := by
  subst hpc
  obtain ⟨p, e, s, m, args, below, meth, c⟩ := κ
  intro vm0 k0 T locs X N eT I J
  obtain ⟨hx, hby, hml, -, hnm, hret, hlk, -⟩ := C
  have hZ : Z.Warmed39 (s.setVm vm0).vm := J.2.2.1
  have hown : (s.setVm vm0).vm.findClass y.cls = some m.cls := J.2.2.2.1
  obtain ⟨s₂, o, hs, r⟩ := k vm0 k0 T _ X N eT I J
  obtain ⟨cl, A, q1, S1, q3, H, G⟩ := F
  rw [← len_of S1 q3] at hs
  exact ⟨s₂, o, X.arraylength hx (by rw [eT]; exact A.1) (State.isArrayOf_alike hZ.alike A.2.1) (g := mkF m pc Ls (.ref a :: st)) rfl rfl (hb hby hd) _ hs, r⟩
theorem gw_goto (C : Cx Z a0 y by0 ml rt κ) {o : Int} {pc' : Nat} (hd : decode by0 pc = .ok (.goto o, 3))  (ho : 0 ≤ (pc : Int) + o) (hp : ((pc : Int) + o).toNat = pc') (k : GoW l R Z EL y.cls ws h0 Q κ S h pc' Ls st ce sl) : GoW l R Z EL y.cls ws h0 Q κ S h pc Ls st ce sl := by
  obtain ⟨p, e, s, m, args, below, meth, c⟩ := κ
  intro vm0 k0 T locs X N eT I J
  obtain ⟨hx, hby, hml, -, hnm, hret, hlk, -⟩ := C
  have hZ : Z.Warmed39 (s.setVm vm0).vm := J.2.2.1
  have hown : (s.setVm vm0).vm.findClass y.cls = some m.cls := J.2.2.2.1
  obtain ⟨s₂, o, hs, r⟩ := k vm0 k0 T _ X N eT I J
  exact ⟨s₂, o, XS.goto X.here hx rfl (pc0 := pc) rfl (hb hby hd) ho hp hs, r⟩
theorem gw_ifY (C : Cx Z a0 y by0 ml rt κ) {o : Int} {cd : ClassFile.Cond} {x : Int32} {pc' : Nat} (hd : decode by0 pc = .ok (.ifCond cd o, 3)) (hc : if_icmp.holds cd x 0 = true) (ho : 0 ≤ (pc : Int) + o) (hp : ((pc : Int) + o).toNat = pc') (k : GoW l R Z EL y.cls ws h0 Q κ S h pc' Ls st ce sl) : GoW l R Z EL y.cls ws h0 Q κ S h pc Ls (.int x :: st) ce sl := by
  obtain ⟨p, e, s, m, args, below, meth, c⟩ := κ
  intro vm0 k0 T locs X N eT I J
  obtain ⟨hx, hby, hml, -, hnm, hret, hlk, -⟩ := C
  have hZ : Z.Warmed39 (s.setVm vm0).vm := J.2.2.1
  have hown : (s.setVm vm0).vm.findClass y.cls = some m.cls := J.2.2.2.1
  obtain ⟨s₂, o, hs, r⟩ := k vm0 k0 T _ X N eT I J
  exact ⟨s₂, o, XS.ifYes X.here hx rfl (pc0 := pc) rfl (hb hby hd) rfl ((if0 _ _).trans hc) ho hp hs, r⟩
theorem gw_icmpY (C : Cx Z a0 y by0 ml rt κ) {o : Int} {cd : ClassFile.Cond} {x z : Int32} {pc' : Nat} (hd : decode by0 pc = .ok (.if_icmp cd o, 3)) (hc : if_icmp.holds cd x z = true) (ho : 0 ≤ (pc : Int) + o) (hp : ((pc : Int) + o).toNat = pc') (k : GoW l R Z EL y.cls ws h0 Q κ S h pc' Ls st ce sl) : GoW l R Z EL y.cls ws h0 Q κ S h pc Ls (.int z :: .int x :: st) ce sl := by
  obtain ⟨p, e, s, m, args, below, meth, c⟩ := κ
  intro vm0 k0 T locs X N eT I J
  obtain ⟨hx, hby, hml, -, hnm, hret, hlk, -⟩ := C
  have hZ : Z.Warmed39 (s.setVm vm0).vm := J.2.2.1
  have hown : (s.setVm vm0).vm.findClass y.cls = some m.cls := J.2.2.2.1
  obtain ⟨s₂, o, hs, r⟩ := k vm0 k0 T _ X N eT I J
  exact ⟨s₂, o, XS.icmpYes X.here hx rfl (pc0 := pc) rfl (hb hby hd) rfl hc ho hp hs, r⟩
theorem gw_ifnullY (C : Cx Z a0 y by0 ml rt κ) {o : Int} {pc' : Nat} (hd : decode by0 pc = .ok (.ifnull o, 3))  (ho : 0 ≤ (pc : Int) + o) (hp : ((pc : Int) + o).toNat = pc') (k : GoW l R Z EL y.cls ws h0 Q κ S h pc' Ls st ce sl) : GoW l R Z EL y.cls ws h0 Q κ S h pc Ls (.null :: st) ce sl := by
  obtain ⟨p, e, s, m, args, below, meth, c⟩ := κ
  intro vm0 k0 T locs X N eT I J
  obtain ⟨hx, hby, hml, -, hnm, hret, hlk, -⟩ := C
  have hZ : Z.Warmed39 (s.setVm vm0).vm := J.2.2.1
  have hown : (s.setVm vm0).vm.findClass y.cls = some m.cls := J.2.2.2.1
  obtain ⟨s₂, o, hs, r⟩ := k vm0 k0 T _ X N eT I J
  exact ⟨s₂, o, XS.ifnullYes X.here hx rfl (pc0 := pc) rfl (hb hby hd) rfl ho hp hs, r⟩
theorem gw_ifnonnullY (C : Cx Z a0 y by0 ml rt κ) {o : Int} {b : Addr} {pc' : Nat} (hd : decode by0 pc = .ok (.ifnonnull o, 3))  (ho : 0 ≤ (pc : Int) + o) (hp : ((pc : Int) + o).toNat = pc') (k : GoW l R Z EL y.cls ws h0 Q κ S h pc' Ls st ce sl) : GoW l R Z EL y.cls ws h0 Q κ S h pc Ls (.ref b :: st) ce sl := by
  obtain ⟨p, e, s, m, args, below, meth, c⟩ := κ
  intro vm0 k0 T locs X N eT I J
  obtain ⟨hx, hby, hml, -, hnm, hret, hlk, -⟩ := C
  have hZ : Z.Warmed39 (s.setVm vm0).vm := J.2.2.1
  have hown : (s.setVm vm0).vm.findClass y.cls = some m.cls := J.2.2.2.1
  obtain ⟨s₂, o, hs, r⟩ := k vm0 k0 T _ X N eT I J
  exact ⟨s₂, o, XT.ifnonnullYes X.here hx rfl (pc0 := pc) rfl (hb hby hd) rfl ho hp hs, r⟩
theorem gw_acmp (C : Cx Z a0 y by0 ml rt κ) {o : Int} {cd : ACond} {x z : Value} {b : Bool} {pc' : Nat} (hd : decode by0 pc = .ok (.if_acmp cd o, 3)) (h1 : x.isRef = true) (h2 : z.isRef = true) (hq : decide (x = z) = b) (ho : 0 ≤ (pc : Int) + o) (hp : pc' = if acV cd b = true then ((pc : Int) + o).toNat else pc + 3) (k : GoW l R Z EL y.cls ws h0 Q κ S h pc' Ls st ce sl) : GoW l R Z EL y.cls ws h0 Q κ S h pc Ls (z :: x :: st) ce sl := by
  obtain ⟨p, e, s, m, args, below, meth, c⟩ := κ
  intro vm0 k0 T locs X N eT I J
  obtain ⟨hx, hby, hml, -, hnm, hret, hlk, -⟩ := C
  have hZ : Z.Warmed39 (s.setVm vm0).vm := J.2.2.1
  have hown : (s.setVm vm0).vm.findClass y.cls = some m.cls := J.2.2.2.1
  obtain ⟨s₂, o, hs, r⟩ := k vm0 k0 T _ X N eT I J
  exact ⟨s₂, o, Jvm.RoadKit.acmp (g := mkF m pc Ls (z :: x :: st)) X hx rfl h1 h2 (pc0 := pc) rfl (hb hby hd) rfl hq ho hp hs, r⟩
theorem gw_getF (C : Cx Z a0 y by0 ml rt κ) (pc' : Nat) {ix : Nat} {R0 O n d : String} {a : Addr} {v : Value} (hd : decode by0 pc = .ok (.getfield ix, 3)) (hpc : pc + 3 = pc') (w : (Cond.fieldLink y.cls ix R0 n d).before a0 Z = true) (via : Via Z R0 O n d) (F : Fld Z h a O n d v) (k : GoW l R Z EL y.cls ws h0 Q κ S h pc' Ls (v :: st) ce sl) : GoW l R Z EL y.cls ws h0 Q κ S h pc Ls (.ref a :: st) ce sl := by
  subst hpc
  obtain ⟨p, e, s, m, args, below, meth, c⟩ := κ
  intro vm0 k0 T locs X N eT I J
  obtain ⟨hx, hby, hml, -, hnm, hret, hlk, -⟩ := C
  have hZ : Z.Warmed39 (s.setVm vm0).vm := J.2.2.1
  have hown : (s.setVm vm0).vm.findClass y.cls = some m.cls := J.2.2.2.1
  obtain ⟨T', X', e', st'⟩ := getF X hx hZ hown (host := "") (Or.inl w) via eT F (g := mkF m pc Ls (.ref a :: st)) rfl rfl (hb hby hd)
  obtain ⟨s₂, o, hs, r⟩ := k vm0 k0 T' _ X' N e' I J
  exact ⟨s₂, o, st' _ hs, r⟩
theorem gw_getS (C : Cx Z a0 y by0 ml rt κ) (pc' : Nat) {ix : Nat} {O n d : String} {v : Value} (hd : decode by0 pc = .ok (.getstatic ix, 3)) (hpc : pc + 3 = pc') (w : (Cond.fieldLink y.cls ix O n d).before a0 Z = true) (F : Sta Z Z.heap O n d v) (k : GoW l R Z EL y.cls ws h0 Q κ S h pc' Ls (v :: st) ce sl) : GoW l R Z EL y.cls ws h0 Q κ S h pc Ls st ce sl := by
  subst hpc
  obtain ⟨p, e, s, m, args, below, meth, c⟩ := κ
  intro vm0 k0 T locs X N eT I J
  obtain ⟨hx, hby, hml, -, hnm, hret, hlk, -⟩ := C
  have hZ : Z.Warmed39 (s.setVm vm0).vm := J.2.2.1
  have hown : (s.setVm vm0).vm.findClass y.cls = some m.cls := J.2.2.2.1
  obtain ⟨T', X', e', st'⟩ := getS2 X hx hZ hown (host := "") (Or.inl w) Via.refl eT (F.ext I.1) (g := mkF m pc Ls st) rfl (hb hby hd)
  obtain ⟨s₂, o, hs, r⟩ := k vm0 k0 T' _ X' N e' I J
  exact ⟨s₂, o, st' _ hs, r⟩
theorem gw_initO (C : Cx Z a0 y by0 ml rt κ) (pc' : Nat) {ix : Nat} {a : Addr} {W : Nat} (hd : decode by0 pc = .ok (.invokespecial ix, 3)) (hpc : pc + 3 = pc') (w1 : (Cond.methodLink y.cls ix Lib.objectInit).before a0 Z = true) (w2 : (Cond.instanceMethod Lib.objectInit).before a0 Z = true) (w3 : (Cond.code Lib.objectInit ⟨#[0xb1]⟩ 1 none).before a0 Z = true) (hls : Ls.size = ml) (hf : 1 ≤ R.frames) (hW : (st.map fun v => v.category).sum ≤ W) (hlo : W + 12 ≤ R.locals) (k : GoW l R Z EL y.cls ws h0 Q κ S h pc' Ls st ce sl) : GoW l R Z EL y.cls ws h0 Q κ S h pc Ls (.ref a :: st) ce sl := by
  subst hpc
  obtain ⟨p, e, s, m, args, below, meth, c⟩ := κ
  intro vm0 k0 T locs X N eT I J
  obtain ⟨hx, hby, hml, -, hnm, hret, hlk, -⟩ := C
  have hZ : Z.Warmed39 (s.setVm vm0).vm := J.2.2.1
  have hown : (s.setVm vm0).vm.findClass y.cls = some m.cls := J.2.2.2.1
  obtain ⟨T', X', e', st'⟩ := initO X hx hZ hown w1 w2 w3 eT (g := mkF m pc Ls (.ref a :: st)) rfl (hls.trans hml.symm) rfl (hb hby hd) hf (W := W) (by show 2 * 0 + _ ≤ _; rw [Nat.mul_zero, Nat.zero_add]; exact hW) hlo
  obtain ⟨s₂, o, hs, r⟩ := k vm0 k0 T' _ X' N e' I J
  exact ⟨s₂, o, st' _ hs, r⟩
theorem gw_putF (C : Cx Z a0 y by0 ml rt κ) (pc' : Nat) {ix kk : Nat} {R0 O n d Cn : String} {ty : FieldType} {a : Addr} {v old : Value} (hd : decode by0 pc = .ok (.putfield ix, 3)) (hpc : pc + 3 = pc') (w : (Cond.fieldLink y.cls ix R0 n d).before a0 Z = true) (via : Via Z R0 O n d) (F : Fld Z h a O n d old) (E : Exa Z h a Cn) (L : (Cond.lays Cn O n d).before a0 Z = true ∨ ((Cond.laysFinal Cn O n d).before a0 Z = true ∧ y.cls = O ∧ y.name = "<init>")) (wi : (Cond.instantiable Cn kk).before a0 Z = true) (hty : parseFieldDescriptor d = some ty) (hn : narrow ty v = v) (hf : fits ty v = true) (ha : a ∈ S) (k : ∀ h', Wr h h' a (RoadKit.slotOf Z O n d) v → GoW l R Z EL y.cls ws h0 Q κ S h' pc' Ls st ce sl) : GoW l R Z EL y.cls ws h0 Q κ S h pc Ls (v :: .ref a :: st) ce sl := by
  subst hpc
  obtain ⟨p, e, s, m, args, below, meth, c⟩ := κ
  intro vm0 k0 T locs X N eT I J
  obtain ⟨hx, hby, hml, -, hnm, hret, hlk, -⟩ := C
  have hZ : Z.Warmed39 (s.setVm vm0).vm := J.2.2.1
  have hown : (s.setVm vm0).vm.findClass y.cls = some m.cls := J.2.2.2.1
  obtain ⟨T', h', X', e', W, st'⟩ := putF X hx hZ hown (host := "") (Or.inl w) via eT F E (L.imp id fun q => ⟨q.1, q.2.1, hnm.trans q.2.2⟩) wi hty hn hf (g := mkF m pc Ls (v :: .ref a :: st)) rfl rfl (hb hby hd)
  obtain ⟨s₂, o, hs, r⟩ := (k h' W) vm0 k0 T' _ X' (fr_snoc N (I.2.2 _ ha).2.1) e' (I.wr W ha) (J.wr W ha)
  exact ⟨s₂, o, st' _ hs, r⟩
theorem gw_putFN (C : Cx Z a0 y by0 ml rt κ) (pc' : Nat) {ix kk : Nat} {R0 O n d Cn : String} {ty : FieldType} {a : Addr} {v v' old : Value} (hd : decode by0 pc = .ok (.putfield ix, 3)) (hpc : pc + 3 = pc') (w : (Cond.fieldLink y.cls ix R0 n d).before a0 Z = true) (via : Via Z R0 O n d) (F : Fld Z h a O n d old) (E : Exa Z h a Cn) (L : (Cond.lays Cn O n d).before a0 Z = true ∨ ((Cond.laysFinal Cn O n d).before a0 Z = true ∧ y.cls = O ∧ y.name = "<init>")) (wi : (Cond.instantiable Cn kk).before a0 Z = true) (hty : parseFieldDescriptor d = some ty) (hn : narrow ty v = v') (hf : fits ty v' = true) (ha : a ∈ S) (k : ∀ h', Wr h h' a (RoadKit.slotOf Z O n d) v' → GoW l R Z EL y.cls ws h0 Q κ S h' pc' Ls st ce sl) : GoW l R Z EL y.cls ws h0 Q κ S h pc Ls (v :: .ref a :: st) ce sl := by
  subst hpc
  obtain ⟨p, e, s, m, args, below, meth, c⟩ := κ
  intro vm0 k0 T locs X N eT I J
  obtain ⟨hx, hby, hml, -, hnm, hret, hlk, -⟩ := C
  have hZ : Z.Warmed39 (s.setVm vm0).vm := J.2.2.1
  have hown : (s.setVm vm0).vm.findClass y.cls = some m.cls := J.2.2.2.1
  obtain ⟨T', h', X', e', W, st'⟩ := putFN X hx hZ hown w via eT F E (L.imp id fun q => ⟨q.1, q.2.1, hnm.trans q.2.2⟩) wi hty hn hf (g := mkF m pc Ls (v :: .ref a :: st)) rfl rfl (hb hby hd)
  obtain ⟨s₂, o, hs, r⟩ := (k h' W) vm0 k0 T' _ X' (fr_snoc N (I.2.2 _ ha).2.1) e' (I.wr W ha) (J.wr W ha)
  exact ⟨s₂, o, st' _ hs, r⟩
theorem gw_new (C : Cx Z a0 y by0 ml rt κ) (pc' ce' sl' : Nat) {ix n : Nat} {Cn : String} (hd : decode by0 pc = .ok (.new ix, 3)) (hce : ce + 1 = ce') (hsl' : sl + n = sl') (hpc : pc + 3 = pc') (w : (Cond.classLink y.cls ix Cn).before a0 Z = true) (wi : (Cond.instantiable Cn n).before a0 Z = true) (wz : (Cond.initialized Cn).before a0 Z = true) (hc : ce + 1 ≤ R.cells) (hsl : sl + n ≤ R.slots) (k : ∀ (a : Addr) h', a = h.size → Ext h h' → Exa Z h' a Cn → (∀ {O nm d : String} {ty : FieldType}, Laid Z a0 Cn O nm d → parseFieldDescriptor d = some ty → Fld Z h' a O nm d (defaultValue ty)) → GoW l R Z EL y.cls ws h0 Q κ (a :: S) h' pc' Ls (.ref a :: st) ce' sl') : GoW l R Z EL y.cls ws h0 Q κ S h pc Ls st ce sl := by
  subst hpc hce hsl'
  obtain ⟨p, e, s, m, args, below, meth, c⟩ := κ
  intro vm0 k0 T locs X N eT I J
  obtain ⟨hx, hby, hml, -, hnm, hret, hlk, -⟩ := C
  have hZ : Z.Warmed39 (s.setVm vm0).vm := J.2.2.1
  have hown : (s.setVm vm0).vm.findClass y.cls = some m.cls := J.2.2.2.1
  obtain ⟨T', h', X', e', E, A, D, -, st'⟩ := newO X hx hZ hown w wi wz eT (g := mkF m pc Ls st) rfl (hb hby hd) hc hsl
  obtain ⟨s₂, o, hs, r⟩ := (k _ h' rfl E A @D) vm0 k0 T' _ X' N e' (I.new E A.lt) (J.new E)
  exact ⟨s₂, o, st' _ hs, r⟩
theorem gw_newP (C : Cx Z a0 y by0 ml rt κ) (pc' ce' sl' : Nat) {aty : ArrayType} {ty : FieldType} {n : Int32} {cap : Nat} (hd : decode by0 pc = .ok (.newarray aty, 2)) (hce : ce + 1 = ce') (hsl' : sl + cap = sl') (hpc : pc + 2 = pc') (hty : newarray.typeOf aty = ty) (w : (Cond.arrayClass ty).before a0 Z = true) (hn : ¬ n < 0) (hcap : n.toNatClampNeg ≤ cap) (hbig : cap * 8 ≤ 536870912) (hc : ce + 1 ≤ R.cells) (hsl : sl + cap ≤ R.slots) (k : ∀ (a : Addr) h' kc, a = h.size → Ext h h' → Arv Z h' a kc ty n (List.replicate n.toNatClampNeg (defaultValue ty)) (defaultValue ty) → GoW l R Z EL y.cls ws h0 Q κ (a :: S) h' pc' Ls (.ref a :: st) ce' sl') : GoW l R Z EL y.cls ws h0 Q κ S h pc Ls (.int n :: st) ce sl := by
  subst hpc hce hsl'
  subst hty
  obtain ⟨p, e, s, m, args, below, meth, c⟩ := κ
  intro vm0 k0 T locs X N eT I J
  obtain ⟨hx, hby, hml, -, hnm, hret, hlk, -⟩ := C
  have hZ : Z.Warmed39 (s.setVm vm0).vm := J.2.2.1
  have hown : (s.setVm vm0).vm.findClass y.cls = some m.cls := J.2.2.2.1
  obtain ⟨T', h', kc, X', e', E, A, st'⟩ := newP X hx hZ w eT (g := mkF m pc Ls (.int n :: st)) rfl (hb hby hd) rfl hn hcap hbig hc hsl
  have V := (Arv.new A hn).pad (vs' := List.replicate n.toNatClampNeg (defaultValue (newarray.typeOf aty))) (pad_rep [] (defaultValue (newarray.typeOf aty)) n.toNatClampNeg)
  obtain ⟨s₂, o, hs, r⟩ := (k _ h' kc rfl E V) vm0 k0 T' _ X' N e' (I.new E A.lt) (J.new E)
  exact ⟨s₂, o, st' _ hs, r⟩
theorem gw_castore (C : Cx Z a0 y by0 ml rt κ) (pc' : Nat) {a : Addr} {kc : ClassId} {n j x : Int32} {vs : List Value} {d : Value} (i : Nat) {v : Int32} (hv : nar .char x = v) (hd : decode by0 pc = .ok (.castore, 1)) (hpc : pc + 1 = pc') (F : Arv Z h a kc .char n vs d) (hj : ¬ j < 0 ∧ j < n) (hi : j.toNatClampNeg = i) (hl : i < vs.length) (ha : a ∈ S) (k : ∀ h', Wr h h' a j.toNatClampNeg (.int v) → Arv Z h' a kc .char n (vs.set i (.int v)) d → GoW l R Z EL y.cls ws h0 Q κ S h' pc' Ls st ce sl) : GoW l R Z EL y.cls ws h0 Q κ S h pc Ls (.int x :: .int j :: .ref a :: st) ce sl := by
  subst hv hpc
  obtain ⟨p, e, s, m, args, below, meth, c⟩ := κ
  intro vm0 k0 T locs X N eT I J
  obtain ⟨hx, hby, hml, -, hnm, hret, hlk, -⟩ := C
  have hZ : Z.Warmed39 (s.setVm vm0).vm := J.2.2.1
  have hown : (s.setVm vm0).vm.findClass y.cls = some m.cls := J.2.2.2.1
  obtain ⟨cl, A, q1, S1, q3, H, G⟩ := F
  obtain ⟨T', h', X', e', W, st'⟩ := stC X hx hZ eT A (inb_of S1 hj) (g := mkF m pc Ls (.int x :: .int j :: .ref a :: st)) rfl rfl (hb hby hd)
  have V := Arv.set A q1 S1 q3 H G (fits_nar_char _) W i hi hl
  obtain ⟨s₂, o, hs, r⟩ := (k h' W V) vm0 k0 T' _ X' (fr_snoc N (I.2.2 _ ha).2.1) e' (I.wr W ha) (J.wr W ha)
  exact ⟨s₂, o, st' _ hs, r⟩
theorem gw_ret (C : Cx Z a0 y by0 ml rt κ) (hEL : EW Z a0 EL) (hd : decode by0 pc = .ok (.return_, 1)) (hrt : rt = none) (hc : ce ≤ R.cells) (hsl : sl ≤ R.slots) (hq : Q none h) : GoW l R Z EL y.cls ws h0 Q κ S h pc Ls [] ce sl := by
  obtain ⟨p, e, s, m, args, below, meth, c⟩ := κ
  intro vm0 k0 T locs X N eT I J
  obtain ⟨hx, hby, hml, -, hnm, hret, hlk, -⟩ := C
  have hZ : Z.Warmed39 (s.setVm vm0).vm := J.2.2.1
  have hown : (s.setVm vm0).vm.findClass y.cls = some m.cls := J.2.2.2.1
  obtain ⟨fs, hr, hrun, hended, hEnd⟩ := X.leaveW J.1 (by rw [eT]; exact J.2.1) (v := none) (fun _ => rfl) hlk
  have hq' : Keep h0 (T.setFrames fs).heap ws ∧ Q (none) (T.setFrames fs).heap := by
    show Keep h0 T.heap ws ∧ Q _ T.heap
    rw [eT]; exact ⟨I.2.1, hq⟩
  have hch : CHr Z EL s.vm h0 (T.setFrames fs).vm (T.setFrames fs).heap := by
    show CHr Z EL s.vm h0 T.vm T.heap
    rw [eT]; exact J.2.2.2.2.1.trans (CHv.at X J.2.2.1 hEL J.2.2.2.2.1.1)
  exact ⟨_, _, X.returnOut hx (hret.trans hrt) (hb hby hd) hr, hrun, hended, _, _, rfl, ⟨hq'.1, hq'.2, N⟩, hch, hEnd.1, hEnd.2.1, hEnd.2.2.1, hEnd.2.2.2.mono hc hsl⟩
theorem gw_retN (C : Cx Z a0 y by0 ml rt κ) (hEL : EW Z a0 EL) {t : FieldType} {x z : Int32} (hd : decode by0 pc = .ok (.ireturn, 1)) (hrt : rt = some t) (ht : t = .boolean ∨ t = .byte ∨ t = .char ∨ t = .short) (hz : nar t x = z) (hc : ce ≤ R.cells) (hsl : sl ≤ R.slots) (hq : Q (some (.int z)) h) : GoW l R Z EL y.cls ws h0 Q κ S h pc Ls (.int x :: st) ce sl := by
  subst hz
  obtain ⟨p, e, s, m, args, below, meth, c⟩ := κ
  intro vm0 k0 T locs X N eT I J
  obtain ⟨hx, hby, hml, -, hnm, hret, hlk, -⟩ := C
  have hZ : Z.Warmed39 (s.setVm vm0).vm := J.2.2.1
  have hown : (s.setVm vm0).vm.findClass y.cls = some m.cls := J.2.2.2.1
  obtain ⟨fs, hr, hrun, hended, hEnd⟩ := X.leaveW J.1 (by rw [eT]; exact J.2.1) (v := some (.int (nar t x))) (fun q => by rw [hret, hrt] at q; cases q) hlk
  have hq' : Keep h0 (T.setFrames fs).heap ws ∧ Q (some (.int (nar t x))) (T.setFrames fs).heap := by
    show Keep h0 T.heap ws ∧ Q _ T.heap
    rw [eT]; exact ⟨I.2.1, hq⟩
  have hch : CHr Z EL s.vm h0 (T.setFrames fs).vm (T.setFrames fs).heap := by
    show CHr Z EL s.vm h0 T.vm T.heap
    rw [eT]; exact J.2.2.2.2.1.trans (CHv.at X J.2.2.1 hEL J.2.2.2.2.1.1)
  exact ⟨_, _, retN X hx (hret.trans hrt) ht (hb hby hd) hr, hrun, hended, _, _, rfl, ⟨hq'.1, hq'.2, N⟩, hch, hEnd.1, hEnd.2.1, hEnd.2.2.1, hEnd.2.2.2.mono hc hsl⟩
theorem gw_callS (C : Cx Z a0 y by0 ml rt κ) {z : MethodName} {fr lo cc ss : Nat} {ws' : List Addr} {Qz : Option Value → Heap → Prop} {ps : List FieldType} {rr : Option FieldType} {argsL : List Value} {ix W : Nat} (hd : decode by0 pc = .ok (.invokestatic ix, 3)) {bz : ByteArray} {mlz : Nat} {rtz : Option FieldType} (w1 : (Cond.methodLink y.cls ix z).before a0 Z = true) (w2 : (Cond.static z).before a0 Z = true) (wz : (Cond.initialized z.cls).before a0 Z = true) (wc : (Cond.code z bz mlz rtz).before a0 Z = true) (hy : z.cls ≠ "java/lang/invoke/MethodHandle" ∧ z.cls ≠ "java/lang/invoke/VarHandle") (hps : parseMethodDescriptor z.desc = some ⟨ps, rr⟩) (hM : Py l Z z fr lo cc ss argsL.toArray h ws' Qz) (hlen : argsL.length = ps.length) (hf : fr ≤ R.frames) (hW : (st.map fun v => v.category).sum ≤ W) (hlo : W + lo ≤ R.locals) (hls : Ls.size = ml) (hc : ce + cc ≤ R.cells) (hsl : sl + ss ≤ R.slots) (hws : ∀ x ∈ ws', x ∈ S) (k : ∀ v h', Keep h h' ws' → Qz v h' → ∃ bs, (∀ b ∈ bs, h.size ≤ b ∧ b < h'.size) ∧ GoW l R Z EL y.cls ws h0 Q κ (bs ++ S) h' (pc + 3) Ls (v.toList ++ st) (ce + cc) (sl + ss)) : GoW l R Z EL y.cls ws h0 Q κ S h pc Ls (argsL.reverse ++ st) ce sl := by
  obtain ⟨p, e, s, m, args, below, meth, c⟩ := κ
  intro vm0 k0 T locs X N eT I J
  obtain ⟨hx, hby, hml, -, hnm, hret, hlk, -⟩ := C
  have hZ : Z.Warmed39 (s.setVm vm0).vm := J.2.2.1
  have hown : (s.setVm vm0).vm.findClass y.cls = some m.cls := J.2.2.2.1
  have hO := fun x hx => (⟨(I.2.2 x (hws x hx)).1, (I.2.2 x (hws x hx)).2.1⟩ : x < h.size ∧ Z.heap.size ≤ x)
  have hB := hM I.1 hO p e R below (s.setVm vm0) args 3 W hZ hf hlo
  obtain ⟨v, _, ⟨T', L', k', n'⟩, -, X', ⟨Lc, hQ, l', y', z'⟩, st'⟩ := Jvm.LawKit.callS X hx hown (mvT hZ w1) (mvT hZ w2) (mvT hZ wz) (mvT hZ wc) hy hB (g := mkF m pc Ls (argsL.reverse ++ st)) rfl (hls.trans hml.symm) (argsL := argsL) (rest := st) (lenOf hps hlen) rfl (by show 2 * 0 + _ ≤ _; rw [Nat.mul_zero, Nat.zero_add]; exact hW) (hb hby hd) (fun _ _ => ⟨rfl, eT, hc, hsl⟩)
  dsimp only [Pt.U, Pt.locs, Pt.cells, Pt.slots] at X' l' y' z' st' hQ
  subst l' y' z'
  obtain ⟨K, hQ, N'⟩ := hQ
  have NN := Fr.app N N'
  obtain ⟨bs, hbs, kk⟩ := k v T'.heap K hQ
  obtain ⟨s₂, o, hs, r⟩ := kk vm0 k0 T' _ X' NN rfl (I.add (I.keep K hws) hbs) (J.add K hws hbs)
  exact ⟨s₂, o, st' _ hs, r⟩
theorem gw_callI (C : Cx Z a0 y by0 ml rt κ) {z : MethodName} {fr lo cc ss : Nat} {ws' : List Addr} {Qz : Option Value → Heap → Prop} {ps : List FieldType} {rr : Option FieldType} {argsL : List Value} {ix W : Nat} {a : Addr} (hd : decode by0 pc = .ok (.invokespecial ix, 3)) {bz : ByteArray} {mlz : Nat} (hin : z.name = "<init>") (w1 : (Cond.methodLink y.cls ix z).before a0 Z = true) (w2 : (Cond.instanceMethod z).before a0 Z = true) (wc : (Cond.code z bz mlz none).before a0 Z = true) (hy : z.cls ≠ "java/lang/invoke/MethodHandle" ∧ z.cls ≠ "java/lang/invoke/VarHandle") (hps : parseMethodDescriptor z.desc = some ⟨ps, rr⟩) (hM : Py l Z z fr lo cc ss (.ref a :: argsL).toArray h ws' Qz) (hlen : argsL.length = ps.length) (hf : fr ≤ R.frames) (hW : (st.map fun v => v.category).sum ≤ W) (hlo : W + lo ≤ R.locals) (hls : Ls.size = ml) (hc : ce + cc ≤ R.cells) (hsl : sl + ss ≤ R.slots) (hws : ∀ x ∈ ws', x ∈ S) (k : ∀ v h', Keep h h' ws' → Qz v h' → ∃ bs, (∀ b ∈ bs, h.size ≤ b ∧ b < h'.size) ∧ GoW l R Z EL y.cls ws h0 Q κ (bs ++ S) h' (pc + 3) Ls (v.toList ++ st) (ce + cc) (sl + ss)) : GoW l R Z EL y.cls ws h0 Q κ S h pc Ls (argsL.reverse ++ .ref a :: st) ce sl := by
  obtain ⟨p, e, s, m, args, below, meth, c⟩ := κ
  intro vm0 k0 T locs X N eT I J
  obtain ⟨hx, hby, hml, -, hnm, hret, hlk, -⟩ := C
  have hZ : Z.Warmed39 (s.setVm vm0).vm := J.2.2.1
  have hown : (s.setVm vm0).vm.findClass y.cls = some m.cls := J.2.2.2.1
  have hO := fun x hx => (⟨(I.2.2 x (hws x hx)).1, (I.2.2 x (hws x hx)).2.1⟩ : x < h.size ∧ Z.heap.size ≤ x)
  have hB := hM I.1 hO p e R below (s.setVm vm0) args 3 W hZ hf hlo
  obtain ⟨v, _, ⟨T', L', k', n'⟩, -, X', ⟨Lc, hQ, l', y', z'⟩, st'⟩ := X.specialBack hx hin hown (mvT hZ w1) (mvT hZ w2) (mvT hZ wc) hy hB (g := mkF m pc Ls (argsL.reverse ++ Value.ref a :: st)) rfl (hls.trans hml.symm) (Steps.refl _) (a := a) (argsL := argsL) (rest := st) (lenOf hps hlen) rfl (by show 2 * 0 + _ ≤ _; rw [Nat.mul_zero, Nat.zero_add]; exact hW) (hb hby hd) (fun _ _ => ⟨rfl, eT, hc, hsl⟩)
  dsimp only [Pt.U, Pt.locs, Pt.cells, Pt.slots] at X' l' y' z' st' hQ
  subst l' y' z'
  obtain ⟨K, hQ, N'⟩ := hQ
  have NN := Fr.app N N'
  obtain ⟨bs, hbs, kk⟩ := k v T'.heap K hQ
  obtain ⟨s₂, o, hs, r⟩ := kk vm0 k0 T' _ X' NN rfl (I.add (I.keep K hws) hbs) (J.add K hws hbs)
  exact ⟨s₂, o, st'.trans hs, r⟩
theorem gw_callV (C : Cx Z a0 y by0 ml rt κ) {z : MethodName} {fr lo cc ss : Nat} {ws' : List Addr} {Qz : Option Value → Heap → Prop} {ps : List FieldType} {rr : Option FieldType} {argsL : List Value} {ix W : Nat} {a : Addr} (hd : decode by0 pc = .ok (.invokevirtual ix, 3)) {y1 : MethodName} {Cn : String} (w1 : (Cond.methodLink y.cls ix y1).before a0 Z = true) (w2 : (Cond.declares y1).before a0 Z = true) (nf : ∀ (s : State), Z.Warmed39 s.vm → NotFace s y1) (w3 : (Cond.selects Cn y1 z).before a0 Z = true) (w4 : (Cond.instanceMethod z).before a0 Z = true) (EX : Exa Z h a Cn) (hy : y1.cls ≠ "java/lang/invoke/MethodHandle" ∧ y1.cls ≠ "java/lang/invoke/VarHandle") (hps : parseMethodDescriptor y1.desc = some ⟨ps, rr⟩) (hM : Py l Z z fr lo cc ss (.ref a :: argsL).toArray h ws' Qz) (hlen : argsL.length = ps.length) (hf : fr ≤ R.frames) (hW : (st.map fun v => v.category).sum ≤ W) (hlo : W + lo ≤ R.locals) (hls : Ls.size = ml) (hc : ce + cc ≤ R.cells) (hsl : sl + ss ≤ R.slots) (hws : ∀ x ∈ ws', x ∈ S) (k : ∀ v h', Keep h h' ws' → Qz v h' → ∃ bs, (∀ b ∈ bs, h.size ≤ b ∧ b < h'.size) ∧ GoW l R Z EL y.cls ws h0 Q κ (bs ++ S) h' (pc + 3) Ls (v.toList ++ st) (ce + cc) (sl + ss)) : GoW l R Z EL y.cls ws h0 Q κ S h pc Ls (argsL.reverse ++ .ref a :: st) ce sl := by
  obtain ⟨p, e, s, m, args, below, meth, c⟩ := κ
  intro vm0 k0 T locs X N eT I J
  obtain ⟨hx, hby, hml, -, hnm, hret, hlk, -⟩ := C
  have hZ : Z.Warmed39 (s.setVm vm0).vm := J.2.2.1
  have hown : (s.setVm vm0).vm.findClass y.cls = some m.cls := J.2.2.2.1
  have hO := fun x hx => (⟨(I.2.2 x (hws x hx)).1, (I.2.2 x (hws x hx)).2.1⟩ : x < h.size ∧ Z.heap.size ≤ x)
  have hB := hM I.1 hO p e R below (s.setVm vm0) args 3 W hZ hf hlo
  obtain ⟨v, _, ⟨T', L', k', n'⟩, -, X', ⟨Lc, hQ, l', y', z'⟩, st'⟩ := (let ⟨cq, kq, qa, qb, qc⟩ := isOf hZ eT EX; X.virtualBack hx hown (mvT hZ w1) (mvT hZ w2) (nf _ hZ) (mvT hZ w3) (mvT hZ w4) hy hB qa qc (g := mkF m pc Ls (argsL.reverse ++ Value.ref a :: st)) rfl (hls.trans hml.symm) (Steps.refl _) (argsL := argsL) (rest := st) (lenOf hps hlen) rfl (by show 2 * 0 + _ ≤ _; rw [Nat.mul_zero, Nat.zero_add]; exact hW) (hb hby hd) (fun _ _ => ⟨rfl, eT, hc, hsl⟩))
  dsimp only [Pt.U, Pt.locs, Pt.cells, Pt.slots] at X' l' y' z' st' hQ
  subst l' y' z'
  obtain ⟨K, hQ, N'⟩ := hQ
  have NN := Fr.app N N'
  obtain ⟨bs, hbs, kk⟩ := k v T'.heap K hQ
  obtain ⟨s₂, o, hs, r⟩ := kk vm0 k0 T' _ X' NN rfl (I.add (I.keep K hws) hbs) (J.add K hws hbs)
  exact ⟨s₂, o, st'.trans hs, r⟩
theorem gw_callIW (C : Cx Z a0 y by0 ml rt κ) (hEL : EW Z a0 EL) {z : MethodName} {fr lo cc ss : Nat} {ws' : List Addr} {Qz : Option Value → Heap → Prop} {ps : List FieldType} {rr : Option FieldType} {argsL : List Value} {ix W : Nat} {a : Addr} (hd : decode by0 pc = .ok (.invokespecial ix, 3)) {bz : ByteArray} {mlz : Nat} (hin : z.name = "<init>") (w1 : (Cond.methodLink y.cls ix z).before a0 Z = true) (w2 : (Cond.instanceMethod z).before a0 Z = true) (wc : (Cond.code z bz mlz none).before a0 Z = true) (hy : z.cls ≠ "java/lang/invoke/MethodHandle" ∧ z.cls ≠ "java/lang/invoke/VarHandle") (hps : parseMethodDescriptor z.desc = some ⟨ps, rr⟩) (hM : PyW l Z EL a0 z fr lo cc ss (.ref a :: argsL).toArray h ws' Qz) (hlen : argsL.length = ps.length) (hf : fr ≤ R.frames) (hW : (st.map fun v => v.category).sum ≤ W) (hlo : W + lo ≤ R.locals) (hls : Ls.size = ml) (hc : ce + cc ≤ R.cells) (hsl : sl + ss ≤ R.slots) (hws : ∀ x ∈ ws', x ∈ S) (k : ∀ v h', Keep h h' ws' → Qz v h' → GoW l R Z EL y.cls ws h0 Q κ S h' (pc + 3) Ls (v.toList ++ st) (ce + cc) (sl + ss)) : GoW l R Z EL y.cls ws h0 Q κ S h pc Ls (argsL.reverse ++ .ref a :: st) ce sl := by
  obtain ⟨p, e, s, m, args, below, meth, c⟩ := κ
  intro vm0 k0 T locs X N eT I J
  obtain ⟨hx, hby, hml, -, hnm, hret, hlk, -⟩ := C
  have hZ : Z.Warmed39 (s.setVm vm0).vm := J.2.2.1
  have hown : (s.setVm vm0).vm.findClass y.cls = some m.cls := J.2.2.2.1
  have hO := fun x hx => (⟨(I.2.2 x (hws x hx)).1, (I.2.2 x (hws x hx)).2.1⟩ : x < h.size ∧ Z.heap.size ≤ x)
  have hB := hM I.1 hO hEL p e R below s vm0 args 3 W J.2.2.1 hf hlo J.2.2.2.2.1.1 (fun x hx => J.2.2.2.2.2 x (hws x hx))
  obtain ⟨v, _, ⟨T', L', k', n'⟩, -, X', hS', hg', ⟨Lc, hQ, l', y', z', hch'⟩, st'⟩ := X.specialBackS hx hin hown (mvT hZ w1) (mvT hZ w2) (mvT hZ wc) hy hB (g := mkF m pc Ls (argsL.reverse ++ Value.ref a :: st)) rfl (hls.trans hml.symm) (Steps.refl _) (a := a) (argsL := argsL) (rest := st) (lenOf hps hlen) rfl (by show 2 * 0 + _ ≤ _; rw [Nat.mul_zero, Nat.zero_add]; exact hW) (hb hby hd) (fun _ _ => ⟨rfl, eT, hc, hsl⟩)
  dsimp only [Pt.U, Pt.locs, Pt.cells, Pt.slots] at X' l' y' z' st' hQ hS' hg' hch'
  subst l' y' z'
  obtain ⟨K, hQ, N'⟩ := hQ
  have NN := Fr.app N N'
  obtain ⟨X2, hS2, hZ2, hown2⟩ := rebS J.1 (by rw [eT]; exact J.2.1 : k0 ≤ T.heap.size) X' hS' hg' hZ hown
  obtain ⟨s₂, o, hs, r⟩ := k v T'.heap K hQ _ _ T' _ X2 NN rfl (I.keep K hws) ⟨hS2, Nat.le_refl _, hZ2, hown2, J.2.2.2.2.1.trans hch', fun x hx => hch'.safe (I.2.2 x hx).1 (J.2.2.2.2.2 x hx)⟩
  exact ⟨s₂, o, st'.trans hs, r⟩
theorem gw_ldcS (C : Cx Z a0 y by0 ml rt κ) (hEL : EW Z a0 EL) (pc' ce' sl' : Nat) {ix n : Nat} {text : String} {vs : List Value} {zn : Int32} (hd : decode by0 pc = .ok (.ldc ix, 2)) (hce : ce + 2 = ce') (hsl' : sl + (n + 4) = sl') (hpc : pc + 2 = pc') (w : (Cond.stringLink y.cls ix text).before a0 Z = true) (wS : ∀ a ∈ Bundle.stringAtoms, a.before a0 Z = true) (hmem : (y.cls, ix) ∈ EL) (ht : (∀ c ∈ text.toList, c.toNat < 256) ∧ text.toList.map (fun c => Value.int (Jvm.Lit.byteI c.toNat.toUInt16)) = vs) (hz : ¬ zn < 0) (hl : zn.toNatClampNeg = vs.length) (hn : 4 * text.toList.length ≤ n) (hbig : n ≤ 536870912) (hc : ce + 2 ≤ R.cells) (hsl : sl + (n + 4) ≤ R.slots) (k : ∀ (a b : Addr) kc h', Ext h h' → Exa Z h' a "java/lang/String" → Fld Z h' a "java/lang/String" "coder" "B" (.int 0) → Fld Z h' a "java/lang/String" "value" "[B" (.ref b) → Arv Z h' b kc .byte zn vs (.int 0) → (∀ x ∈ S, x ≠ a ∧ x ≠ b) → GoW l R Z EL y.cls ws h0 Q κ S h' pc' Ls (.ref a :: st) ce' sl') : GoW l R Z EL y.cls ws h0 Q κ S h pc Ls st ce sl := by
  subst hpc hce hsl'
  obtain ⟨p, e, s, m, args, below, meth, c⟩ := κ
  intro vm0 k0 T locs X N eT I J
  obtain ⟨hx, hby, hml, -, hnm, hret, hlk, -⟩ := C
  have hZ : Z.Warmed39 (s.setVm vm0).vm := J.2.2.1
  have hown : (s.setVm vm0).vm.findClass y.cls = some m.cls := J.2.2.2.1
  obtain ⟨a, T', h', k1, b, kc, X', e', E, hS', hk', hZ', hown', q1, q2, q3, q4, -, -, hch', -, hsf, st'⟩ := ldcCH X hx J.2.2.1 J.2.2.2.1 w wS eT J.1 J.2.1 hEL hmem J.2.2.2.2.1.1 ht hz hl (g := mkF m pc Ls st) rfl (hb hby hd) hn hbig hc hsl
  have hs2 : ∀ x ∈ S, Safe Z EL T'.vm h' x := fun x hx => hch'.safe (I.2.2 x hx).1 (J.2.2.2.2.2 x hx)
  obtain ⟨s₂, o, hs, r⟩ := k a b kc h' E q1 q2 q3 q4 (fun x hx => hsf x (hs2 x hx)) _ _ T' _ X' N e' (I.ext E) ⟨hS', hk', hZ', hown', J.2.2.2.2.1.trans hch', hs2⟩
  exact ⟨s₂, o, st' _ hs, r⟩
end StepsW

theorem sto_arv {Z : State} {h : Heap} {a b : Addr} {kc : ClassId} {ty : FieldType} {n : Int32} {vs : List Value} {d : Value} {C : String} (F : Arv Z h a kc ty n vs d) (O : Ovr Z kc C) (I : Ins Z h b C true) : Sto Z h a (.ref b) := by
  obtain ⟨c, A, q, -⟩ := F
  exact Sto.ofV A q O I
theorem and_small (x m : Int32) (hm : 0 ≤ m.toInt) : ¬ (x &&& m) < 0 ∧ ¬ m < (x &&& m) := by
  have h := c_and x m hm
  constructor
  · rw [Int32.lt_iff_toInt_lt]; have e : (0 : Int32).toInt = 0 := rfl; omega
  · rw [Int32.lt_iff_toInt_lt]; omega
/-- a char: 0 to 65535 -/
def Chr (c : Int32) : Prop := ¬ c < 0 ∧ ¬ (65535 : Int32) < c
theorem Chr.nar {c : Int32} (h : Chr c) : nar .char c = c := by
  have e := c_i2c c
  have r := h
  unfold Chr at r
  rw [Int32.lt_iff_toInt_lt, Int32.lt_iff_toInt_lt] at r
  have e0 : (0 : Int32).toInt = 0 := rfl
  have e1 : (65535 : Int32).toInt = 65535 := rfl
  have q := rng32 c
  show c.toUInt32.toUInt16.toUInt32.toInt32 = c
  rw [← Int32.toInt_inj]
  omega
theorem Chr.i2c {c : Int32} (h : Chr c) : c.toUInt32.toUInt16.toUInt32.toInt32 = c := h.nar
theorem Chr.lat {c : Int32} (h0 : ¬ c < 0) (h1 : ¬ (255 : Int32) < c) : Chr c := ⟨h0, fun q => h1 (by rw [Int32.lt_iff_toInt_lt] at q ⊢; have e1 : (65535 : Int32).toInt = 65535 := rfl; have e2 : (255 : Int32).toInt = 255 := rfl; omega)⟩
theorem chr_and255 (x : Int32) : Chr (x &&& 255) := Chr.lat (and_small x 255 (by decide)).1 (and_small x 255 (by decide)).2
def lo8 (c : Int32) : Int32 := c.toInt8.toInt32
def hi8 (c : Int32) : Int32 := (c >>> ((8 : Int32) &&& 31)).toInt8.toInt32
theorem nar_byte (c : Int32) : nar .byte (c.toInt8.toInt32) = c.toInt8.toInt32 := by show c.toInt8.toInt32.toInt8.toInt32 = _; simp
theorem nar_lo8 (c : Int32) : nar .byte (lo8 c) = lo8 c := nar_byte c
theorem nar_hi8 (c : Int32) : nar .byte (hi8 c) = hi8 c := nar_byte _
theorem shr_0 (c : Int32) : c >>> ((0 : Int32) &&& 31) = c := by
  have h := c_ishr c 0 0 (by decide)
  rw [← Int32.toInt_inj, h]; simp
theorem lo8_and (c : Int32) : (lo8 c &&& 255).toInt = c.toInt % 256 := by
  have h := c_mask (lo8 c) 255 8 (by decide) (by decide)
  have q := c_i2b c
  have e : (lo8 c).toInt = c.toInt8.toInt32.toInt := rfl
  rw [h, e]
  have e2 : ((2 ^ 8 : Nat) : Int) = 256 := rfl
  rw [e2]; omega
theorem hi8_and {c : Int32} (hc : Chr c) : (hi8 c &&& 255).toInt = c.toInt / 256 := by
  have h := c_mask (hi8 c) 255 8 (by decide) (by decide)
  have q := c_i2b (c >>> ((8 : Int32) &&& 31))
  have s := c_ishr c 8 8 (by decide)
  have e : (hi8 c).toInt = (c >>> ((8 : Int32) &&& 31)).toInt8.toInt32.toInt := rfl
  obtain ⟨r1, r2⟩ := hc
  rw [Int32.lt_iff_toInt_lt] at r1 r2
  have e0 : (0 : Int32).toInt = 0 := rfl
  have e1 : (65535 : Int32).toInt = 65535 := rfl
  have e2 : ((2 ^ 8 : Nat) : Int) = 256 := rfl
  rw [h, e, e2]
  rw [e2] at s
  omega
theorem lo8_mask {c : Int32} (h0 : ¬ c < 0) (h1 : ¬ (255 : Int32) < c) : lo8 c &&& 255 = c := by
  have h := lo8_and c
  rw [Int32.lt_iff_toInt_lt] at h0 h1
  have e0 : (0 : Int32).toInt = 0 := rfl
  have e1 : (255 : Int32).toInt = 255 := rfl
  rw [← Int32.toInt_inj, h]; omega
theorem get16 {c : Int32} (hc : Chr c) : (((lo8 c &&& 255) <<< ((0 : Int32) &&& 31)) ||| ((hi8 c &&& 255) <<< ((8 : Int32) &&& 31))).toUInt32.toUInt16.toUInt32.toInt32 = c := by
  have a1 := lo8_and c
  have a2 := hi8_and hc
  have s1 := c_ishl (lo8 c &&& 255) 0 0 (by decide)
  have s2 := c_ishl (hi8 c &&& 255) 8 8 (by decide)
  have e8 : ((2 ^ 8 : Nat) : Int) = 256 := rfl
  have e00 : ((2 ^ 0 : Nat) : Int) = 1 := rfl
  rw [e00] at s1
  rw [e8] at s2
  have o := c_or' ((lo8 c &&& 255) <<< ((0 : Int32) &&& 31)) ((hi8 c &&& 255) <<< ((8 : Int32) &&& 31)) 8 (by decide) 256 rfl
  have z := c_i2c (((lo8 c &&& 255) <<< ((0 : Int32) &&& 31)) ||| ((hi8 c &&& 255) <<< ((8 : Int32) &&& 31)))
  obtain ⟨r1, r2⟩ := hc
  rw [Int32.lt_iff_toInt_lt] at r1 r2
  have e0 : (0 : Int32).toInt = 0 := rfl
  have e1 : (65535 : Int32).toInt = 65535 := rfl
  have t1 := rng32 ((lo8 c &&& 255) <<< ((0 : Int32) &&& 31))
  have t2 := rng32 ((hi8 c &&& 255) <<< ((8 : Int32) &&& 31))
  have t3 := rng32 (((lo8 c &&& 255) <<< ((0 : Int32) &&& 31)) ||| ((hi8 c &&& 255) <<< ((8 : Int32) &&& 31)))
  rw [← Int32.toInt_inj]
  have o' := o (by omega) (by omega) (by omega)
  omega
theorem wS {Z : State} {a0 : Array Value} (hw : ∀ d ∈ tables_1, d.before a0 Z = true) : ∀ a ∈ Bundle.stringAtoms, a.before a0 Z = true := fun d hd => hw d ((by decide +kernel : ∀ d ∈ Bundle.stringAtoms, d ∈ tables_1) d hd)
theorem and3 (x : Int32) : (x &&& (3 : Int32)) = 0 ∨ (x &&& (3 : Int32)) = 1 ∨ (x &&& (3 : Int32)) = 2 ∨ (x &&& (3 : Int32)) = 3 := by
  have h := c_and x (3 : Int32) (by decide)
  simp only [← Int32.toInt_inj]
  have e0 : (0 : Int32).toInt = 0 := rfl
  have e1 : (1 : Int32).toInt = 1 := rfl
  have e2 : (2 : Int32).toInt = 2 := rfl
  have e3 : (3 : Int32).toInt = 3 := rfl
  omega

def nzc (x : Int32) : Int32 := (1 : Int32) + (x &&& (2147483647 : Int32)) % (65535 : Int32)
theorem nzc_chr (x : Int32) : Chr (nzc x) ∧ ¬ nzc x = 0 := by
  have h := c_and x (2147483647 : Int32) (by decide)
  have q := (c_irem (x &&& (2147483647 : Int32)) 65535 65535 (by decide)).1 h.1
  have a := c_iadd 1 ((x &&& (2147483647 : Int32)) % (65535 : Int32))
  have r := rng32 ((1 : Int32) + (x &&& (2147483647 : Int32)) % (65535 : Int32))
  have e1 : (1 : Int32).toInt = 1 := rfl
  have e0 : (0 : Int32).toInt = 0 := rfl
  have e2 : (65535 : Int32).toInt = 65535 := rfl
  have e : (nzc x).toInt = 1 + ((x &&& (2147483647 : Int32)) % (65535 : Int32)).toInt := by show ((1 : Int32) + (x &&& (2147483647 : Int32)) % (65535 : Int32)).toInt = _; omega
  refine ⟨⟨?_, ?_⟩, ?_⟩
  · rw [Int32.lt_iff_toInt_lt]; omega
  · rw [Int32.lt_iff_toInt_lt]; omega
  · rw [← Int32.toInt_inj]; omega
theorem nzc_i2c (x : Int32) : ((1 : Int32) + ((x &&& (2147483647 : Int32)) % (65535 : Int32))).toUInt32.toUInt16.toUInt32.toInt32 = nzc x := (nzc_chr x).1.i2c
theorem lo8_nz {c : Int32} (h0 : ¬ c < 0) (h1 : ¬ (255 : Int32) < c) (hz : ¬ c = 0) : ¬ lo8 c = 0 := fun q => hz (by rw [← lo8_mask h0 h1, q]; decide)

def Amb (Z : State) (a0 : Array Value) (cS : Int32) (fm : Value) (ub : Addr) : Prop := EW Z a0 consts_1 ∧ Sta Z Z.heap "java/lang/String" "COMPACT_STRINGS" "Z" (.int cS) ∧ ¬ (cS = 0) ∧ Sta Z Z.heap "java/lang/StringUTF16" "$assertionsDisabled" "Z" (.int 1) ∧ Sta Z Z.heap "java/lang/StringUTF16" "HI_BYTE_SHIFT" "I" (.int 0) ∧ Sta Z Z.heap "java/lang/StringUTF16" "LO_BYTE_SHIFT" "I" (.int 8) ∧ Sta Z Z.heap "jdk/internal/util/Preconditions" "SIOOBE_FORMATTER" "Ljava/util/function/BiFunction;" fm ∧ fm.isRef = true ∧ Sta Z Z.heap "com/example/holdfast/holdfast/sasl/Gs2Header$ChannelBinding" "UNSUPPORTED" "Lcom/example/holdfast/holdfast/sasl/Gs2Header$ChannelBinding;" (.ref ub)
abbrev HW (a0 : Array Value) (Z : State) : Prop := ∀ d ∈ tables_1, d.before a0 Z = true
set_option maxRecDepth 65536
set_option maxHeartbeats 40000000
theorem d17_0 : decode jdk_52_method_4_code 0 = .ok (.getstatic 44, 3) := by decide +kernel
theorem d17_3 : decode jdk_52_method_4_code 3 = .ok (.ifCond .ne 25, 3) := by decide +kernel
theorem d17_28 : decode jdk_52_method_4_code 28 = .ok (.iload_n 1, 1) := by decide +kernel
theorem d17_29 : decode jdk_52_method_4_code 29 = .ok (.iconst 1, 1) := by decide +kernel
theorem d17_30 : decode jdk_52_method_4_code 30 = .ok (.ishl, 1) := by decide +kernel
theorem d17_31 : decode jdk_52_method_4_code 31 = .ok (.istore_n 1, 1) := by decide +kernel
theorem d17_32 : decode jdk_52_method_4_code 32 = .ok (.aload_n 0, 1) := by decide +kernel
theorem d17_33 : decode jdk_52_method_4_code 33 = .ok (.iload_n 1, 1) := by decide +kernel
theorem d17_34 : decode jdk_52_method_4_code 34 = .ok (.iinc 1 1, 3) := by decide +kernel
theorem d17_37 : decode jdk_52_method_4_code 37 = .ok (.iload_n 2, 1) := by decide +kernel
theorem d17_38 : decode jdk_52_method_4_code 38 = .ok (.getstatic 59, 3) := by decide +kernel
theorem d17_41 : decode jdk_52_method_4_code 41 = .ok (.ishr, 1) := by decide +kernel
theorem d17_42 : decode jdk_52_method_4_code 42 = .ok (.i2b, 1) := by decide +kernel
theorem d17_43 : decode jdk_52_method_4_code 43 = .ok (.bastore, 1) := by decide +kernel
theorem d17_44 : decode jdk_52_method_4_code 44 = .ok (.aload_n 0, 1) := by decide +kernel
theorem d17_45 : decode jdk_52_method_4_code 45 = .ok (.iload_n 1, 1) := by decide +kernel
theorem d17_46 : decode jdk_52_method_4_code 46 = .ok (.iload_n 2, 1) := by decide +kernel
theorem d17_47 : decode jdk_52_method_4_code 47 = .ok (.getstatic 63, 3) := by decide +kernel
theorem d17_50 : decode jdk_52_method_4_code 50 = .ok (.ishr, 1) := by decide +kernel
theorem d17_51 : decode jdk_52_method_4_code 51 = .ok (.i2b, 1) := by decide +kernel
theorem d17_52 : decode jdk_52_method_4_code 52 = .ok (.bastore, 1) := by decide +kernel
theorem d17_53 : decode jdk_52_method_4_code 53 = .ok (.return_, 1) := by decide +kernel
theorem pn_java_lang_StringUTF16 : plainName "java/lang/StringUTF16" = true := by first | (simp [plainName, overriddenIn]; done) | decide +kernel
theorem d18_0 : decode jdk_52_method_5_code 0 = .ok (.getstatic 44, 3) := by decide +kernel
theorem d18_3 : decode jdk_52_method_5_code 3 = .ok (.ifCond .ne 25, 3) := by decide +kernel
theorem d18_28 : decode jdk_52_method_5_code 28 = .ok (.iload_n 1, 1) := by decide +kernel
theorem d18_29 : decode jdk_52_method_5_code 29 = .ok (.iconst 1, 1) := by decide +kernel
theorem d18_30 : decode jdk_52_method_5_code 30 = .ok (.ishl, 1) := by decide +kernel
theorem d18_31 : decode jdk_52_method_5_code 31 = .ok (.istore_n 1, 1) := by decide +kernel
theorem d18_32 : decode jdk_52_method_5_code 32 = .ok (.aload_n 0, 1) := by decide +kernel
theorem d18_33 : decode jdk_52_method_5_code 33 = .ok (.iload_n 1, 1) := by decide +kernel
theorem d18_34 : decode jdk_52_method_5_code 34 = .ok (.iinc 1 1, 3) := by decide +kernel
theorem d18_37 : decode jdk_52_method_5_code 37 = .ok (.baload, 1) := by decide +kernel
theorem d18_38 : decode jdk_52_method_5_code 38 = .ok (.sipush 255, 3) := by decide +kernel
theorem d18_41 : decode jdk_52_method_5_code 41 = .ok (.iand, 1) := by decide +kernel
theorem d18_42 : decode jdk_52_method_5_code 42 = .ok (.getstatic 59, 3) := by decide +kernel
theorem d18_45 : decode jdk_52_method_5_code 45 = .ok (.ishl, 1) := by decide +kernel
theorem d18_46 : decode jdk_52_method_5_code 46 = .ok (.aload_n 0, 1) := by decide +kernel
theorem d18_47 : decode jdk_52_method_5_code 47 = .ok (.iload_n 1, 1) := by decide +kernel
theorem d18_48 : decode jdk_52_method_5_code 48 = .ok (.baload, 1) := by decide +kernel
theorem d18_49 : decode jdk_52_method_5_code 49 = .ok (.sipush 255, 3) := by decide +kernel
theorem d18_52 : decode jdk_52_method_5_code 52 = .ok (.iand, 1) := by decide +kernel
theorem d18_53 : decode jdk_52_method_5_code 53 = .ok (.getstatic 63, 3) := by decide +kernel
theorem d18_56 : decode jdk_52_method_5_code 56 = .ok (.ishl, 1) := by decide +kernel
theorem d18_57 : decode jdk_52_method_5_code 57 = .ok (.ior, 1) := by decide +kernel
theorem d18_58 : decode jdk_52_method_5_code 58 = .ok (.i2c, 1) := by decide +kernel
theorem d18_59 : decode jdk_52_method_5_code 59 = .ok (.ireturn, 1) := by decide +kernel
theorem d16_0 : decode jdk_52_method_3_code 0 = .ok (.iload_n 0, 1) := by decide +kernel
theorem d16_1 : decode jdk_52_method_3_code 1 = .ok (.ifCond .ge 11, 3) := by decide +kernel
theorem d16_12 : decode jdk_52_method_3_code 12 = .ok (.iload_n 0, 1) := by decide +kernel
theorem d16_13 : decode jdk_52_method_3_code 13 = .ok (.ldc 20, 2) := by decide +kernel
theorem d16_15 : decode jdk_52_method_3_code 15 = .ok (.if_icmp .lt 40, 3) := by decide +kernel
theorem d16_55 : decode jdk_52_method_3_code 55 = .ok (.iload_n 0, 1) := by decide +kernel
theorem d16_56 : decode jdk_52_method_3_code 56 = .ok (.iconst 1, 1) := by decide +kernel
theorem d16_57 : decode jdk_52_method_3_code 57 = .ok (.ishl, 1) := by decide +kernel
theorem d16_58 : decode jdk_52_method_3_code 58 = .ok (.ireturn, 1) := by decide +kernel
theorem d15_0 : decode jdk_52_method_2_code 0 = .ok (.iload_n 0, 1) := by decide +kernel
theorem d15_1 : decode jdk_52_method_2_code 1 = .ok (.invokestatic 11, 3) := by decide +kernel
theorem pd__I_I : parseMethodDescriptor "(I)I" = some ⟨[.int], some .int⟩ := by decide +kernel
theorem d15_4 : decode jdk_52_method_2_code 4 = .ok (.newarray .byte, 2) := by decide +kernel
theorem d15_6 : decode jdk_52_method_2_code 6 = .ok (.areturn, 1) := by decide +kernel
theorem d14_0 : decode jdk_52_method_14_code 0 = .ok (.iload_n 2, 1) := by decide +kernel
theorem d14_1 : decode jdk_52_method_14_code 1 = .ok (.invokestatic 107, 3) := by decide +kernel
theorem pd__I__B : parseMethodDescriptor "(I)[B" = some ⟨[.int], some (.array .byte)⟩ := by decide +kernel
theorem d14_4 : decode jdk_52_method_14_code 4 = .ok (.astore_n 3, 1) := by decide +kernel
theorem d14_5 : decode jdk_52_method_14_code 5 = .ok (.iconst 0, 1) := by decide +kernel
theorem d14_6 : decode jdk_52_method_14_code 6 = .ok (.istore 4, 2) := by decide +kernel
theorem d14_8 : decode jdk_52_method_14_code 8 = .ok (.iload 4, 2) := by decide +kernel
theorem d14_10 : decode jdk_52_method_14_code 10 = .ok (.iload_n 2, 1) := by decide +kernel
theorem d14_11 : decode jdk_52_method_14_code 11 = .ok (.if_icmp .ge 21, 3) := by decide +kernel
theorem d14_14 : decode jdk_52_method_14_code 14 = .ok (.aload_n 3, 1) := by decide +kernel
theorem d14_15 : decode jdk_52_method_14_code 15 = .ok (.iload 4, 2) := by decide +kernel
theorem d14_17 : decode jdk_52_method_14_code 17 = .ok (.aload_n 0, 1) := by decide +kernel
theorem d14_18 : decode jdk_52_method_14_code 18 = .ok (.iload_n 1, 1) := by decide +kernel
theorem d14_19 : decode jdk_52_method_14_code 19 = .ok (.caload, 1) := by decide +kernel
theorem d14_20 : decode jdk_52_method_14_code 20 = .ok (.invokestatic 111, 3) := by decide +kernel
theorem pd___BII_V : parseMethodDescriptor "([BII)V" = some ⟨[(.array .byte), .int, .int], none⟩ := by decide +kernel
theorem d14_23 : decode jdk_52_method_14_code 23 = .ok (.iinc 1 1, 3) := by decide +kernel
theorem d14_26 : decode jdk_52_method_14_code 26 = .ok (.iinc 4 1, 3) := by decide +kernel
theorem d14_29 : decode jdk_52_method_14_code 29 = .ok (.goto (-21), 3) := by decide +kernel
theorem d14_32 : decode jdk_52_method_14_code 32 = .ok (.aload_n 3, 1) := by decide +kernel
theorem d14_33 : decode jdk_52_method_14_code 33 = .ok (.areturn, 1) := by decide +kernel
theorem d13_0 : decode jdk_52_method_21_code 0 = .ok (.iconst 0, 1) := by decide +kernel
theorem d13_1 : decode jdk_52_method_21_code 1 = .ok (.istore 5, 2) := by decide +kernel
theorem d13_3 : decode jdk_52_method_21_code 3 = .ok (.iload 5, 2) := by decide +kernel
theorem d13_5 : decode jdk_52_method_21_code 5 = .ok (.iload 4, 2) := by decide +kernel
theorem d13_7 : decode jdk_52_method_21_code 7 = .ok (.if_icmp .ge 37, 3) := by decide +kernel
theorem d13_10 : decode jdk_52_method_21_code 10 = .ok (.aload_n 0, 1) := by decide +kernel
theorem d13_11 : decode jdk_52_method_21_code 11 = .ok (.iload_n 1, 1) := by decide +kernel
theorem d13_12 : decode jdk_52_method_21_code 12 = .ok (.caload, 1) := by decide +kernel
theorem d13_13 : decode jdk_52_method_21_code 13 = .ok (.istore 6, 2) := by decide +kernel
theorem d13_15 : decode jdk_52_method_21_code 15 = .ok (.iload 6, 2) := by decide +kernel
theorem d13_17 : decode jdk_52_method_21_code 17 = .ok (.sipush 255, 3) := by decide +kernel
theorem d13_20 : decode jdk_52_method_21_code 20 = .ok (.if_icmp .le 6, 3) := by decide +kernel
theorem d13_23 : decode jdk_52_method_21_code 23 = .ok (.iload 5, 2) := by decide +kernel
theorem d13_25 : decode jdk_52_method_21_code 25 = .ok (.ireturn, 1) := by decide +kernel
theorem d13_26 : decode jdk_52_method_21_code 26 = .ok (.aload_n 2, 1) := by decide +kernel
theorem d13_27 : decode jdk_52_method_21_code 27 = .ok (.iload_n 3, 1) := by decide +kernel
theorem d13_28 : decode jdk_52_method_21_code 28 = .ok (.iload 6, 2) := by decide +kernel
theorem d13_30 : decode jdk_52_method_21_code 30 = .ok (.i2b, 1) := by decide +kernel
theorem d13_31 : decode jdk_52_method_21_code 31 = .ok (.bastore, 1) := by decide +kernel
theorem d13_32 : decode jdk_52_method_21_code 32 = .ok (.iinc 1 1, 3) := by decide +kernel
theorem d13_35 : decode jdk_52_method_21_code 35 = .ok (.iinc 3 1, 3) := by decide +kernel
theorem d13_38 : decode jdk_52_method_21_code 38 = .ok (.iinc 5 1, 3) := by decide +kernel
theorem d13_41 : decode jdk_52_method_21_code 41 = .ok (.goto (-38), 3) := by decide +kernel
theorem d13_44 : decode jdk_52_method_21_code 44 = .ok (.iload 4, 2) := by decide +kernel
theorem d13_46 : decode jdk_52_method_21_code 46 = .ok (.ireturn, 1) := by decide +kernel
theorem d12_0 : decode jdk_52_method_16_code 0 = .ok (.iload_n 2, 1) := by decide +kernel
theorem d12_1 : decode jdk_52_method_16_code 1 = .ok (.newarray .byte, 2) := by decide +kernel
theorem d12_3 : decode jdk_52_method_16_code 3 = .ok (.astore_n 3, 1) := by decide +kernel
theorem d12_4 : decode jdk_52_method_16_code 4 = .ok (.aload_n 0, 1) := by decide +kernel
theorem d12_5 : decode jdk_52_method_16_code 5 = .ok (.iload_n 1, 1) := by decide +kernel
theorem d12_6 : decode jdk_52_method_16_code 6 = .ok (.aload_n 3, 1) := by decide +kernel
theorem d12_7 : decode jdk_52_method_16_code 7 = .ok (.iconst 0, 1) := by decide +kernel
theorem d12_8 : decode jdk_52_method_16_code 8 = .ok (.iload_n 2, 1) := by decide +kernel
theorem d12_9 : decode jdk_52_method_16_code 9 = .ok (.invokestatic 115, 3) := by decide +kernel
theorem pd___CI_BII_I : parseMethodDescriptor "([CI[BII)I" = some ⟨[(.array .char), .int, (.array .byte), .int, .int], some .int⟩ := by decide +kernel
theorem d12_12 : decode jdk_52_method_16_code 12 = .ok (.istore 4, 2) := by decide +kernel
theorem d12_14 : decode jdk_52_method_16_code 14 = .ok (.iload 4, 2) := by decide +kernel
theorem d12_16 : decode jdk_52_method_16_code 16 = .ok (.iload_n 2, 1) := by decide +kernel
theorem d12_17 : decode jdk_52_method_16_code 17 = .ok (.if_icmp .eq 40, 3) := by decide +kernel
theorem d12_57 : decode jdk_52_method_16_code 57 = .ok (.aload_n 3, 1) := by decide +kernel
theorem d12_58 : decode jdk_52_method_16_code 58 = .ok (.areturn, 1) := by decide +kernel
theorem d12_20 : decode jdk_52_method_16_code 20 = .ok (.aload_n 0, 1) := by decide +kernel
theorem d12_21 : decode jdk_52_method_16_code 21 = .ok (.iload_n 1, 1) := by decide +kernel
theorem d12_22 : decode jdk_52_method_16_code 22 = .ok (.iload_n 2, 1) := by decide +kernel
theorem d12_23 : decode jdk_52_method_16_code 23 = .ok (.invokestatic 119, 3) := by decide +kernel
theorem pd___CII__B : parseMethodDescriptor "([CII)[B" = some ⟨[(.array .char), .int, .int], some (.array .byte)⟩ := by decide +kernel
theorem d12_26 : decode jdk_52_method_16_code 26 = .ok (.astore 5, 2) := by decide +kernel
theorem d12_28 : decode jdk_52_method_16_code 28 = .ok (.aload 5, 2) := by decide +kernel
theorem d12_30 : decode jdk_52_method_16_code 30 = .ok (.iload 4, 2) := by decide +kernel
theorem d12_32 : decode jdk_52_method_16_code 32 = .ok (.invokestatic 71, 3) := by decide +kernel
theorem pd___BI_C : parseMethodDescriptor "([BI)C" = some ⟨[(.array .byte), .int], some .char⟩ := by decide +kernel
theorem d12_35 : decode jdk_52_method_16_code 35 = .ok (.sipush 255, 3) := by decide +kernel
theorem d12_38 : decode jdk_52_method_16_code 38 = .ok (.if_icmp .gt 16, 3) := by decide +kernel
theorem d12_54 : decode jdk_52_method_16_code 54 = .ok (.aload 5, 2) := by decide +kernel
theorem d12_56 : decode jdk_52_method_16_code 56 = .ok (.areturn, 1) := by decide +kernel
theorem d19_0 : decode jdk_52_method_15_code 0 = .ok (.iload_n 1, 1) := by decide +kernel
theorem d19_1 : decode jdk_52_method_15_code 1 = .ok (.aload_n 0, 1) := by decide +kernel
theorem d19_2 : decode jdk_52_method_15_code 2 = .ok (.arraylength, 1) := by decide +kernel
theorem d19_3 : decode jdk_52_method_15_code 3 = .ok (.isub, 1) := by decide +kernel
theorem d19_4 : decode jdk_52_method_15_code 4 = .ok (.bipush 31, 2) := by decide +kernel
theorem d19_6 : decode jdk_52_method_15_code 6 = .ok (.iushr, 1) := by decide +kernel
theorem d19_7 : decode jdk_52_method_15_code 7 = .ok (.i2b, 1) := by decide +kernel
theorem d19_8 : decode jdk_52_method_15_code 8 = .ok (.ireturn, 1) := by decide +kernel
theorem d3_0 : decode jdk_42_method_149_code 0 = .ok (.aload_n 0, 1) := by decide +kernel
theorem d3_1 : decode jdk_42_method_149_code 1 = .ok (.invokespecial 1, 3) := by decide +kernel
theorem d3_4 : decode jdk_42_method_149_code 4 = .ok (.iload_n 3, 1) := by decide +kernel
theorem d3_5 : decode jdk_42_method_149_code 5 = .ok (.ifCond .ne 22, 3) := by decide +kernel
theorem d3_27 : decode jdk_42_method_149_code 27 = .ok (.getstatic 38, 3) := by decide +kernel
theorem d3_30 : decode jdk_42_method_149_code 30 = .ok (.ifCond .eq 28, 3) := by decide +kernel
theorem d3_33 : decode jdk_42_method_149_code 33 = .ok (.aload_n 1, 1) := by decide +kernel
theorem d3_34 : decode jdk_42_method_149_code 34 = .ok (.iload_n 2, 1) := by decide +kernel
theorem d3_35 : decode jdk_42_method_149_code 35 = .ok (.iload_n 3, 1) := by decide +kernel
theorem d3_36 : decode jdk_42_method_149_code 36 = .ok (.invokestatic 177, 3) := by decide +kernel
theorem d3_39 : decode jdk_42_method_149_code 39 = .ok (.astore 5, 2) := by decide +kernel
theorem d3_41 : decode jdk_42_method_149_code 41 = .ok (.aload_n 0, 1) := by decide +kernel
theorem d3_42 : decode jdk_42_method_149_code 42 = .ok (.aload 5, 2) := by decide +kernel
theorem d3_44 : decode jdk_42_method_149_code 44 = .ok (.iload_n 3, 1) := by decide +kernel
theorem d3_45 : decode jdk_42_method_149_code 45 = .ok (.invokestatic 47, 3) := by decide +kernel
theorem pd___BI_B : parseMethodDescriptor "([BI)B" = some ⟨[(.array .byte), .int], some .byte⟩ := by decide +kernel
theorem d3_48 : decode jdk_42_method_149_code 48 = .ok (.putfield 15, 3) := by decide +kernel
theorem d3_51 : decode jdk_42_method_149_code 51 = .ok (.aload_n 0, 1) := by decide +kernel
theorem d3_52 : decode jdk_42_method_149_code 52 = .ok (.aload 5, 2) := by decide +kernel
theorem d3_54 : decode jdk_42_method_149_code 54 = .ok (.putfield 9, 3) := by decide +kernel
theorem d3_57 : decode jdk_42_method_149_code 57 = .ok (.return_, 1) := by decide +kernel
theorem pn_java_lang_String : plainName "java/lang/String" = true := by first | (simp [plainName, overriddenIn]; done) | decide +kernel
theorem d2_0 : decode jdk_42_method_3_code 0 = .ok (.aload_n 0, 1) := by decide +kernel
theorem d2_1 : decode jdk_42_method_3_code 1 = .ok (.aload_n 1, 1) := by decide +kernel
theorem d2_2 : decode jdk_42_method_3_code 2 = .ok (.iconst 0, 1) := by decide +kernel
theorem d2_3 : decode jdk_42_method_3_code 3 = .ok (.aload_n 1, 1) := by decide +kernel
theorem d2_4 : decode jdk_42_method_3_code 4 = .ok (.arraylength, 1) := by decide +kernel
theorem d2_5 : decode jdk_42_method_3_code 5 = .ok (.aconst_null, 1) := by decide +kernel
theorem d2_6 : decode jdk_42_method_3_code 6 = .ok (.invokespecial 27, 3) := by decide +kernel
theorem pd___CIILjava_lang_Void__V : parseMethodDescriptor "([CIILjava/lang/Void;)V" = some ⟨[(.array .char), .int, .int, (.object "java/lang/Void")], none⟩ := by decide +kernel
theorem d2_9 : decode jdk_42_method_3_code 9 = .ok (.return_, 1) := by decide +kernel
theorem d3_8 : decode jdk_42_method_149_code 8 = .ok (.aload_n 0, 1) := by decide +kernel
theorem d3_9 : decode jdk_42_method_149_code 9 = .ok (.ldc 7, 2) := by decide +kernel
theorem d3_11 : decode jdk_42_method_149_code 11 = .ok (.getfield 9, 3) := by decide +kernel
theorem d3_14 : decode jdk_42_method_149_code 14 = .ok (.putfield 9, 3) := by decide +kernel
theorem d3_17 : decode jdk_42_method_149_code 17 = .ok (.aload_n 0, 1) := by decide +kernel
theorem d3_18 : decode jdk_42_method_149_code 18 = .ok (.ldc 7, 2) := by decide +kernel
theorem d3_20 : decode jdk_42_method_149_code 20 = .ok (.getfield 15, 3) := by decide +kernel
theorem d3_23 : decode jdk_42_method_149_code 23 = .ok (.putfield 15, 3) := by decide +kernel
theorem d3_26 : decode jdk_42_method_149_code 26 = .ok (.return_, 1) := by decide +kernel
theorem d24_0 : decode jdk_42_method_152_code 0 = .ok (.getstatic 38, 3) := by decide +kernel
theorem d24_3 : decode jdk_42_method_152_code 3 = .ok (.ifCond .eq 10, 3) := by decide +kernel
theorem d24_6 : decode jdk_42_method_152_code 6 = .ok (.aload_n 0, 1) := by decide +kernel
theorem d24_7 : decode jdk_42_method_152_code 7 = .ok (.getfield 15, 3) := by decide +kernel
theorem d24_10 : decode jdk_42_method_152_code 10 = .ok (.goto 4, 3) := by decide +kernel
theorem d24_14 : decode jdk_42_method_152_code 14 = .ok (.ireturn, 1) := by decide +kernel
theorem d23_0 : decode jdk_42_method_54_code 0 = .ok (.aload_n 0, 1) := by decide +kernel
theorem d23_1 : decode jdk_42_method_54_code 1 = .ok (.getfield 9, 3) := by decide +kernel
theorem d23_4 : decode jdk_42_method_54_code 4 = .ok (.arraylength, 1) := by decide +kernel
theorem d23_5 : decode jdk_42_method_54_code 5 = .ok (.aload_n 0, 1) := by decide +kernel
theorem d23_6 : decode jdk_42_method_54_code 6 = .ok (.invokevirtual 335, 3) := by decide +kernel
theorem pd___B : parseMethodDescriptor "()B" = some ⟨[], some .byte⟩ := by decide +kernel
theorem d23_9 : decode jdk_42_method_54_code 9 = .ok (.ishr, 1) := by decide +kernel
theorem d23_10 : decode jdk_42_method_54_code 10 = .ok (.ireturn, 1) := by decide +kernel
theorem d22_0 : decode jdk_42_method_154_code 0 = .ok (.getstatic 38, 3) := by decide +kernel
theorem d22_3 : decode jdk_42_method_154_code 3 = .ok (.ifCond .eq 14, 3) := by decide +kernel
theorem d22_6 : decode jdk_42_method_154_code 6 = .ok (.aload_n 0, 1) := by decide +kernel
theorem d22_7 : decode jdk_42_method_154_code 7 = .ok (.getfield 15, 3) := by decide +kernel
theorem d22_10 : decode jdk_42_method_154_code 10 = .ok (.ifCond .ne 7, 3) := by decide +kernel
theorem d22_13 : decode jdk_42_method_154_code 13 = .ok (.iconst 1, 1) := by decide +kernel
theorem d22_14 : decode jdk_42_method_154_code 14 = .ok (.goto 4, 3) := by decide +kernel
theorem d22_18 : decode jdk_42_method_154_code 18 = .ok (.ireturn, 1) := by decide +kernel
theorem d22_17 : decode jdk_42_method_154_code 17 = .ok (.iconst 0, 1) := by decide +kernel
theorem d1_0 : decode method_3_code 0 = .ok (.iconst 1, 1) := by decide +kernel
theorem d1_1 : decode method_3_code 1 = .ok (.iload_n 0, 1) := by decide +kernel
theorem d1_2 : decode method_3_code 2 = .ok (.ldc 45, 2) := by decide +kernel
theorem d1_4 : decode method_3_code 4 = .ok (.iand, 1) := by decide +kernel
theorem d1_5 : decode method_3_code 5 = .ok (.ldc 46, 2) := by decide +kernel
theorem d1_7 : decode method_3_code 7 = .ok (.irem, 1) := by decide +kernel
theorem d1_8 : decode method_3_code 8 = .ok (.iadd, 1) := by decide +kernel
theorem d1_9 : decode method_3_code 9 = .ok (.i2c, 1) := by decide +kernel
theorem d1_10 : decode method_3_code 10 = .ok (.ireturn, 1) := by decide +kernel
theorem pn_com_example_holdfast_holdfast_sasl_Gs2HeaderWithoutChannelBindingPinLaw : plainName "com/example/holdfast/holdfast/sasl/Gs2HeaderWithoutChannelBindingPinLaw" = true := by first | (simp [plainName, overriddenIn]; done) | decide +kernel
theorem d32_0 : decode jdk_41_method_12_code 0 = .ok (.iload_n 0, 1) := by decide +kernel
theorem d32_1 : decode jdk_41_method_12_code 1 = .ok (.ifCond .lt 13, 3) := by decide +kernel
theorem d32_4 : decode jdk_41_method_12_code 4 = .ok (.iload_n 0, 1) := by decide +kernel
theorem d32_5 : decode jdk_41_method_12_code 5 = .ok (.iload_n 1, 1) := by decide +kernel
theorem d32_6 : decode jdk_41_method_12_code 6 = .ok (.if_icmp .gt 8, 3) := by decide +kernel
theorem d32_9 : decode jdk_41_method_12_code 9 = .ok (.iload_n 1, 1) := by decide +kernel
theorem d32_10 : decode jdk_41_method_12_code 10 = .ok (.iload_n 2, 1) := by decide +kernel
theorem d32_11 : decode jdk_41_method_12_code 11 = .ok (.if_icmp .le 11, 3) := by decide +kernel
theorem d32_22 : decode jdk_41_method_12_code 22 = .ok (.iload_n 0, 1) := by decide +kernel
theorem d32_23 : decode jdk_41_method_12_code 23 = .ok (.ireturn, 1) := by decide +kernel
theorem pn_jdk_internal_util_Preconditions : plainName "jdk/internal/util/Preconditions" = true := by first | (simp [plainName, overriddenIn]; done) | decide +kernel
theorem d31_0 : decode jdk_42_method_158_code 0 = .ok (.iload_n 0, 1) := by decide +kernel
theorem d31_1 : decode jdk_42_method_158_code 1 = .ok (.iload_n 1, 1) := by decide +kernel
theorem d31_2 : decode jdk_42_method_158_code 2 = .ok (.iload_n 2, 1) := by decide +kernel
theorem d31_3 : decode jdk_42_method_158_code 3 = .ok (.getstatic 1053, 3) := by decide +kernel
theorem d31_6 : decode jdk_42_method_158_code 6 = .ok (.invokestatic 1062, 3) := by decide +kernel
theorem pd__IIILjava_util_function_BiFunction__I : parseMethodDescriptor "(IIILjava/util/function/BiFunction;)I" = some ⟨[.int, .int, .int, (.object "java/util/function/BiFunction")], some .int⟩ := by decide +kernel
theorem d31_9 : decode jdk_42_method_158_code 9 = .ok (.pop, 1) := by decide +kernel
theorem d31_10 : decode jdk_42_method_158_code 10 = .ok (.return_, 1) := by decide +kernel
theorem d26_0 : decode jdk_29_method_65_code 0 = .ok (.iload_n 0, 1) := by decide +kernel
theorem d26_1 : decode jdk_29_method_65_code 1 = .ok (.iload_n 1, 1) := by decide +kernel
theorem d26_2 : decode jdk_29_method_65_code 2 = .ok (.if_icmp .lt 7, 3) := by decide +kernel
theorem d26_5 : decode jdk_29_method_65_code 5 = .ok (.iload_n 0, 1) := by decide +kernel
theorem d26_6 : decode jdk_29_method_65_code 6 = .ok (.goto 4, 3) := by decide +kernel
theorem d26_10 : decode jdk_29_method_65_code 10 = .ok (.ireturn, 1) := by decide +kernel
theorem d27_0 : decode jdk_29_method_69_code 0 = .ok (.iload_n 0, 1) := by decide +kernel
theorem d27_1 : decode jdk_29_method_69_code 1 = .ok (.iload_n 1, 1) := by decide +kernel
theorem d27_2 : decode jdk_29_method_69_code 2 = .ok (.if_icmp .gt 7, 3) := by decide +kernel
theorem d27_5 : decode jdk_29_method_69_code 5 = .ok (.iload_n 0, 1) := by decide +kernel
theorem d27_6 : decode jdk_29_method_69_code 6 = .ok (.goto 4, 3) := by decide +kernel
theorem d27_10 : decode jdk_29_method_69_code 10 = .ok (.ireturn, 1) := by decide +kernel
theorem d36_0 : decode jdk_43_method_4_code 0 = .ok (.iload_n 0, 1) := by decide +kernel
theorem d36_1 : decode jdk_43_method_4_code 1 = .ok (.ifCond .lt 14, 3) := by decide +kernel
theorem d36_4 : decode jdk_43_method_4_code 4 = .ok (.iload_n 0, 1) := by decide +kernel
theorem d36_5 : decode jdk_43_method_4_code 5 = .ok (.sipush 255, 3) := by decide +kernel
theorem d36_8 : decode jdk_43_method_4_code 8 = .ok (.if_icmp .gt 7, 3) := by decide +kernel
theorem d36_11 : decode jdk_43_method_4_code 11 = .ok (.iconst 1, 1) := by decide +kernel
theorem d36_12 : decode jdk_43_method_4_code 12 = .ok (.goto 4, 3) := by decide +kernel
theorem d36_16 : decode jdk_43_method_4_code 16 = .ok (.ireturn, 1) := by decide +kernel
theorem pn_java_lang_StringLatin1 : plainName "java/lang/StringLatin1" = true := by first | (simp [plainName, overriddenIn]; done) | decide +kernel
theorem d30_0 : decode jdk_52_method_6_code 0 = .ok (.aload_n 0, 1) := by decide +kernel
theorem d30_1 : decode jdk_52_method_6_code 1 = .ok (.arraylength, 1) := by decide +kernel
theorem d30_2 : decode jdk_52_method_6_code 2 = .ok (.iconst 1, 1) := by decide +kernel
theorem d30_3 : decode jdk_52_method_6_code 3 = .ok (.ishr, 1) := by decide +kernel
theorem d30_4 : decode jdk_52_method_6_code 4 = .ok (.ireturn, 1) := by decide +kernel
theorem d29_0 : decode jdk_52_method_93_code 0 = .ok (.iload_n 0, 1) := by decide +kernel
theorem d29_1 : decode jdk_52_method_93_code 1 = .ok (.iload_n 1, 1) := by decide +kernel
theorem d29_2 : decode jdk_52_method_93_code 2 = .ok (.aload_n 2, 1) := by decide +kernel
theorem d29_3 : decode jdk_52_method_93_code 3 = .ok (.invokestatic 48, 3) := by decide +kernel
theorem pd___B_I : parseMethodDescriptor "([B)I" = some ⟨[(.array .byte)], some .int⟩ := by decide +kernel
theorem d29_6 : decode jdk_52_method_93_code 6 = .ok (.invokestatic 241, 3) := by decide +kernel
theorem pd__III_V : parseMethodDescriptor "(III)V" = some ⟨[.int, .int, .int], none⟩ := by decide +kernel
theorem d29_9 : decode jdk_52_method_93_code 9 = .ok (.return_, 1) := by decide +kernel
theorem d33_0 : decode jdk_52_method_48_code 0 = .ok (.iload_n 2, 1) := by decide +kernel
theorem d33_1 : decode jdk_52_method_48_code 1 = .ok (.istore 4, 2) := by decide +kernel
theorem d33_3 : decode jdk_52_method_48_code 3 = .ok (.iload 4, 2) := by decide +kernel
theorem d33_5 : decode jdk_52_method_48_code 5 = .ok (.iload_n 3, 1) := by decide +kernel
theorem d33_6 : decode jdk_52_method_48_code 6 = .ok (.if_icmp .ge 22, 3) := by decide +kernel
theorem d33_9 : decode jdk_52_method_48_code 9 = .ok (.aload_n 0, 1) := by decide +kernel
theorem d33_10 : decode jdk_52_method_48_code 10 = .ok (.iload 4, 2) := by decide +kernel
theorem d33_12 : decode jdk_52_method_48_code 12 = .ok (.invokestatic 71, 3) := by decide +kernel
theorem d33_15 : decode jdk_52_method_48_code 15 = .ok (.iload_n 1, 1) := by decide +kernel
theorem d33_16 : decode jdk_52_method_48_code 16 = .ok (.if_icmp .ne 6, 3) := by decide +kernel
theorem d33_22 : decode jdk_52_method_48_code 22 = .ok (.iinc 4 1, 3) := by decide +kernel
theorem d33_25 : decode jdk_52_method_48_code 25 = .ok (.goto (-22), 3) := by decide +kernel
theorem d33_28 : decode jdk_52_method_48_code 28 = .ok (.iconst (-1), 1) := by decide +kernel
theorem d33_29 : decode jdk_52_method_48_code 29 = .ok (.ireturn, 1) := by decide +kernel
theorem d28_0 : decode jdk_52_method_47_code 0 = .ok (.iload_n 2, 1) := by decide +kernel
theorem d28_1 : decode jdk_52_method_47_code 1 = .ok (.iload_n 3, 1) := by decide +kernel
theorem d28_2 : decode jdk_52_method_47_code 2 = .ok (.aload_n 0, 1) := by decide +kernel
theorem d28_3 : decode jdk_52_method_47_code 3 = .ok (.invokestatic 96, 3) := by decide +kernel
theorem pd__II_B_V : parseMethodDescriptor "(II[B)V" = some ⟨[.int, .int, (.array .byte)], none⟩ := by decide +kernel
theorem d28_6 : decode jdk_52_method_47_code 6 = .ok (.aload_n 0, 1) := by decide +kernel
theorem d28_7 : decode jdk_52_method_47_code 7 = .ok (.iload_n 1, 1) := by decide +kernel
theorem d28_8 : decode jdk_52_method_47_code 8 = .ok (.iload_n 2, 1) := by decide +kernel
theorem d28_9 : decode jdk_52_method_47_code 9 = .ok (.iload_n 3, 1) := by decide +kernel
theorem d28_10 : decode jdk_52_method_47_code 10 = .ok (.invokestatic 244, 3) := by decide +kernel
theorem pd___BIII_I : parseMethodDescriptor "([BIII)I" = some ⟨[(.array .byte), .int, .int, .int], some .int⟩ := by decide +kernel
theorem d28_13 : decode jdk_52_method_47_code 13 = .ok (.ireturn, 1) := by decide +kernel
theorem d25_0 : decode jdk_52_method_40_code 0 = .ok (.iload_n 2, 1) := by decide +kernel
theorem d25_1 : decode jdk_52_method_40_code 1 = .ok (.iconst 0, 1) := by decide +kernel
theorem d25_2 : decode jdk_52_method_40_code 2 = .ok (.invokestatic 224, 3) := by decide +kernel
theorem pd__II_I : parseMethodDescriptor "(II)I" = some ⟨[.int, .int], some .int⟩ := by decide +kernel
theorem d25_5 : decode jdk_52_method_40_code 5 = .ok (.istore_n 2, 1) := by decide +kernel
theorem d25_6 : decode jdk_52_method_40_code 6 = .ok (.iload_n 3, 1) := by decide +kernel
theorem d25_7 : decode jdk_52_method_40_code 7 = .ok (.aload_n 0, 1) := by decide +kernel
theorem d25_8 : decode jdk_52_method_40_code 8 = .ok (.arraylength, 1) := by decide +kernel
theorem d25_9 : decode jdk_52_method_40_code 9 = .ok (.iconst 1, 1) := by decide +kernel
theorem d25_10 : decode jdk_52_method_40_code 10 = .ok (.ishr, 1) := by decide +kernel
theorem d25_11 : decode jdk_52_method_40_code 11 = .ok (.invokestatic 183, 3) := by decide +kernel
theorem d25_14 : decode jdk_52_method_40_code 14 = .ok (.istore_n 3, 1) := by decide +kernel
theorem d25_15 : decode jdk_52_method_40_code 15 = .ok (.iload_n 2, 1) := by decide +kernel
theorem d25_16 : decode jdk_52_method_40_code 16 = .ok (.iload_n 3, 1) := by decide +kernel
theorem d25_17 : decode jdk_52_method_40_code 17 = .ok (.if_icmp .lt 5, 3) := by decide +kernel
theorem d25_22 : decode jdk_52_method_40_code 22 = .ok (.iload_n 1, 1) := by decide +kernel
theorem d25_23 : decode jdk_52_method_40_code 23 = .ok (.ldc 227, 2) := by decide +kernel
theorem d25_25 : decode jdk_52_method_40_code 25 = .ok (.if_icmp .ge 11, 3) := by decide +kernel
theorem d25_28 : decode jdk_52_method_40_code 28 = .ok (.aload_n 0, 1) := by decide +kernel
theorem d25_29 : decode jdk_52_method_40_code 29 = .ok (.iload_n 1, 1) := by decide +kernel
theorem d25_30 : decode jdk_52_method_40_code 30 = .ok (.iload_n 2, 1) := by decide +kernel
theorem d25_31 : decode jdk_52_method_40_code 31 = .ok (.iload_n 3, 1) := by decide +kernel
theorem d25_32 : decode jdk_52_method_40_code 32 = .ok (.invokestatic 228, 3) := by decide +kernel
theorem d25_35 : decode jdk_52_method_40_code 35 = .ok (.ireturn, 1) := by decide +kernel
theorem d37_0 : decode jdk_43_method_23_code 0 = .ok (.iload_n 1, 1) := by decide +kernel
theorem d37_1 : decode jdk_43_method_23_code 1 = .ok (.i2b, 1) := by decide +kernel
theorem d37_2 : decode jdk_43_method_23_code 2 = .ok (.istore 4, 2) := by decide +kernel
theorem d37_4 : decode jdk_43_method_23_code 4 = .ok (.iload_n 2, 1) := by decide +kernel
theorem d37_5 : decode jdk_43_method_23_code 5 = .ok (.istore 5, 2) := by decide +kernel
theorem d37_7 : decode jdk_43_method_23_code 7 = .ok (.iload 5, 2) := by decide +kernel
theorem d37_9 : decode jdk_43_method_23_code 9 = .ok (.iload_n 3, 1) := by decide +kernel
theorem d37_10 : decode jdk_43_method_23_code 10 = .ok (.if_icmp .ge 21, 3) := by decide +kernel
theorem d37_13 : decode jdk_43_method_23_code 13 = .ok (.aload_n 0, 1) := by decide +kernel
theorem d37_14 : decode jdk_43_method_23_code 14 = .ok (.iload 5, 2) := by decide +kernel
theorem d37_16 : decode jdk_43_method_23_code 16 = .ok (.baload, 1) := by decide +kernel
theorem d37_17 : decode jdk_43_method_23_code 17 = .ok (.iload 4, 2) := by decide +kernel
theorem d37_19 : decode jdk_43_method_23_code 19 = .ok (.if_icmp .ne 6, 3) := by decide +kernel
theorem d37_25 : decode jdk_43_method_23_code 25 = .ok (.iinc 5 1, 3) := by decide +kernel
theorem d37_28 : decode jdk_43_method_23_code 28 = .ok (.goto (-21), 3) := by decide +kernel
theorem d37_31 : decode jdk_43_method_23_code 31 = .ok (.iconst (-1), 1) := by decide +kernel
theorem d37_32 : decode jdk_43_method_23_code 32 = .ok (.ireturn, 1) := by decide +kernel
theorem d35_0 : decode jdk_43_method_22_code 0 = .ok (.iload_n 1, 1) := by decide +kernel
theorem d35_1 : decode jdk_43_method_22_code 1 = .ok (.invokestatic 88, 3) := by decide +kernel
theorem pd__I_Z : parseMethodDescriptor "(I)Z" = some ⟨[.int], some .boolean⟩ := by decide +kernel
theorem d35_4 : decode jdk_43_method_22_code 4 = .ok (.ifCond .ne 5, 3) := by decide +kernel
theorem d35_9 : decode jdk_43_method_22_code 9 = .ok (.iload_n 2, 1) := by decide +kernel
theorem d35_10 : decode jdk_43_method_22_code 10 = .ok (.iconst 0, 1) := by decide +kernel
theorem d35_11 : decode jdk_43_method_22_code 11 = .ok (.invokestatic 92, 3) := by decide +kernel
theorem d35_14 : decode jdk_43_method_22_code 14 = .ok (.istore_n 2, 1) := by decide +kernel
theorem d35_15 : decode jdk_43_method_22_code 15 = .ok (.iload_n 3, 1) := by decide +kernel
theorem d35_16 : decode jdk_43_method_22_code 16 = .ok (.aload_n 0, 1) := by decide +kernel
theorem d35_17 : decode jdk_43_method_22_code 17 = .ok (.arraylength, 1) := by decide +kernel
theorem d35_18 : decode jdk_43_method_22_code 18 = .ok (.invokestatic 38, 3) := by decide +kernel
theorem d35_21 : decode jdk_43_method_22_code 21 = .ok (.istore_n 3, 1) := by decide +kernel
theorem d35_22 : decode jdk_43_method_22_code 22 = .ok (.iload_n 2, 1) := by decide +kernel
theorem d35_23 : decode jdk_43_method_22_code 23 = .ok (.iload_n 3, 1) := by decide +kernel
theorem d35_24 : decode jdk_43_method_22_code 24 = .ok (.if_icmp .lt 5, 3) := by decide +kernel
theorem d35_29 : decode jdk_43_method_22_code 29 = .ok (.aload_n 0, 1) := by decide +kernel
theorem d35_30 : decode jdk_43_method_22_code 30 = .ok (.iload_n 1, 1) := by decide +kernel
theorem d35_31 : decode jdk_43_method_22_code 31 = .ok (.iload_n 2, 1) := by decide +kernel
theorem d35_32 : decode jdk_43_method_22_code 32 = .ok (.iload_n 3, 1) := by decide +kernel
theorem d35_33 : decode jdk_43_method_22_code 33 = .ok (.invokestatic 95, 3) := by decide +kernel
theorem d35_36 : decode jdk_43_method_22_code 36 = .ok (.ireturn, 1) := by decide +kernel
theorem d21_0 : decode jdk_42_method_80_code 0 = .ok (.aload_n 0, 1) := by decide +kernel
theorem d21_1 : decode jdk_42_method_80_code 1 = .ok (.invokevirtual 492, 3) := by decide +kernel
theorem pd___Z : parseMethodDescriptor "()Z" = some ⟨[], some .boolean⟩ := by decide +kernel
theorem d21_4 : decode jdk_42_method_80_code 4 = .ok (.ifCond .eq 19, 3) := by decide +kernel
theorem d21_7 : decode jdk_42_method_80_code 7 = .ok (.aload_n 0, 1) := by decide +kernel
theorem d21_8 : decode jdk_42_method_80_code 8 = .ok (.getfield 9, 3) := by decide +kernel
theorem d21_11 : decode jdk_42_method_80_code 11 = .ok (.iload_n 1, 1) := by decide +kernel
theorem d21_12 : decode jdk_42_method_80_code 12 = .ok (.iload_n 2, 1) := by decide +kernel
theorem d21_13 : decode jdk_42_method_80_code 13 = .ok (.aload_n 0, 1) := by decide +kernel
theorem d21_14 : decode jdk_42_method_80_code 14 = .ok (.invokevirtual 505, 3) := by decide +kernel
theorem pd___I : parseMethodDescriptor "()I" = some ⟨[], some .int⟩ := by decide +kernel
theorem d21_17 : decode jdk_42_method_80_code 17 = .ok (.invokestatic 637, 3) := by decide +kernel
theorem d21_20 : decode jdk_42_method_80_code 20 = .ok (.goto 16, 3) := by decide +kernel
theorem d21_36 : decode jdk_42_method_80_code 36 = .ok (.ireturn, 1) := by decide +kernel
theorem d20_0 : decode jdk_42_method_79_code 0 = .ok (.aload_n 0, 1) := by decide +kernel
theorem d20_1 : decode jdk_42_method_79_code 1 = .ok (.iload_n 1, 1) := by decide +kernel
theorem d20_2 : decode jdk_42_method_79_code 2 = .ok (.iconst 0, 1) := by decide +kernel
theorem d20_3 : decode jdk_42_method_79_code 3 = .ok (.invokevirtual 633, 3) := by decide +kernel
theorem d20_6 : decode jdk_42_method_79_code 6 = .ok (.ireturn, 1) := by decide +kernel
theorem d21_23 : decode jdk_42_method_80_code 23 = .ok (.aload_n 0, 1) := by decide +kernel
theorem d21_24 : decode jdk_42_method_80_code 24 = .ok (.getfield 9, 3) := by decide +kernel
theorem d21_27 : decode jdk_42_method_80_code 27 = .ok (.iload_n 1, 1) := by decide +kernel
theorem d21_28 : decode jdk_42_method_80_code 28 = .ok (.iload_n 2, 1) := by decide +kernel
theorem d21_29 : decode jdk_42_method_80_code 29 = .ok (.aload_n 0, 1) := by decide +kernel
theorem d21_30 : decode jdk_42_method_80_code 30 = .ok (.invokevirtual 505, 3) := by decide +kernel
theorem d21_33 : decode jdk_42_method_80_code 33 = .ok (.invokestatic 640, 3) := by decide +kernel
theorem d8_0 : decode jdk_30_method_1_code 0 = .ok (.aload_n 0, 1) := by decide +kernel
theorem d8_1 : decode jdk_30_method_1_code 1 = .ok (.invokespecial 1, 3) := by decide +kernel
theorem d8_4 : decode jdk_30_method_1_code 4 = .ok (.return_, 1) := by decide +kernel
theorem pn_java_lang_Record : plainName "java/lang/Record" = true := by first | (simp [plainName, overriddenIn]; done) | decide +kernel
theorem d7_0 : decode prog_47_method_1_code 0 = .ok (.aload_n 0, 1) := by decide +kernel
theorem d7_1 : decode prog_47_method_1_code 1 = .ok (.invokespecial 1, 3) := by decide +kernel
theorem pd___V : parseMethodDescriptor "()V" = some ⟨[], none⟩ := by decide +kernel
theorem d7_4 : decode prog_47_method_1_code 4 = .ok (.aload_n 0, 1) := by decide +kernel
theorem d7_5 : decode prog_47_method_1_code 5 = .ok (.aload_n 1, 1) := by decide +kernel
theorem d7_6 : decode prog_47_method_1_code 6 = .ok (.putfield 7, 3) := by decide +kernel
theorem d7_9 : decode prog_47_method_1_code 9 = .ok (.aload_n 0, 1) := by decide +kernel
theorem d7_10 : decode prog_47_method_1_code 10 = .ok (.aload_n 2, 1) := by decide +kernel
theorem d7_11 : decode prog_47_method_1_code 11 = .ok (.putfield 13, 3) := by decide +kernel
theorem d7_14 : decode prog_47_method_1_code 14 = .ok (.aload_n 0, 1) := by decide +kernel
theorem d7_15 : decode prog_47_method_1_code 15 = .ok (.aload_n 3, 1) := by decide +kernel
theorem d7_16 : decode prog_47_method_1_code 16 = .ok (.putfield 17, 3) := by decide +kernel
theorem d7_19 : decode prog_47_method_1_code 19 = .ok (.return_, 1) := by decide +kernel
theorem pn_com_example_holdfast_holdfast_sasl_Gs2Header : plainName "com/example/holdfast/holdfast/sasl/Gs2Header" = true := by first | (simp [plainName, overriddenIn]; done) | decide +kernel
theorem d6_0 : decode jdk_42_method_55_code 0 = .ok (.aload_n 0, 1) := by decide +kernel
theorem d6_1 : decode jdk_42_method_55_code 1 = .ok (.getfield 9, 3) := by decide +kernel
theorem d6_4 : decode jdk_42_method_55_code 4 = .ok (.arraylength, 1) := by decide +kernel
theorem d6_5 : decode jdk_42_method_55_code 5 = .ok (.ifCond .ne 7, 3) := by decide +kernel
theorem d6_8 : decode jdk_42_method_55_code 8 = .ok (.iconst 1, 1) := by decide +kernel
theorem d6_9 : decode jdk_42_method_55_code 9 = .ok (.goto 4, 3) := by decide +kernel
theorem d6_13 : decode jdk_42_method_55_code 13 = .ok (.ireturn, 1) := by decide +kernel
theorem d6_12 : decode jdk_42_method_55_code 12 = .ok (.iconst 0, 1) := by decide +kernel
theorem d5_0 : decode prog_47_method_4_code 0 = .ok (.aload_n 0, 1) := by decide +kernel
theorem d5_1 : decode prog_47_method_4_code 1 = .ok (.ifnull 10, 3) := by decide +kernel
theorem d5_11 : decode prog_47_method_4_code 11 = .ok (.aconst_null, 1) := by decide +kernel
theorem d5_12 : decode prog_47_method_4_code 12 = .ok (.goto 4, 3) := by decide +kernel
theorem d5_16 : decode prog_47_method_4_code 16 = .ok (.astore_n 1, 1) := by decide +kernel
theorem d5_17 : decode prog_47_method_4_code 17 = .ok (.aload_n 1, 1) := by decide +kernel
theorem d5_18 : decode prog_47_method_4_code 18 = .ok (.ifnull 21, 3) := by decide +kernel
theorem d5_39 : decode prog_47_method_4_code 39 = .ok (.new 8, 3) := by decide +kernel
theorem d5_42 : decode prog_47_method_4_code 42 = .ok (.dup, 1) := by decide +kernel
theorem d5_43 : decode prog_47_method_4_code 43 = .ok (.getstatic 96, 3) := by decide +kernel
theorem d5_46 : decode prog_47_method_4_code 46 = .ok (.aconst_null, 1) := by decide +kernel
theorem d5_47 : decode prog_47_method_4_code 47 = .ok (.aload_n 1, 1) := by decide +kernel
theorem d5_48 : decode prog_47_method_4_code 48 = .ok (.invokespecial 52, 3) := by decide +kernel
theorem pd__Lcom_example_holdfast_holdfast_sasl_Gs2Header_ChannelBinding_Ljava_lang_String_Ljava_lang_String__V : parseMethodDescriptor "(Lcom/example/holdfast/holdfast/sasl/Gs2Header$ChannelBinding;Ljava/lang/String;Ljava/lang/String;)V" = some ⟨[(.object "com/example/holdfast/holdfast/sasl/Gs2Header$ChannelBinding"), (.object "java/lang/String"), (.object "java/lang/String")], none⟩ := by decide +kernel
theorem d5_51 : decode prog_47_method_4_code 51 = .ok (.areturn, 1) := by decide +kernel
theorem d5_4 : decode prog_47_method_4_code 4 = .ok (.aload_n 0, 1) := by decide +kernel
theorem d5_5 : decode prog_47_method_4_code 5 = .ok (.invokevirtual 90, 3) := by decide +kernel
theorem d5_8 : decode prog_47_method_4_code 8 = .ok (.ifCond .eq 7, 3) := by decide +kernel
theorem d5_15 : decode prog_47_method_4_code 15 = .ok (.aload_n 0, 1) := by decide +kernel
theorem d5_21 : decode prog_47_method_4_code 21 = .ok (.aload_n 1, 1) := by decide +kernel
theorem d5_22 : decode prog_47_method_4_code 22 = .ok (.iconst 0, 1) := by decide +kernel
theorem d5_23 : decode prog_47_method_4_code 23 = .ok (.invokevirtual 24, 3) := by decide +kernel
theorem d5_26 : decode prog_47_method_4_code 26 = .ok (.ifCond .lt 13, 3) := by decide +kernel
theorem d9_0 : decode prog_47_method_13_code 0 = .ok (.aload_n 0, 1) := by decide +kernel
theorem d9_1 : decode prog_47_method_13_code 1 = .ok (.getfield 7, 3) := by decide +kernel
theorem d9_4 : decode prog_47_method_13_code 4 = .ok (.areturn, 1) := by decide +kernel
theorem d10_0 : decode prog_47_method_14_code 0 = .ok (.aload_n 0, 1) := by decide +kernel
theorem d10_1 : decode prog_47_method_14_code 1 = .ok (.getfield 13, 3) := by decide +kernel
theorem d10_4 : decode prog_47_method_14_code 4 = .ok (.areturn, 1) := by decide +kernel
theorem d11_0 : decode prog_47_method_15_code 0 = .ok (.aload_n 0, 1) := by decide +kernel
theorem d11_1 : decode prog_47_method_15_code 1 = .ok (.getfield 17, 3) := by decide +kernel
theorem d11_4 : decode prog_47_method_15_code 4 = .ok (.areturn, 1) := by decide +kernel
theorem d34_0 : decode jdk_42_method_66_code 0 = .ok (.aload_n 0, 1) := by decide +kernel
theorem d34_1 : decode jdk_42_method_66_code 1 = .ok (.aload_n 1, 1) := by decide +kernel
theorem d34_2 : decode jdk_42_method_66_code 2 = .ok (.if_acmp .ne 5, 3) := by decide +kernel
theorem d34_5 : decode jdk_42_method_66_code 5 = .ok (.iconst 1, 1) := by decide +kernel
theorem d34_6 : decode jdk_42_method_66_code 6 = .ok (.ireturn, 1) := by decide +kernel
theorem pd__I_C : parseMethodDescriptor "(I)C" = some ⟨[.int], some .char⟩ := by decide +kernel
theorem pd___C_V : parseMethodDescriptor "([C)V" = some ⟨[(.array .char)], none⟩ := by decide +kernel
theorem pd__Ljava_lang_String__Lcom_example_holdfast_holdfast_sasl_Gs2Header_ : parseMethodDescriptor "(Ljava/lang/String;)Lcom/example/holdfast/holdfast/sasl/Gs2Header;" = some ⟨[(.object "java/lang/String")], some (.object "com/example/holdfast/holdfast/sasl/Gs2Header")⟩ := by decide +kernel
theorem pd___Lcom_example_holdfast_holdfast_sasl_Gs2Header_ChannelBinding_ : parseMethodDescriptor "()Lcom/example/holdfast/holdfast/sasl/Gs2Header$ChannelBinding;" = some ⟨[], some (.object "com/example/holdfast/holdfast/sasl/Gs2Header$ChannelBinding")⟩ := by decide +kernel
theorem pd___Ljava_lang_String_ : parseMethodDescriptor "()Ljava/lang/String;" = some ⟨[], some (.object "java/lang/String")⟩ := by decide +kernel
theorem pd__Ljava_lang_Object__Z : parseMethodDescriptor "(Ljava/lang/Object;)Z" = some ⟨[(.object "java/lang/Object")], some .boolean⟩ := by decide +kernel
theorem ct_put1_0 (l : Launch) (Z : State) (a0 : Array Value) (hw : HW a0 Z) {cS : Int32} {fm : Value} {ub : Addr} (am : Amb Z a0 cS fm ub) {t : Addr} {kB : ClassId} {c0 : Int32} {h0 : Heap} (p0 : Arv Z h0 t kB .byte (2 : Int32) [(.int 0), (.int 0)] (.int 0)) :
    Py l Z (⟨"java/lang/StringUTF16", "putChar", "([BII)V"⟩ : MethodName) 1 14 0 0 #[(.ref t), (.int 0), (.int c0)] h0 [t] (fun rv h' => rv = none ∧ Arv Z h' t kB .byte (2 : Int32) [(.int (lo8 c0)), (.int (hi8 c0))] (.int 0)) := by
  refine Ct.py (by0 := jdk_52_method_4_code) (ml := 3) (rt := none) (rm := ({ frames := 0, cells := 0, slots := 0, locals := 0 } : Room)) ?_ (hq hw 93 rfl) (hq hw 76 rfl)
  refine Ct.mk (a0 := a0) (Ls := #[.val (.ref t), .val (.int 0), .val (.int c0)]) (plainFor_of_name pn_java_lang_StringUTF16) (fun m => by first | (simp [entryFrame, mkF, argsToLocals, Value.category]; done) | rfl) ?_
  intro κ C
  show Go l _ Z _ _ _ κ [t] h0 0 #[.val (.ref t), .val (.int 0), .val (.int c0)] [] 0 0
  refine go_getS C 3 d17_0 rfl (hq hw 94 rfl) am.2.2.2.1 ?_
  refine go_ifY C (pc' := 28) d17_3 (feq ((by decide) : ¬ ((1 : Int32) = (0 : Int32)))).2 (by decide) (by decide) ?_
  refine go_iloadN C 29 d17_28 rfl rfl ?_
  refine go_iconst C 30 (1 : Int32) d17_29 rfl (by decide) ?_
  refine go_ishl C 31 (0 : Int32) d17_30 rfl (by decide) ?_
  refine go_istoreN C 32 (Ls' := #[.val (.ref t), .val (.int 0), .val (.int c0)]) d17_31 rfl rfl ?_
  refine go_aloadN C 33 d17_32 rfl rfl rfl ?_
  refine go_iloadN C 34 d17_33 rfl rfl ?_
  refine go_iinc C 37 (Ls' := #[.val (.ref t), .val (.int 1), .val (.int c0)]) (1 : Int32) d17_34 rfl (by decide) rfl rfl ?_
  refine go_iloadN C 38 d17_37 rfl rfl ?_
  refine go_getS C 41 d17_38 rfl (hq hw 95 rfl) am.2.2.2.2.1 ?_
  refine go_ishr C 42 c0 d17_41 rfl (shr_0 _) ?_
  refine go_i2b C 43 (lo8 c0) d17_42 rfl rfl ?_
  refine go_bastore C 44 0 (v := (lo8 c0)) (nar_lo8 _) d17_43 rfl p0 (by decide) rfl (nble rfl) (mi 0 rfl) ?_
  intro h1 W2 fx3
  have fx4 : Arv Z h1 t kB .byte (2 : Int32) [(.int (lo8 c0)), (.int 0)] (.int 0) := fx3
  refine go_aloadN C 45 d17_44 rfl rfl rfl ?_
  refine go_iloadN C 46 d17_45 rfl rfl ?_
  refine go_iloadN C 47 d17_46 rfl rfl ?_
  refine go_getS C 50 d17_47 rfl (hq hw 96 rfl) am.2.2.2.2.2.1 ?_
  refine go_ishr C 51 (c0 >>> ((8 : Int32) &&& 31)) d17_50 rfl rfl ?_
  refine go_i2b C 52 (hi8 c0) d17_51 rfl rfl ?_
  refine go_bastore C 53 1 (v := (hi8 c0)) (nar_hi8 _) d17_52 rfl fx4 (by decide) rfl (nble rfl) (mi 0 rfl) ?_
  intro h5 W6 fx7
  have fx8 : Arv Z h5 t kB .byte (2 : Int32) [(.int (lo8 c0)), (.int (hi8 c0))] (.int 0) := fx7
  refine go_ret C d17_53 rfl (by decide) (by decide) ?_
  exact ⟨rfl, fx8⟩
theorem ct_get1_0 (l : Launch) (Z : State) (a0 : Array Value) (hw : HW a0 Z) {cS : Int32} {fm : Value} {ub : Addr} (am : Amb Z a0 cS fm ub) {t : Addr} {kB : ClassId} {c0 : Int32} {h0 : Heap} (p0 : Arv Z h0 t kB .byte (2 : Int32) [(.int (lo8 c0)), (.int (hi8 c0))] (.int 0)) (r0 : Chr c0) :
    Py l Z (⟨"java/lang/StringUTF16", "getChar", "([BI)C"⟩ : MethodName) 1 13 0 0 #[(.ref t), (.int 0)] h0 [] (fun rv h' => rv = some (.int c0) ∧ h' = h0) := by
  refine Ct.py (by0 := jdk_52_method_5_code) (ml := 2) (rt := (some .char)) (rm := ({ frames := 0, cells := 0, slots := 0, locals := 0 } : Room)) ?_ (hq hw 99 rfl) (hq hw 76 rfl)
  refine Ct.mk (a0 := a0) (Ls := #[.val (.ref t), .val (.int 0)]) (plainFor_of_name pn_java_lang_StringUTF16) (fun m => by first | (simp [entryFrame, mkF, argsToLocals, Value.category]; done) | rfl) ?_
  intro κ C
  show Go l _ Z _ _ _ κ [] h0 0 #[.val (.ref t), .val (.int 0)] [] 0 0
  refine go_getS C 3 d18_0 rfl (hq hw 94 rfl) am.2.2.2.1 ?_
  refine go_ifY C (pc' := 28) d18_3 (feq ((by decide) : ¬ ((1 : Int32) = (0 : Int32)))).2 (by decide) (by decide) ?_
  refine go_iloadN C 29 d18_28 rfl rfl ?_
  refine go_iconst C 30 (1 : Int32) d18_29 rfl (by decide) ?_
  refine go_ishl C 31 (0 : Int32) d18_30 rfl (by decide) ?_
  refine go_istoreN C 32 (Ls' := #[.val (.ref t), .val (.int 0)]) d18_31 rfl rfl ?_
  refine go_aloadN C 33 d18_32 rfl rfl rfl ?_
  refine go_iloadN C 34 d18_33 rfl rfl ?_
  refine go_iinc C 37 (Ls' := #[.val (.ref t), .val (.int 1)]) (1 : Int32) d18_34 rfl (by decide) rfl rfl ?_
  refine go_baload C 38 (v := (.int (lo8 c0))) d18_37 rfl p0 (by decide) rfl ?_
  refine go_sipush C 41 (255 : Int32) d18_38 rfl (by decide) ?_
  refine go_iand C 42 ((lo8 c0) &&& (255 : Int32)) d18_41 rfl rfl ?_
  refine go_getS C 45 d18_42 rfl (hq hw 95 rfl) am.2.2.2.2.1 ?_
  refine go_ishl C 46 (((lo8 c0) &&& (255 : Int32)) <<< ((0 : Int32) &&& 31)) d18_45 rfl rfl ?_
  refine go_aloadN C 47 d18_46 rfl rfl rfl ?_
  refine go_iloadN C 48 d18_47 rfl rfl ?_
  refine go_baload C 49 (v := (.int (hi8 c0))) d18_48 rfl p0 (by decide) rfl ?_
  refine go_sipush C 52 (255 : Int32) d18_49 rfl (by decide) ?_
  refine go_iand C 53 ((hi8 c0) &&& (255 : Int32)) d18_52 rfl rfl ?_
  refine go_getS C 56 d18_53 rfl (hq hw 96 rfl) am.2.2.2.2.2.1 ?_
  refine go_ishl C 57 (((hi8 c0) &&& (255 : Int32)) <<< ((8 : Int32) &&& 31)) d18_56 rfl rfl ?_
  refine go_ior C 58 ((((lo8 c0) &&& (255 : Int32)) <<< ((0 : Int32) &&& 31)) ||| (((hi8 c0) &&& (255 : Int32)) <<< ((8 : Int32) &&& 31))) d18_57 rfl rfl ?_
  refine go_i2c C 59 c0 d18_58 rfl (get16 r0) ?_
  refine go_retN C (t := .char) (z := c0) d18_59 rfl (by decide) r0.nar (by decide) (by decide) ?_
  exact ⟨rfl, rfl⟩
theorem ct_nbl1 (l : Launch) (Z : State) (a0 : Array Value) (hw : HW a0 Z) {cS : Int32} {fm : Value} {ub : Addr} (am : Amb Z a0 cS fm ub) {h0 : Heap} :
    Py l Z (⟨"java/lang/StringUTF16", "newBytesLength", "(I)I"⟩ : MethodName) 1 12 0 0 #[(.int 1)] h0 [] (fun rv h' => rv = some (.int 2) ∧ h' = h0) := by
  refine Ct.py (by0 := jdk_52_method_3_code) (ml := 1) (rt := (some .int)) (rm := ({ frames := 0, cells := 0, slots := 0, locals := 0 } : Room)) ?_ (hq hw 89 rfl) (hq hw 76 rfl)
  refine Ct.mk (a0 := a0) (Ls := #[.val (.int 1)]) (plainFor_of_name pn_java_lang_StringUTF16) (fun m => by first | (simp [entryFrame, mkF, argsToLocals, Value.category]; done) | rfl) ?_
  intro κ C
  show Go l _ Z _ _ _ κ [] h0 0 #[.val (.int 1)] [] 0 0
  refine go_iloadN C 1 d16_0 rfl rfl ?_
  refine go_ifY C (pc' := 12) d16_1 (flt ((by decide) : ¬ ((1 : Int32) < (0 : Int32)))).2.1 (by decide) (by decide) ?_
  refine go_iloadN C 13 d16_12 rfl rfl ?_
  refine go_ldcInt C 15 (v := (1073741823 : Int32)) d16_13 rfl (hq hw 90 rfl) ?_
  refine go_icmpY C (pc' := 55) d16_15 (tlt ((by decide) : (1 : Int32) < (1073741823 : Int32))).1 (by decide) (by decide) ?_
  refine go_iloadN C 56 d16_55 rfl rfl ?_
  refine go_iconst C 57 (1 : Int32) d16_56 rfl (by decide) ?_
  refine go_ishl C 58 (2 : Int32) d16_57 rfl (by decide) ?_
  refine go_retI C d16_58 rfl (by decide) (by decide) ?_
  exact ⟨rfl, rfl⟩
theorem ct_nbf1 (l : Launch) (Z : State) (a0 : Array Value) (hw : HW a0 Z) {cS : Int32} {fm : Value} {ub : Addr} (am : Amb Z a0 cS fm ub) {h0 : Heap} :
    Py l Z (⟨"java/lang/StringUTF16", "newBytesFor", "(I)[B"⟩ : MethodName) 2 24 1 2 #[(.int 1)] h0 [] (fun rv h' => ∃ (t : Addr) (kB : ClassId), rv = some (.ref t) ∧ Arv Z h' t kB .byte (2 : Int32) [(.int 0), (.int 0)] (.int 0) ∧ (h0.size ≤ t)) := by
  refine Ct.py (by0 := jdk_52_method_2_code) (ml := 1) (rt := (some (.array .byte))) (rm := ({ frames := 1, cells := 1, slots := 2, locals := 12 } : Room)) ?_ (hq hw 86 rfl) (hq hw 76 rfl)
  refine Ct.mk (a0 := a0) (Ls := #[.val (.int 1)]) (plainFor_of_name pn_java_lang_StringUTF16) (fun m => by first | (simp [entryFrame, mkF, argsToLocals, Value.category]; done) | rfl) ?_
  intro κ C
  show Go l _ Z _ _ _ κ [] h0 0 #[.val (.int 1)] [] 0 0
  refine go_iloadN C 1 d15_0 rfl rfl ?_
  refine go_callS C (argsL := [(.int 1)]) (W := 0) d15_1 (hq hw 87 rfl) (hq hw 88 rfl) (hq hw 76 rfl) (hq hw 89 rfl) (by decide) pd__I_I (ct_nbl1 l Z a0 hw am) rfl (by decide) (Nat.le_of_eq rfl) (by decide) rfl (by decide) (by decide) mems0 ?_
  intro fv1 h2 K3 fq4
  obtain ⟨rfl, rfl⟩ := fq4
  refine ⟨[], fresh0, ?_⟩
  show Go l _ Z _ _ _ κ _ _ 4 _ [(.int 2)] 0 0
  refine go_newP C 6 1 2 (ty := .byte) (cap := 2) d15_4 rfl rfl rfl rfl (hq hw 21 rfl) (by decide) (by decide) (by decide) (by decide) (by decide) ?_
  intro b5 h6 k7 g8 E9 V10
  have fx11 : Arv Z h6 b5 k7 .byte (2 : Int32) [(.int 0), (.int 0)] (.int 0) := V10
  refine go_retA C (v := (.ref b5)) d15_6 rfl rfl rfl (by decide) (by decide) ?_
  exact ⟨b5, k7, rfl, fx11, (Nat.le_of_eq g8.symm)⟩
theorem ct_tob1 (l : Launch) (Z : State) (a0 : Array Value) (hw : HW a0 Z) {cS : Int32} {fm : Value} {ub : Addr} (am : Amb Z a0 cS fm ub) {b : Addr} {kC : ClassId} {c0 : Int32} {h0 : Heap} (p0 : Arv Z h0 b kC .char (1 : Int32) [(.int c0)] (.int 0)) :
    Py l Z (⟨"java/lang/StringUTF16", "toBytes", "([CII)[B"⟩ : MethodName) 3 40 1 2 #[(.ref b), (.int 0), (.int 1)] h0 [] (fun rv h' => ∃ (t : Addr) (kB : ClassId), rv = some (.ref t) ∧ Arv Z h' t kB .byte (2 : Int32) [(.int (lo8 c0)), (.int (hi8 c0))] (.int 0) ∧ (h0.size ≤ t)) := by
  refine Ct.py (by0 := jdk_52_method_14_code) (ml := 5) (rt := (some (.array .byte))) (rm := ({ frames := 2, cells := 1, slots := 2, locals := 24 } : Room)) ?_ (hq hw 83 rfl) (hq hw 76 rfl)
  refine Ct.mk (a0 := a0) (Ls := #[.val (.ref b), .val (.int 0), .val (.int 1), .unset, .unset]) (plainFor_of_name pn_java_lang_StringUTF16) (fun m => by first | (simp [entryFrame, mkF, argsToLocals, Value.category]; done) | rfl) ?_
  intro κ C
  show Go l _ Z _ _ _ κ [] h0 0 #[.val (.ref b), .val (.int 0), .val (.int 1), .unset, .unset] [] 0 0
  refine go_iloadN C 1 d14_0 rfl rfl ?_
  refine go_callS C (argsL := [(.int 1)]) (W := 0) d14_1 (hq hw 84 rfl) (hq hw 85 rfl) (hq hw 76 rfl) (hq hw 86 rfl) (by decide) pd__I__B (ct_nbf1 l Z a0 hw am) rfl (by decide) (Nat.le_of_eq rfl) (by decide) rfl (by decide) (by decide) mems0 ?_
  intro fv1 h2 K3 fq4
  obtain ⟨t5, kB6, rfl, fx7, fx8⟩ := fq4
  refine ⟨[t5], (freshS ⟨fx8, (fx7).lt⟩ fresh0), ?_⟩
  show Go l _ Z _ _ _ κ [t5] _ 4 _ [(.ref t5)] 1 2
  refine go_astoreN C 5 (Ls' := #[.val (.ref b), .val (.int 0), .val (.int 1), .val (.ref t5), .unset]) d14_4 rfl rfl rfl ?_
  refine go_iconst C 6 (0 : Int32) d14_5 rfl (by decide) ?_
  refine go_istore C 8 (Ls' := #[.val (.ref b), .val (.int 0), .val (.int 1), .val (.ref t5), .val (.int 0)]) d14_6 rfl rfl ?_
  refine go_iload C 10 d14_8 rfl rfl ?_
  refine go_iloadN C 11 d14_10 rfl rfl ?_
  refine go_icmpN C 14 d14_11 rfl (tlt ((by decide) : (0 : Int32) < (1 : Int32))).2.1 ?_
  refine go_aloadN C 15 d14_14 rfl rfl rfl ?_
  refine go_iload C 17 d14_15 rfl rfl ?_
  refine go_aloadN C 18 d14_17 rfl rfl rfl ?_
  refine go_iloadN C 19 d14_18 rfl rfl ?_
  have fx9 := (p0.keep K3 nin0)
  refine go_caload C 20 (v := (.int c0)) d14_19 rfl fx9 (by decide) rfl ?_
  refine go_callS C (argsL := [(.ref t5), (.int 0), (.int c0)]) (W := 0) d14_20 (hq hw 91 rfl) (hq hw 92 rfl) (hq hw 76 rfl) (hq hw 93 rfl) (by decide) pd___BII_V (ct_put1_0 l Z a0 hw am (t := t5) (kB := kB6) (c0 := c0) fx7) rfl (by decide) (Nat.le_of_eq rfl) (by decide) rfl (by decide) (by decide) (memsS (mi 0 rfl) mems0) ?_
  intro fv10 h11 K12 fq13
  obtain ⟨rfl, fx14⟩ := fq13
  refine ⟨[], fresh0, ?_⟩
  show Go l _ Z _ _ _ κ _ _ 23 _ [] 1 2
  refine go_iinc C 26 (Ls' := #[.val (.ref b), .val (.int 1), .val (.int 1), .val (.ref t5), .val (.int 0)]) (1 : Int32) d14_23 rfl (by decide) rfl rfl ?_
  refine go_iinc C 29 (Ls' := #[.val (.ref b), .val (.int 1), .val (.int 1), .val (.ref t5), .val (.int 1)]) (1 : Int32) d14_26 rfl (by decide) rfl rfl ?_
  refine go_goto C (pc' := 8) d14_29 (by decide) (by decide) ?_
  refine go_iload C 10 d14_8 rfl rfl ?_
  refine go_iloadN C 11 d14_10 rfl rfl ?_
  refine go_icmpY C (pc' := 32) d14_11 (flt ((by decide) : ¬ ((1 : Int32) < (1 : Int32)))).2.1 (by decide) (by decide) ?_
  refine go_aloadN C 33 d14_32 rfl rfl rfl ?_
  refine go_retA C (v := (.ref t5)) d14_33 rfl rfl rfl (by decide) (by decide) ?_
  exact ⟨t5, kB6, rfl, fx14, fx8⟩
theorem ct_cmp1 (l : Launch) (Z : State) (a0 : Array Value) (hw : HW a0 Z) {cS : Int32} {fm : Value} {ub : Addr} (am : Amb Z a0 cS fm ub) {b : Addr} {t : Addr} {kC : ClassId} {kB : ClassId} {c0 : Int32} {h0 : Heap} (p0 : Arv Z h0 b kC .char (1 : Int32) [(.int c0)] (.int 0)) (p1 : Arv Z h0 t kB .byte (1 : Int32) [(.int 0)] (.int 0)) (hbt : b ≠ t) :
    Py l Z (⟨"java/lang/StringUTF16", "compress", "([CI[BII)I"⟩ : MethodName) 1 18 0 0 #[(.ref b), (.int 0), (.ref t), (.int 0), (.int 1)] h0 [t] (fun rv h' => (rv = some (.int 1) ∧ Arv Z h' t kB .byte (1 : Int32) [(.int (lo8 c0))] (.int 0) ∧ (¬ (255 : Int32) < c0)) ∨ (∃ (vs : List Value), rv = some (.int 0) ∧ Arv Z h' t kB .byte (1 : Int32) vs (.int 0) ∧ ((255 : Int32) < c0))) := by
  refine Ct.py (by0 := jdk_52_method_21_code) (ml := 7) (rt := (some .int)) (rm := ({ frames := 0, cells := 0, slots := 0, locals := 0 } : Room)) ?_ (hq hw 80 rfl) (hq hw 76 rfl)
  refine Ct.mk (a0 := a0) (Ls := #[.val (.ref b), .val (.int 0), .val (.ref t), .val (.int 0), .val (.int 1), .unset, .unset]) (plainFor_of_name pn_java_lang_StringUTF16) (fun m => by first | (simp [entryFrame, mkF, argsToLocals, Value.category]; done) | rfl) ?_
  intro κ C
  show Go l _ Z _ _ _ κ [t] h0 0 #[.val (.ref b), .val (.int 0), .val (.ref t), .val (.int 0), .val (.int 1), .unset, .unset] [] 0 0
  refine go_iconst C 1 (0 : Int32) d13_0 rfl (by decide) ?_
  refine go_istore C 3 (Ls' := #[.val (.ref b), .val (.int 0), .val (.ref t), .val (.int 0), .val (.int 1), .val (.int 0), .unset]) d13_1 rfl rfl ?_
  refine go_iload C 5 d13_3 rfl rfl ?_
  refine go_iload C 7 d13_5 rfl rfl ?_
  refine go_icmpN C 10 d13_7 rfl (tlt ((by decide) : (0 : Int32) < (1 : Int32))).2.1 ?_
  refine go_aloadN C 11 d13_10 rfl rfl rfl ?_
  refine go_iloadN C 12 d13_11 rfl rfl ?_
  refine go_caload C 13 (v := (.int c0)) d13_12 rfl p0 (by decide) rfl ?_
  refine go_istore C 15 (Ls' := #[.val (.ref b), .val (.int 0), .val (.ref t), .val (.int 0), .val (.int 1), .val (.int 0), .val (.int c0)]) d13_13 rfl rfl ?_
  refine go_iload C 17 d13_15 rfl rfl ?_
  refine go_sipush C 20 (255 : Int32) d13_17 rfl (by decide) ?_
  by_cases q0 : (255 : Int32) < c0
  · skip
    refine go_icmpN C 23 d13_20 rfl (tlt q0).2.2.2 ?_
    refine go_iload C 25 d13_23 rfl rfl ?_
    refine go_retI C d13_25 rfl (by decide) (by decide) ?_
    exact Or.inr (⟨[(.int 0)], rfl, p1, q0⟩)
  · skip
    refine go_icmpY C (pc' := 26) d13_20 (flt q0).2.2.2 (by decide) (by decide) ?_
    refine go_aloadN C 27 d13_26 rfl rfl rfl ?_
    refine go_iloadN C 28 d13_27 rfl rfl ?_
    refine go_iload C 30 d13_28 rfl rfl ?_
    refine go_i2b C 31 (lo8 c0) d13_30 rfl rfl ?_
    refine go_bastore C 32 0 (v := (lo8 c0)) (nar_lo8 _) d13_31 rfl p1 (by decide) rfl (nble rfl) (mi 0 rfl) ?_
    intro h1 W2 fx3
    have fx4 : Arv Z h1 t kB .byte (1 : Int32) [(.int (lo8 c0))] (.int 0) := fx3
    refine go_iinc C 35 (Ls' := #[.val (.ref b), .val (.int 1), .val (.ref t), .val (.int 0), .val (.int 1), .val (.int 0), .val (.int c0)]) (1 : Int32) d13_32 rfl (by decide) rfl rfl ?_
    refine go_iinc C 38 (Ls' := #[.val (.ref b), .val (.int 1), .val (.ref t), .val (.int 1), .val (.int 1), .val (.int 0), .val (.int c0)]) (1 : Int32) d13_35 rfl (by decide) rfl rfl ?_
    refine go_iinc C 41 (Ls' := #[.val (.ref b), .val (.int 1), .val (.ref t), .val (.int 1), .val (.int 1), .val (.int 1), .val (.int c0)]) (1 : Int32) d13_38 rfl (by decide) rfl rfl ?_
    refine go_goto C (pc' := 3) d13_41 (by decide) (by decide) ?_
    refine go_iload C 5 d13_3 rfl rfl ?_
    refine go_iload C 7 d13_5 rfl rfl ?_
    refine go_icmpY C (pc' := 44) d13_7 (flt ((by decide) : ¬ ((1 : Int32) < (1 : Int32)))).2.1 (by decide) (by decide) ?_
    refine go_iload C 46 d13_44 rfl rfl ?_
    refine go_retI C d13_46 rfl (by decide) (by decide) ?_
    exact Or.inl ⟨rfl, fx4, q0⟩
theorem ct_cmpA1 (l : Launch) (Z : State) (a0 : Array Value) (hw : HW a0 Z) {cS : Int32} {fm : Value} {ub : Addr} (am : Amb Z a0 cS fm ub) {b : Addr} {kC : ClassId} {c0 : Int32} {h0 : Heap} (p0 : Arv Z h0 b kC .char (1 : Int32) [(.int c0)] (.int 0)) (r0 : Chr c0) :
    Py l Z (⟨"java/lang/StringUTF16", "compress", "([CII)[B"⟩ : MethodName) 4 57 2 3 #[(.ref b), (.int 0), (.int 1)] h0 [] (fun rv h' => (∃ (t : Addr) (kB : ClassId), rv = some (.ref t) ∧ Arv Z h' t kB .byte (1 : Int32) [(.int (lo8 c0))] (.int 0) ∧ (h0.size ≤ t) ∧ (¬ (255 : Int32) < c0)) ∨ (∃ (t : Addr) (kB : ClassId), rv = some (.ref t) ∧ Arv Z h' t kB .byte (2 : Int32) [(.int (lo8 c0)), (.int (hi8 c0))] (.int 0) ∧ (h0.size ≤ t) ∧ ((255 : Int32) < c0))) := by
  refine Ct.py (by0 := jdk_52_method_16_code) (ml := 6) (rt := (some (.array .byte))) (rm := ({ frames := 3, cells := 2, slots := 3, locals := 40 } : Room)) ?_ (hq hw 77 rfl) (hq hw 76 rfl)
  refine Ct.mk (a0 := a0) (Ls := #[.val (.ref b), .val (.int 0), .val (.int 1), .unset, .unset, .unset]) (plainFor_of_name pn_java_lang_StringUTF16) (fun m => by first | (simp [entryFrame, mkF, argsToLocals, Value.category]; done) | rfl) ?_
  intro κ C
  show Go l _ Z _ _ _ κ [] h0 0 #[.val (.ref b), .val (.int 0), .val (.int 1), .unset, .unset, .unset] [] 0 0
  refine go_iloadN C 1 d12_0 rfl rfl ?_
  refine go_newP C 3 1 1 (ty := .byte) (cap := 1) d12_1 rfl rfl rfl rfl (hq hw 21 rfl) (by decide) (by decide) (by decide) (by decide) (by decide) ?_
  intro b1 h2 k3 g4 E5 V6
  have fx7 : Arv Z h2 b1 k3 .byte (1 : Int32) [(.int 0)] (.int 0) := V6
  refine go_astoreN C 4 (Ls' := #[.val (.ref b), .val (.int 0), .val (.int 1), .val (.ref b1), .unset, .unset]) d12_3 rfl rfl rfl ?_
  refine go_aloadN C 5 d12_4 rfl rfl rfl ?_
  refine go_iloadN C 6 d12_5 rfl rfl ?_
  refine go_aloadN C 7 d12_6 rfl rfl rfl ?_
  refine go_iconst C 8 (0 : Int32) d12_7 rfl (by decide) ?_
  refine go_iloadN C 9 d12_8 rfl rfl ?_
  have fx8 := (p0.ext E5)
  refine go_callS C (argsL := [(.ref b), (.int 0), (.ref b1), (.int 0), (.int 1)]) (W := 0) d12_9 (hq hw 78 rfl) (hq hw 79 rfl) (hq hw 76 rfl) (hq hw 80 rfl) (by decide) pd___CI_BII_I (ct_cmp1 l Z a0 hw am (b := b) (t := b1) (kC := kC) (kB := k3) (c0 := c0) fx8 fx7 (Nat.ne_of_lt (Nat.lt_of_lt_of_le (p0).lt (Nat.le_of_eq g4.symm)))) rfl (by decide) (Nat.le_of_eq rfl) (by decide) rfl (by decide) (by decide) (memsS (mi 0 rfl) mems0) ?_
  intro fv9 h10 K11 fq12
  rcases fq12 with ⟨rfl, fx13, fx14⟩ | ⟨vs15, rfl, fx16, fx17⟩
  · skip
    refine ⟨[], fresh0, ?_⟩
    show Go l _ Z _ _ _ κ _ _ 12 _ [(.int 1)] 1 1
    refine go_istore C 14 (Ls' := #[.val (.ref b), .val (.int 0), .val (.int 1), .val (.ref b1), .val (.int 1), .unset]) d12_12 rfl rfl ?_
    refine go_iload C 16 d12_14 rfl rfl ?_
    refine go_iloadN C 17 d12_16 rfl rfl ?_
    refine go_icmpY C (pc' := 57) d12_17 (teq ((by decide) : (1 : Int32) = (1 : Int32))).1 (by decide) (by decide) ?_
    refine go_aloadN C 58 d12_57 rfl rfl rfl ?_
    refine go_retA C (v := (.ref b1)) d12_58 rfl rfl rfl (by decide) (by decide) ?_
    exact Or.inl ⟨b1, k3, rfl, fx13, (Nat.le_of_eq g4.symm), fx14⟩
  · skip
    refine ⟨[], fresh0, ?_⟩
    show Go l _ Z _ _ _ κ _ _ 12 _ [(.int 0)] 1 1
    refine go_istore C 14 (Ls' := #[.val (.ref b), .val (.int 0), .val (.int 1), .val (.ref b1), .val (.int 0), .unset]) d12_12 rfl rfl ?_
    refine go_iload C 16 d12_14 rfl rfl ?_
    refine go_iloadN C 17 d12_16 rfl rfl ?_
    refine go_icmpN C 20 d12_17 rfl (feq ((by decide) : ¬ ((0 : Int32) = (1 : Int32)))).1 ?_
    refine go_aloadN C 21 d12_20 rfl rfl rfl ?_
    refine go_iloadN C 22 d12_21 rfl rfl ?_
    refine go_iloadN C 23 d12_22 rfl rfl ?_
    have fx18 := (fx8.keep K11 (ninS (Nat.ne_of_lt (Nat.lt_of_lt_of_le (p0).lt (Nat.le_of_eq g4.symm))) nin0))
    refine go_callS C (argsL := [(.ref b), (.int 0), (.int 1)]) (W := 0) d12_23 (hq hw 81 rfl) (hq hw 82 rfl) (hq hw 76 rfl) (hq hw 83 rfl) (by decide) pd___CII__B (ct_tob1 l Z a0 hw am (b := b) (kC := kC) (c0 := c0) fx18) rfl (by decide) (Nat.le_of_eq rfl) (by decide) rfl (by decide) (by decide) mems0 ?_
    intro fv19 h20 K21 fq22
    obtain ⟨t23, kB24, rfl, fx25, fx26⟩ := fq22
    refine ⟨[t23], (freshS ⟨fx26, (fx25).lt⟩ fresh0), ?_⟩
    show Go l _ Z _ _ _ κ [t23, b1] _ 26 _ [(.ref t23)] 2 3
    refine go_astore C 28 (Ls' := #[.val (.ref b), .val (.int 0), .val (.int 1), .val (.ref b1), .val (.int 0), .val (.ref t23)]) d12_26 rfl rfl rfl ?_
    refine go_aload C 30 d12_28 rfl rfl rfl ?_
    refine go_iload C 32 d12_30 rfl rfl ?_
    refine go_callS C (argsL := [(.ref t23), (.int 0)]) (W := 0) d12_32 (hq hw 97 rfl) (hq hw 98 rfl) (hq hw 76 rfl) (hq hw 99 rfl) (by decide) pd___BI_C (ct_get1_0 l Z a0 hw am (t := t23) (kB := kB24) (c0 := c0) fx25 r0) rfl (by decide) (Nat.le_of_eq rfl) (by decide) rfl (by decide) (by decide) mems0 ?_
    intro fv27 h28 K29 fq30
    obtain ⟨rfl, rfl⟩ := fq30
    refine ⟨[], fresh0, ?_⟩
    show Go l _ Z _ _ _ κ _ _ 35 _ [(.int c0)] 2 3
    refine go_sipush C 38 (255 : Int32) d12_35 rfl (by decide) ?_
    refine go_icmpY C (pc' := 54) d12_38 (tlt (fx17 : (255 : Int32) < c0)).2.2.1 (by decide) (by decide) ?_
    refine go_aload C 56 d12_54 rfl rfl rfl ?_
    refine go_retA C (v := (.ref t23)) d12_56 rfl rfl rfl (by decide) (by decide) ?_
    exact Or.inr (⟨t23, kB24, rfl, fx25, (Nat.le_trans E5.1 (Nat.le_trans K11.1 fx26)), fx17⟩)
theorem ct_coder1_1 (l : Launch) (Z : State) (a0 : Array Value) (hw : HW a0 Z) {cS : Int32} {fm : Value} {ub : Addr} (am : Amb Z a0 cS fm ub) {t : Addr} {kB : ClassId} {vs : List Value} {h0 : Heap} (p0 : Arv Z h0 t kB .byte (1 : Int32) vs (.int 0)) :
    Py l Z (⟨"java/lang/StringUTF16", "coderFromArrayLen", "([BI)B"⟩ : MethodName) 1 13 0 0 #[(.ref t), (.int 1)] h0 [] (fun rv h' => rv = some (.int 0) ∧ h' = h0) := by
  refine Ct.py (by0 := jdk_52_method_15_code) (ml := 2) (rt := (some .byte)) (rm := ({ frames := 0, cells := 0, slots := 0, locals := 0 } : Room)) ?_ (hq hw 102 rfl) (hq hw 76 rfl)
  refine Ct.mk (a0 := a0) (Ls := #[.val (.ref t), .val (.int 1)]) (plainFor_of_name pn_java_lang_StringUTF16) (fun m => by first | (simp [entryFrame, mkF, argsToLocals, Value.category]; done) | rfl) ?_
  intro κ C
  show Go l _ Z _ _ _ κ [] h0 0 #[.val (.ref t), .val (.int 1)] [] 0 0
  refine go_iloadN C 1 d19_0 rfl rfl ?_
  refine go_aloadN C 2 d19_1 rfl rfl rfl ?_
  refine go_arraylength C 3 d19_2 rfl p0 ?_
  refine go_isub C 4 (0 : Int32) d19_3 rfl (by decide) ?_
  refine go_bipush C 6 (31 : Int32) d19_4 rfl (by decide) ?_
  refine go_iushr C 7 (0 : Int32) d19_6 rfl (by decide) ?_
  refine go_i2b C 8 (0 : Int32) d19_7 rfl (by decide) ?_
  refine go_retN C (t := .byte) (z := (0 : Int32)) d19_8 rfl (by decide) (by decide) (by decide) (by decide) ?_
  exact ⟨rfl, rfl⟩
theorem ct_coder2_1 (l : Launch) (Z : State) (a0 : Array Value) (hw : HW a0 Z) {cS : Int32} {fm : Value} {ub : Addr} (am : Amb Z a0 cS fm ub) {t : Addr} {kB : ClassId} {vs : List Value} {h0 : Heap} (p0 : Arv Z h0 t kB .byte (2 : Int32) vs (.int 0)) :
    Py l Z (⟨"java/lang/StringUTF16", "coderFromArrayLen", "([BI)B"⟩ : MethodName) 1 13 0 0 #[(.ref t), (.int 1)] h0 [] (fun rv h' => rv = some (.int 1) ∧ h' = h0) := by
  refine Ct.py (by0 := jdk_52_method_15_code) (ml := 2) (rt := (some .byte)) (rm := ({ frames := 0, cells := 0, slots := 0, locals := 0 } : Room)) ?_ (hq hw 102 rfl) (hq hw 76 rfl)
  refine Ct.mk (a0 := a0) (Ls := #[.val (.ref t), .val (.int 1)]) (plainFor_of_name pn_java_lang_StringUTF16) (fun m => by first | (simp [entryFrame, mkF, argsToLocals, Value.category]; done) | rfl) ?_
  intro κ C
  show Go l _ Z _ _ _ κ [] h0 0 #[.val (.ref t), .val (.int 1)] [] 0 0
  refine go_iloadN C 1 d19_0 rfl rfl ?_
  refine go_aloadN C 2 d19_1 rfl rfl rfl ?_
  refine go_arraylength C 3 d19_2 rfl p0 ?_
  refine go_isub C 4 (-1 : Int32) d19_3 rfl (by decide) ?_
  refine go_bipush C 6 (31 : Int32) d19_4 rfl (by decide) ?_
  refine go_iushr C 7 (1 : Int32) d19_6 rfl (by decide) ?_
  refine go_i2b C 8 (1 : Int32) d19_7 rfl (by decide) ?_
  refine go_retN C (t := .byte) (z := (1 : Int32)) d19_8 rfl (by decide) (by decide) (by decide) (by decide) ?_
  exact ⟨rfl, rfl⟩
theorem ct_strV1 (l : Launch) (Z : State) (a0 : Array Value) (hw : HW a0 Z) {cS : Int32} {fm : Value} {ub : Addr} (am : Amb Z a0 cS fm ub) {a : Addr} {b : Addr} {kC : ClassId} {c0 : Int32} {h0 : Heap} (p0 : Exa Z h0 a "java/lang/String") (p1 : Fld Z h0 a "java/lang/String" "value" "[B" .null) (p2 : Fld Z h0 a "java/lang/String" "coder" "B" (.int 0)) (p3 : Arv Z h0 b kC .char (1 : Int32) [(.int c0)] (.int 0)) (r0 : Chr c0) :
    Py l Z (⟨"java/lang/String", "<init>", "([CIILjava/lang/Void;)V"⟩ : MethodName) 5 74 2 3 #[(.ref a), (.ref b), (.int 0), (.int 1), .null] h0 [a] (fun rv h' => (∃ (t : Addr) (kB : ClassId), rv = none ∧ Exa Z h' a "java/lang/String" ∧ Fld Z h' a "java/lang/String" "coder" "B" (.int 0) ∧ Fld Z h' a "java/lang/String" "value" "[B" (.ref t) ∧ Arv Z h' t kB .byte (1 : Int32) [(.int (lo8 c0))] (.int 0) ∧ (h0.size ≤ t) ∧ (¬ (255 : Int32) < c0)) ∨ (∃ (t : Addr) (kB : ClassId), rv = none ∧ Exa Z h' a "java/lang/String" ∧ Fld Z h' a "java/lang/String" "coder" "B" (.int 1) ∧ Fld Z h' a "java/lang/String" "value" "[B" (.ref t) ∧ Arv Z h' t kB .byte (2 : Int32) [(.int (lo8 c0)), (.int (hi8 c0))] (.int 0) ∧ (h0.size ≤ t) ∧ ((255 : Int32) < c0))) := by
  refine Ct.py (by0 := jdk_42_method_149_code) (ml := 6) (rt := none) (rm := ({ frames := 4, cells := 2, slots := 3, locals := 57 } : Room)) ?_ (hq hw 16 rfl) (hq hw 8 rfl)
  refine Ct.mk (a0 := a0) (Ls := #[.val (.ref a), .val (.ref b), .val (.int 0), .val (.int 1), .val .null, .unset]) (plainFor_of_name pn_java_lang_String) (fun m => by first | (simp [entryFrame, mkF, argsToLocals, Value.category]; done) | rfl) ?_
  intro κ C
  show Go l _ Z _ _ _ κ [a] h0 0 #[.val (.ref a), .val (.ref b), .val (.int 0), .val (.int 1), .val .null, .unset] [] 0 0
  refine go_aloadN C 1 d3_0 rfl rfl rfl ?_
  refine go_initO C 4 (W := 0) d3_1 rfl (hq hw 17 rfl) (hq hw 18 rfl) (hq hw 19 rfl) rfl (by decide) (Nat.le_of_eq rfl) (by decide) ?_
  refine go_iloadN C 5 d3_4 rfl rfl ?_
  refine go_ifY C (pc' := 27) d3_5 (feq ((by decide) : ¬ ((1 : Int32) = (0 : Int32)))).2 (by decide) (by decide) ?_
  refine go_getS C 30 d3_27 rfl (hq hw 73 rfl) am.2.1 ?_
  refine go_ifN C 33 d3_30 rfl (feq (am.2.2.1 : ¬ (cS = (0 : Int32)))).1 ?_
  refine go_aloadN C 34 d3_33 rfl rfl rfl ?_
  refine go_iloadN C 35 d3_34 rfl rfl ?_
  refine go_iloadN C 36 d3_35 rfl rfl ?_
  refine go_callS C (argsL := [(.ref b), (.int 0), (.int 1)]) (W := 0) d3_36 (hq hw 74 rfl) (hq hw 75 rfl) (hq hw 76 rfl) (hq hw 77 rfl) (by decide) pd___CII__B (ct_cmpA1 l Z a0 hw am (b := b) (kC := kC) (c0 := c0) p3 r0) rfl (by decide) (Nat.le_of_eq rfl) (by decide) rfl (by decide) (by decide) mems0 ?_
  intro fv1 h2 K3 fq4
  rcases fq4 with ⟨t5, kB6, rfl, fx7, fx8, fx9⟩ | ⟨t10, kB11, rfl, fx12, fx13, fx14⟩
  · skip
    refine ⟨[t5], (freshS ⟨fx8, (fx7).lt⟩ fresh0), ?_⟩
    show Go l _ Z _ _ _ κ [t5, a] _ 39 _ [(.ref t5)] 2 3
    refine go_astore C 41 (Ls' := #[.val (.ref a), .val (.ref b), .val (.int 0), .val (.int 1), .val .null, .val (.ref t5)]) d3_39 rfl rfl rfl ?_
    refine go_aloadN C 42 d3_41 rfl rfl rfl ?_
    refine go_aload C 44 d3_42 rfl rfl rfl ?_
    refine go_iloadN C 45 d3_44 rfl rfl ?_
    refine go_callS C (argsL := [(.ref t5), (.int 1)]) (W := 1) d3_45 (hq hw 100 rfl) (hq hw 101 rfl) (hq hw 76 rfl) (hq hw 102 rfl) (by decide) pd___BI_B (ct_coder1_1 l Z a0 hw am (t := t5) (kB := kB6) (vs := [(.int (lo8 c0))]) fx7) rfl (by decide) (Nat.le_of_eq rfl) (by decide) rfl (by decide) (by decide) mems0 ?_
    intro fv15 h16 K17 fq18
    obtain ⟨rfl, rfl⟩ := fq18
    refine ⟨[], fresh0, ?_⟩
    show Go l _ Z _ _ _ κ _ _ 48 _ [(.int 0), (.ref a)] 2 3
    have fx19 := (p2.keep K3 nin0)
    have fx20 := (p0.keep K3)
    refine go_putFN C 51 (ty := .byte) (v' := .int 0) d3_48 rfl (hq hw 27 rfl) Via.refl fx19 fx20 (Or.inr ⟨(hq hw 23 rfl), rfl, rfl⟩) (hq hw 7 rfl) (by decide) rfl (by decide) (mi 1 rfl) ?_
    intro h21 W22
    have fx23 : Fld Z h21 a "java/lang/String" "coder" "B" (.int 0) := Fld.same W22 fx19
    refine go_aloadN C 52 d3_51 rfl rfl rfl ?_
    refine go_aload C 54 d3_52 rfl rfl rfl ?_
    have fx24 := (Fld.other W22 (p1.keep K3 nin0) (Or.inr (slot_ne (Or.inr (hq hw 22 rfl)) (Or.inr (hq hw 23 rfl)) (by decide) (t := (.array .byte)) (t' := .byte) (by decide) (by decide))))
    have fx25 := (Exa.wr W22 fx20)
    refine go_putF C 57 (ty := (.array .byte)) d3_54 rfl (hq hw 26 rfl) Via.refl fx24 fx25 (Or.inr ⟨(hq hw 22 rfl), rfl, rfl⟩) (hq hw 7 rfl) (by decide) rfl rfl (mi 1 rfl) ?_
    intro h26 W27
    have fx28 : Fld Z h26 a "java/lang/String" "value" "[B" (.ref t5) := Fld.same W27 fx24
    refine go_ret C d3_57 rfl (by decide) (by decide) ?_
    have fx29 := (Exa.wr W27 fx25)
    have fx30 := (Fld.other W27 fx23 (Or.inr (slot_ne (Or.inr (hq hw 23 rfl)) (Or.inr (hq hw 22 rfl)) (by decide) (t := .byte) (t' := (.array .byte)) (by decide) (by decide))))
    have fx31 := ((fx7.other W22 (Ne.symm (Nat.ne_of_lt (Nat.lt_of_lt_of_le (p0).lt fx8)))).other W27 (Ne.symm (Nat.ne_of_lt (Nat.lt_of_lt_of_le (p0).lt fx8))))
    exact Or.inl ⟨t5, kB6, rfl, fx29, fx30, fx28, fx31, fx8, fx9⟩
  · skip
    refine ⟨[t10], (freshS ⟨fx13, (fx12).lt⟩ fresh0), ?_⟩
    show Go l _ Z _ _ _ κ [t10, a] _ 39 _ [(.ref t10)] 2 3
    refine go_astore C 41 (Ls' := #[.val (.ref a), .val (.ref b), .val (.int 0), .val (.int 1), .val .null, .val (.ref t10)]) d3_39 rfl rfl rfl ?_
    refine go_aloadN C 42 d3_41 rfl rfl rfl ?_
    refine go_aload C 44 d3_42 rfl rfl rfl ?_
    refine go_iloadN C 45 d3_44 rfl rfl ?_
    refine go_callS C (argsL := [(.ref t10), (.int 1)]) (W := 1) d3_45 (hq hw 100 rfl) (hq hw 101 rfl) (hq hw 76 rfl) (hq hw 102 rfl) (by decide) pd___BI_B (ct_coder2_1 l Z a0 hw am (t := t10) (kB := kB11) (vs := [(.int (lo8 c0)), (.int (hi8 c0))]) fx12) rfl (by decide) (Nat.le_of_eq rfl) (by decide) rfl (by decide) (by decide) mems0 ?_
    intro fv32 h33 K34 fq35
    obtain ⟨rfl, rfl⟩ := fq35
    refine ⟨[], fresh0, ?_⟩
    show Go l _ Z _ _ _ κ _ _ 48 _ [(.int 1), (.ref a)] 2 3
    have fx36 := (p2.keep K3 nin0)
    have fx37 := (p0.keep K3)
    refine go_putFN C 51 (ty := .byte) (v' := .int 1) d3_48 rfl (hq hw 27 rfl) Via.refl fx36 fx37 (Or.inr ⟨(hq hw 23 rfl), rfl, rfl⟩) (hq hw 7 rfl) (by decide) rfl (by decide) (mi 1 rfl) ?_
    intro h38 W39
    have fx40 : Fld Z h38 a "java/lang/String" "coder" "B" (.int 1) := Fld.same W39 fx36
    refine go_aloadN C 52 d3_51 rfl rfl rfl ?_
    refine go_aload C 54 d3_52 rfl rfl rfl ?_
    have fx41 := (Fld.other W39 (p1.keep K3 nin0) (Or.inr (slot_ne (Or.inr (hq hw 22 rfl)) (Or.inr (hq hw 23 rfl)) (by decide) (t := (.array .byte)) (t' := .byte) (by decide) (by decide))))
    have fx42 := (Exa.wr W39 fx37)
    refine go_putF C 57 (ty := (.array .byte)) d3_54 rfl (hq hw 26 rfl) Via.refl fx41 fx42 (Or.inr ⟨(hq hw 22 rfl), rfl, rfl⟩) (hq hw 7 rfl) (by decide) rfl rfl (mi 1 rfl) ?_
    intro h43 W44
    have fx45 : Fld Z h43 a "java/lang/String" "value" "[B" (.ref t10) := Fld.same W44 fx41
    refine go_ret C d3_57 rfl (by decide) (by decide) ?_
    have fx46 := (Exa.wr W44 fx42)
    have fx47 := (Fld.other W44 fx40 (Or.inr (slot_ne (Or.inr (hq hw 23 rfl)) (Or.inr (hq hw 22 rfl)) (by decide) (t := .byte) (t' := (.array .byte)) (by decide) (by decide))))
    have fx48 := ((fx12.other W39 (Ne.symm (Nat.ne_of_lt (Nat.lt_of_lt_of_le (p0).lt fx13)))).other W44 (Ne.symm (Nat.ne_of_lt (Nat.lt_of_lt_of_le (p0).lt fx13))))
    exact Or.inr (⟨t10, kB11, rfl, fx46, fx47, fx45, fx48, fx13, fx14⟩)
theorem ct_str1 (l : Launch) (Z : State) (a0 : Array Value) (hw : HW a0 Z) {cS : Int32} {fm : Value} {ub : Addr} (am : Amb Z a0 cS fm ub) {a : Addr} {b : Addr} {kC : ClassId} {c0 : Int32} {h0 : Heap} (p0 : Exa Z h0 a "java/lang/String") (p1 : Fld Z h0 a "java/lang/String" "value" "[B" .null) (p2 : Fld Z h0 a "java/lang/String" "coder" "B" (.int 0)) (p3 : Arv Z h0 b kC .char (1 : Int32) [(.int c0)] (.int 0)) (r0 : Chr c0) :
    Py l Z (⟨"java/lang/String", "<init>", "([C)V"⟩ : MethodName) 6 87 2 3 #[(.ref a), (.ref b)] h0 [a] (fun rv h' => (∃ (t : Addr) (kB : ClassId), rv = none ∧ Exa Z h' a "java/lang/String" ∧ Fld Z h' a "java/lang/String" "coder" "B" (.int 0) ∧ Fld Z h' a "java/lang/String" "value" "[B" (.ref t) ∧ Arv Z h' t kB .byte (1 : Int32) [(.int (lo8 c0))] (.int 0) ∧ (h0.size ≤ t) ∧ (¬ (255 : Int32) < c0)) ∨ (∃ (t : Addr) (kB : ClassId), rv = none ∧ Exa Z h' a "java/lang/String" ∧ Fld Z h' a "java/lang/String" "coder" "B" (.int 1) ∧ Fld Z h' a "java/lang/String" "value" "[B" (.ref t) ∧ Arv Z h' t kB .byte (2 : Int32) [(.int (lo8 c0)), (.int (hi8 c0))] (.int 0) ∧ (h0.size ≤ t) ∧ ((255 : Int32) < c0))) := by
  refine Ct.py (by0 := jdk_42_method_3_code) (ml := 2) (rt := none) (rm := ({ frames := 5, cells := 2, slots := 3, locals := 74 } : Room)) ?_ (hq hw 12 rfl) (hq hw 8 rfl)
  refine Ct.mk (a0 := a0) (Ls := #[.val (.ref a), .val (.ref b)]) (plainFor_of_name pn_java_lang_String) (fun m => by first | (simp [entryFrame, mkF, argsToLocals, Value.category]; done) | rfl) ?_
  intro κ C
  show Go l _ Z _ _ _ κ [a] h0 0 #[.val (.ref a), .val (.ref b)] [] 0 0
  refine go_aloadN C 1 d2_0 rfl rfl rfl ?_
  refine go_aloadN C 2 d2_1 rfl rfl rfl ?_
  refine go_iconst C 3 (0 : Int32) d2_2 rfl (by decide) ?_
  refine go_aloadN C 4 d2_3 rfl rfl rfl ?_
  refine go_arraylength C 5 d2_4 rfl p3 ?_
  refine go_aconstNull C 6 d2_5 rfl ?_
  refine go_callI C (a := a) (argsL := [(.ref b), (.int 0), (.int 1), .null]) (W := 0) d2_6 rfl (hq hw 13 rfl) (hq hw 14 rfl) (hq hw 16 rfl) (by decide) pd___CIILjava_lang_Void__V (ct_strV1 l Z a0 hw am (a := a) (b := b) (kC := kC) (c0 := c0) p0 p1 p2 p3 r0) rfl (by decide) (Nat.le_of_eq rfl) (by decide) rfl (by decide) (by decide) (memsS (mi 0 rfl) mems0) ?_
  intro fv1 h2 K3 fq4
  rcases fq4 with ⟨t5, kB6, rfl, fx7, fx8, fx9, fx10, fx11, fx12⟩ | ⟨t13, kB14, rfl, fx15, fx16, fx17, fx18, fx19, fx20⟩
  · skip
    refine ⟨[t5], (freshS ⟨fx11, (fx10).lt⟩ fresh0), ?_⟩
    show Go l _ Z _ _ _ κ [t5, a] _ 9 _ [] 2 3
    refine go_ret C d2_9 rfl (by decide) (by decide) ?_
    exact Or.inl ⟨t5, kB6, rfl, fx7, fx8, fx9, fx10, fx11, fx12⟩
  · skip
    refine ⟨[t13], (freshS ⟨fx19, (fx18).lt⟩ fresh0), ?_⟩
    show Go l _ Z _ _ _ κ [t13, a] _ 9 _ [] 2 3
    refine go_ret C d2_9 rfl (by decide) (by decide) ?_
    exact Or.inr (⟨t13, kB14, rfl, fx15, fx16, fx17, fx18, fx19, fx20⟩)
theorem ct_put2_0 (l : Launch) (Z : State) (a0 : Array Value) (hw : HW a0 Z) {cS : Int32} {fm : Value} {ub : Addr} (am : Amb Z a0 cS fm ub) {t : Addr} {kB : ClassId} {c0 : Int32} {h0 : Heap} (p0 : Arv Z h0 t kB .byte (4 : Int32) [(.int 0), (.int 0), (.int 0), (.int 0)] (.int 0)) :
    Py l Z (⟨"java/lang/StringUTF16", "putChar", "([BII)V"⟩ : MethodName) 1 14 0 0 #[(.ref t), (.int 0), (.int c0)] h0 [t] (fun rv h' => rv = none ∧ Arv Z h' t kB .byte (4 : Int32) [(.int (lo8 c0)), (.int (hi8 c0)), (.int 0), (.int 0)] (.int 0)) := by
  refine Ct.py (by0 := jdk_52_method_4_code) (ml := 3) (rt := none) (rm := ({ frames := 0, cells := 0, slots := 0, locals := 0 } : Room)) ?_ (hq hw 93 rfl) (hq hw 76 rfl)
  refine Ct.mk (a0 := a0) (Ls := #[.val (.ref t), .val (.int 0), .val (.int c0)]) (plainFor_of_name pn_java_lang_StringUTF16) (fun m => by first | (simp [entryFrame, mkF, argsToLocals, Value.category]; done) | rfl) ?_
  intro κ C
  show Go l _ Z _ _ _ κ [t] h0 0 #[.val (.ref t), .val (.int 0), .val (.int c0)] [] 0 0
  refine go_getS C 3 d17_0 rfl (hq hw 94 rfl) am.2.2.2.1 ?_
  refine go_ifY C (pc' := 28) d17_3 (feq ((by decide) : ¬ ((1 : Int32) = (0 : Int32)))).2 (by decide) (by decide) ?_
  refine go_iloadN C 29 d17_28 rfl rfl ?_
  refine go_iconst C 30 (1 : Int32) d17_29 rfl (by decide) ?_
  refine go_ishl C 31 (0 : Int32) d17_30 rfl (by decide) ?_
  refine go_istoreN C 32 (Ls' := #[.val (.ref t), .val (.int 0), .val (.int c0)]) d17_31 rfl rfl ?_
  refine go_aloadN C 33 d17_32 rfl rfl rfl ?_
  refine go_iloadN C 34 d17_33 rfl rfl ?_
  refine go_iinc C 37 (Ls' := #[.val (.ref t), .val (.int 1), .val (.int c0)]) (1 : Int32) d17_34 rfl (by decide) rfl rfl ?_
  refine go_iloadN C 38 d17_37 rfl rfl ?_
  refine go_getS C 41 d17_38 rfl (hq hw 95 rfl) am.2.2.2.2.1 ?_
  refine go_ishr C 42 c0 d17_41 rfl (shr_0 _) ?_
  refine go_i2b C 43 (lo8 c0) d17_42 rfl rfl ?_
  refine go_bastore C 44 0 (v := (lo8 c0)) (nar_lo8 _) d17_43 rfl p0 (by decide) rfl (nble rfl) (mi 0 rfl) ?_
  intro h1 W2 fx3
  have fx4 : Arv Z h1 t kB .byte (4 : Int32) [(.int (lo8 c0)), (.int 0), (.int 0), (.int 0)] (.int 0) := fx3
  refine go_aloadN C 45 d17_44 rfl rfl rfl ?_
  refine go_iloadN C 46 d17_45 rfl rfl ?_
  refine go_iloadN C 47 d17_46 rfl rfl ?_
  refine go_getS C 50 d17_47 rfl (hq hw 96 rfl) am.2.2.2.2.2.1 ?_
  refine go_ishr C 51 (c0 >>> ((8 : Int32) &&& 31)) d17_50 rfl rfl ?_
  refine go_i2b C 52 (hi8 c0) d17_51 rfl rfl ?_
  refine go_bastore C 53 1 (v := (hi8 c0)) (nar_hi8 _) d17_52 rfl fx4 (by decide) rfl (nble rfl) (mi 0 rfl) ?_
  intro h5 W6 fx7
  have fx8 : Arv Z h5 t kB .byte (4 : Int32) [(.int (lo8 c0)), (.int (hi8 c0)), (.int 0), (.int 0)] (.int 0) := fx7
  refine go_ret C d17_53 rfl (by decide) (by decide) ?_
  exact ⟨rfl, fx8⟩
theorem ct_get2_0 (l : Launch) (Z : State) (a0 : Array Value) (hw : HW a0 Z) {cS : Int32} {fm : Value} {ub : Addr} (am : Amb Z a0 cS fm ub) {t : Addr} {kB : ClassId} {c0 : Int32} {c1 : Int32} {h0 : Heap} (p0 : Arv Z h0 t kB .byte (4 : Int32) [(.int (lo8 c0)), (.int (hi8 c0)), (.int (lo8 c1)), (.int (hi8 c1))] (.int 0)) (r0 : Chr c0) :
    Py l Z (⟨"java/lang/StringUTF16", "getChar", "([BI)C"⟩ : MethodName) 1 13 0 0 #[(.ref t), (.int 0)] h0 [] (fun rv h' => rv = some (.int c0) ∧ h' = h0) := by
  refine Ct.py (by0 := jdk_52_method_5_code) (ml := 2) (rt := (some .char)) (rm := ({ frames := 0, cells := 0, slots := 0, locals := 0 } : Room)) ?_ (hq hw 99 rfl) (hq hw 76 rfl)
  refine Ct.mk (a0 := a0) (Ls := #[.val (.ref t), .val (.int 0)]) (plainFor_of_name pn_java_lang_StringUTF16) (fun m => by first | (simp [entryFrame, mkF, argsToLocals, Value.category]; done) | rfl) ?_
  intro κ C
  show Go l _ Z _ _ _ κ [] h0 0 #[.val (.ref t), .val (.int 0)] [] 0 0
  refine go_getS C 3 d18_0 rfl (hq hw 94 rfl) am.2.2.2.1 ?_
  refine go_ifY C (pc' := 28) d18_3 (feq ((by decide) : ¬ ((1 : Int32) = (0 : Int32)))).2 (by decide) (by decide) ?_
  refine go_iloadN C 29 d18_28 rfl rfl ?_
  refine go_iconst C 30 (1 : Int32) d18_29 rfl (by decide) ?_
  refine go_ishl C 31 (0 : Int32) d18_30 rfl (by decide) ?_
  refine go_istoreN C 32 (Ls' := #[.val (.ref t), .val (.int 0)]) d18_31 rfl rfl ?_
  refine go_aloadN C 33 d18_32 rfl rfl rfl ?_
  refine go_iloadN C 34 d18_33 rfl rfl ?_
  refine go_iinc C 37 (Ls' := #[.val (.ref t), .val (.int 1)]) (1 : Int32) d18_34 rfl (by decide) rfl rfl ?_
  refine go_baload C 38 (v := (.int (lo8 c0))) d18_37 rfl p0 (by decide) rfl ?_
  refine go_sipush C 41 (255 : Int32) d18_38 rfl (by decide) ?_
  refine go_iand C 42 ((lo8 c0) &&& (255 : Int32)) d18_41 rfl rfl ?_
  refine go_getS C 45 d18_42 rfl (hq hw 95 rfl) am.2.2.2.2.1 ?_
  refine go_ishl C 46 (((lo8 c0) &&& (255 : Int32)) <<< ((0 : Int32) &&& 31)) d18_45 rfl rfl ?_
  refine go_aloadN C 47 d18_46 rfl rfl rfl ?_
  refine go_iloadN C 48 d18_47 rfl rfl ?_
  refine go_baload C 49 (v := (.int (hi8 c0))) d18_48 rfl p0 (by decide) rfl ?_
  refine go_sipush C 52 (255 : Int32) d18_49 rfl (by decide) ?_
  refine go_iand C 53 ((hi8 c0) &&& (255 : Int32)) d18_52 rfl rfl ?_
  refine go_getS C 56 d18_53 rfl (hq hw 96 rfl) am.2.2.2.2.2.1 ?_
  refine go_ishl C 57 (((hi8 c0) &&& (255 : Int32)) <<< ((8 : Int32) &&& 31)) d18_56 rfl rfl ?_
  refine go_ior C 58 ((((lo8 c0) &&& (255 : Int32)) <<< ((0 : Int32) &&& 31)) ||| (((hi8 c0) &&& (255 : Int32)) <<< ((8 : Int32) &&& 31))) d18_57 rfl rfl ?_
  refine go_i2c C 59 c0 d18_58 rfl (get16 r0) ?_
  refine go_retN C (t := .char) (z := c0) d18_59 rfl (by decide) r0.nar (by decide) (by decide) ?_
  exact ⟨rfl, rfl⟩
theorem ct_put2_1 (l : Launch) (Z : State) (a0 : Array Value) (hw : HW a0 Z) {cS : Int32} {fm : Value} {ub : Addr} (am : Amb Z a0 cS fm ub) {t : Addr} {kB : ClassId} {c0 : Int32} {c1 : Int32} {h0 : Heap} (p0 : Arv Z h0 t kB .byte (4 : Int32) [(.int (lo8 c0)), (.int (hi8 c0)), (.int 0), (.int 0)] (.int 0)) :
    Py l Z (⟨"java/lang/StringUTF16", "putChar", "([BII)V"⟩ : MethodName) 1 14 0 0 #[(.ref t), (.int 1), (.int c1)] h0 [t] (fun rv h' => rv = none ∧ Arv Z h' t kB .byte (4 : Int32) [(.int (lo8 c0)), (.int (hi8 c0)), (.int (lo8 c1)), (.int (hi8 c1))] (.int 0)) := by
  refine Ct.py (by0 := jdk_52_method_4_code) (ml := 3) (rt := none) (rm := ({ frames := 0, cells := 0, slots := 0, locals := 0 } : Room)) ?_ (hq hw 93 rfl) (hq hw 76 rfl)
  refine Ct.mk (a0 := a0) (Ls := #[.val (.ref t), .val (.int 1), .val (.int c1)]) (plainFor_of_name pn_java_lang_StringUTF16) (fun m => by first | (simp [entryFrame, mkF, argsToLocals, Value.category]; done) | rfl) ?_
  intro κ C
  show Go l _ Z _ _ _ κ [t] h0 0 #[.val (.ref t), .val (.int 1), .val (.int c1)] [] 0 0
  refine go_getS C 3 d17_0 rfl (hq hw 94 rfl) am.2.2.2.1 ?_
  refine go_ifY C (pc' := 28) d17_3 (feq ((by decide) : ¬ ((1 : Int32) = (0 : Int32)))).2 (by decide) (by decide) ?_
  refine go_iloadN C 29 d17_28 rfl rfl ?_
  refine go_iconst C 30 (1 : Int32) d17_29 rfl (by decide) ?_
  refine go_ishl C 31 (2 : Int32) d17_30 rfl (by decide) ?_
  refine go_istoreN C 32 (Ls' := #[.val (.ref t), .val (.int 2), .val (.int c1)]) d17_31 rfl rfl ?_
  refine go_aloadN C 33 d17_32 rfl rfl rfl ?_
  refine go_iloadN C 34 d17_33 rfl rfl ?_
  refine go_iinc C 37 (Ls' := #[.val (.ref t), .val (.int 3), .val (.int c1)]) (1 : Int32) d17_34 rfl (by decide) rfl rfl ?_
  refine go_iloadN C 38 d17_37 rfl rfl ?_
  refine go_getS C 41 d17_38 rfl (hq hw 95 rfl) am.2.2.2.2.1 ?_
  refine go_ishr C 42 c1 d17_41 rfl (shr_0 _) ?_
  refine go_i2b C 43 (lo8 c1) d17_42 rfl rfl ?_
  refine go_bastore C 44 2 (v := (lo8 c1)) (nar_lo8 _) d17_43 rfl p0 (by decide) rfl (nble rfl) (mi 0 rfl) ?_
  intro h1 W2 fx3
  have fx4 : Arv Z h1 t kB .byte (4 : Int32) [(.int (lo8 c0)), (.int (hi8 c0)), (.int (lo8 c1)), (.int 0)] (.int 0) := fx3
  refine go_aloadN C 45 d17_44 rfl rfl rfl ?_
  refine go_iloadN C 46 d17_45 rfl rfl ?_
  refine go_iloadN C 47 d17_46 rfl rfl ?_
  refine go_getS C 50 d17_47 rfl (hq hw 96 rfl) am.2.2.2.2.2.1 ?_
  refine go_ishr C 51 (c1 >>> ((8 : Int32) &&& 31)) d17_50 rfl rfl ?_
  refine go_i2b C 52 (hi8 c1) d17_51 rfl rfl ?_
  refine go_bastore C 53 3 (v := (hi8 c1)) (nar_hi8 _) d17_52 rfl fx4 (by decide) rfl (nble rfl) (mi 0 rfl) ?_
  intro h5 W6 fx7
  have fx8 : Arv Z h5 t kB .byte (4 : Int32) [(.int (lo8 c0)), (.int (hi8 c0)), (.int (lo8 c1)), (.int (hi8 c1))] (.int 0) := fx7
  refine go_ret C d17_53 rfl (by decide) (by decide) ?_
  exact ⟨rfl, fx8⟩
theorem ct_get2_1 (l : Launch) (Z : State) (a0 : Array Value) (hw : HW a0 Z) {cS : Int32} {fm : Value} {ub : Addr} (am : Amb Z a0 cS fm ub) {t : Addr} {kB : ClassId} {c0 : Int32} {c1 : Int32} {h0 : Heap} (p0 : Arv Z h0 t kB .byte (4 : Int32) [(.int (lo8 c0)), (.int (hi8 c0)), (.int (lo8 c1)), (.int (hi8 c1))] (.int 0)) (r1 : Chr c1) :
    Py l Z (⟨"java/lang/StringUTF16", "getChar", "([BI)C"⟩ : MethodName) 1 13 0 0 #[(.ref t), (.int 1)] h0 [] (fun rv h' => rv = some (.int c1) ∧ h' = h0) := by
  refine Ct.py (by0 := jdk_52_method_5_code) (ml := 2) (rt := (some .char)) (rm := ({ frames := 0, cells := 0, slots := 0, locals := 0 } : Room)) ?_ (hq hw 99 rfl) (hq hw 76 rfl)
  refine Ct.mk (a0 := a0) (Ls := #[.val (.ref t), .val (.int 1)]) (plainFor_of_name pn_java_lang_StringUTF16) (fun m => by first | (simp [entryFrame, mkF, argsToLocals, Value.category]; done) | rfl) ?_
  intro κ C
  show Go l _ Z _ _ _ κ [] h0 0 #[.val (.ref t), .val (.int 1)] [] 0 0
  refine go_getS C 3 d18_0 rfl (hq hw 94 rfl) am.2.2.2.1 ?_
  refine go_ifY C (pc' := 28) d18_3 (feq ((by decide) : ¬ ((1 : Int32) = (0 : Int32)))).2 (by decide) (by decide) ?_
  refine go_iloadN C 29 d18_28 rfl rfl ?_
  refine go_iconst C 30 (1 : Int32) d18_29 rfl (by decide) ?_
  refine go_ishl C 31 (2 : Int32) d18_30 rfl (by decide) ?_
  refine go_istoreN C 32 (Ls' := #[.val (.ref t), .val (.int 2)]) d18_31 rfl rfl ?_
  refine go_aloadN C 33 d18_32 rfl rfl rfl ?_
  refine go_iloadN C 34 d18_33 rfl rfl ?_
  refine go_iinc C 37 (Ls' := #[.val (.ref t), .val (.int 3)]) (1 : Int32) d18_34 rfl (by decide) rfl rfl ?_
  refine go_baload C 38 (v := (.int (lo8 c1))) d18_37 rfl p0 (by decide) rfl ?_
  refine go_sipush C 41 (255 : Int32) d18_38 rfl (by decide) ?_
  refine go_iand C 42 ((lo8 c1) &&& (255 : Int32)) d18_41 rfl rfl ?_
  refine go_getS C 45 d18_42 rfl (hq hw 95 rfl) am.2.2.2.2.1 ?_
  refine go_ishl C 46 (((lo8 c1) &&& (255 : Int32)) <<< ((0 : Int32) &&& 31)) d18_45 rfl rfl ?_
  refine go_aloadN C 47 d18_46 rfl rfl rfl ?_
  refine go_iloadN C 48 d18_47 rfl rfl ?_
  refine go_baload C 49 (v := (.int (hi8 c1))) d18_48 rfl p0 (by decide) rfl ?_
  refine go_sipush C 52 (255 : Int32) d18_49 rfl (by decide) ?_
  refine go_iand C 53 ((hi8 c1) &&& (255 : Int32)) d18_52 rfl rfl ?_
  refine go_getS C 56 d18_53 rfl (hq hw 96 rfl) am.2.2.2.2.2.1 ?_
  refine go_ishl C 57 (((hi8 c1) &&& (255 : Int32)) <<< ((8 : Int32) &&& 31)) d18_56 rfl rfl ?_
  refine go_ior C 58 ((((lo8 c1) &&& (255 : Int32)) <<< ((0 : Int32) &&& 31)) ||| (((hi8 c1) &&& (255 : Int32)) <<< ((8 : Int32) &&& 31))) d18_57 rfl rfl ?_
  refine go_i2c C 59 c1 d18_58 rfl (get16 r1) ?_
  refine go_retN C (t := .char) (z := c1) d18_59 rfl (by decide) r1.nar (by decide) (by decide) ?_
  exact ⟨rfl, rfl⟩
theorem ct_nbl2 (l : Launch) (Z : State) (a0 : Array Value) (hw : HW a0 Z) {cS : Int32} {fm : Value} {ub : Addr} (am : Amb Z a0 cS fm ub) {h0 : Heap} :
    Py l Z (⟨"java/lang/StringUTF16", "newBytesLength", "(I)I"⟩ : MethodName) 1 12 0 0 #[(.int 2)] h0 [] (fun rv h' => rv = some (.int 4) ∧ h' = h0) := by
  refine Ct.py (by0 := jdk_52_method_3_code) (ml := 1) (rt := (some .int)) (rm := ({ frames := 0, cells := 0, slots := 0, locals := 0 } : Room)) ?_ (hq hw 89 rfl) (hq hw 76 rfl)
  refine Ct.mk (a0 := a0) (Ls := #[.val (.int 2)]) (plainFor_of_name pn_java_lang_StringUTF16) (fun m => by first | (simp [entryFrame, mkF, argsToLocals, Value.category]; done) | rfl) ?_
  intro κ C
  show Go l _ Z _ _ _ κ [] h0 0 #[.val (.int 2)] [] 0 0
  refine go_iloadN C 1 d16_0 rfl rfl ?_
  refine go_ifY C (pc' := 12) d16_1 (flt ((by decide) : ¬ ((2 : Int32) < (0 : Int32)))).2.1 (by decide) (by decide) ?_
  refine go_iloadN C 13 d16_12 rfl rfl ?_
  refine go_ldcInt C 15 (v := (1073741823 : Int32)) d16_13 rfl (hq hw 90 rfl) ?_
  refine go_icmpY C (pc' := 55) d16_15 (tlt ((by decide) : (2 : Int32) < (1073741823 : Int32))).1 (by decide) (by decide) ?_
  refine go_iloadN C 56 d16_55 rfl rfl ?_
  refine go_iconst C 57 (1 : Int32) d16_56 rfl (by decide) ?_
  refine go_ishl C 58 (4 : Int32) d16_57 rfl (by decide) ?_
  refine go_retI C d16_58 rfl (by decide) (by decide) ?_
  exact ⟨rfl, rfl⟩
theorem ct_nbf2 (l : Launch) (Z : State) (a0 : Array Value) (hw : HW a0 Z) {cS : Int32} {fm : Value} {ub : Addr} (am : Amb Z a0 cS fm ub) {h0 : Heap} :
    Py l Z (⟨"java/lang/StringUTF16", "newBytesFor", "(I)[B"⟩ : MethodName) 2 24 1 4 #[(.int 2)] h0 [] (fun rv h' => ∃ (t : Addr) (kB : ClassId), rv = some (.ref t) ∧ Arv Z h' t kB .byte (4 : Int32) [(.int 0), (.int 0), (.int 0), (.int 0)] (.int 0) ∧ (h0.size ≤ t)) := by
  refine Ct.py (by0 := jdk_52_method_2_code) (ml := 1) (rt := (some (.array .byte))) (rm := ({ frames := 1, cells := 1, slots := 4, locals := 12 } : Room)) ?_ (hq hw 86 rfl) (hq hw 76 rfl)
  refine Ct.mk (a0 := a0) (Ls := #[.val (.int 2)]) (plainFor_of_name pn_java_lang_StringUTF16) (fun m => by first | (simp [entryFrame, mkF, argsToLocals, Value.category]; done) | rfl) ?_
  intro κ C
  show Go l _ Z _ _ _ κ [] h0 0 #[.val (.int 2)] [] 0 0
  refine go_iloadN C 1 d15_0 rfl rfl ?_
  refine go_callS C (argsL := [(.int 2)]) (W := 0) d15_1 (hq hw 87 rfl) (hq hw 88 rfl) (hq hw 76 rfl) (hq hw 89 rfl) (by decide) pd__I_I (ct_nbl2 l Z a0 hw am) rfl (by decide) (Nat.le_of_eq rfl) (by decide) rfl (by decide) (by decide) mems0 ?_
  intro fv1 h2 K3 fq4
  obtain ⟨rfl, rfl⟩ := fq4
  refine ⟨[], fresh0, ?_⟩
  show Go l _ Z _ _ _ κ _ _ 4 _ [(.int 4)] 0 0
  refine go_newP C 6 1 4 (ty := .byte) (cap := 4) d15_4 rfl rfl rfl rfl (hq hw 21 rfl) (by decide) (by decide) (by decide) (by decide) (by decide) ?_
  intro b5 h6 k7 g8 E9 V10
  have fx11 : Arv Z h6 b5 k7 .byte (4 : Int32) [(.int 0), (.int 0), (.int 0), (.int 0)] (.int 0) := V10
  refine go_retA C (v := (.ref b5)) d15_6 rfl rfl rfl (by decide) (by decide) ?_
  exact ⟨b5, k7, rfl, fx11, (Nat.le_of_eq g8.symm)⟩
theorem ct_tob2 (l : Launch) (Z : State) (a0 : Array Value) (hw : HW a0 Z) {cS : Int32} {fm : Value} {ub : Addr} (am : Amb Z a0 cS fm ub) {b : Addr} {kC : ClassId} {c0 : Int32} {c1 : Int32} {h0 : Heap} (p0 : Arv Z h0 b kC .char (2 : Int32) [(.int c0), (.int c1)] (.int 0)) :
    Py l Z (⟨"java/lang/StringUTF16", "toBytes", "([CII)[B"⟩ : MethodName) 3 40 1 4 #[(.ref b), (.int 0), (.int 2)] h0 [] (fun rv h' => ∃ (t : Addr) (kB : ClassId), rv = some (.ref t) ∧ Arv Z h' t kB .byte (4 : Int32) [(.int (lo8 c0)), (.int (hi8 c0)), (.int (lo8 c1)), (.int (hi8 c1))] (.int 0) ∧ (h0.size ≤ t)) := by
  refine Ct.py (by0 := jdk_52_method_14_code) (ml := 5) (rt := (some (.array .byte))) (rm := ({ frames := 2, cells := 1, slots := 4, locals := 24 } : Room)) ?_ (hq hw 83 rfl) (hq hw 76 rfl)
  refine Ct.mk (a0 := a0) (Ls := #[.val (.ref b), .val (.int 0), .val (.int 2), .unset, .unset]) (plainFor_of_name pn_java_lang_StringUTF16) (fun m => by first | (simp [entryFrame, mkF, argsToLocals, Value.category]; done) | rfl) ?_
  intro κ C
  show Go l _ Z _ _ _ κ [] h0 0 #[.val (.ref b), .val (.int 0), .val (.int 2), .unset, .unset] [] 0 0
  refine go_iloadN C 1 d14_0 rfl rfl ?_
  refine go_callS C (argsL := [(.int 2)]) (W := 0) d14_1 (hq hw 84 rfl) (hq hw 85 rfl) (hq hw 76 rfl) (hq hw 86 rfl) (by decide) pd__I__B (ct_nbf2 l Z a0 hw am) rfl (by decide) (Nat.le_of_eq rfl) (by decide) rfl (by decide) (by decide) mems0 ?_
  intro fv1 h2 K3 fq4
  obtain ⟨t5, kB6, rfl, fx7, fx8⟩ := fq4
  refine ⟨[t5], (freshS ⟨fx8, (fx7).lt⟩ fresh0), ?_⟩
  show Go l _ Z _ _ _ κ [t5] _ 4 _ [(.ref t5)] 1 4
  refine go_astoreN C 5 (Ls' := #[.val (.ref b), .val (.int 0), .val (.int 2), .val (.ref t5), .unset]) d14_4 rfl rfl rfl ?_
  refine go_iconst C 6 (0 : Int32) d14_5 rfl (by decide) ?_
  refine go_istore C 8 (Ls' := #[.val (.ref b), .val (.int 0), .val (.int 2), .val (.ref t5), .val (.int 0)]) d14_6 rfl rfl ?_
  refine go_iload C 10 d14_8 rfl rfl ?_
  refine go_iloadN C 11 d14_10 rfl rfl ?_
  refine go_icmpN C 14 d14_11 rfl (tlt ((by decide) : (0 : Int32) < (2 : Int32))).2.1 ?_
  refine go_aloadN C 15 d14_14 rfl rfl rfl ?_
  refine go_iload C 17 d14_15 rfl rfl ?_
  refine go_aloadN C 18 d14_17 rfl rfl rfl ?_
  refine go_iloadN C 19 d14_18 rfl rfl ?_
  have fx9 := (p0.keep K3 nin0)
  refine go_caload C 20 (v := (.int c0)) d14_19 rfl fx9 (by decide) rfl ?_
  refine go_callS C (argsL := [(.ref t5), (.int 0), (.int c0)]) (W := 0) d14_20 (hq hw 91 rfl) (hq hw 92 rfl) (hq hw 76 rfl) (hq hw 93 rfl) (by decide) pd___BII_V (ct_put2_0 l Z a0 hw am (t := t5) (kB := kB6) (c0 := c0) fx7) rfl (by decide) (Nat.le_of_eq rfl) (by decide) rfl (by decide) (by decide) (memsS (mi 0 rfl) mems0) ?_
  intro fv10 h11 K12 fq13
  obtain ⟨rfl, fx14⟩ := fq13
  refine ⟨[], fresh0, ?_⟩
  show Go l _ Z _ _ _ κ _ _ 23 _ [] 1 4
  refine go_iinc C 26 (Ls' := #[.val (.ref b), .val (.int 1), .val (.int 2), .val (.ref t5), .val (.int 0)]) (1 : Int32) d14_23 rfl (by decide) rfl rfl ?_
  refine go_iinc C 29 (Ls' := #[.val (.ref b), .val (.int 1), .val (.int 2), .val (.ref t5), .val (.int 1)]) (1 : Int32) d14_26 rfl (by decide) rfl rfl ?_
  refine go_goto C (pc' := 8) d14_29 (by decide) (by decide) ?_
  refine go_iload C 10 d14_8 rfl rfl ?_
  refine go_iloadN C 11 d14_10 rfl rfl ?_
  refine go_icmpN C 14 d14_11 rfl (tlt ((by decide) : (1 : Int32) < (2 : Int32))).2.1 ?_
  refine go_aloadN C 15 d14_14 rfl rfl rfl ?_
  refine go_iload C 17 d14_15 rfl rfl ?_
  refine go_aloadN C 18 d14_17 rfl rfl rfl ?_
  refine go_iloadN C 19 d14_18 rfl rfl ?_
  have fx15 := (fx9.keep K12 (ninS (Nat.ne_of_lt (Nat.lt_of_lt_of_le (p0).lt fx8)) nin0))
  refine go_caload C 20 (v := (.int c1)) d14_19 rfl fx15 (by decide) rfl ?_
  refine go_callS C (argsL := [(.ref t5), (.int 1), (.int c1)]) (W := 0) d14_20 (hq hw 91 rfl) (hq hw 92 rfl) (hq hw 76 rfl) (hq hw 93 rfl) (by decide) pd___BII_V (ct_put2_1 l Z a0 hw am (t := t5) (kB := kB6) (c0 := c0) (c1 := c1) fx14) rfl (by decide) (Nat.le_of_eq rfl) (by decide) rfl (by decide) (by decide) (memsS (mi 0 rfl) mems0) ?_
  intro fv16 h17 K18 fq19
  obtain ⟨rfl, fx20⟩ := fq19
  refine ⟨[], fresh0, ?_⟩
  show Go l _ Z _ _ _ κ _ _ 23 _ [] 1 4
  refine go_iinc C 26 (Ls' := #[.val (.ref b), .val (.int 2), .val (.int 2), .val (.ref t5), .val (.int 1)]) (1 : Int32) d14_23 rfl (by decide) rfl rfl ?_
  refine go_iinc C 29 (Ls' := #[.val (.ref b), .val (.int 2), .val (.int 2), .val (.ref t5), .val (.int 2)]) (1 : Int32) d14_26 rfl (by decide) rfl rfl ?_
  refine go_goto C (pc' := 8) d14_29 (by decide) (by decide) ?_
  refine go_iload C 10 d14_8 rfl rfl ?_
  refine go_iloadN C 11 d14_10 rfl rfl ?_
  refine go_icmpY C (pc' := 32) d14_11 (flt ((by decide) : ¬ ((2 : Int32) < (2 : Int32)))).2.1 (by decide) (by decide) ?_
  refine go_aloadN C 33 d14_32 rfl rfl rfl ?_
  refine go_retA C (v := (.ref t5)) d14_33 rfl rfl rfl (by decide) (by decide) ?_
  exact ⟨t5, kB6, rfl, fx20, fx8⟩
theorem ct_cmp2 (l : Launch) (Z : State) (a0 : Array Value) (hw : HW a0 Z) {cS : Int32} {fm : Value} {ub : Addr} (am : Amb Z a0 cS fm ub) {b : Addr} {t : Addr} {kC : ClassId} {kB : ClassId} {c0 : Int32} {c1 : Int32} {h0 : Heap} (p0 : Arv Z h0 b kC .char (2 : Int32) [(.int c0), (.int c1)] (.int 0)) (p1 : Arv Z h0 t kB .byte (2 : Int32) [(.int 0), (.int 0)] (.int 0)) (hbt : b ≠ t) :
    Py l Z (⟨"java/lang/StringUTF16", "compress", "([CI[BII)I"⟩ : MethodName) 1 18 0 0 #[(.ref b), (.int 0), (.ref t), (.int 0), (.int 2)] h0 [t] (fun rv h' => (rv = some (.int 2) ∧ Arv Z h' t kB .byte (2 : Int32) [(.int (lo8 c0)), (.int (lo8 c1))] (.int 0) ∧ (¬ (255 : Int32) < c0) ∧ (¬ (255 : Int32) < c1)) ∨ (∃ (vs : List Value), rv = some (.int 0) ∧ Arv Z h' t kB .byte (2 : Int32) vs (.int 0) ∧ ((255 : Int32) < c0)) ∨ (∃ (vs : List Value), rv = some (.int 1) ∧ Arv Z h' t kB .byte (2 : Int32) vs (.int 0) ∧ ((255 : Int32) < c1))) := by
  refine Ct.py (by0 := jdk_52_method_21_code) (ml := 7) (rt := (some .int)) (rm := ({ frames := 0, cells := 0, slots := 0, locals := 0 } : Room)) ?_ (hq hw 80 rfl) (hq hw 76 rfl)
  refine Ct.mk (a0 := a0) (Ls := #[.val (.ref b), .val (.int 0), .val (.ref t), .val (.int 0), .val (.int 2), .unset, .unset]) (plainFor_of_name pn_java_lang_StringUTF16) (fun m => by first | (simp [entryFrame, mkF, argsToLocals, Value.category]; done) | rfl) ?_
  intro κ C
  show Go l _ Z _ _ _ κ [t] h0 0 #[.val (.ref b), .val (.int 0), .val (.ref t), .val (.int 0), .val (.int 2), .unset, .unset] [] 0 0
  refine go_iconst C 1 (0 : Int32) d13_0 rfl (by decide) ?_
  refine go_istore C 3 (Ls' := #[.val (.ref b), .val (.int 0), .val (.ref t), .val (.int 0), .val (.int 2), .val (.int 0), .unset]) d13_1 rfl rfl ?_
  refine go_iload C 5 d13_3 rfl rfl ?_
  refine go_iload C 7 d13_5 rfl rfl ?_
  refine go_icmpN C 10 d13_7 rfl (tlt ((by decide) : (0 : Int32) < (2 : Int32))).2.1 ?_
  refine go_aloadN C 11 d13_10 rfl rfl rfl ?_
  refine go_iloadN C 12 d13_11 rfl rfl ?_
  refine go_caload C 13 (v := (.int c0)) d13_12 rfl p0 (by decide) rfl ?_
  refine go_istore C 15 (Ls' := #[.val (.ref b), .val (.int 0), .val (.ref t), .val (.int 0), .val (.int 2), .val (.int 0), .val (.int c0)]) d13_13 rfl rfl ?_
  refine go_iload C 17 d13_15 rfl rfl ?_
  refine go_sipush C 20 (255 : Int32) d13_17 rfl (by decide) ?_
  by_cases q0 : (255 : Int32) < c0
  · skip
    refine go_icmpN C 23 d13_20 rfl (tlt q0).2.2.2 ?_
    refine go_iload C 25 d13_23 rfl rfl ?_
    refine go_retI C d13_25 rfl (by decide) (by decide) ?_
    exact Or.inr (Or.inl ⟨[(.int 0), (.int 0)], rfl, p1, q0⟩)
  · skip
    refine go_icmpY C (pc' := 26) d13_20 (flt q0).2.2.2 (by decide) (by decide) ?_
    refine go_aloadN C 27 d13_26 rfl rfl rfl ?_
    refine go_iloadN C 28 d13_27 rfl rfl ?_
    refine go_iload C 30 d13_28 rfl rfl ?_
    refine go_i2b C 31 (lo8 c0) d13_30 rfl rfl ?_
    refine go_bastore C 32 0 (v := (lo8 c0)) (nar_lo8 _) d13_31 rfl p1 (by decide) rfl (nble rfl) (mi 0 rfl) ?_
    intro h1 W2 fx3
    have fx4 : Arv Z h1 t kB .byte (2 : Int32) [(.int (lo8 c0)), (.int 0)] (.int 0) := fx3
    refine go_iinc C 35 (Ls' := #[.val (.ref b), .val (.int 1), .val (.ref t), .val (.int 0), .val (.int 2), .val (.int 0), .val (.int c0)]) (1 : Int32) d13_32 rfl (by decide) rfl rfl ?_
    refine go_iinc C 38 (Ls' := #[.val (.ref b), .val (.int 1), .val (.ref t), .val (.int 1), .val (.int 2), .val (.int 0), .val (.int c0)]) (1 : Int32) d13_35 rfl (by decide) rfl rfl ?_
    refine go_iinc C 41 (Ls' := #[.val (.ref b), .val (.int 1), .val (.ref t), .val (.int 1), .val (.int 2), .val (.int 1), .val (.int c0)]) (1 : Int32) d13_38 rfl (by decide) rfl rfl ?_
    refine go_goto C (pc' := 3) d13_41 (by decide) (by decide) ?_
    refine go_iload C 5 d13_3 rfl rfl ?_
    refine go_iload C 7 d13_5 rfl rfl ?_
    refine go_icmpN C 10 d13_7 rfl (tlt ((by decide) : (1 : Int32) < (2 : Int32))).2.1 ?_
    refine go_aloadN C 11 d13_10 rfl rfl rfl ?_
    refine go_iloadN C 12 d13_11 rfl rfl ?_
    have fx5 := (p0.other W2 hbt)
    refine go_caload C 13 (v := (.int c1)) d13_12 rfl fx5 (by decide) rfl ?_
    refine go_istore C 15 (Ls' := #[.val (.ref b), .val (.int 1), .val (.ref t), .val (.int 1), .val (.int 2), .val (.int 1), .val (.int c1)]) d13_13 rfl rfl ?_
    refine go_iload C 17 d13_15 rfl rfl ?_
    refine go_sipush C 20 (255 : Int32) d13_17 rfl (by decide) ?_
    by_cases q1 : (255 : Int32) < c1
    · skip
      refine go_icmpN C 23 d13_20 rfl (tlt q1).2.2.2 ?_
      refine go_iload C 25 d13_23 rfl rfl ?_
      refine go_retI C d13_25 rfl (by decide) (by decide) ?_
      exact Or.inr (Or.inr (⟨[(.int (lo8 c0)), (.int 0)], rfl, fx4, q1⟩))
    · skip
      refine go_icmpY C (pc' := 26) d13_20 (flt q1).2.2.2 (by decide) (by decide) ?_
      refine go_aloadN C 27 d13_26 rfl rfl rfl ?_
      refine go_iloadN C 28 d13_27 rfl rfl ?_
      refine go_iload C 30 d13_28 rfl rfl ?_
      refine go_i2b C 31 (lo8 c1) d13_30 rfl rfl ?_
      refine go_bastore C 32 1 (v := (lo8 c1)) (nar_lo8 _) d13_31 rfl fx4 (by decide) rfl (nble rfl) (mi 0 rfl) ?_
      intro h6 W7 fx8
      have fx9 : Arv Z h6 t kB .byte (2 : Int32) [(.int (lo8 c0)), (.int (lo8 c1))] (.int 0) := fx8
      refine go_iinc C 35 (Ls' := #[.val (.ref b), .val (.int 2), .val (.ref t), .val (.int 1), .val (.int 2), .val (.int 1), .val (.int c1)]) (1 : Int32) d13_32 rfl (by decide) rfl rfl ?_
      refine go_iinc C 38 (Ls' := #[.val (.ref b), .val (.int 2), .val (.ref t), .val (.int 2), .val (.int 2), .val (.int 1), .val (.int c1)]) (1 : Int32) d13_35 rfl (by decide) rfl rfl ?_
      refine go_iinc C 41 (Ls' := #[.val (.ref b), .val (.int 2), .val (.ref t), .val (.int 2), .val (.int 2), .val (.int 2), .val (.int c1)]) (1 : Int32) d13_38 rfl (by decide) rfl rfl ?_
      refine go_goto C (pc' := 3) d13_41 (by decide) (by decide) ?_
      refine go_iload C 5 d13_3 rfl rfl ?_
      refine go_iload C 7 d13_5 rfl rfl ?_
      refine go_icmpY C (pc' := 44) d13_7 (flt ((by decide) : ¬ ((2 : Int32) < (2 : Int32)))).2.1 (by decide) (by decide) ?_
      refine go_iload C 46 d13_44 rfl rfl ?_
      refine go_retI C d13_46 rfl (by decide) (by decide) ?_
      exact Or.inl ⟨rfl, fx9, q0, q1⟩
theorem ct_cmpA2 (l : Launch) (Z : State) (a0 : Array Value) (hw : HW a0 Z) {cS : Int32} {fm : Value} {ub : Addr} (am : Amb Z a0 cS fm ub) {b : Addr} {kC : ClassId} {c0 : Int32} {c1 : Int32} {h0 : Heap} (p0 : Arv Z h0 b kC .char (2 : Int32) [(.int c0), (.int c1)] (.int 0)) (r0 : Chr c0) (r1 : Chr c1) :
    Py l Z (⟨"java/lang/StringUTF16", "compress", "([CII)[B"⟩ : MethodName) 4 57 2 6 #[(.ref b), (.int 0), (.int 2)] h0 [] (fun rv h' => (∃ (t : Addr) (kB : ClassId), rv = some (.ref t) ∧ Arv Z h' t kB .byte (2 : Int32) [(.int (lo8 c0)), (.int (lo8 c1))] (.int 0) ∧ (h0.size ≤ t) ∧ (¬ (255 : Int32) < c0) ∧ (¬ (255 : Int32) < c1)) ∨ (∃ (t : Addr) (kB : ClassId), rv = some (.ref t) ∧ Arv Z h' t kB .byte (4 : Int32) [(.int (lo8 c0)), (.int (hi8 c0)), (.int (lo8 c1)), (.int (hi8 c1))] (.int 0) ∧ (h0.size ≤ t) ∧ ((255 : Int32) < c0 ∨ (255 : Int32) < c1))) := by
  refine Ct.py (by0 := jdk_52_method_16_code) (ml := 6) (rt := (some (.array .byte))) (rm := ({ frames := 3, cells := 2, slots := 6, locals := 40 } : Room)) ?_ (hq hw 77 rfl) (hq hw 76 rfl)
  refine Ct.mk (a0 := a0) (Ls := #[.val (.ref b), .val (.int 0), .val (.int 2), .unset, .unset, .unset]) (plainFor_of_name pn_java_lang_StringUTF16) (fun m => by first | (simp [entryFrame, mkF, argsToLocals, Value.category]; done) | rfl) ?_
  intro κ C
  show Go l _ Z _ _ _ κ [] h0 0 #[.val (.ref b), .val (.int 0), .val (.int 2), .unset, .unset, .unset] [] 0 0
  refine go_iloadN C 1 d12_0 rfl rfl ?_
  refine go_newP C 3 1 2 (ty := .byte) (cap := 2) d12_1 rfl rfl rfl rfl (hq hw 21 rfl) (by decide) (by decide) (by decide) (by decide) (by decide) ?_
  intro b1 h2 k3 g4 E5 V6
  have fx7 : Arv Z h2 b1 k3 .byte (2 : Int32) [(.int 0), (.int 0)] (.int 0) := V6
  refine go_astoreN C 4 (Ls' := #[.val (.ref b), .val (.int 0), .val (.int 2), .val (.ref b1), .unset, .unset]) d12_3 rfl rfl rfl ?_
  refine go_aloadN C 5 d12_4 rfl rfl rfl ?_
  refine go_iloadN C 6 d12_5 rfl rfl ?_
  refine go_aloadN C 7 d12_6 rfl rfl rfl ?_
  refine go_iconst C 8 (0 : Int32) d12_7 rfl (by decide) ?_
  refine go_iloadN C 9 d12_8 rfl rfl ?_
  have fx8 := (p0.ext E5)
  refine go_callS C (argsL := [(.ref b), (.int 0), (.ref b1), (.int 0), (.int 2)]) (W := 0) d12_9 (hq hw 78 rfl) (hq hw 79 rfl) (hq hw 76 rfl) (hq hw 80 rfl) (by decide) pd___CI_BII_I (ct_cmp2 l Z a0 hw am (b := b) (t := b1) (kC := kC) (kB := k3) (c0 := c0) (c1 := c1) fx8 fx7 (Nat.ne_of_lt (Nat.lt_of_lt_of_le (p0).lt (Nat.le_of_eq g4.symm)))) rfl (by decide) (Nat.le_of_eq rfl) (by decide) rfl (by decide) (by decide) (memsS (mi 0 rfl) mems0) ?_
  intro fv9 h10 K11 fq12
  rcases fq12 with ⟨rfl, fx13, fx14, fx15⟩ | ⟨vs16, rfl, fx17, fx18⟩ | ⟨vs19, rfl, fx20, fx21⟩
  · skip
    refine ⟨[], fresh0, ?_⟩
    show Go l _ Z _ _ _ κ _ _ 12 _ [(.int 2)] 1 2
    refine go_istore C 14 (Ls' := #[.val (.ref b), .val (.int 0), .val (.int 2), .val (.ref b1), .val (.int 2), .unset]) d12_12 rfl rfl ?_
    refine go_iload C 16 d12_14 rfl rfl ?_
    refine go_iloadN C 17 d12_16 rfl rfl ?_
    refine go_icmpY C (pc' := 57) d12_17 (teq ((by decide) : (2 : Int32) = (2 : Int32))).1 (by decide) (by decide) ?_
    refine go_aloadN C 58 d12_57 rfl rfl rfl ?_
    refine go_retA C (v := (.ref b1)) d12_58 rfl rfl rfl (by decide) (by decide) ?_
    exact Or.inl ⟨b1, k3, rfl, fx13, (Nat.le_of_eq g4.symm), fx14, fx15⟩
  · skip
    refine ⟨[], fresh0, ?_⟩
    show Go l _ Z _ _ _ κ _ _ 12 _ [(.int 0)] 1 2
    refine go_istore C 14 (Ls' := #[.val (.ref b), .val (.int 0), .val (.int 2), .val (.ref b1), .val (.int 0), .unset]) d12_12 rfl rfl ?_
    refine go_iload C 16 d12_14 rfl rfl ?_
    refine go_iloadN C 17 d12_16 rfl rfl ?_
    refine go_icmpN C 20 d12_17 rfl (feq ((by decide) : ¬ ((0 : Int32) = (2 : Int32)))).1 ?_
    refine go_aloadN C 21 d12_20 rfl rfl rfl ?_
    refine go_iloadN C 22 d12_21 rfl rfl ?_
    refine go_iloadN C 23 d12_22 rfl rfl ?_
    have fx22 := (fx8.keep K11 (ninS (Nat.ne_of_lt (Nat.lt_of_lt_of_le (p0).lt (Nat.le_of_eq g4.symm))) nin0))
    refine go_callS C (argsL := [(.ref b), (.int 0), (.int 2)]) (W := 0) d12_23 (hq hw 81 rfl) (hq hw 82 rfl) (hq hw 76 rfl) (hq hw 83 rfl) (by decide) pd___CII__B (ct_tob2 l Z a0 hw am (b := b) (kC := kC) (c0 := c0) (c1 := c1) fx22) rfl (by decide) (Nat.le_of_eq rfl) (by decide) rfl (by decide) (by decide) mems0 ?_
    intro fv23 h24 K25 fq26
    obtain ⟨t27, kB28, rfl, fx29, fx30⟩ := fq26
    refine ⟨[t27], (freshS ⟨fx30, (fx29).lt⟩ fresh0), ?_⟩
    show Go l _ Z _ _ _ κ [t27, b1] _ 26 _ [(.ref t27)] 2 6
    refine go_astore C 28 (Ls' := #[.val (.ref b), .val (.int 0), .val (.int 2), .val (.ref b1), .val (.int 0), .val (.ref t27)]) d12_26 rfl rfl rfl ?_
    refine go_aload C 30 d12_28 rfl rfl rfl ?_
    refine go_iload C 32 d12_30 rfl rfl ?_
    refine go_callS C (argsL := [(.ref t27), (.int 0)]) (W := 0) d12_32 (hq hw 97 rfl) (hq hw 98 rfl) (hq hw 76 rfl) (hq hw 99 rfl) (by decide) pd___BI_C (ct_get2_0 l Z a0 hw am (t := t27) (kB := kB28) (c0 := c0) (c1 := c1) fx29 r0) rfl (by decide) (Nat.le_of_eq rfl) (by decide) rfl (by decide) (by decide) mems0 ?_
    intro fv31 h32 K33 fq34
    obtain ⟨rfl, rfl⟩ := fq34
    refine ⟨[], fresh0, ?_⟩
    show Go l _ Z _ _ _ κ _ _ 35 _ [(.int c0)] 2 6
    refine go_sipush C 38 (255 : Int32) d12_35 rfl (by decide) ?_
    refine go_icmpY C (pc' := 54) d12_38 (tlt (fx18 : (255 : Int32) < c0)).2.2.1 (by decide) (by decide) ?_
    refine go_aload C 56 d12_54 rfl rfl rfl ?_
    refine go_retA C (v := (.ref t27)) d12_56 rfl rfl rfl (by decide) (by decide) ?_
    exact Or.inr (⟨t27, kB28, rfl, fx29, (Nat.le_trans E5.1 (Nat.le_trans K11.1 fx30)), (Or.inl fx18)⟩)
  · skip
    refine ⟨[], fresh0, ?_⟩
    show Go l _ Z _ _ _ κ _ _ 12 _ [(.int 1)] 1 2
    refine go_istore C 14 (Ls' := #[.val (.ref b), .val (.int 0), .val (.int 2), .val (.ref b1), .val (.int 1), .unset]) d12_12 rfl rfl ?_
    refine go_iload C 16 d12_14 rfl rfl ?_
    refine go_iloadN C 17 d12_16 rfl rfl ?_
    refine go_icmpN C 20 d12_17 rfl (feq ((by decide) : ¬ ((1 : Int32) = (2 : Int32)))).1 ?_
    refine go_aloadN C 21 d12_20 rfl rfl rfl ?_
    refine go_iloadN C 22 d12_21 rfl rfl ?_
    refine go_iloadN C 23 d12_22 rfl rfl ?_
    have fx35 := (fx8.keep K11 (ninS (Nat.ne_of_lt (Nat.lt_of_lt_of_le (p0).lt (Nat.le_of_eq g4.symm))) nin0))
    refine go_callS C (argsL := [(.ref b), (.int 0), (.int 2)]) (W := 0) d12_23 (hq hw 81 rfl) (hq hw 82 rfl) (hq hw 76 rfl) (hq hw 83 rfl) (by decide) pd___CII__B (ct_tob2 l Z a0 hw am (b := b) (kC := kC) (c0 := c0) (c1 := c1) fx35) rfl (by decide) (Nat.le_of_eq rfl) (by decide) rfl (by decide) (by decide) mems0 ?_
    intro fv36 h37 K38 fq39
    obtain ⟨t40, kB41, rfl, fx42, fx43⟩ := fq39
    refine ⟨[t40], (freshS ⟨fx43, (fx42).lt⟩ fresh0), ?_⟩
    show Go l _ Z _ _ _ κ [t40, b1] _ 26 _ [(.ref t40)] 2 6
    refine go_astore C 28 (Ls' := #[.val (.ref b), .val (.int 0), .val (.int 2), .val (.ref b1), .val (.int 1), .val (.ref t40)]) d12_26 rfl rfl rfl ?_
    refine go_aload C 30 d12_28 rfl rfl rfl ?_
    refine go_iload C 32 d12_30 rfl rfl ?_
    refine go_callS C (argsL := [(.ref t40), (.int 1)]) (W := 0) d12_32 (hq hw 97 rfl) (hq hw 98 rfl) (hq hw 76 rfl) (hq hw 99 rfl) (by decide) pd___BI_C (ct_get2_1 l Z a0 hw am (t := t40) (kB := kB41) (c0 := c0) (c1 := c1) fx42 r1) rfl (by decide) (Nat.le_of_eq rfl) (by decide) rfl (by decide) (by decide) mems0 ?_
    intro fv44 h45 K46 fq47
    obtain ⟨rfl, rfl⟩ := fq47
    refine ⟨[], fresh0, ?_⟩
    show Go l _ Z _ _ _ κ _ _ 35 _ [(.int c1)] 2 6
    refine go_sipush C 38 (255 : Int32) d12_35 rfl (by decide) ?_
    refine go_icmpY C (pc' := 54) d12_38 (tlt (fx21 : (255 : Int32) < c1)).2.2.1 (by decide) (by decide) ?_
    refine go_aload C 56 d12_54 rfl rfl rfl ?_
    refine go_retA C (v := (.ref t40)) d12_56 rfl rfl rfl (by decide) (by decide) ?_
    exact Or.inr (⟨t40, kB41, rfl, fx42, (Nat.le_trans E5.1 (Nat.le_trans K11.1 fx43)), (Or.inr fx21)⟩)
theorem ct_coder2_2 (l : Launch) (Z : State) (a0 : Array Value) (hw : HW a0 Z) {cS : Int32} {fm : Value} {ub : Addr} (am : Amb Z a0 cS fm ub) {t : Addr} {kB : ClassId} {vs : List Value} {h0 : Heap} (p0 : Arv Z h0 t kB .byte (2 : Int32) vs (.int 0)) :
    Py l Z (⟨"java/lang/StringUTF16", "coderFromArrayLen", "([BI)B"⟩ : MethodName) 1 13 0 0 #[(.ref t), (.int 2)] h0 [] (fun rv h' => rv = some (.int 0) ∧ h' = h0) := by
  refine Ct.py (by0 := jdk_52_method_15_code) (ml := 2) (rt := (some .byte)) (rm := ({ frames := 0, cells := 0, slots := 0, locals := 0 } : Room)) ?_ (hq hw 102 rfl) (hq hw 76 rfl)
  refine Ct.mk (a0 := a0) (Ls := #[.val (.ref t), .val (.int 2)]) (plainFor_of_name pn_java_lang_StringUTF16) (fun m => by first | (simp [entryFrame, mkF, argsToLocals, Value.category]; done) | rfl) ?_
  intro κ C
  show Go l _ Z _ _ _ κ [] h0 0 #[.val (.ref t), .val (.int 2)] [] 0 0
  refine go_iloadN C 1 d19_0 rfl rfl ?_
  refine go_aloadN C 2 d19_1 rfl rfl rfl ?_
  refine go_arraylength C 3 d19_2 rfl p0 ?_
  refine go_isub C 4 (0 : Int32) d19_3 rfl (by decide) ?_
  refine go_bipush C 6 (31 : Int32) d19_4 rfl (by decide) ?_
  refine go_iushr C 7 (0 : Int32) d19_6 rfl (by decide) ?_
  refine go_i2b C 8 (0 : Int32) d19_7 rfl (by decide) ?_
  refine go_retN C (t := .byte) (z := (0 : Int32)) d19_8 rfl (by decide) (by decide) (by decide) (by decide) ?_
  exact ⟨rfl, rfl⟩
theorem ct_coder4_2 (l : Launch) (Z : State) (a0 : Array Value) (hw : HW a0 Z) {cS : Int32} {fm : Value} {ub : Addr} (am : Amb Z a0 cS fm ub) {t : Addr} {kB : ClassId} {vs : List Value} {h0 : Heap} (p0 : Arv Z h0 t kB .byte (4 : Int32) vs (.int 0)) :
    Py l Z (⟨"java/lang/StringUTF16", "coderFromArrayLen", "([BI)B"⟩ : MethodName) 1 13 0 0 #[(.ref t), (.int 2)] h0 [] (fun rv h' => rv = some (.int 1) ∧ h' = h0) := by
  refine Ct.py (by0 := jdk_52_method_15_code) (ml := 2) (rt := (some .byte)) (rm := ({ frames := 0, cells := 0, slots := 0, locals := 0 } : Room)) ?_ (hq hw 102 rfl) (hq hw 76 rfl)
  refine Ct.mk (a0 := a0) (Ls := #[.val (.ref t), .val (.int 2)]) (plainFor_of_name pn_java_lang_StringUTF16) (fun m => by first | (simp [entryFrame, mkF, argsToLocals, Value.category]; done) | rfl) ?_
  intro κ C
  show Go l _ Z _ _ _ κ [] h0 0 #[.val (.ref t), .val (.int 2)] [] 0 0
  refine go_iloadN C 1 d19_0 rfl rfl ?_
  refine go_aloadN C 2 d19_1 rfl rfl rfl ?_
  refine go_arraylength C 3 d19_2 rfl p0 ?_
  refine go_isub C 4 (-2 : Int32) d19_3 rfl (by decide) ?_
  refine go_bipush C 6 (31 : Int32) d19_4 rfl (by decide) ?_
  refine go_iushr C 7 (1 : Int32) d19_6 rfl (by decide) ?_
  refine go_i2b C 8 (1 : Int32) d19_7 rfl (by decide) ?_
  refine go_retN C (t := .byte) (z := (1 : Int32)) d19_8 rfl (by decide) (by decide) (by decide) (by decide) ?_
  exact ⟨rfl, rfl⟩
theorem ct_strV2 (l : Launch) (Z : State) (a0 : Array Value) (hw : HW a0 Z) {cS : Int32} {fm : Value} {ub : Addr} (am : Amb Z a0 cS fm ub) {a : Addr} {b : Addr} {kC : ClassId} {c0 : Int32} {c1 : Int32} {h0 : Heap} (p0 : Exa Z h0 a "java/lang/String") (p1 : Fld Z h0 a "java/lang/String" "value" "[B" .null) (p2 : Fld Z h0 a "java/lang/String" "coder" "B" (.int 0)) (p3 : Arv Z h0 b kC .char (2 : Int32) [(.int c0), (.int c1)] (.int 0)) (r0 : Chr c0) (r1 : Chr c1) :
    Py l Z (⟨"java/lang/String", "<init>", "([CIILjava/lang/Void;)V"⟩ : MethodName) 5 74 2 6 #[(.ref a), (.ref b), (.int 0), (.int 2), .null] h0 [a] (fun rv h' => (∃ (t : Addr) (kB : ClassId), rv = none ∧ Exa Z h' a "java/lang/String" ∧ Fld Z h' a "java/lang/String" "coder" "B" (.int 0) ∧ Fld Z h' a "java/lang/String" "value" "[B" (.ref t) ∧ Arv Z h' t kB .byte (2 : Int32) [(.int (lo8 c0)), (.int (lo8 c1))] (.int 0) ∧ (h0.size ≤ t) ∧ (¬ (255 : Int32) < c0) ∧ (¬ (255 : Int32) < c1)) ∨ (∃ (t : Addr) (kB : ClassId), rv = none ∧ Exa Z h' a "java/lang/String" ∧ Fld Z h' a "java/lang/String" "coder" "B" (.int 1) ∧ Fld Z h' a "java/lang/String" "value" "[B" (.ref t) ∧ Arv Z h' t kB .byte (4 : Int32) [(.int (lo8 c0)), (.int (hi8 c0)), (.int (lo8 c1)), (.int (hi8 c1))] (.int 0) ∧ (h0.size ≤ t) ∧ ((255 : Int32) < c0 ∨ (255 : Int32) < c1))) := by
  refine Ct.py (by0 := jdk_42_method_149_code) (ml := 6) (rt := none) (rm := ({ frames := 4, cells := 2, slots := 6, locals := 57 } : Room)) ?_ (hq hw 16 rfl) (hq hw 8 rfl)
  refine Ct.mk (a0 := a0) (Ls := #[.val (.ref a), .val (.ref b), .val (.int 0), .val (.int 2), .val .null, .unset]) (plainFor_of_name pn_java_lang_String) (fun m => by first | (simp [entryFrame, mkF, argsToLocals, Value.category]; done) | rfl) ?_
  intro κ C
  show Go l _ Z _ _ _ κ [a] h0 0 #[.val (.ref a), .val (.ref b), .val (.int 0), .val (.int 2), .val .null, .unset] [] 0 0
  refine go_aloadN C 1 d3_0 rfl rfl rfl ?_
  refine go_initO C 4 (W := 0) d3_1 rfl (hq hw 17 rfl) (hq hw 18 rfl) (hq hw 19 rfl) rfl (by decide) (Nat.le_of_eq rfl) (by decide) ?_
  refine go_iloadN C 5 d3_4 rfl rfl ?_
  refine go_ifY C (pc' := 27) d3_5 (feq ((by decide) : ¬ ((2 : Int32) = (0 : Int32)))).2 (by decide) (by decide) ?_
  refine go_getS C 30 d3_27 rfl (hq hw 73 rfl) am.2.1 ?_
  refine go_ifN C 33 d3_30 rfl (feq (am.2.2.1 : ¬ (cS = (0 : Int32)))).1 ?_
  refine go_aloadN C 34 d3_33 rfl rfl rfl ?_
  refine go_iloadN C 35 d3_34 rfl rfl ?_
  refine go_iloadN C 36 d3_35 rfl rfl ?_
  refine go_callS C (argsL := [(.ref b), (.int 0), (.int 2)]) (W := 0) d3_36 (hq hw 74 rfl) (hq hw 75 rfl) (hq hw 76 rfl) (hq hw 77 rfl) (by decide) pd___CII__B (ct_cmpA2 l Z a0 hw am (b := b) (kC := kC) (c0 := c0) (c1 := c1) p3 r0 r1) rfl (by decide) (Nat.le_of_eq rfl) (by decide) rfl (by decide) (by decide) mems0 ?_
  intro fv1 h2 K3 fq4
  rcases fq4 with ⟨t5, kB6, rfl, fx7, fx8, fx9, fx10⟩ | ⟨t11, kB12, rfl, fx13, fx14, fx15⟩
  · skip
    refine ⟨[t5], (freshS ⟨fx8, (fx7).lt⟩ fresh0), ?_⟩
    show Go l _ Z _ _ _ κ [t5, a] _ 39 _ [(.ref t5)] 2 6
    refine go_astore C 41 (Ls' := #[.val (.ref a), .val (.ref b), .val (.int 0), .val (.int 2), .val .null, .val (.ref t5)]) d3_39 rfl rfl rfl ?_
    refine go_aloadN C 42 d3_41 rfl rfl rfl ?_
    refine go_aload C 44 d3_42 rfl rfl rfl ?_
    refine go_iloadN C 45 d3_44 rfl rfl ?_
    refine go_callS C (argsL := [(.ref t5), (.int 2)]) (W := 1) d3_45 (hq hw 100 rfl) (hq hw 101 rfl) (hq hw 76 rfl) (hq hw 102 rfl) (by decide) pd___BI_B (ct_coder2_2 l Z a0 hw am (t := t5) (kB := kB6) (vs := [(.int (lo8 c0)), (.int (lo8 c1))]) fx7) rfl (by decide) (Nat.le_of_eq rfl) (by decide) rfl (by decide) (by decide) mems0 ?_
    intro fv16 h17 K18 fq19
    obtain ⟨rfl, rfl⟩ := fq19
    refine ⟨[], fresh0, ?_⟩
    show Go l _ Z _ _ _ κ _ _ 48 _ [(.int 0), (.ref a)] 2 6
    have fx20 := (p2.keep K3 nin0)
    have fx21 := (p0.keep K3)
    refine go_putFN C 51 (ty := .byte) (v' := .int 0) d3_48 rfl (hq hw 27 rfl) Via.refl fx20 fx21 (Or.inr ⟨(hq hw 23 rfl), rfl, rfl⟩) (hq hw 7 rfl) (by decide) rfl (by decide) (mi 1 rfl) ?_
    intro h22 W23
    have fx24 : Fld Z h22 a "java/lang/String" "coder" "B" (.int 0) := Fld.same W23 fx20
    refine go_aloadN C 52 d3_51 rfl rfl rfl ?_
    refine go_aload C 54 d3_52 rfl rfl rfl ?_
    have fx25 := (Fld.other W23 (p1.keep K3 nin0) (Or.inr (slot_ne (Or.inr (hq hw 22 rfl)) (Or.inr (hq hw 23 rfl)) (by decide) (t := (.array .byte)) (t' := .byte) (by decide) (by decide))))
    have fx26 := (Exa.wr W23 fx21)
    refine go_putF C 57 (ty := (.array .byte)) d3_54 rfl (hq hw 26 rfl) Via.refl fx25 fx26 (Or.inr ⟨(hq hw 22 rfl), rfl, rfl⟩) (hq hw 7 rfl) (by decide) rfl rfl (mi 1 rfl) ?_
    intro h27 W28
    have fx29 : Fld Z h27 a "java/lang/String" "value" "[B" (.ref t5) := Fld.same W28 fx25
    refine go_ret C d3_57 rfl (by decide) (by decide) ?_
    have fx30 := (Exa.wr W28 fx26)
    have fx31 := (Fld.other W28 fx24 (Or.inr (slot_ne (Or.inr (hq hw 23 rfl)) (Or.inr (hq hw 22 rfl)) (by decide) (t := .byte) (t' := (.array .byte)) (by decide) (by decide))))
    have fx32 := ((fx7.other W23 (Ne.symm (Nat.ne_of_lt (Nat.lt_of_lt_of_le (p0).lt fx8)))).other W28 (Ne.symm (Nat.ne_of_lt (Nat.lt_of_lt_of_le (p0).lt fx8))))
    exact Or.inl ⟨t5, kB6, rfl, fx30, fx31, fx29, fx32, fx8, fx9, fx10⟩
  · skip
    refine ⟨[t11], (freshS ⟨fx14, (fx13).lt⟩ fresh0), ?_⟩
    show Go l _ Z _ _ _ κ [t11, a] _ 39 _ [(.ref t11)] 2 6
    refine go_astore C 41 (Ls' := #[.val (.ref a), .val (.ref b), .val (.int 0), .val (.int 2), .val .null, .val (.ref t11)]) d3_39 rfl rfl rfl ?_
    refine go_aloadN C 42 d3_41 rfl rfl rfl ?_
    refine go_aload C 44 d3_42 rfl rfl rfl ?_
    refine go_iloadN C 45 d3_44 rfl rfl ?_
    refine go_callS C (argsL := [(.ref t11), (.int 2)]) (W := 1) d3_45 (hq hw 100 rfl) (hq hw 101 rfl) (hq hw 76 rfl) (hq hw 102 rfl) (by decide) pd___BI_B (ct_coder4_2 l Z a0 hw am (t := t11) (kB := kB12) (vs := [(.int (lo8 c0)), (.int (hi8 c0)), (.int (lo8 c1)), (.int (hi8 c1))]) fx13) rfl (by decide) (Nat.le_of_eq rfl) (by decide) rfl (by decide) (by decide) mems0 ?_
    intro fv33 h34 K35 fq36
    obtain ⟨rfl, rfl⟩ := fq36
    refine ⟨[], fresh0, ?_⟩
    show Go l _ Z _ _ _ κ _ _ 48 _ [(.int 1), (.ref a)] 2 6
    have fx37 := (p2.keep K3 nin0)
    have fx38 := (p0.keep K3)
    refine go_putFN C 51 (ty := .byte) (v' := .int 1) d3_48 rfl (hq hw 27 rfl) Via.refl fx37 fx38 (Or.inr ⟨(hq hw 23 rfl), rfl, rfl⟩) (hq hw 7 rfl) (by decide) rfl (by decide) (mi 1 rfl) ?_
    intro h39 W40
    have fx41 : Fld Z h39 a "java/lang/String" "coder" "B" (.int 1) := Fld.same W40 fx37
    refine go_aloadN C 52 d3_51 rfl rfl rfl ?_
    refine go_aload C 54 d3_52 rfl rfl rfl ?_
    have fx42 := (Fld.other W40 (p1.keep K3 nin0) (Or.inr (slot_ne (Or.inr (hq hw 22 rfl)) (Or.inr (hq hw 23 rfl)) (by decide) (t := (.array .byte)) (t' := .byte) (by decide) (by decide))))
    have fx43 := (Exa.wr W40 fx38)
    refine go_putF C 57 (ty := (.array .byte)) d3_54 rfl (hq hw 26 rfl) Via.refl fx42 fx43 (Or.inr ⟨(hq hw 22 rfl), rfl, rfl⟩) (hq hw 7 rfl) (by decide) rfl rfl (mi 1 rfl) ?_
    intro h44 W45
    have fx46 : Fld Z h44 a "java/lang/String" "value" "[B" (.ref t11) := Fld.same W45 fx42
    refine go_ret C d3_57 rfl (by decide) (by decide) ?_
    have fx47 := (Exa.wr W45 fx43)
    have fx48 := (Fld.other W45 fx41 (Or.inr (slot_ne (Or.inr (hq hw 23 rfl)) (Or.inr (hq hw 22 rfl)) (by decide) (t := .byte) (t' := (.array .byte)) (by decide) (by decide))))
    have fx49 := ((fx13.other W40 (Ne.symm (Nat.ne_of_lt (Nat.lt_of_lt_of_le (p0).lt fx14)))).other W45 (Ne.symm (Nat.ne_of_lt (Nat.lt_of_lt_of_le (p0).lt fx14))))
    exact Or.inr (⟨t11, kB12, rfl, fx47, fx48, fx46, fx49, fx14, fx15⟩)
theorem ct_str2 (l : Launch) (Z : State) (a0 : Array Value) (hw : HW a0 Z) {cS : Int32} {fm : Value} {ub : Addr} (am : Amb Z a0 cS fm ub) {a : Addr} {b : Addr} {kC : ClassId} {c0 : Int32} {c1 : Int32} {h0 : Heap} (p0 : Exa Z h0 a "java/lang/String") (p1 : Fld Z h0 a "java/lang/String" "value" "[B" .null) (p2 : Fld Z h0 a "java/lang/String" "coder" "B" (.int 0)) (p3 : Arv Z h0 b kC .char (2 : Int32) [(.int c0), (.int c1)] (.int 0)) (r0 : Chr c0) (r1 : Chr c1) :
    Py l Z (⟨"java/lang/String", "<init>", "([C)V"⟩ : MethodName) 6 87 2 6 #[(.ref a), (.ref b)] h0 [a] (fun rv h' => (∃ (t : Addr) (kB : ClassId), rv = none ∧ Exa Z h' a "java/lang/String" ∧ Fld Z h' a "java/lang/String" "coder" "B" (.int 0) ∧ Fld Z h' a "java/lang/String" "value" "[B" (.ref t) ∧ Arv Z h' t kB .byte (2 : Int32) [(.int (lo8 c0)), (.int (lo8 c1))] (.int 0) ∧ (h0.size ≤ t) ∧ (¬ (255 : Int32) < c0) ∧ (¬ (255 : Int32) < c1)) ∨ (∃ (t : Addr) (kB : ClassId), rv = none ∧ Exa Z h' a "java/lang/String" ∧ Fld Z h' a "java/lang/String" "coder" "B" (.int 1) ∧ Fld Z h' a "java/lang/String" "value" "[B" (.ref t) ∧ Arv Z h' t kB .byte (4 : Int32) [(.int (lo8 c0)), (.int (hi8 c0)), (.int (lo8 c1)), (.int (hi8 c1))] (.int 0) ∧ (h0.size ≤ t) ∧ ((255 : Int32) < c0 ∨ (255 : Int32) < c1))) := by
  refine Ct.py (by0 := jdk_42_method_3_code) (ml := 2) (rt := none) (rm := ({ frames := 5, cells := 2, slots := 6, locals := 74 } : Room)) ?_ (hq hw 12 rfl) (hq hw 8 rfl)
  refine Ct.mk (a0 := a0) (Ls := #[.val (.ref a), .val (.ref b)]) (plainFor_of_name pn_java_lang_String) (fun m => by first | (simp [entryFrame, mkF, argsToLocals, Value.category]; done) | rfl) ?_
  intro κ C
  show Go l _ Z _ _ _ κ [a] h0 0 #[.val (.ref a), .val (.ref b)] [] 0 0
  refine go_aloadN C 1 d2_0 rfl rfl rfl ?_
  refine go_aloadN C 2 d2_1 rfl rfl rfl ?_
  refine go_iconst C 3 (0 : Int32) d2_2 rfl (by decide) ?_
  refine go_aloadN C 4 d2_3 rfl rfl rfl ?_
  refine go_arraylength C 5 d2_4 rfl p3 ?_
  refine go_aconstNull C 6 d2_5 rfl ?_
  refine go_callI C (a := a) (argsL := [(.ref b), (.int 0), (.int 2), .null]) (W := 0) d2_6 rfl (hq hw 13 rfl) (hq hw 14 rfl) (hq hw 16 rfl) (by decide) pd___CIILjava_lang_Void__V (ct_strV2 l Z a0 hw am (a := a) (b := b) (kC := kC) (c0 := c0) (c1 := c1) p0 p1 p2 p3 r0 r1) rfl (by decide) (Nat.le_of_eq rfl) (by decide) rfl (by decide) (by decide) (memsS (mi 0 rfl) mems0) ?_
  intro fv1 h2 K3 fq4
  rcases fq4 with ⟨t5, kB6, rfl, fx7, fx8, fx9, fx10, fx11, fx12, fx13⟩ | ⟨t14, kB15, rfl, fx16, fx17, fx18, fx19, fx20, fx21⟩
  · skip
    refine ⟨[t5], (freshS ⟨fx11, (fx10).lt⟩ fresh0), ?_⟩
    show Go l _ Z _ _ _ κ [t5, a] _ 9 _ [] 2 6
    refine go_ret C d2_9 rfl (by decide) (by decide) ?_
    exact Or.inl ⟨t5, kB6, rfl, fx7, fx8, fx9, fx10, fx11, fx12, fx13⟩
  · skip
    refine ⟨[t14], (freshS ⟨fx20, (fx19).lt⟩ fresh0), ?_⟩
    show Go l _ Z _ _ _ κ [t14, a] _ 9 _ [] 2 6
    refine go_ret C d2_9 rfl (by decide) (by decide) ?_
    exact Or.inr (⟨t14, kB15, rfl, fx16, fx17, fx18, fx19, fx20, fx21⟩)
theorem ct_put3_0 (l : Launch) (Z : State) (a0 : Array Value) (hw : HW a0 Z) {cS : Int32} {fm : Value} {ub : Addr} (am : Amb Z a0 cS fm ub) {t : Addr} {kB : ClassId} {c0 : Int32} {h0 : Heap} (p0 : Arv Z h0 t kB .byte (6 : Int32) [(.int 0), (.int 0), (.int 0), (.int 0), (.int 0), (.int 0)] (.int 0)) :
    Py l Z (⟨"java/lang/StringUTF16", "putChar", "([BII)V"⟩ : MethodName) 1 14 0 0 #[(.ref t), (.int 0), (.int c0)] h0 [t] (fun rv h' => rv = none ∧ Arv Z h' t kB .byte (6 : Int32) [(.int (lo8 c0)), (.int (hi8 c0)), (.int 0), (.int 0), (.int 0), (.int 0)] (.int 0)) := by
  refine Ct.py (by0 := jdk_52_method_4_code) (ml := 3) (rt := none) (rm := ({ frames := 0, cells := 0, slots := 0, locals := 0 } : Room)) ?_ (hq hw 93 rfl) (hq hw 76 rfl)
  refine Ct.mk (a0 := a0) (Ls := #[.val (.ref t), .val (.int 0), .val (.int c0)]) (plainFor_of_name pn_java_lang_StringUTF16) (fun m => by first | (simp [entryFrame, mkF, argsToLocals, Value.category]; done) | rfl) ?_
  intro κ C
  show Go l _ Z _ _ _ κ [t] h0 0 #[.val (.ref t), .val (.int 0), .val (.int c0)] [] 0 0
  refine go_getS C 3 d17_0 rfl (hq hw 94 rfl) am.2.2.2.1 ?_
  refine go_ifY C (pc' := 28) d17_3 (feq ((by decide) : ¬ ((1 : Int32) = (0 : Int32)))).2 (by decide) (by decide) ?_
  refine go_iloadN C 29 d17_28 rfl rfl ?_
  refine go_iconst C 30 (1 : Int32) d17_29 rfl (by decide) ?_
  refine go_ishl C 31 (0 : Int32) d17_30 rfl (by decide) ?_
  refine go_istoreN C 32 (Ls' := #[.val (.ref t), .val (.int 0), .val (.int c0)]) d17_31 rfl rfl ?_
  refine go_aloadN C 33 d17_32 rfl rfl rfl ?_
  refine go_iloadN C 34 d17_33 rfl rfl ?_
  refine go_iinc C 37 (Ls' := #[.val (.ref t), .val (.int 1), .val (.int c0)]) (1 : Int32) d17_34 rfl (by decide) rfl rfl ?_
  refine go_iloadN C 38 d17_37 rfl rfl ?_
  refine go_getS C 41 d17_38 rfl (hq hw 95 rfl) am.2.2.2.2.1 ?_
  refine go_ishr C 42 c0 d17_41 rfl (shr_0 _) ?_
  refine go_i2b C 43 (lo8 c0) d17_42 rfl rfl ?_
  refine go_bastore C 44 0 (v := (lo8 c0)) (nar_lo8 _) d17_43 rfl p0 (by decide) rfl (nble rfl) (mi 0 rfl) ?_
  intro h1 W2 fx3
  have fx4 : Arv Z h1 t kB .byte (6 : Int32) [(.int (lo8 c0)), (.int 0), (.int 0), (.int 0), (.int 0), (.int 0)] (.int 0) := fx3
  refine go_aloadN C 45 d17_44 rfl rfl rfl ?_
  refine go_iloadN C 46 d17_45 rfl rfl ?_
  refine go_iloadN C 47 d17_46 rfl rfl ?_
  refine go_getS C 50 d17_47 rfl (hq hw 96 rfl) am.2.2.2.2.2.1 ?_
  refine go_ishr C 51 (c0 >>> ((8 : Int32) &&& 31)) d17_50 rfl rfl ?_
  refine go_i2b C 52 (hi8 c0) d17_51 rfl rfl ?_
  refine go_bastore C 53 1 (v := (hi8 c0)) (nar_hi8 _) d17_52 rfl fx4 (by decide) rfl (nble rfl) (mi 0 rfl) ?_
  intro h5 W6 fx7
  have fx8 : Arv Z h5 t kB .byte (6 : Int32) [(.int (lo8 c0)), (.int (hi8 c0)), (.int 0), (.int 0), (.int 0), (.int 0)] (.int 0) := fx7
  refine go_ret C d17_53 rfl (by decide) (by decide) ?_
  exact ⟨rfl, fx8⟩
theorem ct_get3_0 (l : Launch) (Z : State) (a0 : Array Value) (hw : HW a0 Z) {cS : Int32} {fm : Value} {ub : Addr} (am : Amb Z a0 cS fm ub) {t : Addr} {kB : ClassId} {c0 : Int32} {c1 : Int32} {c2 : Int32} {h0 : Heap} (p0 : Arv Z h0 t kB .byte (6 : Int32) [(.int (lo8 c0)), (.int (hi8 c0)), (.int (lo8 c1)), (.int (hi8 c1)), (.int (lo8 c2)), (.int (hi8 c2))] (.int 0)) (r0 : Chr c0) :
    Py l Z (⟨"java/lang/StringUTF16", "getChar", "([BI)C"⟩ : MethodName) 1 13 0 0 #[(.ref t), (.int 0)] h0 [] (fun rv h' => rv = some (.int c0) ∧ h' = h0) := by
  refine Ct.py (by0 := jdk_52_method_5_code) (ml := 2) (rt := (some .char)) (rm := ({ frames := 0, cells := 0, slots := 0, locals := 0 } : Room)) ?_ (hq hw 99 rfl) (hq hw 76 rfl)
  refine Ct.mk (a0 := a0) (Ls := #[.val (.ref t), .val (.int 0)]) (plainFor_of_name pn_java_lang_StringUTF16) (fun m => by first | (simp [entryFrame, mkF, argsToLocals, Value.category]; done) | rfl) ?_
  intro κ C
  show Go l _ Z _ _ _ κ [] h0 0 #[.val (.ref t), .val (.int 0)] [] 0 0
  refine go_getS C 3 d18_0 rfl (hq hw 94 rfl) am.2.2.2.1 ?_
  refine go_ifY C (pc' := 28) d18_3 (feq ((by decide) : ¬ ((1 : Int32) = (0 : Int32)))).2 (by decide) (by decide) ?_
  refine go_iloadN C 29 d18_28 rfl rfl ?_
  refine go_iconst C 30 (1 : Int32) d18_29 rfl (by decide) ?_
  refine go_ishl C 31 (0 : Int32) d18_30 rfl (by decide) ?_
  refine go_istoreN C 32 (Ls' := #[.val (.ref t), .val (.int 0)]) d18_31 rfl rfl ?_
  refine go_aloadN C 33 d18_32 rfl rfl rfl ?_
  refine go_iloadN C 34 d18_33 rfl rfl ?_
  refine go_iinc C 37 (Ls' := #[.val (.ref t), .val (.int 1)]) (1 : Int32) d18_34 rfl (by decide) rfl rfl ?_
  refine go_baload C 38 (v := (.int (lo8 c0))) d18_37 rfl p0 (by decide) rfl ?_
  refine go_sipush C 41 (255 : Int32) d18_38 rfl (by decide) ?_
  refine go_iand C 42 ((lo8 c0) &&& (255 : Int32)) d18_41 rfl rfl ?_
  refine go_getS C 45 d18_42 rfl (hq hw 95 rfl) am.2.2.2.2.1 ?_
  refine go_ishl C 46 (((lo8 c0) &&& (255 : Int32)) <<< ((0 : Int32) &&& 31)) d18_45 rfl rfl ?_
  refine go_aloadN C 47 d18_46 rfl rfl rfl ?_
  refine go_iloadN C 48 d18_47 rfl rfl ?_
  refine go_baload C 49 (v := (.int (hi8 c0))) d18_48 rfl p0 (by decide) rfl ?_
  refine go_sipush C 52 (255 : Int32) d18_49 rfl (by decide) ?_
  refine go_iand C 53 ((hi8 c0) &&& (255 : Int32)) d18_52 rfl rfl ?_
  refine go_getS C 56 d18_53 rfl (hq hw 96 rfl) am.2.2.2.2.2.1 ?_
  refine go_ishl C 57 (((hi8 c0) &&& (255 : Int32)) <<< ((8 : Int32) &&& 31)) d18_56 rfl rfl ?_
  refine go_ior C 58 ((((lo8 c0) &&& (255 : Int32)) <<< ((0 : Int32) &&& 31)) ||| (((hi8 c0) &&& (255 : Int32)) <<< ((8 : Int32) &&& 31))) d18_57 rfl rfl ?_
  refine go_i2c C 59 c0 d18_58 rfl (get16 r0) ?_
  refine go_retN C (t := .char) (z := c0) d18_59 rfl (by decide) r0.nar (by decide) (by decide) ?_
  exact ⟨rfl, rfl⟩
theorem ct_put3_1 (l : Launch) (Z : State) (a0 : Array Value) (hw : HW a0 Z) {cS : Int32} {fm : Value} {ub : Addr} (am : Amb Z a0 cS fm ub) {t : Addr} {kB : ClassId} {c0 : Int32} {c1 : Int32} {h0 : Heap} (p0 : Arv Z h0 t kB .byte (6 : Int32) [(.int (lo8 c0)), (.int (hi8 c0)), (.int 0), (.int 0), (.int 0), (.int 0)] (.int 0)) :
    Py l Z (⟨"java/lang/StringUTF16", "putChar", "([BII)V"⟩ : MethodName) 1 14 0 0 #[(.ref t), (.int 1), (.int c1)] h0 [t] (fun rv h' => rv = none ∧ Arv Z h' t kB .byte (6 : Int32) [(.int (lo8 c0)), (.int (hi8 c0)), (.int (lo8 c1)), (.int (hi8 c1)), (.int 0), (.int 0)] (.int 0)) := by
  refine Ct.py (by0 := jdk_52_method_4_code) (ml := 3) (rt := none) (rm := ({ frames := 0, cells := 0, slots := 0, locals := 0 } : Room)) ?_ (hq hw 93 rfl) (hq hw 76 rfl)
  refine Ct.mk (a0 := a0) (Ls := #[.val (.ref t), .val (.int 1), .val (.int c1)]) (plainFor_of_name pn_java_lang_StringUTF16) (fun m => by first | (simp [entryFrame, mkF, argsToLocals, Value.category]; done) | rfl) ?_
  intro κ C
  show Go l _ Z _ _ _ κ [t] h0 0 #[.val (.ref t), .val (.int 1), .val (.int c1)] [] 0 0
  refine go_getS C 3 d17_0 rfl (hq hw 94 rfl) am.2.2.2.1 ?_
  refine go_ifY C (pc' := 28) d17_3 (feq ((by decide) : ¬ ((1 : Int32) = (0 : Int32)))).2 (by decide) (by decide) ?_
  refine go_iloadN C 29 d17_28 rfl rfl ?_
  refine go_iconst C 30 (1 : Int32) d17_29 rfl (by decide) ?_
  refine go_ishl C 31 (2 : Int32) d17_30 rfl (by decide) ?_
  refine go_istoreN C 32 (Ls' := #[.val (.ref t), .val (.int 2), .val (.int c1)]) d17_31 rfl rfl ?_
  refine go_aloadN C 33 d17_32 rfl rfl rfl ?_
  refine go_iloadN C 34 d17_33 rfl rfl ?_
  refine go_iinc C 37 (Ls' := #[.val (.ref t), .val (.int 3), .val (.int c1)]) (1 : Int32) d17_34 rfl (by decide) rfl rfl ?_
  refine go_iloadN C 38 d17_37 rfl rfl ?_
  refine go_getS C 41 d17_38 rfl (hq hw 95 rfl) am.2.2.2.2.1 ?_
  refine go_ishr C 42 c1 d17_41 rfl (shr_0 _) ?_
  refine go_i2b C 43 (lo8 c1) d17_42 rfl rfl ?_
  refine go_bastore C 44 2 (v := (lo8 c1)) (nar_lo8 _) d17_43 rfl p0 (by decide) rfl (nble rfl) (mi 0 rfl) ?_
  intro h1 W2 fx3
  have fx4 : Arv Z h1 t kB .byte (6 : Int32) [(.int (lo8 c0)), (.int (hi8 c0)), (.int (lo8 c1)), (.int 0), (.int 0), (.int 0)] (.int 0) := fx3
  refine go_aloadN C 45 d17_44 rfl rfl rfl ?_
  refine go_iloadN C 46 d17_45 rfl rfl ?_
  refine go_iloadN C 47 d17_46 rfl rfl ?_
  refine go_getS C 50 d17_47 rfl (hq hw 96 rfl) am.2.2.2.2.2.1 ?_
  refine go_ishr C 51 (c1 >>> ((8 : Int32) &&& 31)) d17_50 rfl rfl ?_
  refine go_i2b C 52 (hi8 c1) d17_51 rfl rfl ?_
  refine go_bastore C 53 3 (v := (hi8 c1)) (nar_hi8 _) d17_52 rfl fx4 (by decide) rfl (nble rfl) (mi 0 rfl) ?_
  intro h5 W6 fx7
  have fx8 : Arv Z h5 t kB .byte (6 : Int32) [(.int (lo8 c0)), (.int (hi8 c0)), (.int (lo8 c1)), (.int (hi8 c1)), (.int 0), (.int 0)] (.int 0) := fx7
  refine go_ret C d17_53 rfl (by decide) (by decide) ?_
  exact ⟨rfl, fx8⟩
theorem ct_get3_1 (l : Launch) (Z : State) (a0 : Array Value) (hw : HW a0 Z) {cS : Int32} {fm : Value} {ub : Addr} (am : Amb Z a0 cS fm ub) {t : Addr} {kB : ClassId} {c0 : Int32} {c1 : Int32} {c2 : Int32} {h0 : Heap} (p0 : Arv Z h0 t kB .byte (6 : Int32) [(.int (lo8 c0)), (.int (hi8 c0)), (.int (lo8 c1)), (.int (hi8 c1)), (.int (lo8 c2)), (.int (hi8 c2))] (.int 0)) (r1 : Chr c1) :
    Py l Z (⟨"java/lang/StringUTF16", "getChar", "([BI)C"⟩ : MethodName) 1 13 0 0 #[(.ref t), (.int 1)] h0 [] (fun rv h' => rv = some (.int c1) ∧ h' = h0) := by
  refine Ct.py (by0 := jdk_52_method_5_code) (ml := 2) (rt := (some .char)) (rm := ({ frames := 0, cells := 0, slots := 0, locals := 0 } : Room)) ?_ (hq hw 99 rfl) (hq hw 76 rfl)
  refine Ct.mk (a0 := a0) (Ls := #[.val (.ref t), .val (.int 1)]) (plainFor_of_name pn_java_lang_StringUTF16) (fun m => by first | (simp [entryFrame, mkF, argsToLocals, Value.category]; done) | rfl) ?_
  intro κ C
  show Go l _ Z _ _ _ κ [] h0 0 #[.val (.ref t), .val (.int 1)] [] 0 0
  refine go_getS C 3 d18_0 rfl (hq hw 94 rfl) am.2.2.2.1 ?_
  refine go_ifY C (pc' := 28) d18_3 (feq ((by decide) : ¬ ((1 : Int32) = (0 : Int32)))).2 (by decide) (by decide) ?_
  refine go_iloadN C 29 d18_28 rfl rfl ?_
  refine go_iconst C 30 (1 : Int32) d18_29 rfl (by decide) ?_
  refine go_ishl C 31 (2 : Int32) d18_30 rfl (by decide) ?_
  refine go_istoreN C 32 (Ls' := #[.val (.ref t), .val (.int 2)]) d18_31 rfl rfl ?_
  refine go_aloadN C 33 d18_32 rfl rfl rfl ?_
  refine go_iloadN C 34 d18_33 rfl rfl ?_
  refine go_iinc C 37 (Ls' := #[.val (.ref t), .val (.int 3)]) (1 : Int32) d18_34 rfl (by decide) rfl rfl ?_
  refine go_baload C 38 (v := (.int (lo8 c1))) d18_37 rfl p0 (by decide) rfl ?_
  refine go_sipush C 41 (255 : Int32) d18_38 rfl (by decide) ?_
  refine go_iand C 42 ((lo8 c1) &&& (255 : Int32)) d18_41 rfl rfl ?_
  refine go_getS C 45 d18_42 rfl (hq hw 95 rfl) am.2.2.2.2.1 ?_
  refine go_ishl C 46 (((lo8 c1) &&& (255 : Int32)) <<< ((0 : Int32) &&& 31)) d18_45 rfl rfl ?_
  refine go_aloadN C 47 d18_46 rfl rfl rfl ?_
  refine go_iloadN C 48 d18_47 rfl rfl ?_
  refine go_baload C 49 (v := (.int (hi8 c1))) d18_48 rfl p0 (by decide) rfl ?_
  refine go_sipush C 52 (255 : Int32) d18_49 rfl (by decide) ?_
  refine go_iand C 53 ((hi8 c1) &&& (255 : Int32)) d18_52 rfl rfl ?_
  refine go_getS C 56 d18_53 rfl (hq hw 96 rfl) am.2.2.2.2.2.1 ?_
  refine go_ishl C 57 (((hi8 c1) &&& (255 : Int32)) <<< ((8 : Int32) &&& 31)) d18_56 rfl rfl ?_
  refine go_ior C 58 ((((lo8 c1) &&& (255 : Int32)) <<< ((0 : Int32) &&& 31)) ||| (((hi8 c1) &&& (255 : Int32)) <<< ((8 : Int32) &&& 31))) d18_57 rfl rfl ?_
  refine go_i2c C 59 c1 d18_58 rfl (get16 r1) ?_
  refine go_retN C (t := .char) (z := c1) d18_59 rfl (by decide) r1.nar (by decide) (by decide) ?_
  exact ⟨rfl, rfl⟩
theorem ct_put3_2 (l : Launch) (Z : State) (a0 : Array Value) (hw : HW a0 Z) {cS : Int32} {fm : Value} {ub : Addr} (am : Amb Z a0 cS fm ub) {t : Addr} {kB : ClassId} {c0 : Int32} {c1 : Int32} {c2 : Int32} {h0 : Heap} (p0 : Arv Z h0 t kB .byte (6 : Int32) [(.int (lo8 c0)), (.int (hi8 c0)), (.int (lo8 c1)), (.int (hi8 c1)), (.int 0), (.int 0)] (.int 0)) :
    Py l Z (⟨"java/lang/StringUTF16", "putChar", "([BII)V"⟩ : MethodName) 1 14 0 0 #[(.ref t), (.int 2), (.int c2)] h0 [t] (fun rv h' => rv = none ∧ Arv Z h' t kB .byte (6 : Int32) [(.int (lo8 c0)), (.int (hi8 c0)), (.int (lo8 c1)), (.int (hi8 c1)), (.int (lo8 c2)), (.int (hi8 c2))] (.int 0)) := by
  refine Ct.py (by0 := jdk_52_method_4_code) (ml := 3) (rt := none) (rm := ({ frames := 0, cells := 0, slots := 0, locals := 0 } : Room)) ?_ (hq hw 93 rfl) (hq hw 76 rfl)
  refine Ct.mk (a0 := a0) (Ls := #[.val (.ref t), .val (.int 2), .val (.int c2)]) (plainFor_of_name pn_java_lang_StringUTF16) (fun m => by first | (simp [entryFrame, mkF, argsToLocals, Value.category]; done) | rfl) ?_
  intro κ C
  show Go l _ Z _ _ _ κ [t] h0 0 #[.val (.ref t), .val (.int 2), .val (.int c2)] [] 0 0
  refine go_getS C 3 d17_0 rfl (hq hw 94 rfl) am.2.2.2.1 ?_
  refine go_ifY C (pc' := 28) d17_3 (feq ((by decide) : ¬ ((1 : Int32) = (0 : Int32)))).2 (by decide) (by decide) ?_
  refine go_iloadN C 29 d17_28 rfl rfl ?_
  refine go_iconst C 30 (1 : Int32) d17_29 rfl (by decide) ?_
  refine go_ishl C 31 (4 : Int32) d17_30 rfl (by decide) ?_
  refine go_istoreN C 32 (Ls' := #[.val (.ref t), .val (.int 4), .val (.int c2)]) d17_31 rfl rfl ?_
  refine go_aloadN C 33 d17_32 rfl rfl rfl ?_
  refine go_iloadN C 34 d17_33 rfl rfl ?_
  refine go_iinc C 37 (Ls' := #[.val (.ref t), .val (.int 5), .val (.int c2)]) (1 : Int32) d17_34 rfl (by decide) rfl rfl ?_
  refine go_iloadN C 38 d17_37 rfl rfl ?_
  refine go_getS C 41 d17_38 rfl (hq hw 95 rfl) am.2.2.2.2.1 ?_
  refine go_ishr C 42 c2 d17_41 rfl (shr_0 _) ?_
  refine go_i2b C 43 (lo8 c2) d17_42 rfl rfl ?_
  refine go_bastore C 44 4 (v := (lo8 c2)) (nar_lo8 _) d17_43 rfl p0 (by decide) rfl (nble rfl) (mi 0 rfl) ?_
  intro h1 W2 fx3
  have fx4 : Arv Z h1 t kB .byte (6 : Int32) [(.int (lo8 c0)), (.int (hi8 c0)), (.int (lo8 c1)), (.int (hi8 c1)), (.int (lo8 c2)), (.int 0)] (.int 0) := fx3
  refine go_aloadN C 45 d17_44 rfl rfl rfl ?_
  refine go_iloadN C 46 d17_45 rfl rfl ?_
  refine go_iloadN C 47 d17_46 rfl rfl ?_
  refine go_getS C 50 d17_47 rfl (hq hw 96 rfl) am.2.2.2.2.2.1 ?_
  refine go_ishr C 51 (c2 >>> ((8 : Int32) &&& 31)) d17_50 rfl rfl ?_
  refine go_i2b C 52 (hi8 c2) d17_51 rfl rfl ?_
  refine go_bastore C 53 5 (v := (hi8 c2)) (nar_hi8 _) d17_52 rfl fx4 (by decide) rfl (nble rfl) (mi 0 rfl) ?_
  intro h5 W6 fx7
  have fx8 : Arv Z h5 t kB .byte (6 : Int32) [(.int (lo8 c0)), (.int (hi8 c0)), (.int (lo8 c1)), (.int (hi8 c1)), (.int (lo8 c2)), (.int (hi8 c2))] (.int 0) := fx7
  refine go_ret C d17_53 rfl (by decide) (by decide) ?_
  exact ⟨rfl, fx8⟩
theorem ct_get3_2 (l : Launch) (Z : State) (a0 : Array Value) (hw : HW a0 Z) {cS : Int32} {fm : Value} {ub : Addr} (am : Amb Z a0 cS fm ub) {t : Addr} {kB : ClassId} {c0 : Int32} {c1 : Int32} {c2 : Int32} {h0 : Heap} (p0 : Arv Z h0 t kB .byte (6 : Int32) [(.int (lo8 c0)), (.int (hi8 c0)), (.int (lo8 c1)), (.int (hi8 c1)), (.int (lo8 c2)), (.int (hi8 c2))] (.int 0)) (r2 : Chr c2) :
    Py l Z (⟨"java/lang/StringUTF16", "getChar", "([BI)C"⟩ : MethodName) 1 13 0 0 #[(.ref t), (.int 2)] h0 [] (fun rv h' => rv = some (.int c2) ∧ h' = h0) := by
  refine Ct.py (by0 := jdk_52_method_5_code) (ml := 2) (rt := (some .char)) (rm := ({ frames := 0, cells := 0, slots := 0, locals := 0 } : Room)) ?_ (hq hw 99 rfl) (hq hw 76 rfl)
  refine Ct.mk (a0 := a0) (Ls := #[.val (.ref t), .val (.int 2)]) (plainFor_of_name pn_java_lang_StringUTF16) (fun m => by first | (simp [entryFrame, mkF, argsToLocals, Value.category]; done) | rfl) ?_
  intro κ C
  show Go l _ Z _ _ _ κ [] h0 0 #[.val (.ref t), .val (.int 2)] [] 0 0
  refine go_getS C 3 d18_0 rfl (hq hw 94 rfl) am.2.2.2.1 ?_
  refine go_ifY C (pc' := 28) d18_3 (feq ((by decide) : ¬ ((1 : Int32) = (0 : Int32)))).2 (by decide) (by decide) ?_
  refine go_iloadN C 29 d18_28 rfl rfl ?_
  refine go_iconst C 30 (1 : Int32) d18_29 rfl (by decide) ?_
  refine go_ishl C 31 (4 : Int32) d18_30 rfl (by decide) ?_
  refine go_istoreN C 32 (Ls' := #[.val (.ref t), .val (.int 4)]) d18_31 rfl rfl ?_
  refine go_aloadN C 33 d18_32 rfl rfl rfl ?_
  refine go_iloadN C 34 d18_33 rfl rfl ?_
  refine go_iinc C 37 (Ls' := #[.val (.ref t), .val (.int 5)]) (1 : Int32) d18_34 rfl (by decide) rfl rfl ?_
  refine go_baload C 38 (v := (.int (lo8 c2))) d18_37 rfl p0 (by decide) rfl ?_
  refine go_sipush C 41 (255 : Int32) d18_38 rfl (by decide) ?_
  refine go_iand C 42 ((lo8 c2) &&& (255 : Int32)) d18_41 rfl rfl ?_
  refine go_getS C 45 d18_42 rfl (hq hw 95 rfl) am.2.2.2.2.1 ?_
  refine go_ishl C 46 (((lo8 c2) &&& (255 : Int32)) <<< ((0 : Int32) &&& 31)) d18_45 rfl rfl ?_
  refine go_aloadN C 47 d18_46 rfl rfl rfl ?_
  refine go_iloadN C 48 d18_47 rfl rfl ?_
  refine go_baload C 49 (v := (.int (hi8 c2))) d18_48 rfl p0 (by decide) rfl ?_
  refine go_sipush C 52 (255 : Int32) d18_49 rfl (by decide) ?_
  refine go_iand C 53 ((hi8 c2) &&& (255 : Int32)) d18_52 rfl rfl ?_
  refine go_getS C 56 d18_53 rfl (hq hw 96 rfl) am.2.2.2.2.2.1 ?_
  refine go_ishl C 57 (((hi8 c2) &&& (255 : Int32)) <<< ((8 : Int32) &&& 31)) d18_56 rfl rfl ?_
  refine go_ior C 58 ((((lo8 c2) &&& (255 : Int32)) <<< ((0 : Int32) &&& 31)) ||| (((hi8 c2) &&& (255 : Int32)) <<< ((8 : Int32) &&& 31))) d18_57 rfl rfl ?_
  refine go_i2c C 59 c2 d18_58 rfl (get16 r2) ?_
  refine go_retN C (t := .char) (z := c2) d18_59 rfl (by decide) r2.nar (by decide) (by decide) ?_
  exact ⟨rfl, rfl⟩
theorem ct_nbl3 (l : Launch) (Z : State) (a0 : Array Value) (hw : HW a0 Z) {cS : Int32} {fm : Value} {ub : Addr} (am : Amb Z a0 cS fm ub) {h0 : Heap} :
    Py l Z (⟨"java/lang/StringUTF16", "newBytesLength", "(I)I"⟩ : MethodName) 1 12 0 0 #[(.int 3)] h0 [] (fun rv h' => rv = some (.int 6) ∧ h' = h0) := by
  refine Ct.py (by0 := jdk_52_method_3_code) (ml := 1) (rt := (some .int)) (rm := ({ frames := 0, cells := 0, slots := 0, locals := 0 } : Room)) ?_ (hq hw 89 rfl) (hq hw 76 rfl)
  refine Ct.mk (a0 := a0) (Ls := #[.val (.int 3)]) (plainFor_of_name pn_java_lang_StringUTF16) (fun m => by first | (simp [entryFrame, mkF, argsToLocals, Value.category]; done) | rfl) ?_
  intro κ C
  show Go l _ Z _ _ _ κ [] h0 0 #[.val (.int 3)] [] 0 0
  refine go_iloadN C 1 d16_0 rfl rfl ?_
  refine go_ifY C (pc' := 12) d16_1 (flt ((by decide) : ¬ ((3 : Int32) < (0 : Int32)))).2.1 (by decide) (by decide) ?_
  refine go_iloadN C 13 d16_12 rfl rfl ?_
  refine go_ldcInt C 15 (v := (1073741823 : Int32)) d16_13 rfl (hq hw 90 rfl) ?_
  refine go_icmpY C (pc' := 55) d16_15 (tlt ((by decide) : (3 : Int32) < (1073741823 : Int32))).1 (by decide) (by decide) ?_
  refine go_iloadN C 56 d16_55 rfl rfl ?_
  refine go_iconst C 57 (1 : Int32) d16_56 rfl (by decide) ?_
  refine go_ishl C 58 (6 : Int32) d16_57 rfl (by decide) ?_
  refine go_retI C d16_58 rfl (by decide) (by decide) ?_
  exact ⟨rfl, rfl⟩
theorem ct_nbf3 (l : Launch) (Z : State) (a0 : Array Value) (hw : HW a0 Z) {cS : Int32} {fm : Value} {ub : Addr} (am : Amb Z a0 cS fm ub) {h0 : Heap} :
    Py l Z (⟨"java/lang/StringUTF16", "newBytesFor", "(I)[B"⟩ : MethodName) 2 24 1 6 #[(.int 3)] h0 [] (fun rv h' => ∃ (t : Addr) (kB : ClassId), rv = some (.ref t) ∧ Arv Z h' t kB .byte (6 : Int32) [(.int 0), (.int 0), (.int 0), (.int 0), (.int 0), (.int 0)] (.int 0) ∧ (h0.size ≤ t)) := by
  refine Ct.py (by0 := jdk_52_method_2_code) (ml := 1) (rt := (some (.array .byte))) (rm := ({ frames := 1, cells := 1, slots := 6, locals := 12 } : Room)) ?_ (hq hw 86 rfl) (hq hw 76 rfl)
  refine Ct.mk (a0 := a0) (Ls := #[.val (.int 3)]) (plainFor_of_name pn_java_lang_StringUTF16) (fun m => by first | (simp [entryFrame, mkF, argsToLocals, Value.category]; done) | rfl) ?_
  intro κ C
  show Go l _ Z _ _ _ κ [] h0 0 #[.val (.int 3)] [] 0 0
  refine go_iloadN C 1 d15_0 rfl rfl ?_
  refine go_callS C (argsL := [(.int 3)]) (W := 0) d15_1 (hq hw 87 rfl) (hq hw 88 rfl) (hq hw 76 rfl) (hq hw 89 rfl) (by decide) pd__I_I (ct_nbl3 l Z a0 hw am) rfl (by decide) (Nat.le_of_eq rfl) (by decide) rfl (by decide) (by decide) mems0 ?_
  intro fv1 h2 K3 fq4
  obtain ⟨rfl, rfl⟩ := fq4
  refine ⟨[], fresh0, ?_⟩
  show Go l _ Z _ _ _ κ _ _ 4 _ [(.int 6)] 0 0
  refine go_newP C 6 1 6 (ty := .byte) (cap := 6) d15_4 rfl rfl rfl rfl (hq hw 21 rfl) (by decide) (by decide) (by decide) (by decide) (by decide) ?_
  intro b5 h6 k7 g8 E9 V10
  have fx11 : Arv Z h6 b5 k7 .byte (6 : Int32) [(.int 0), (.int 0), (.int 0), (.int 0), (.int 0), (.int 0)] (.int 0) := V10
  refine go_retA C (v := (.ref b5)) d15_6 rfl rfl rfl (by decide) (by decide) ?_
  exact ⟨b5, k7, rfl, fx11, (Nat.le_of_eq g8.symm)⟩
theorem ct_tob3 (l : Launch) (Z : State) (a0 : Array Value) (hw : HW a0 Z) {cS : Int32} {fm : Value} {ub : Addr} (am : Amb Z a0 cS fm ub) {b : Addr} {kC : ClassId} {c0 : Int32} {c1 : Int32} {c2 : Int32} {h0 : Heap} (p0 : Arv Z h0 b kC .char (3 : Int32) [(.int c0), (.int c1), (.int c2)] (.int 0)) :
    Py l Z (⟨"java/lang/StringUTF16", "toBytes", "([CII)[B"⟩ : MethodName) 3 40 1 6 #[(.ref b), (.int 0), (.int 3)] h0 [] (fun rv h' => ∃ (t : Addr) (kB : ClassId), rv = some (.ref t) ∧ Arv Z h' t kB .byte (6 : Int32) [(.int (lo8 c0)), (.int (hi8 c0)), (.int (lo8 c1)), (.int (hi8 c1)), (.int (lo8 c2)), (.int (hi8 c2))] (.int 0) ∧ (h0.size ≤ t)) := by
  refine Ct.py (by0 := jdk_52_method_14_code) (ml := 5) (rt := (some (.array .byte))) (rm := ({ frames := 2, cells := 1, slots := 6, locals := 24 } : Room)) ?_ (hq hw 83 rfl) (hq hw 76 rfl)
  refine Ct.mk (a0 := a0) (Ls := #[.val (.ref b), .val (.int 0), .val (.int 3), .unset, .unset]) (plainFor_of_name pn_java_lang_StringUTF16) (fun m => by first | (simp [entryFrame, mkF, argsToLocals, Value.category]; done) | rfl) ?_
  intro κ C
  show Go l _ Z _ _ _ κ [] h0 0 #[.val (.ref b), .val (.int 0), .val (.int 3), .unset, .unset] [] 0 0
  refine go_iloadN C 1 d14_0 rfl rfl ?_
  refine go_callS C (argsL := [(.int 3)]) (W := 0) d14_1 (hq hw 84 rfl) (hq hw 85 rfl) (hq hw 76 rfl) (hq hw 86 rfl) (by decide) pd__I__B (ct_nbf3 l Z a0 hw am) rfl (by decide) (Nat.le_of_eq rfl) (by decide) rfl (by decide) (by decide) mems0 ?_
  intro fv1 h2 K3 fq4
  obtain ⟨t5, kB6, rfl, fx7, fx8⟩ := fq4
  refine ⟨[t5], (freshS ⟨fx8, (fx7).lt⟩ fresh0), ?_⟩
  show Go l _ Z _ _ _ κ [t5] _ 4 _ [(.ref t5)] 1 6
  refine go_astoreN C 5 (Ls' := #[.val (.ref b), .val (.int 0), .val (.int 3), .val (.ref t5), .unset]) d14_4 rfl rfl rfl ?_
  refine go_iconst C 6 (0 : Int32) d14_5 rfl (by decide) ?_
  refine go_istore C 8 (Ls' := #[.val (.ref b), .val (.int 0), .val (.int 3), .val (.ref t5), .val (.int 0)]) d14_6 rfl rfl ?_
  refine go_iload C 10 d14_8 rfl rfl ?_
  refine go_iloadN C 11 d14_10 rfl rfl ?_
  refine go_icmpN C 14 d14_11 rfl (tlt ((by decide) : (0 : Int32) < (3 : Int32))).2.1 ?_
  refine go_aloadN C 15 d14_14 rfl rfl rfl ?_
  refine go_iload C 17 d14_15 rfl rfl ?_
  refine go_aloadN C 18 d14_17 rfl rfl rfl ?_
  refine go_iloadN C 19 d14_18 rfl rfl ?_
  have fx9 := (p0.keep K3 nin0)
  refine go_caload C 20 (v := (.int c0)) d14_19 rfl fx9 (by decide) rfl ?_
  refine go_callS C (argsL := [(.ref t5), (.int 0), (.int c0)]) (W := 0) d14_20 (hq hw 91 rfl) (hq hw 92 rfl) (hq hw 76 rfl) (hq hw 93 rfl) (by decide) pd___BII_V (ct_put3_0 l Z a0 hw am (t := t5) (kB := kB6) (c0 := c0) fx7) rfl (by decide) (Nat.le_of_eq rfl) (by decide) rfl (by decide) (by decide) (memsS (mi 0 rfl) mems0) ?_
  intro fv10 h11 K12 fq13
  obtain ⟨rfl, fx14⟩ := fq13
  refine ⟨[], fresh0, ?_⟩
  show Go l _ Z _ _ _ κ _ _ 23 _ [] 1 6
  refine go_iinc C 26 (Ls' := #[.val (.ref b), .val (.int 1), .val (.int 3), .val (.ref t5), .val (.int 0)]) (1 : Int32) d14_23 rfl (by decide) rfl rfl ?_
  refine go_iinc C 29 (Ls' := #[.val (.ref b), .val (.int 1), .val (.int 3), .val (.ref t5), .val (.int 1)]) (1 : Int32) d14_26 rfl (by decide) rfl rfl ?_
  refine go_goto C (pc' := 8) d14_29 (by decide) (by decide) ?_
  refine go_iload C 10 d14_8 rfl rfl ?_
  refine go_iloadN C 11 d14_10 rfl rfl ?_
  refine go_icmpN C 14 d14_11 rfl (tlt ((by decide) : (1 : Int32) < (3 : Int32))).2.1 ?_
  refine go_aloadN C 15 d14_14 rfl rfl rfl ?_
  refine go_iload C 17 d14_15 rfl rfl ?_
  refine go_aloadN C 18 d14_17 rfl rfl rfl ?_
  refine go_iloadN C 19 d14_18 rfl rfl ?_
  have fx15 := (fx9.keep K12 (ninS (Nat.ne_of_lt (Nat.lt_of_lt_of_le (p0).lt fx8)) nin0))
  refine go_caload C 20 (v := (.int c1)) d14_19 rfl fx15 (by decide) rfl ?_
  refine go_callS C (argsL := [(.ref t5), (.int 1), (.int c1)]) (W := 0) d14_20 (hq hw 91 rfl) (hq hw 92 rfl) (hq hw 76 rfl) (hq hw 93 rfl) (by decide) pd___BII_V (ct_put3_1 l Z a0 hw am (t := t5) (kB := kB6) (c0 := c0) (c1 := c1) fx14) rfl (by decide) (Nat.le_of_eq rfl) (by decide) rfl (by decide) (by decide) (memsS (mi 0 rfl) mems0) ?_
  intro fv16 h17 K18 fq19
  obtain ⟨rfl, fx20⟩ := fq19
  refine ⟨[], fresh0, ?_⟩
  show Go l _ Z _ _ _ κ _ _ 23 _ [] 1 6
  refine go_iinc C 26 (Ls' := #[.val (.ref b), .val (.int 2), .val (.int 3), .val (.ref t5), .val (.int 1)]) (1 : Int32) d14_23 rfl (by decide) rfl rfl ?_
  refine go_iinc C 29 (Ls' := #[.val (.ref b), .val (.int 2), .val (.int 3), .val (.ref t5), .val (.int 2)]) (1 : Int32) d14_26 rfl (by decide) rfl rfl ?_
  refine go_goto C (pc' := 8) d14_29 (by decide) (by decide) ?_
  refine go_iload C 10 d14_8 rfl rfl ?_
  refine go_iloadN C 11 d14_10 rfl rfl ?_
  refine go_icmpN C 14 d14_11 rfl (tlt ((by decide) : (2 : Int32) < (3 : Int32))).2.1 ?_
  refine go_aloadN C 15 d14_14 rfl rfl rfl ?_
  refine go_iload C 17 d14_15 rfl rfl ?_
  refine go_aloadN C 18 d14_17 rfl rfl rfl ?_
  refine go_iloadN C 19 d14_18 rfl rfl ?_
  have fx21 := (fx15.keep K18 (ninS (Nat.ne_of_lt (Nat.lt_of_lt_of_le (p0).lt fx8)) nin0))
  refine go_caload C 20 (v := (.int c2)) d14_19 rfl fx21 (by decide) rfl ?_
  refine go_callS C (argsL := [(.ref t5), (.int 2), (.int c2)]) (W := 0) d14_20 (hq hw 91 rfl) (hq hw 92 rfl) (hq hw 76 rfl) (hq hw 93 rfl) (by decide) pd___BII_V (ct_put3_2 l Z a0 hw am (t := t5) (kB := kB6) (c0 := c0) (c1 := c1) (c2 := c2) fx20) rfl (by decide) (Nat.le_of_eq rfl) (by decide) rfl (by decide) (by decide) (memsS (mi 0 rfl) mems0) ?_
  intro fv22 h23 K24 fq25
  obtain ⟨rfl, fx26⟩ := fq25
  refine ⟨[], fresh0, ?_⟩
  show Go l _ Z _ _ _ κ _ _ 23 _ [] 1 6
  refine go_iinc C 26 (Ls' := #[.val (.ref b), .val (.int 3), .val (.int 3), .val (.ref t5), .val (.int 2)]) (1 : Int32) d14_23 rfl (by decide) rfl rfl ?_
  refine go_iinc C 29 (Ls' := #[.val (.ref b), .val (.int 3), .val (.int 3), .val (.ref t5), .val (.int 3)]) (1 : Int32) d14_26 rfl (by decide) rfl rfl ?_
  refine go_goto C (pc' := 8) d14_29 (by decide) (by decide) ?_
  refine go_iload C 10 d14_8 rfl rfl ?_
  refine go_iloadN C 11 d14_10 rfl rfl ?_
  refine go_icmpY C (pc' := 32) d14_11 (flt ((by decide) : ¬ ((3 : Int32) < (3 : Int32)))).2.1 (by decide) (by decide) ?_
  refine go_aloadN C 33 d14_32 rfl rfl rfl ?_
  refine go_retA C (v := (.ref t5)) d14_33 rfl rfl rfl (by decide) (by decide) ?_
  exact ⟨t5, kB6, rfl, fx26, fx8⟩
theorem ct_cmp3 (l : Launch) (Z : State) (a0 : Array Value) (hw : HW a0 Z) {cS : Int32} {fm : Value} {ub : Addr} (am : Amb Z a0 cS fm ub) {b : Addr} {t : Addr} {kC : ClassId} {kB : ClassId} {c0 : Int32} {c1 : Int32} {c2 : Int32} {h0 : Heap} (p0 : Arv Z h0 b kC .char (3 : Int32) [(.int c0), (.int c1), (.int c2)] (.int 0)) (p1 : Arv Z h0 t kB .byte (3 : Int32) [(.int 0), (.int 0), (.int 0)] (.int 0)) (hbt : b ≠ t) :
    Py l Z (⟨"java/lang/StringUTF16", "compress", "([CI[BII)I"⟩ : MethodName) 1 18 0 0 #[(.ref b), (.int 0), (.ref t), (.int 0), (.int 3)] h0 [t] (fun rv h' => (rv = some (.int 3) ∧ Arv Z h' t kB .byte (3 : Int32) [(.int (lo8 c0)), (.int (lo8 c1)), (.int (lo8 c2))] (.int 0) ∧ (¬ (255 : Int32) < c0) ∧ (¬ (255 : Int32) < c1) ∧ (¬ (255 : Int32) < c2)) ∨ (∃ (vs : List Value), rv = some (.int 0) ∧ Arv Z h' t kB .byte (3 : Int32) vs (.int 0) ∧ ((255 : Int32) < c0)) ∨ (∃ (vs : List Value), rv = some (.int 1) ∧ Arv Z h' t kB .byte (3 : Int32) vs (.int 0) ∧ ((255 : Int32) < c1)) ∨ (∃ (vs : List Value), rv = some (.int 2) ∧ Arv Z h' t kB .byte (3 : Int32) vs (.int 0) ∧ ((255 : Int32) < c2))) := by
  refine Ct.py (by0 := jdk_52_method_21_code) (ml := 7) (rt := (some .int)) (rm := ({ frames := 0, cells := 0, slots := 0, locals := 0 } : Room)) ?_ (hq hw 80 rfl) (hq hw 76 rfl)
  refine Ct.mk (a0 := a0) (Ls := #[.val (.ref b), .val (.int 0), .val (.ref t), .val (.int 0), .val (.int 3), .unset, .unset]) (plainFor_of_name pn_java_lang_StringUTF16) (fun m => by first | (simp [entryFrame, mkF, argsToLocals, Value.category]; done) | rfl) ?_
  intro κ C
  show Go l _ Z _ _ _ κ [t] h0 0 #[.val (.ref b), .val (.int 0), .val (.ref t), .val (.int 0), .val (.int 3), .unset, .unset] [] 0 0
  refine go_iconst C 1 (0 : Int32) d13_0 rfl (by decide) ?_
  refine go_istore C 3 (Ls' := #[.val (.ref b), .val (.int 0), .val (.ref t), .val (.int 0), .val (.int 3), .val (.int 0), .unset]) d13_1 rfl rfl ?_
  refine go_iload C 5 d13_3 rfl rfl ?_
  refine go_iload C 7 d13_5 rfl rfl ?_
  refine go_icmpN C 10 d13_7 rfl (tlt ((by decide) : (0 : Int32) < (3 : Int32))).2.1 ?_
  refine go_aloadN C 11 d13_10 rfl rfl rfl ?_
  refine go_iloadN C 12 d13_11 rfl rfl ?_
  refine go_caload C 13 (v := (.int c0)) d13_12 rfl p0 (by decide) rfl ?_
  refine go_istore C 15 (Ls' := #[.val (.ref b), .val (.int 0), .val (.ref t), .val (.int 0), .val (.int 3), .val (.int 0), .val (.int c0)]) d13_13 rfl rfl ?_
  refine go_iload C 17 d13_15 rfl rfl ?_
  refine go_sipush C 20 (255 : Int32) d13_17 rfl (by decide) ?_
  by_cases q0 : (255 : Int32) < c0
  · skip
    refine go_icmpN C 23 d13_20 rfl (tlt q0).2.2.2 ?_
    refine go_iload C 25 d13_23 rfl rfl ?_
    refine go_retI C d13_25 rfl (by decide) (by decide) ?_
    exact Or.inr (Or.inl ⟨[(.int 0), (.int 0), (.int 0)], rfl, p1, q0⟩)
  · skip
    refine go_icmpY C (pc' := 26) d13_20 (flt q0).2.2.2 (by decide) (by decide) ?_
    refine go_aloadN C 27 d13_26 rfl rfl rfl ?_
    refine go_iloadN C 28 d13_27 rfl rfl ?_
    refine go_iload C 30 d13_28 rfl rfl ?_
    refine go_i2b C 31 (lo8 c0) d13_30 rfl rfl ?_
    refine go_bastore C 32 0 (v := (lo8 c0)) (nar_lo8 _) d13_31 rfl p1 (by decide) rfl (nble rfl) (mi 0 rfl) ?_
    intro h1 W2 fx3
    have fx4 : Arv Z h1 t kB .byte (3 : Int32) [(.int (lo8 c0)), (.int 0), (.int 0)] (.int 0) := fx3
    refine go_iinc C 35 (Ls' := #[.val (.ref b), .val (.int 1), .val (.ref t), .val (.int 0), .val (.int 3), .val (.int 0), .val (.int c0)]) (1 : Int32) d13_32 rfl (by decide) rfl rfl ?_
    refine go_iinc C 38 (Ls' := #[.val (.ref b), .val (.int 1), .val (.ref t), .val (.int 1), .val (.int 3), .val (.int 0), .val (.int c0)]) (1 : Int32) d13_35 rfl (by decide) rfl rfl ?_
    refine go_iinc C 41 (Ls' := #[.val (.ref b), .val (.int 1), .val (.ref t), .val (.int 1), .val (.int 3), .val (.int 1), .val (.int c0)]) (1 : Int32) d13_38 rfl (by decide) rfl rfl ?_
    refine go_goto C (pc' := 3) d13_41 (by decide) (by decide) ?_
    refine go_iload C 5 d13_3 rfl rfl ?_
    refine go_iload C 7 d13_5 rfl rfl ?_
    refine go_icmpN C 10 d13_7 rfl (tlt ((by decide) : (1 : Int32) < (3 : Int32))).2.1 ?_
    refine go_aloadN C 11 d13_10 rfl rfl rfl ?_
    refine go_iloadN C 12 d13_11 rfl rfl ?_
    have fx5 := (p0.other W2 hbt)
    refine go_caload C 13 (v := (.int c1)) d13_12 rfl fx5 (by decide) rfl ?_
    refine go_istore C 15 (Ls' := #[.val (.ref b), .val (.int 1), .val (.ref t), .val (.int 1), .val (.int 3), .val (.int 1), .val (.int c1)]) d13_13 rfl rfl ?_
    refine go_iload C 17 d13_15 rfl rfl ?_
    refine go_sipush C 20 (255 : Int32) d13_17 rfl (by decide) ?_
    by_cases q1 : (255 : Int32) < c1
    · skip
      refine go_icmpN C 23 d13_20 rfl (tlt q1).2.2.2 ?_
      refine go_iload C 25 d13_23 rfl rfl ?_
      refine go_retI C d13_25 rfl (by decide) (by decide) ?_
      exact Or.inr (Or.inr (Or.inl ⟨[(.int (lo8 c0)), (.int 0), (.int 0)], rfl, fx4, q1⟩))
    · skip
      refine go_icmpY C (pc' := 26) d13_20 (flt q1).2.2.2 (by decide) (by decide) ?_
      refine go_aloadN C 27 d13_26 rfl rfl rfl ?_
      refine go_iloadN C 28 d13_27 rfl rfl ?_
      refine go_iload C 30 d13_28 rfl rfl ?_
      refine go_i2b C 31 (lo8 c1) d13_30 rfl rfl ?_
      refine go_bastore C 32 1 (v := (lo8 c1)) (nar_lo8 _) d13_31 rfl fx4 (by decide) rfl (nble rfl) (mi 0 rfl) ?_
      intro h6 W7 fx8
      have fx9 : Arv Z h6 t kB .byte (3 : Int32) [(.int (lo8 c0)), (.int (lo8 c1)), (.int 0)] (.int 0) := fx8
      refine go_iinc C 35 (Ls' := #[.val (.ref b), .val (.int 2), .val (.ref t), .val (.int 1), .val (.int 3), .val (.int 1), .val (.int c1)]) (1 : Int32) d13_32 rfl (by decide) rfl rfl ?_
      refine go_iinc C 38 (Ls' := #[.val (.ref b), .val (.int 2), .val (.ref t), .val (.int 2), .val (.int 3), .val (.int 1), .val (.int c1)]) (1 : Int32) d13_35 rfl (by decide) rfl rfl ?_
      refine go_iinc C 41 (Ls' := #[.val (.ref b), .val (.int 2), .val (.ref t), .val (.int 2), .val (.int 3), .val (.int 2), .val (.int c1)]) (1 : Int32) d13_38 rfl (by decide) rfl rfl ?_
      refine go_goto C (pc' := 3) d13_41 (by decide) (by decide) ?_
      refine go_iload C 5 d13_3 rfl rfl ?_
      refine go_iload C 7 d13_5 rfl rfl ?_
      refine go_icmpN C 10 d13_7 rfl (tlt ((by decide) : (2 : Int32) < (3 : Int32))).2.1 ?_
      refine go_aloadN C 11 d13_10 rfl rfl rfl ?_
      refine go_iloadN C 12 d13_11 rfl rfl ?_
      have fx10 := (fx5.other W7 hbt)
      refine go_caload C 13 (v := (.int c2)) d13_12 rfl fx10 (by decide) rfl ?_
      refine go_istore C 15 (Ls' := #[.val (.ref b), .val (.int 2), .val (.ref t), .val (.int 2), .val (.int 3), .val (.int 2), .val (.int c2)]) d13_13 rfl rfl ?_
      refine go_iload C 17 d13_15 rfl rfl ?_
      refine go_sipush C 20 (255 : Int32) d13_17 rfl (by decide) ?_
      by_cases q2 : (255 : Int32) < c2
      · skip
        refine go_icmpN C 23 d13_20 rfl (tlt q2).2.2.2 ?_
        refine go_iload C 25 d13_23 rfl rfl ?_
        refine go_retI C d13_25 rfl (by decide) (by decide) ?_
        exact Or.inr (Or.inr (Or.inr (⟨[(.int (lo8 c0)), (.int (lo8 c1)), (.int 0)], rfl, fx9, q2⟩)))
      · skip
        refine go_icmpY C (pc' := 26) d13_20 (flt q2).2.2.2 (by decide) (by decide) ?_
        refine go_aloadN C 27 d13_26 rfl rfl rfl ?_
        refine go_iloadN C 28 d13_27 rfl rfl ?_
        refine go_iload C 30 d13_28 rfl rfl ?_
        refine go_i2b C 31 (lo8 c2) d13_30 rfl rfl ?_
        refine go_bastore C 32 2 (v := (lo8 c2)) (nar_lo8 _) d13_31 rfl fx9 (by decide) rfl (nble rfl) (mi 0 rfl) ?_
        intro h11 W12 fx13
        have fx14 : Arv Z h11 t kB .byte (3 : Int32) [(.int (lo8 c0)), (.int (lo8 c1)), (.int (lo8 c2))] (.int 0) := fx13
        refine go_iinc C 35 (Ls' := #[.val (.ref b), .val (.int 3), .val (.ref t), .val (.int 2), .val (.int 3), .val (.int 2), .val (.int c2)]) (1 : Int32) d13_32 rfl (by decide) rfl rfl ?_
        refine go_iinc C 38 (Ls' := #[.val (.ref b), .val (.int 3), .val (.ref t), .val (.int 3), .val (.int 3), .val (.int 2), .val (.int c2)]) (1 : Int32) d13_35 rfl (by decide) rfl rfl ?_
        refine go_iinc C 41 (Ls' := #[.val (.ref b), .val (.int 3), .val (.ref t), .val (.int 3), .val (.int 3), .val (.int 3), .val (.int c2)]) (1 : Int32) d13_38 rfl (by decide) rfl rfl ?_
        refine go_goto C (pc' := 3) d13_41 (by decide) (by decide) ?_
        refine go_iload C 5 d13_3 rfl rfl ?_
        refine go_iload C 7 d13_5 rfl rfl ?_
        refine go_icmpY C (pc' := 44) d13_7 (flt ((by decide) : ¬ ((3 : Int32) < (3 : Int32)))).2.1 (by decide) (by decide) ?_
        refine go_iload C 46 d13_44 rfl rfl ?_
        refine go_retI C d13_46 rfl (by decide) (by decide) ?_
        exact Or.inl ⟨rfl, fx14, q0, q1, q2⟩
theorem ct_cmpA3 (l : Launch) (Z : State) (a0 : Array Value) (hw : HW a0 Z) {cS : Int32} {fm : Value} {ub : Addr} (am : Amb Z a0 cS fm ub) {b : Addr} {kC : ClassId} {c0 : Int32} {c1 : Int32} {c2 : Int32} {h0 : Heap} (p0 : Arv Z h0 b kC .char (3 : Int32) [(.int c0), (.int c1), (.int c2)] (.int 0)) (r0 : Chr c0) (r1 : Chr c1) (r2 : Chr c2) :
    Py l Z (⟨"java/lang/StringUTF16", "compress", "([CII)[B"⟩ : MethodName) 4 57 2 9 #[(.ref b), (.int 0), (.int 3)] h0 [] (fun rv h' => (∃ (t : Addr) (kB : ClassId), rv = some (.ref t) ∧ Arv Z h' t kB .byte (3 : Int32) [(.int (lo8 c0)), (.int (lo8 c1)), (.int (lo8 c2))] (.int 0) ∧ (h0.size ≤ t) ∧ (¬ (255 : Int32) < c0) ∧ (¬ (255 : Int32) < c1) ∧ (¬ (255 : Int32) < c2)) ∨ (∃ (t : Addr) (kB : ClassId), rv = some (.ref t) ∧ Arv Z h' t kB .byte (6 : Int32) [(.int (lo8 c0)), (.int (hi8 c0)), (.int (lo8 c1)), (.int (hi8 c1)), (.int (lo8 c2)), (.int (hi8 c2))] (.int 0) ∧ (h0.size ≤ t) ∧ ((255 : Int32) < c0 ∨ (255 : Int32) < c1 ∨ (255 : Int32) < c2))) := by
  refine Ct.py (by0 := jdk_52_method_16_code) (ml := 6) (rt := (some (.array .byte))) (rm := ({ frames := 3, cells := 2, slots := 9, locals := 40 } : Room)) ?_ (hq hw 77 rfl) (hq hw 76 rfl)
  refine Ct.mk (a0 := a0) (Ls := #[.val (.ref b), .val (.int 0), .val (.int 3), .unset, .unset, .unset]) (plainFor_of_name pn_java_lang_StringUTF16) (fun m => by first | (simp [entryFrame, mkF, argsToLocals, Value.category]; done) | rfl) ?_
  intro κ C
  show Go l _ Z _ _ _ κ [] h0 0 #[.val (.ref b), .val (.int 0), .val (.int 3), .unset, .unset, .unset] [] 0 0
  refine go_iloadN C 1 d12_0 rfl rfl ?_
  refine go_newP C 3 1 3 (ty := .byte) (cap := 3) d12_1 rfl rfl rfl rfl (hq hw 21 rfl) (by decide) (by decide) (by decide) (by decide) (by decide) ?_
  intro b1 h2 k3 g4 E5 V6
  have fx7 : Arv Z h2 b1 k3 .byte (3 : Int32) [(.int 0), (.int 0), (.int 0)] (.int 0) := V6
  refine go_astoreN C 4 (Ls' := #[.val (.ref b), .val (.int 0), .val (.int 3), .val (.ref b1), .unset, .unset]) d12_3 rfl rfl rfl ?_
  refine go_aloadN C 5 d12_4 rfl rfl rfl ?_
  refine go_iloadN C 6 d12_5 rfl rfl ?_
  refine go_aloadN C 7 d12_6 rfl rfl rfl ?_
  refine go_iconst C 8 (0 : Int32) d12_7 rfl (by decide) ?_
  refine go_iloadN C 9 d12_8 rfl rfl ?_
  have fx8 := (p0.ext E5)
  refine go_callS C (argsL := [(.ref b), (.int 0), (.ref b1), (.int 0), (.int 3)]) (W := 0) d12_9 (hq hw 78 rfl) (hq hw 79 rfl) (hq hw 76 rfl) (hq hw 80 rfl) (by decide) pd___CI_BII_I (ct_cmp3 l Z a0 hw am (b := b) (t := b1) (kC := kC) (kB := k3) (c0 := c0) (c1 := c1) (c2 := c2) fx8 fx7 (Nat.ne_of_lt (Nat.lt_of_lt_of_le (p0).lt (Nat.le_of_eq g4.symm)))) rfl (by decide) (Nat.le_of_eq rfl) (by decide) rfl (by decide) (by decide) (memsS (mi 0 rfl) mems0) ?_
  intro fv9 h10 K11 fq12
  rcases fq12 with ⟨rfl, fx13, fx14, fx15, fx16⟩ | ⟨vs17, rfl, fx18, fx19⟩ | ⟨vs20, rfl, fx21, fx22⟩ | ⟨vs23, rfl, fx24, fx25⟩
  · skip
    refine ⟨[], fresh0, ?_⟩
    show Go l _ Z _ _ _ κ _ _ 12 _ [(.int 3)] 1 3
    refine go_istore C 14 (Ls' := #[.val (.ref b), .val (.int 0), .val (.int 3), .val (.ref b1), .val (.int 3), .unset]) d12_12 rfl rfl ?_
    refine go_iload C 16 d12_14 rfl rfl ?_
    refine go_iloadN C 17 d12_16 rfl rfl ?_
    refine go_icmpY C (pc' := 57) d12_17 (teq ((by decide) : (3 : Int32) = (3 : Int32))).1 (by decide) (by decide) ?_
    refine go_aloadN C 58 d12_57 rfl rfl rfl ?_
    refine go_retA C (v := (.ref b1)) d12_58 rfl rfl rfl (by decide) (by decide) ?_
    exact Or.inl ⟨b1, k3, rfl, fx13, (Nat.le_of_eq g4.symm), fx14, fx15, fx16⟩
  · skip
    refine ⟨[], fresh0, ?_⟩
    show Go l _ Z _ _ _ κ _ _ 12 _ [(.int 0)] 1 3
    refine go_istore C 14 (Ls' := #[.val (.ref b), .val (.int 0), .val (.int 3), .val (.ref b1), .val (.int 0), .unset]) d12_12 rfl rfl ?_
    refine go_iload C 16 d12_14 rfl rfl ?_
    refine go_iloadN C 17 d12_16 rfl rfl ?_
    refine go_icmpN C 20 d12_17 rfl (feq ((by decide) : ¬ ((0 : Int32) = (3 : Int32)))).1 ?_
    refine go_aloadN C 21 d12_20 rfl rfl rfl ?_
    refine go_iloadN C 22 d12_21 rfl rfl ?_
    refine go_iloadN C 23 d12_22 rfl rfl ?_
    have fx26 := (fx8.keep K11 (ninS (Nat.ne_of_lt (Nat.lt_of_lt_of_le (p0).lt (Nat.le_of_eq g4.symm))) nin0))
    refine go_callS C (argsL := [(.ref b), (.int 0), (.int 3)]) (W := 0) d12_23 (hq hw 81 rfl) (hq hw 82 rfl) (hq hw 76 rfl) (hq hw 83 rfl) (by decide) pd___CII__B (ct_tob3 l Z a0 hw am (b := b) (kC := kC) (c0 := c0) (c1 := c1) (c2 := c2) fx26) rfl (by decide) (Nat.le_of_eq rfl) (by decide) rfl (by decide) (by decide) mems0 ?_
    intro fv27 h28 K29 fq30
    obtain ⟨t31, kB32, rfl, fx33, fx34⟩ := fq30
    refine ⟨[t31], (freshS ⟨fx34, (fx33).lt⟩ fresh0), ?_⟩
    show Go l _ Z _ _ _ κ [t31, b1] _ 26 _ [(.ref t31)] 2 9
    refine go_astore C 28 (Ls' := #[.val (.ref b), .val (.int 0), .val (.int 3), .val (.ref b1), .val (.int 0), .val (.ref t31)]) d12_26 rfl rfl rfl ?_
    refine go_aload C 30 d12_28 rfl rfl rfl ?_
    refine go_iload C 32 d12_30 rfl rfl ?_
    refine go_callS C (argsL := [(.ref t31), (.int 0)]) (W := 0) d12_32 (hq hw 97 rfl) (hq hw 98 rfl) (hq hw 76 rfl) (hq hw 99 rfl) (by decide) pd___BI_C (ct_get3_0 l Z a0 hw am (t := t31) (kB := kB32) (c0 := c0) (c1 := c1) (c2 := c2) fx33 r0) rfl (by decide) (Nat.le_of_eq rfl) (by decide) rfl (by decide) (by decide) mems0 ?_
    intro fv35 h36 K37 fq38
    obtain ⟨rfl, rfl⟩ := fq38
    refine ⟨[], fresh0, ?_⟩
    show Go l _ Z _ _ _ κ _ _ 35 _ [(.int c0)] 2 9
    refine go_sipush C 38 (255 : Int32) d12_35 rfl (by decide) ?_
    refine go_icmpY C (pc' := 54) d12_38 (tlt (fx19 : (255 : Int32) < c0)).2.2.1 (by decide) (by decide) ?_
    refine go_aload C 56 d12_54 rfl rfl rfl ?_
    refine go_retA C (v := (.ref t31)) d12_56 rfl rfl rfl (by decide) (by decide) ?_
    exact Or.inr (⟨t31, kB32, rfl, fx33, (Nat.le_trans E5.1 (Nat.le_trans K11.1 fx34)), (Or.inl fx19)⟩)
  · skip
    refine ⟨[], fresh0, ?_⟩
    show Go l _ Z _ _ _ κ _ _ 12 _ [(.int 1)] 1 3
    refine go_istore C 14 (Ls' := #[.val (.ref b), .val (.int 0), .val (.int 3), .val (.ref b1), .val (.int 1), .unset]) d12_12 rfl rfl ?_
    refine go_iload C 16 d12_14 rfl rfl ?_
    refine go_iloadN C 17 d12_16 rfl rfl ?_
    refine go_icmpN C 20 d12_17 rfl (feq ((by decide) : ¬ ((1 : Int32) = (3 : Int32)))).1 ?_
    refine go_aloadN C 21 d12_20 rfl rfl rfl ?_
    refine go_iloadN C 22 d12_21 rfl rfl ?_
    refine go_iloadN C 23 d12_22 rfl rfl ?_
    have fx39 := (fx8.keep K11 (ninS (Nat.ne_of_lt (Nat.lt_of_lt_of_le (p0).lt (Nat.le_of_eq g4.symm))) nin0))
    refine go_callS C (argsL := [(.ref b), (.int 0), (.int 3)]) (W := 0) d12_23 (hq hw 81 rfl) (hq hw 82 rfl) (hq hw 76 rfl) (hq hw 83 rfl) (by decide) pd___CII__B (ct_tob3 l Z a0 hw am (b := b) (kC := kC) (c0 := c0) (c1 := c1) (c2 := c2) fx39) rfl (by decide) (Nat.le_of_eq rfl) (by decide) rfl (by decide) (by decide) mems0 ?_
    intro fv40 h41 K42 fq43
    obtain ⟨t44, kB45, rfl, fx46, fx47⟩ := fq43
    refine ⟨[t44], (freshS ⟨fx47, (fx46).lt⟩ fresh0), ?_⟩
    show Go l _ Z _ _ _ κ [t44, b1] _ 26 _ [(.ref t44)] 2 9
    refine go_astore C 28 (Ls' := #[.val (.ref b), .val (.int 0), .val (.int 3), .val (.ref b1), .val (.int 1), .val (.ref t44)]) d12_26 rfl rfl rfl ?_
    refine go_aload C 30 d12_28 rfl rfl rfl ?_
    refine go_iload C 32 d12_30 rfl rfl ?_
    refine go_callS C (argsL := [(.ref t44), (.int 1)]) (W := 0) d12_32 (hq hw 97 rfl) (hq hw 98 rfl) (hq hw 76 rfl) (hq hw 99 rfl) (by decide) pd___BI_C (ct_get3_1 l Z a0 hw am (t := t44) (kB := kB45) (c0 := c0) (c1 := c1) (c2 := c2) fx46 r1) rfl (by decide) (Nat.le_of_eq rfl) (by decide) rfl (by decide) (by decide) mems0 ?_
    intro fv48 h49 K50 fq51
    obtain ⟨rfl, rfl⟩ := fq51
    refine ⟨[], fresh0, ?_⟩
    show Go l _ Z _ _ _ κ _ _ 35 _ [(.int c1)] 2 9
    refine go_sipush C 38 (255 : Int32) d12_35 rfl (by decide) ?_
    refine go_icmpY C (pc' := 54) d12_38 (tlt (fx22 : (255 : Int32) < c1)).2.2.1 (by decide) (by decide) ?_
    refine go_aload C 56 d12_54 rfl rfl rfl ?_
    refine go_retA C (v := (.ref t44)) d12_56 rfl rfl rfl (by decide) (by decide) ?_
    exact Or.inr (⟨t44, kB45, rfl, fx46, (Nat.le_trans E5.1 (Nat.le_trans K11.1 fx47)), (Or.inr (Or.inl fx22))⟩)
  · skip
    refine ⟨[], fresh0, ?_⟩
    show Go l _ Z _ _ _ κ _ _ 12 _ [(.int 2)] 1 3
    refine go_istore C 14 (Ls' := #[.val (.ref b), .val (.int 0), .val (.int 3), .val (.ref b1), .val (.int 2), .unset]) d12_12 rfl rfl ?_
    refine go_iload C 16 d12_14 rfl rfl ?_
    refine go_iloadN C 17 d12_16 rfl rfl ?_
    refine go_icmpN C 20 d12_17 rfl (feq ((by decide) : ¬ ((2 : Int32) = (3 : Int32)))).1 ?_
    refine go_aloadN C 21 d12_20 rfl rfl rfl ?_
    refine go_iloadN C 22 d12_21 rfl rfl ?_
    refine go_iloadN C 23 d12_22 rfl rfl ?_
    have fx52 := (fx8.keep K11 (ninS (Nat.ne_of_lt (Nat.lt_of_lt_of_le (p0).lt (Nat.le_of_eq g4.symm))) nin0))
    refine go_callS C (argsL := [(.ref b), (.int 0), (.int 3)]) (W := 0) d12_23 (hq hw 81 rfl) (hq hw 82 rfl) (hq hw 76 rfl) (hq hw 83 rfl) (by decide) pd___CII__B (ct_tob3 l Z a0 hw am (b := b) (kC := kC) (c0 := c0) (c1 := c1) (c2 := c2) fx52) rfl (by decide) (Nat.le_of_eq rfl) (by decide) rfl (by decide) (by decide) mems0 ?_
    intro fv53 h54 K55 fq56
    obtain ⟨t57, kB58, rfl, fx59, fx60⟩ := fq56
    refine ⟨[t57], (freshS ⟨fx60, (fx59).lt⟩ fresh0), ?_⟩
    show Go l _ Z _ _ _ κ [t57, b1] _ 26 _ [(.ref t57)] 2 9
    refine go_astore C 28 (Ls' := #[.val (.ref b), .val (.int 0), .val (.int 3), .val (.ref b1), .val (.int 2), .val (.ref t57)]) d12_26 rfl rfl rfl ?_
    refine go_aload C 30 d12_28 rfl rfl rfl ?_
    refine go_iload C 32 d12_30 rfl rfl ?_
    refine go_callS C (argsL := [(.ref t57), (.int 2)]) (W := 0) d12_32 (hq hw 97 rfl) (hq hw 98 rfl) (hq hw 76 rfl) (hq hw 99 rfl) (by decide) pd___BI_C (ct_get3_2 l Z a0 hw am (t := t57) (kB := kB58) (c0 := c0) (c1 := c1) (c2 := c2) fx59 r2) rfl (by decide) (Nat.le_of_eq rfl) (by decide) rfl (by decide) (by decide) mems0 ?_
    intro fv61 h62 K63 fq64
    obtain ⟨rfl, rfl⟩ := fq64
    refine ⟨[], fresh0, ?_⟩
    show Go l _ Z _ _ _ κ _ _ 35 _ [(.int c2)] 2 9
    refine go_sipush C 38 (255 : Int32) d12_35 rfl (by decide) ?_
    refine go_icmpY C (pc' := 54) d12_38 (tlt (fx25 : (255 : Int32) < c2)).2.2.1 (by decide) (by decide) ?_
    refine go_aload C 56 d12_54 rfl rfl rfl ?_
    refine go_retA C (v := (.ref t57)) d12_56 rfl rfl rfl (by decide) (by decide) ?_
    exact Or.inr (⟨t57, kB58, rfl, fx59, (Nat.le_trans E5.1 (Nat.le_trans K11.1 fx60)), (Or.inr (Or.inr fx25))⟩)
theorem ct_coder3_3 (l : Launch) (Z : State) (a0 : Array Value) (hw : HW a0 Z) {cS : Int32} {fm : Value} {ub : Addr} (am : Amb Z a0 cS fm ub) {t : Addr} {kB : ClassId} {vs : List Value} {h0 : Heap} (p0 : Arv Z h0 t kB .byte (3 : Int32) vs (.int 0)) :
    Py l Z (⟨"java/lang/StringUTF16", "coderFromArrayLen", "([BI)B"⟩ : MethodName) 1 13 0 0 #[(.ref t), (.int 3)] h0 [] (fun rv h' => rv = some (.int 0) ∧ h' = h0) := by
  refine Ct.py (by0 := jdk_52_method_15_code) (ml := 2) (rt := (some .byte)) (rm := ({ frames := 0, cells := 0, slots := 0, locals := 0 } : Room)) ?_ (hq hw 102 rfl) (hq hw 76 rfl)
  refine Ct.mk (a0 := a0) (Ls := #[.val (.ref t), .val (.int 3)]) (plainFor_of_name pn_java_lang_StringUTF16) (fun m => by first | (simp [entryFrame, mkF, argsToLocals, Value.category]; done) | rfl) ?_
  intro κ C
  show Go l _ Z _ _ _ κ [] h0 0 #[.val (.ref t), .val (.int 3)] [] 0 0
  refine go_iloadN C 1 d19_0 rfl rfl ?_
  refine go_aloadN C 2 d19_1 rfl rfl rfl ?_
  refine go_arraylength C 3 d19_2 rfl p0 ?_
  refine go_isub C 4 (0 : Int32) d19_3 rfl (by decide) ?_
  refine go_bipush C 6 (31 : Int32) d19_4 rfl (by decide) ?_
  refine go_iushr C 7 (0 : Int32) d19_6 rfl (by decide) ?_
  refine go_i2b C 8 (0 : Int32) d19_7 rfl (by decide) ?_
  refine go_retN C (t := .byte) (z := (0 : Int32)) d19_8 rfl (by decide) (by decide) (by decide) (by decide) ?_
  exact ⟨rfl, rfl⟩
theorem ct_coder6_3 (l : Launch) (Z : State) (a0 : Array Value) (hw : HW a0 Z) {cS : Int32} {fm : Value} {ub : Addr} (am : Amb Z a0 cS fm ub) {t : Addr} {kB : ClassId} {vs : List Value} {h0 : Heap} (p0 : Arv Z h0 t kB .byte (6 : Int32) vs (.int 0)) :
    Py l Z (⟨"java/lang/StringUTF16", "coderFromArrayLen", "([BI)B"⟩ : MethodName) 1 13 0 0 #[(.ref t), (.int 3)] h0 [] (fun rv h' => rv = some (.int 1) ∧ h' = h0) := by
  refine Ct.py (by0 := jdk_52_method_15_code) (ml := 2) (rt := (some .byte)) (rm := ({ frames := 0, cells := 0, slots := 0, locals := 0 } : Room)) ?_ (hq hw 102 rfl) (hq hw 76 rfl)
  refine Ct.mk (a0 := a0) (Ls := #[.val (.ref t), .val (.int 3)]) (plainFor_of_name pn_java_lang_StringUTF16) (fun m => by first | (simp [entryFrame, mkF, argsToLocals, Value.category]; done) | rfl) ?_
  intro κ C
  show Go l _ Z _ _ _ κ [] h0 0 #[.val (.ref t), .val (.int 3)] [] 0 0
  refine go_iloadN C 1 d19_0 rfl rfl ?_
  refine go_aloadN C 2 d19_1 rfl rfl rfl ?_
  refine go_arraylength C 3 d19_2 rfl p0 ?_
  refine go_isub C 4 (-3 : Int32) d19_3 rfl (by decide) ?_
  refine go_bipush C 6 (31 : Int32) d19_4 rfl (by decide) ?_
  refine go_iushr C 7 (1 : Int32) d19_6 rfl (by decide) ?_
  refine go_i2b C 8 (1 : Int32) d19_7 rfl (by decide) ?_
  refine go_retN C (t := .byte) (z := (1 : Int32)) d19_8 rfl (by decide) (by decide) (by decide) (by decide) ?_
  exact ⟨rfl, rfl⟩
theorem ct_strV3 (l : Launch) (Z : State) (a0 : Array Value) (hw : HW a0 Z) {cS : Int32} {fm : Value} {ub : Addr} (am : Amb Z a0 cS fm ub) {a : Addr} {b : Addr} {kC : ClassId} {c0 : Int32} {c1 : Int32} {c2 : Int32} {h0 : Heap} (p0 : Exa Z h0 a "java/lang/String") (p1 : Fld Z h0 a "java/lang/String" "value" "[B" .null) (p2 : Fld Z h0 a "java/lang/String" "coder" "B" (.int 0)) (p3 : Arv Z h0 b kC .char (3 : Int32) [(.int c0), (.int c1), (.int c2)] (.int 0)) (r0 : Chr c0) (r1 : Chr c1) (r2 : Chr c2) :
    Py l Z (⟨"java/lang/String", "<init>", "([CIILjava/lang/Void;)V"⟩ : MethodName) 5 74 2 9 #[(.ref a), (.ref b), (.int 0), (.int 3), .null] h0 [a] (fun rv h' => (∃ (t : Addr) (kB : ClassId), rv = none ∧ Exa Z h' a "java/lang/String" ∧ Fld Z h' a "java/lang/String" "coder" "B" (.int 0) ∧ Fld Z h' a "java/lang/String" "value" "[B" (.ref t) ∧ Arv Z h' t kB .byte (3 : Int32) [(.int (lo8 c0)), (.int (lo8 c1)), (.int (lo8 c2))] (.int 0) ∧ (h0.size ≤ t) ∧ (¬ (255 : Int32) < c0) ∧ (¬ (255 : Int32) < c1) ∧ (¬ (255 : Int32) < c2)) ∨ (∃ (t : Addr) (kB : ClassId), rv = none ∧ Exa Z h' a "java/lang/String" ∧ Fld Z h' a "java/lang/String" "coder" "B" (.int 1) ∧ Fld Z h' a "java/lang/String" "value" "[B" (.ref t) ∧ Arv Z h' t kB .byte (6 : Int32) [(.int (lo8 c0)), (.int (hi8 c0)), (.int (lo8 c1)), (.int (hi8 c1)), (.int (lo8 c2)), (.int (hi8 c2))] (.int 0) ∧ (h0.size ≤ t) ∧ ((255 : Int32) < c0 ∨ (255 : Int32) < c1 ∨ (255 : Int32) < c2))) := by
  refine Ct.py (by0 := jdk_42_method_149_code) (ml := 6) (rt := none) (rm := ({ frames := 4, cells := 2, slots := 9, locals := 57 } : Room)) ?_ (hq hw 16 rfl) (hq hw 8 rfl)
  refine Ct.mk (a0 := a0) (Ls := #[.val (.ref a), .val (.ref b), .val (.int 0), .val (.int 3), .val .null, .unset]) (plainFor_of_name pn_java_lang_String) (fun m => by first | (simp [entryFrame, mkF, argsToLocals, Value.category]; done) | rfl) ?_
  intro κ C
  show Go l _ Z _ _ _ κ [a] h0 0 #[.val (.ref a), .val (.ref b), .val (.int 0), .val (.int 3), .val .null, .unset] [] 0 0
  refine go_aloadN C 1 d3_0 rfl rfl rfl ?_
  refine go_initO C 4 (W := 0) d3_1 rfl (hq hw 17 rfl) (hq hw 18 rfl) (hq hw 19 rfl) rfl (by decide) (Nat.le_of_eq rfl) (by decide) ?_
  refine go_iloadN C 5 d3_4 rfl rfl ?_
  refine go_ifY C (pc' := 27) d3_5 (feq ((by decide) : ¬ ((3 : Int32) = (0 : Int32)))).2 (by decide) (by decide) ?_
  refine go_getS C 30 d3_27 rfl (hq hw 73 rfl) am.2.1 ?_
  refine go_ifN C 33 d3_30 rfl (feq (am.2.2.1 : ¬ (cS = (0 : Int32)))).1 ?_
  refine go_aloadN C 34 d3_33 rfl rfl rfl ?_
  refine go_iloadN C 35 d3_34 rfl rfl ?_
  refine go_iloadN C 36 d3_35 rfl rfl ?_
  refine go_callS C (argsL := [(.ref b), (.int 0), (.int 3)]) (W := 0) d3_36 (hq hw 74 rfl) (hq hw 75 rfl) (hq hw 76 rfl) (hq hw 77 rfl) (by decide) pd___CII__B (ct_cmpA3 l Z a0 hw am (b := b) (kC := kC) (c0 := c0) (c1 := c1) (c2 := c2) p3 r0 r1 r2) rfl (by decide) (Nat.le_of_eq rfl) (by decide) rfl (by decide) (by decide) mems0 ?_
  intro fv1 h2 K3 fq4
  rcases fq4 with ⟨t5, kB6, rfl, fx7, fx8, fx9, fx10, fx11⟩ | ⟨t12, kB13, rfl, fx14, fx15, fx16⟩
  · skip
    refine ⟨[t5], (freshS ⟨fx8, (fx7).lt⟩ fresh0), ?_⟩
    show Go l _ Z _ _ _ κ [t5, a] _ 39 _ [(.ref t5)] 2 9
    refine go_astore C 41 (Ls' := #[.val (.ref a), .val (.ref b), .val (.int 0), .val (.int 3), .val .null, .val (.ref t5)]) d3_39 rfl rfl rfl ?_
    refine go_aloadN C 42 d3_41 rfl rfl rfl ?_
    refine go_aload C 44 d3_42 rfl rfl rfl ?_
    refine go_iloadN C 45 d3_44 rfl rfl ?_
    refine go_callS C (argsL := [(.ref t5), (.int 3)]) (W := 1) d3_45 (hq hw 100 rfl) (hq hw 101 rfl) (hq hw 76 rfl) (hq hw 102 rfl) (by decide) pd___BI_B (ct_coder3_3 l Z a0 hw am (t := t5) (kB := kB6) (vs := [(.int (lo8 c0)), (.int (lo8 c1)), (.int (lo8 c2))]) fx7) rfl (by decide) (Nat.le_of_eq rfl) (by decide) rfl (by decide) (by decide) mems0 ?_
    intro fv17 h18 K19 fq20
    obtain ⟨rfl, rfl⟩ := fq20
    refine ⟨[], fresh0, ?_⟩
    show Go l _ Z _ _ _ κ _ _ 48 _ [(.int 0), (.ref a)] 2 9
    have fx21 := (p2.keep K3 nin0)
    have fx22 := (p0.keep K3)
    refine go_putFN C 51 (ty := .byte) (v' := .int 0) d3_48 rfl (hq hw 27 rfl) Via.refl fx21 fx22 (Or.inr ⟨(hq hw 23 rfl), rfl, rfl⟩) (hq hw 7 rfl) (by decide) rfl (by decide) (mi 1 rfl) ?_
    intro h23 W24
    have fx25 : Fld Z h23 a "java/lang/String" "coder" "B" (.int 0) := Fld.same W24 fx21
    refine go_aloadN C 52 d3_51 rfl rfl rfl ?_
    refine go_aload C 54 d3_52 rfl rfl rfl ?_
    have fx26 := (Fld.other W24 (p1.keep K3 nin0) (Or.inr (slot_ne (Or.inr (hq hw 22 rfl)) (Or.inr (hq hw 23 rfl)) (by decide) (t := (.array .byte)) (t' := .byte) (by decide) (by decide))))
    have fx27 := (Exa.wr W24 fx22)
    refine go_putF C 57 (ty := (.array .byte)) d3_54 rfl (hq hw 26 rfl) Via.refl fx26 fx27 (Or.inr ⟨(hq hw 22 rfl), rfl, rfl⟩) (hq hw 7 rfl) (by decide) rfl rfl (mi 1 rfl) ?_
    intro h28 W29
    have fx30 : Fld Z h28 a "java/lang/String" "value" "[B" (.ref t5) := Fld.same W29 fx26
    refine go_ret C d3_57 rfl (by decide) (by decide) ?_
    have fx31 := (Exa.wr W29 fx27)
    have fx32 := (Fld.other W29 fx25 (Or.inr (slot_ne (Or.inr (hq hw 23 rfl)) (Or.inr (hq hw 22 rfl)) (by decide) (t := .byte) (t' := (.array .byte)) (by decide) (by decide))))
    have fx33 := ((fx7.other W24 (Ne.symm (Nat.ne_of_lt (Nat.lt_of_lt_of_le (p0).lt fx8)))).other W29 (Ne.symm (Nat.ne_of_lt (Nat.lt_of_lt_of_le (p0).lt fx8))))
    exact Or.inl ⟨t5, kB6, rfl, fx31, fx32, fx30, fx33, fx8, fx9, fx10, fx11⟩
  · skip
    refine ⟨[t12], (freshS ⟨fx15, (fx14).lt⟩ fresh0), ?_⟩
    show Go l _ Z _ _ _ κ [t12, a] _ 39 _ [(.ref t12)] 2 9
    refine go_astore C 41 (Ls' := #[.val (.ref a), .val (.ref b), .val (.int 0), .val (.int 3), .val .null, .val (.ref t12)]) d3_39 rfl rfl rfl ?_
    refine go_aloadN C 42 d3_41 rfl rfl rfl ?_
    refine go_aload C 44 d3_42 rfl rfl rfl ?_
    refine go_iloadN C 45 d3_44 rfl rfl ?_
    refine go_callS C (argsL := [(.ref t12), (.int 3)]) (W := 1) d3_45 (hq hw 100 rfl) (hq hw 101 rfl) (hq hw 76 rfl) (hq hw 102 rfl) (by decide) pd___BI_B (ct_coder6_3 l Z a0 hw am (t := t12) (kB := kB13) (vs := [(.int (lo8 c0)), (.int (hi8 c0)), (.int (lo8 c1)), (.int (hi8 c1)), (.int (lo8 c2)), (.int (hi8 c2))]) fx14) rfl (by decide) (Nat.le_of_eq rfl) (by decide) rfl (by decide) (by decide) mems0 ?_
    intro fv34 h35 K36 fq37
    obtain ⟨rfl, rfl⟩ := fq37
    refine ⟨[], fresh0, ?_⟩
    show Go l _ Z _ _ _ κ _ _ 48 _ [(.int 1), (.ref a)] 2 9
    have fx38 := (p2.keep K3 nin0)
    have fx39 := (p0.keep K3)
    refine go_putFN C 51 (ty := .byte) (v' := .int 1) d3_48 rfl (hq hw 27 rfl) Via.refl fx38 fx39 (Or.inr ⟨(hq hw 23 rfl), rfl, rfl⟩) (hq hw 7 rfl) (by decide) rfl (by decide) (mi 1 rfl) ?_
    intro h40 W41
    have fx42 : Fld Z h40 a "java/lang/String" "coder" "B" (.int 1) := Fld.same W41 fx38
    refine go_aloadN C 52 d3_51 rfl rfl rfl ?_
    refine go_aload C 54 d3_52 rfl rfl rfl ?_
    have fx43 := (Fld.other W41 (p1.keep K3 nin0) (Or.inr (slot_ne (Or.inr (hq hw 22 rfl)) (Or.inr (hq hw 23 rfl)) (by decide) (t := (.array .byte)) (t' := .byte) (by decide) (by decide))))
    have fx44 := (Exa.wr W41 fx39)
    refine go_putF C 57 (ty := (.array .byte)) d3_54 rfl (hq hw 26 rfl) Via.refl fx43 fx44 (Or.inr ⟨(hq hw 22 rfl), rfl, rfl⟩) (hq hw 7 rfl) (by decide) rfl rfl (mi 1 rfl) ?_
    intro h45 W46
    have fx47 : Fld Z h45 a "java/lang/String" "value" "[B" (.ref t12) := Fld.same W46 fx43
    refine go_ret C d3_57 rfl (by decide) (by decide) ?_
    have fx48 := (Exa.wr W46 fx44)
    have fx49 := (Fld.other W46 fx42 (Or.inr (slot_ne (Or.inr (hq hw 23 rfl)) (Or.inr (hq hw 22 rfl)) (by decide) (t := .byte) (t' := (.array .byte)) (by decide) (by decide))))
    have fx50 := ((fx14.other W41 (Ne.symm (Nat.ne_of_lt (Nat.lt_of_lt_of_le (p0).lt fx15)))).other W46 (Ne.symm (Nat.ne_of_lt (Nat.lt_of_lt_of_le (p0).lt fx15))))
    exact Or.inr (⟨t12, kB13, rfl, fx48, fx49, fx47, fx50, fx15, fx16⟩)
theorem ct_str3 (l : Launch) (Z : State) (a0 : Array Value) (hw : HW a0 Z) {cS : Int32} {fm : Value} {ub : Addr} (am : Amb Z a0 cS fm ub) {a : Addr} {b : Addr} {kC : ClassId} {c0 : Int32} {c1 : Int32} {c2 : Int32} {h0 : Heap} (p0 : Exa Z h0 a "java/lang/String") (p1 : Fld Z h0 a "java/lang/String" "value" "[B" .null) (p2 : Fld Z h0 a "java/lang/String" "coder" "B" (.int 0)) (p3 : Arv Z h0 b kC .char (3 : Int32) [(.int c0), (.int c1), (.int c2)] (.int 0)) (r0 : Chr c0) (r1 : Chr c1) (r2 : Chr c2) :
    Py l Z (⟨"java/lang/String", "<init>", "([C)V"⟩ : MethodName) 6 87 2 9 #[(.ref a), (.ref b)] h0 [a] (fun rv h' => (∃ (t : Addr) (kB : ClassId), rv = none ∧ Exa Z h' a "java/lang/String" ∧ Fld Z h' a "java/lang/String" "coder" "B" (.int 0) ∧ Fld Z h' a "java/lang/String" "value" "[B" (.ref t) ∧ Arv Z h' t kB .byte (3 : Int32) [(.int (lo8 c0)), (.int (lo8 c1)), (.int (lo8 c2))] (.int 0) ∧ (h0.size ≤ t) ∧ (¬ (255 : Int32) < c0) ∧ (¬ (255 : Int32) < c1) ∧ (¬ (255 : Int32) < c2)) ∨ (∃ (t : Addr) (kB : ClassId), rv = none ∧ Exa Z h' a "java/lang/String" ∧ Fld Z h' a "java/lang/String" "coder" "B" (.int 1) ∧ Fld Z h' a "java/lang/String" "value" "[B" (.ref t) ∧ Arv Z h' t kB .byte (6 : Int32) [(.int (lo8 c0)), (.int (hi8 c0)), (.int (lo8 c1)), (.int (hi8 c1)), (.int (lo8 c2)), (.int (hi8 c2))] (.int 0) ∧ (h0.size ≤ t) ∧ ((255 : Int32) < c0 ∨ (255 : Int32) < c1 ∨ (255 : Int32) < c2))) := by
  refine Ct.py (by0 := jdk_42_method_3_code) (ml := 2) (rt := none) (rm := ({ frames := 5, cells := 2, slots := 9, locals := 74 } : Room)) ?_ (hq hw 12 rfl) (hq hw 8 rfl)
  refine Ct.mk (a0 := a0) (Ls := #[.val (.ref a), .val (.ref b)]) (plainFor_of_name pn_java_lang_String) (fun m => by first | (simp [entryFrame, mkF, argsToLocals, Value.category]; done) | rfl) ?_
  intro κ C
  show Go l _ Z _ _ _ κ [a] h0 0 #[.val (.ref a), .val (.ref b)] [] 0 0
  refine go_aloadN C 1 d2_0 rfl rfl rfl ?_
  refine go_aloadN C 2 d2_1 rfl rfl rfl ?_
  refine go_iconst C 3 (0 : Int32) d2_2 rfl (by decide) ?_
  refine go_aloadN C 4 d2_3 rfl rfl rfl ?_
  refine go_arraylength C 5 d2_4 rfl p3 ?_
  refine go_aconstNull C 6 d2_5 rfl ?_
  refine go_callI C (a := a) (argsL := [(.ref b), (.int 0), (.int 3), .null]) (W := 0) d2_6 rfl (hq hw 13 rfl) (hq hw 14 rfl) (hq hw 16 rfl) (by decide) pd___CIILjava_lang_Void__V (ct_strV3 l Z a0 hw am (a := a) (b := b) (kC := kC) (c0 := c0) (c1 := c1) (c2 := c2) p0 p1 p2 p3 r0 r1 r2) rfl (by decide) (Nat.le_of_eq rfl) (by decide) rfl (by decide) (by decide) (memsS (mi 0 rfl) mems0) ?_
  intro fv1 h2 K3 fq4
  rcases fq4 with ⟨t5, kB6, rfl, fx7, fx8, fx9, fx10, fx11, fx12, fx13, fx14⟩ | ⟨t15, kB16, rfl, fx17, fx18, fx19, fx20, fx21, fx22⟩
  · skip
    refine ⟨[t5], (freshS ⟨fx11, (fx10).lt⟩ fresh0), ?_⟩
    show Go l _ Z _ _ _ κ [t5, a] _ 9 _ [] 2 9
    refine go_ret C d2_9 rfl (by decide) (by decide) ?_
    exact Or.inl ⟨t5, kB6, rfl, fx7, fx8, fx9, fx10, fx11, fx12, fx13, fx14⟩
  · skip
    refine ⟨[t15], (freshS ⟨fx21, (fx20).lt⟩ fresh0), ?_⟩
    show Go l _ Z _ _ _ κ [t15, a] _ 9 _ [] 2 9
    refine go_ret C d2_9 rfl (by decide) (by decide) ?_
    exact Or.inr (⟨t15, kB16, rfl, fx17, fx18, fx19, fx20, fx21, fx22⟩)
theorem ct_strV0 (l : Launch) (Z : State) (a0 : Array Value) (hw : HW a0 Z) {cS : Int32} {fm : Value} {ub : Addr} (am : Amb Z a0 cS fm ub) {a : Addr} {b : Addr} {kC : ClassId} {h0 : Heap} (p0 : Exa Z h0 a "java/lang/String") (p1 : Fld Z h0 a "java/lang/String" "value" "[B" .null) (p2 : Fld Z h0 a "java/lang/String" "coder" "B" (.int 0)) (p3 : Arv Z h0 b kC .char (0 : Int32) [] (.int 0)) :
    PyW l Z consts_1 a0 (⟨"java/lang/String", "<init>", "([CIILjava/lang/Void;)V"⟩ : MethodName) 2 29 4 8 #[(.ref a), (.ref b), (.int 0), (.int 0), .null] h0 [a] (fun rv h' => ∃ (t : Addr) (kB : ClassId), rv = none ∧ Exa Z h' a "java/lang/String" ∧ Fld Z h' a "java/lang/String" "coder" "B" (.int 0) ∧ Fld Z h' a "java/lang/String" "value" "[B" (.ref t) ∧ Arv Z h' t kB .byte (0 : Int32) [] (.int 0)) := by
  have hEL := am.1
  refine CtW.py (by0 := jdk_42_method_149_code) (ml := 6) (rt := none) (rm := ({ frames := 1, cells := 4, slots := 8, locals := 12 } : Room)) ?_ (hq hw 16 rfl) (hq hw 8 rfl)
  refine CtW.mk (a0 := a0) (Ls := #[.val (.ref a), .val (.ref b), .val (.int 0), .val (.int 0), .val .null, .unset]) (plainFor_of_name pn_java_lang_String) (fun m => by first | (simp [entryFrame, mkF, argsToLocals, Value.category]; done) | rfl) ?_
  intro κ C
  show GoW l _ Z _ _ _ _ _ κ [a] h0 0 #[.val (.ref a), .val (.ref b), .val (.int 0), .val (.int 0), .val .null, .unset] [] 0 0
  refine gw_aloadN C 1 d3_0 rfl rfl rfl ?_
  refine gw_initO C 4 (W := 0) d3_1 rfl (hq hw 17 rfl) (hq hw 18 rfl) (hq hw 19 rfl) rfl (by decide) (Nat.le_of_eq rfl) (by decide) ?_
  refine gw_iloadN C 5 d3_4 rfl rfl ?_
  refine gw_ifN C 8 d3_5 rfl (teq ((by decide) : (0 : Int32) = (0 : Int32))).2 ?_
  refine gw_aloadN C 9 d3_8 rfl rfl rfl ?_
  refine gw_ldcS C hEL 11 2 4 (n := 0) (vs := []) (zn := (0 : Int32)) d3_9 rfl rfl rfl (hq hw 20 rfl) (wS hw) (List.mem_of_getElem? (i := 0) rfl) (by decide) (by decide) rfl (by decide) (by decide) (by decide) (by decide) ?_
  intro sa1 sb2 k3 h4 E5 fx6 fx7 fx8 fx9 fn10
  have fe11 : a ≠ sa1 := (fn10 _ (List.mem_of_getElem? (i := 0) rfl)).1
  have fe12 : a ≠ sb2 := (fn10 _ (List.mem_of_getElem? (i := 0) rfl)).2
  refine gw_getF C 14 d3_11 rfl (hq hw 26 rfl) Via.refl fx8 ?_
  have fx13 := (Fld.ext E5 p1)
  have fx14 := (Exa.ext E5 p0)
  refine gw_putF C 17 (ty := (.array .byte)) d3_14 rfl (hq hw 26 rfl) Via.refl fx13 fx14 (Or.inr ⟨(hq hw 22 rfl), rfl, rfl⟩) (hq hw 7 rfl) (by decide) rfl rfl (mi 0 rfl) ?_
  intro h15 W16
  have fx17 : Fld Z h15 a "java/lang/String" "value" "[B" (.ref sb2) := Fld.same W16 fx13
  refine gw_aloadN C 18 d3_17 rfl rfl rfl ?_
  refine gw_ldcS C hEL 20 4 8 (n := 0) (vs := []) (zn := (0 : Int32)) d3_18 rfl rfl rfl (hq hw 20 rfl) (wS hw) (List.mem_of_getElem? (i := 0) rfl) (by decide) (by decide) rfl (by decide) (by decide) (by decide) (by decide) ?_
  intro sa18 sb19 k20 h21 E22 fx23 fx24 fx25 fx26 fn27
  have fe28 : a ≠ sa18 := (fn27 _ (List.mem_of_getElem? (i := 0) rfl)).1
  have fe29 : a ≠ sb19 := (fn27 _ (List.mem_of_getElem? (i := 0) rfl)).2
  refine gw_getF C 23 d3_20 rfl (hq hw 27 rfl) Via.refl fx24 ?_
  have fx30 := (Fld.ext E22 (Fld.other W16 (Fld.ext E5 p2) (Or.inr (slot_ne (Or.inr (hq hw 23 rfl)) (Or.inr (hq hw 22 rfl)) (by decide) (t := .byte) (t' := (.array .byte)) (by decide) (by decide)))))
  have fx31 := (Exa.ext E22 (Exa.wr W16 fx14))
  refine gw_putFN C 26 (ty := .byte) (v' := .int 0) d3_23 rfl (hq hw 27 rfl) Via.refl fx30 fx31 (Or.inr ⟨(hq hw 23 rfl), rfl, rfl⟩) (hq hw 7 rfl) (by decide) rfl (by decide) (mi 0 rfl) ?_
  intro h32 W33
  have fx34 : Fld Z h32 a "java/lang/String" "coder" "B" (.int 0) := Fld.same W33 fx30
  refine gw_ret C hEL d3_26 rfl (by decide) (by decide) ?_
  have fx35 := (Exa.wr W33 fx31)
  have fx36 := (Fld.other W33 (Fld.ext E22 fx17) (Or.inr (slot_ne (Or.inr (hq hw 22 rfl)) (Or.inr (hq hw 23 rfl)) (by decide) (t := (.array .byte)) (t' := .byte) (by decide) (by decide))))
  have fx37 := (((fx9.other W16 (Ne.symm fe12)).ext E22).other W33 (Ne.symm fe12))
  exact ⟨sb2, k3, rfl, fx35, fx34, fx36, fx37⟩
theorem ct_str0 (l : Launch) (Z : State) (a0 : Array Value) (hw : HW a0 Z) {cS : Int32} {fm : Value} {ub : Addr} (am : Amb Z a0 cS fm ub) {a : Addr} {b : Addr} {kC : ClassId} {h0 : Heap} (p0 : Exa Z h0 a "java/lang/String") (p1 : Fld Z h0 a "java/lang/String" "value" "[B" .null) (p2 : Fld Z h0 a "java/lang/String" "coder" "B" (.int 0)) (p3 : Arv Z h0 b kC .char (0 : Int32) [] (.int 0)) :
    PyW l Z consts_1 a0 (⟨"java/lang/String", "<init>", "([C)V"⟩ : MethodName) 3 42 4 8 #[(.ref a), (.ref b)] h0 [a] (fun rv h' => ∃ (t : Addr) (kB : ClassId), rv = none ∧ Exa Z h' a "java/lang/String" ∧ Fld Z h' a "java/lang/String" "coder" "B" (.int 0) ∧ Fld Z h' a "java/lang/String" "value" "[B" (.ref t) ∧ Arv Z h' t kB .byte (0 : Int32) [] (.int 0)) := by
  have hEL := am.1
  refine CtW.py (by0 := jdk_42_method_3_code) (ml := 2) (rt := none) (rm := ({ frames := 2, cells := 4, slots := 8, locals := 29 } : Room)) ?_ (hq hw 12 rfl) (hq hw 8 rfl)
  refine CtW.mk (a0 := a0) (Ls := #[.val (.ref a), .val (.ref b)]) (plainFor_of_name pn_java_lang_String) (fun m => by first | (simp [entryFrame, mkF, argsToLocals, Value.category]; done) | rfl) ?_
  intro κ C
  show GoW l _ Z _ _ _ _ _ κ [a] h0 0 #[.val (.ref a), .val (.ref b)] [] 0 0
  refine gw_aloadN C 1 d2_0 rfl rfl rfl ?_
  refine gw_aloadN C 2 d2_1 rfl rfl rfl ?_
  refine gw_iconst C 3 (0 : Int32) d2_2 rfl (by decide) ?_
  refine gw_aloadN C 4 d2_3 rfl rfl rfl ?_
  refine gw_arraylength C 5 d2_4 rfl p3 ?_
  refine gw_aconstNull C 6 d2_5 rfl ?_
  refine gw_callIW C hEL (a := a) (argsL := [(.ref b), (.int 0), (.int 0), .null]) (W := 0) d2_6 rfl (hq hw 13 rfl) (hq hw 14 rfl) (hq hw 16 rfl) (by decide) pd___CIILjava_lang_Void__V (ct_strV0 l Z a0 hw am (a := a) (b := b) (kC := kC) p0 p1 p2 p3) rfl (by decide) (Nat.le_of_eq rfl) (by decide) rfl (by decide) (by decide) (memsS (mi 0 rfl) mems0) ?_
  intro fv1 h2 K3 fq4
  obtain ⟨t5, kB6, rfl, fx7, fx8, fx9, fx10⟩ := fq4
  show GoW l _ Z _ _ _ _ _ κ _ _ 9 _ [] 4 8
  refine gw_ret C hEL d2_9 rfl (by decide) (by decide) ?_
  exact ⟨t5, kB6, rfl, fx7, fx8, fx9, fx10⟩
theorem ct_cod0 (l : Launch) (Z : State) (a0 : Array Value) (hw : HW a0 Z) {cS : Int32} {fm : Value} {ub : Addr} (am : Amb Z a0 cS fm ub) {s : Addr} {h0 : Heap} (p0 : Fld Z h0 s "java/lang/String" "coder" "B" (.int 0)) :
    Py l Z (⟨"java/lang/String", "coder", "()B"⟩ : MethodName) 1 12 0 0 #[(.ref s)] h0 [] (fun rv h' => rv = some (.int 0) ∧ h' = h0) := by
  refine Ct.py (by0 := jdk_42_method_152_code) (ml := 1) (rt := (some .byte)) (rm := ({ frames := 0, cells := 0, slots := 0, locals := 0 } : Room)) ?_ (hq hw 127 rfl) (hq hw 8 rfl)
  refine Ct.mk (a0 := a0) (Ls := #[.val (.ref s)]) (plainFor_of_name pn_java_lang_String) (fun m => by first | (simp [entryFrame, mkF, argsToLocals, Value.category]; done) | rfl) ?_
  intro κ C
  show Go l _ Z _ _ _ κ [] h0 0 #[.val (.ref s)] [] 0 0
  refine go_getS C 3 d24_0 rfl (hq hw 73 rfl) am.2.1 ?_
  refine go_ifN C 6 d24_3 rfl (feq (am.2.2.1 : ¬ (cS = (0 : Int32)))).1 ?_
  refine go_aloadN C 7 d24_6 rfl rfl rfl ?_
  refine go_getF C 10 d24_7 rfl (hq hw 27 rfl) Via.refl p0 ?_
  refine go_goto C (pc' := 14) d24_10 (by decide) (by decide) ?_
  refine go_retN C (t := .byte) (z := (0 : Int32)) d24_14 rfl (by decide) (by decide) (by decide) (by decide) ?_
  exact ⟨rfl, rfl⟩
theorem ct_len0_1 (l : Launch) (Z : State) (a0 : Array Value) (hw : HW a0 Z) {cS : Int32} {fm : Value} {ub : Addr} (am : Amb Z a0 cS fm ub) {s : Addr} {t : Addr} {kB : ClassId} {vs : List Value} {h0 : Heap} (p0 : Exa Z h0 s "java/lang/String") (p1 : Fld Z h0 s "java/lang/String" "coder" "B" (.int 0)) (p2 : Fld Z h0 s "java/lang/String" "value" "[B" (.ref t)) (p3 : Arv Z h0 t kB .byte (1 : Int32) vs (.int 0)) :
    Py l Z (⟨"java/lang/String", "length", "()I"⟩ : MethodName) 2 25 0 0 #[(.ref s)] h0 [] (fun rv h' => rv = some (.int 1) ∧ h' = h0) := by
  refine Ct.py (by0 := jdk_42_method_54_code) (ml := 1) (rt := (some .int)) (rm := ({ frames := 1, cells := 0, slots := 0, locals := 13 } : Room)) ?_ (hq hw 122 rfl) (hq hw 8 rfl)
  refine Ct.mk (a0 := a0) (Ls := #[.val (.ref s)]) (plainFor_of_name pn_java_lang_String) (fun m => by first | (simp [entryFrame, mkF, argsToLocals, Value.category]; done) | rfl) ?_
  intro κ C
  show Go l _ Z _ _ _ κ [] h0 0 #[.val (.ref s)] [] 0 0
  refine go_aloadN C 1 d23_0 rfl rfl rfl ?_
  refine go_getF C 4 d23_1 rfl (hq hw 26 rfl) Via.refl p2 ?_
  refine go_arraylength C 5 d23_4 rfl p3 ?_
  refine go_aloadN C 6 d23_5 rfl rfl rfl ?_
  refine go_callV C (a := s) (argsL := []) (W := 1) d23_6 (hq hw 123 rfl) (hq hw 124 rfl) (fun _ hZ => notFace_of_selects (args := #[]) (mvT hZ (hq hw 126 rfl))) (hq hw 126 rfl) (hq hw 125 rfl) p0 (by decide) pd___B (ct_cod0 l Z a0 hw am (s := s) p1) rfl (by decide) (Nat.le_of_eq rfl) (by decide) rfl (by decide) (by decide) mems0 ?_
  intro fv1 h2 K3 fq4
  obtain ⟨rfl, rfl⟩ := fq4
  refine ⟨[], fresh0, ?_⟩
  show Go l _ Z _ _ _ κ _ _ 9 _ [(.int 0), (.int 1)] 0 0
  refine go_ishr C 10 (1 : Int32) d23_9 rfl (by decide) ?_
  refine go_retI C d23_10 rfl (by decide) (by decide) ?_
  exact ⟨rfl, rfl⟩
theorem ct_len0_2 (l : Launch) (Z : State) (a0 : Array Value) (hw : HW a0 Z) {cS : Int32} {fm : Value} {ub : Addr} (am : Amb Z a0 cS fm ub) {s : Addr} {t : Addr} {kB : ClassId} {vs : List Value} {h0 : Heap} (p0 : Exa Z h0 s "java/lang/String") (p1 : Fld Z h0 s "java/lang/String" "coder" "B" (.int 0)) (p2 : Fld Z h0 s "java/lang/String" "value" "[B" (.ref t)) (p3 : Arv Z h0 t kB .byte (2 : Int32) vs (.int 0)) :
    Py l Z (⟨"java/lang/String", "length", "()I"⟩ : MethodName) 2 25 0 0 #[(.ref s)] h0 [] (fun rv h' => rv = some (.int 2) ∧ h' = h0) := by
  refine Ct.py (by0 := jdk_42_method_54_code) (ml := 1) (rt := (some .int)) (rm := ({ frames := 1, cells := 0, slots := 0, locals := 13 } : Room)) ?_ (hq hw 122 rfl) (hq hw 8 rfl)
  refine Ct.mk (a0 := a0) (Ls := #[.val (.ref s)]) (plainFor_of_name pn_java_lang_String) (fun m => by first | (simp [entryFrame, mkF, argsToLocals, Value.category]; done) | rfl) ?_
  intro κ C
  show Go l _ Z _ _ _ κ [] h0 0 #[.val (.ref s)] [] 0 0
  refine go_aloadN C 1 d23_0 rfl rfl rfl ?_
  refine go_getF C 4 d23_1 rfl (hq hw 26 rfl) Via.refl p2 ?_
  refine go_arraylength C 5 d23_4 rfl p3 ?_
  refine go_aloadN C 6 d23_5 rfl rfl rfl ?_
  refine go_callV C (a := s) (argsL := []) (W := 1) d23_6 (hq hw 123 rfl) (hq hw 124 rfl) (fun _ hZ => notFace_of_selects (args := #[]) (mvT hZ (hq hw 126 rfl))) (hq hw 126 rfl) (hq hw 125 rfl) p0 (by decide) pd___B (ct_cod0 l Z a0 hw am (s := s) p1) rfl (by decide) (Nat.le_of_eq rfl) (by decide) rfl (by decide) (by decide) mems0 ?_
  intro fv1 h2 K3 fq4
  obtain ⟨rfl, rfl⟩ := fq4
  refine ⟨[], fresh0, ?_⟩
  show Go l _ Z _ _ _ κ _ _ 9 _ [(.int 0), (.int 2)] 0 0
  refine go_ishr C 10 (2 : Int32) d23_9 rfl (by decide) ?_
  refine go_retI C d23_10 rfl (by decide) (by decide) ?_
  exact ⟨rfl, rfl⟩
theorem ct_len0_3 (l : Launch) (Z : State) (a0 : Array Value) (hw : HW a0 Z) {cS : Int32} {fm : Value} {ub : Addr} (am : Amb Z a0 cS fm ub) {s : Addr} {t : Addr} {kB : ClassId} {vs : List Value} {h0 : Heap} (p0 : Exa Z h0 s "java/lang/String") (p1 : Fld Z h0 s "java/lang/String" "coder" "B" (.int 0)) (p2 : Fld Z h0 s "java/lang/String" "value" "[B" (.ref t)) (p3 : Arv Z h0 t kB .byte (3 : Int32) vs (.int 0)) :
    Py l Z (⟨"java/lang/String", "length", "()I"⟩ : MethodName) 2 25 0 0 #[(.ref s)] h0 [] (fun rv h' => rv = some (.int 3) ∧ h' = h0) := by
  refine Ct.py (by0 := jdk_42_method_54_code) (ml := 1) (rt := (some .int)) (rm := ({ frames := 1, cells := 0, slots := 0, locals := 13 } : Room)) ?_ (hq hw 122 rfl) (hq hw 8 rfl)
  refine Ct.mk (a0 := a0) (Ls := #[.val (.ref s)]) (plainFor_of_name pn_java_lang_String) (fun m => by first | (simp [entryFrame, mkF, argsToLocals, Value.category]; done) | rfl) ?_
  intro κ C
  show Go l _ Z _ _ _ κ [] h0 0 #[.val (.ref s)] [] 0 0
  refine go_aloadN C 1 d23_0 rfl rfl rfl ?_
  refine go_getF C 4 d23_1 rfl (hq hw 26 rfl) Via.refl p2 ?_
  refine go_arraylength C 5 d23_4 rfl p3 ?_
  refine go_aloadN C 6 d23_5 rfl rfl rfl ?_
  refine go_callV C (a := s) (argsL := []) (W := 1) d23_6 (hq hw 123 rfl) (hq hw 124 rfl) (fun _ hZ => notFace_of_selects (args := #[]) (mvT hZ (hq hw 126 rfl))) (hq hw 126 rfl) (hq hw 125 rfl) p0 (by decide) pd___B (ct_cod0 l Z a0 hw am (s := s) p1) rfl (by decide) (Nat.le_of_eq rfl) (by decide) rfl (by decide) (by decide) mems0 ?_
  intro fv1 h2 K3 fq4
  obtain ⟨rfl, rfl⟩ := fq4
  refine ⟨[], fresh0, ?_⟩
  show Go l _ Z _ _ _ κ _ _ 9 _ [(.int 0), (.int 3)] 0 0
  refine go_ishr C 10 (3 : Int32) d23_9 rfl (by decide) ?_
  refine go_retI C d23_10 rfl (by decide) (by decide) ?_
  exact ⟨rfl, rfl⟩
theorem ct_cod1 (l : Launch) (Z : State) (a0 : Array Value) (hw : HW a0 Z) {cS : Int32} {fm : Value} {ub : Addr} (am : Amb Z a0 cS fm ub) {s : Addr} {h0 : Heap} (p0 : Fld Z h0 s "java/lang/String" "coder" "B" (.int 1)) :
    Py l Z (⟨"java/lang/String", "coder", "()B"⟩ : MethodName) 1 12 0 0 #[(.ref s)] h0 [] (fun rv h' => rv = some (.int 1) ∧ h' = h0) := by
  refine Ct.py (by0 := jdk_42_method_152_code) (ml := 1) (rt := (some .byte)) (rm := ({ frames := 0, cells := 0, slots := 0, locals := 0 } : Room)) ?_ (hq hw 127 rfl) (hq hw 8 rfl)
  refine Ct.mk (a0 := a0) (Ls := #[.val (.ref s)]) (plainFor_of_name pn_java_lang_String) (fun m => by first | (simp [entryFrame, mkF, argsToLocals, Value.category]; done) | rfl) ?_
  intro κ C
  show Go l _ Z _ _ _ κ [] h0 0 #[.val (.ref s)] [] 0 0
  refine go_getS C 3 d24_0 rfl (hq hw 73 rfl) am.2.1 ?_
  refine go_ifN C 6 d24_3 rfl (feq (am.2.2.1 : ¬ (cS = (0 : Int32)))).1 ?_
  refine go_aloadN C 7 d24_6 rfl rfl rfl ?_
  refine go_getF C 10 d24_7 rfl (hq hw 27 rfl) Via.refl p0 ?_
  refine go_goto C (pc' := 14) d24_10 (by decide) (by decide) ?_
  refine go_retN C (t := .byte) (z := (1 : Int32)) d24_14 rfl (by decide) (by decide) (by decide) (by decide) ?_
  exact ⟨rfl, rfl⟩
theorem ct_len1_1 (l : Launch) (Z : State) (a0 : Array Value) (hw : HW a0 Z) {cS : Int32} {fm : Value} {ub : Addr} (am : Amb Z a0 cS fm ub) {s : Addr} {t : Addr} {kB : ClassId} {vs : List Value} {h0 : Heap} (p0 : Exa Z h0 s "java/lang/String") (p1 : Fld Z h0 s "java/lang/String" "coder" "B" (.int 1)) (p2 : Fld Z h0 s "java/lang/String" "value" "[B" (.ref t)) (p3 : Arv Z h0 t kB .byte (2 : Int32) vs (.int 0)) :
    Py l Z (⟨"java/lang/String", "length", "()I"⟩ : MethodName) 2 25 0 0 #[(.ref s)] h0 [] (fun rv h' => rv = some (.int 1) ∧ h' = h0) := by
  refine Ct.py (by0 := jdk_42_method_54_code) (ml := 1) (rt := (some .int)) (rm := ({ frames := 1, cells := 0, slots := 0, locals := 13 } : Room)) ?_ (hq hw 122 rfl) (hq hw 8 rfl)
  refine Ct.mk (a0 := a0) (Ls := #[.val (.ref s)]) (plainFor_of_name pn_java_lang_String) (fun m => by first | (simp [entryFrame, mkF, argsToLocals, Value.category]; done) | rfl) ?_
  intro κ C
  show Go l _ Z _ _ _ κ [] h0 0 #[.val (.ref s)] [] 0 0
  refine go_aloadN C 1 d23_0 rfl rfl rfl ?_
  refine go_getF C 4 d23_1 rfl (hq hw 26 rfl) Via.refl p2 ?_
  refine go_arraylength C 5 d23_4 rfl p3 ?_
  refine go_aloadN C 6 d23_5 rfl rfl rfl ?_
  refine go_callV C (a := s) (argsL := []) (W := 1) d23_6 (hq hw 123 rfl) (hq hw 124 rfl) (fun _ hZ => notFace_of_selects (args := #[]) (mvT hZ (hq hw 126 rfl))) (hq hw 126 rfl) (hq hw 125 rfl) p0 (by decide) pd___B (ct_cod1 l Z a0 hw am (s := s) p1) rfl (by decide) (Nat.le_of_eq rfl) (by decide) rfl (by decide) (by decide) mems0 ?_
  intro fv1 h2 K3 fq4
  obtain ⟨rfl, rfl⟩ := fq4
  refine ⟨[], fresh0, ?_⟩
  show Go l _ Z _ _ _ κ _ _ 9 _ [(.int 1), (.int 2)] 0 0
  refine go_ishr C 10 (1 : Int32) d23_9 rfl (by decide) ?_
  refine go_retI C d23_10 rfl (by decide) (by decide) ?_
  exact ⟨rfl, rfl⟩
theorem ct_len1_2 (l : Launch) (Z : State) (a0 : Array Value) (hw : HW a0 Z) {cS : Int32} {fm : Value} {ub : Addr} (am : Amb Z a0 cS fm ub) {s : Addr} {t : Addr} {kB : ClassId} {vs : List Value} {h0 : Heap} (p0 : Exa Z h0 s "java/lang/String") (p1 : Fld Z h0 s "java/lang/String" "coder" "B" (.int 1)) (p2 : Fld Z h0 s "java/lang/String" "value" "[B" (.ref t)) (p3 : Arv Z h0 t kB .byte (4 : Int32) vs (.int 0)) :
    Py l Z (⟨"java/lang/String", "length", "()I"⟩ : MethodName) 2 25 0 0 #[(.ref s)] h0 [] (fun rv h' => rv = some (.int 2) ∧ h' = h0) := by
  refine Ct.py (by0 := jdk_42_method_54_code) (ml := 1) (rt := (some .int)) (rm := ({ frames := 1, cells := 0, slots := 0, locals := 13 } : Room)) ?_ (hq hw 122 rfl) (hq hw 8 rfl)
  refine Ct.mk (a0 := a0) (Ls := #[.val (.ref s)]) (plainFor_of_name pn_java_lang_String) (fun m => by first | (simp [entryFrame, mkF, argsToLocals, Value.category]; done) | rfl) ?_
  intro κ C
  show Go l _ Z _ _ _ κ [] h0 0 #[.val (.ref s)] [] 0 0
  refine go_aloadN C 1 d23_0 rfl rfl rfl ?_
  refine go_getF C 4 d23_1 rfl (hq hw 26 rfl) Via.refl p2 ?_
  refine go_arraylength C 5 d23_4 rfl p3 ?_
  refine go_aloadN C 6 d23_5 rfl rfl rfl ?_
  refine go_callV C (a := s) (argsL := []) (W := 1) d23_6 (hq hw 123 rfl) (hq hw 124 rfl) (fun _ hZ => notFace_of_selects (args := #[]) (mvT hZ (hq hw 126 rfl))) (hq hw 126 rfl) (hq hw 125 rfl) p0 (by decide) pd___B (ct_cod1 l Z a0 hw am (s := s) p1) rfl (by decide) (Nat.le_of_eq rfl) (by decide) rfl (by decide) (by decide) mems0 ?_
  intro fv1 h2 K3 fq4
  obtain ⟨rfl, rfl⟩ := fq4
  refine ⟨[], fresh0, ?_⟩
  show Go l _ Z _ _ _ κ _ _ 9 _ [(.int 1), (.int 4)] 0 0
  refine go_ishr C 10 (2 : Int32) d23_9 rfl (by decide) ?_
  refine go_retI C d23_10 rfl (by decide) (by decide) ?_
  exact ⟨rfl, rfl⟩
theorem ct_len1_3 (l : Launch) (Z : State) (a0 : Array Value) (hw : HW a0 Z) {cS : Int32} {fm : Value} {ub : Addr} (am : Amb Z a0 cS fm ub) {s : Addr} {t : Addr} {kB : ClassId} {vs : List Value} {h0 : Heap} (p0 : Exa Z h0 s "java/lang/String") (p1 : Fld Z h0 s "java/lang/String" "coder" "B" (.int 1)) (p2 : Fld Z h0 s "java/lang/String" "value" "[B" (.ref t)) (p3 : Arv Z h0 t kB .byte (6 : Int32) vs (.int 0)) :
    Py l Z (⟨"java/lang/String", "length", "()I"⟩ : MethodName) 2 25 0 0 #[(.ref s)] h0 [] (fun rv h' => rv = some (.int 3) ∧ h' = h0) := by
  refine Ct.py (by0 := jdk_42_method_54_code) (ml := 1) (rt := (some .int)) (rm := ({ frames := 1, cells := 0, slots := 0, locals := 13 } : Room)) ?_ (hq hw 122 rfl) (hq hw 8 rfl)
  refine Ct.mk (a0 := a0) (Ls := #[.val (.ref s)]) (plainFor_of_name pn_java_lang_String) (fun m => by first | (simp [entryFrame, mkF, argsToLocals, Value.category]; done) | rfl) ?_
  intro κ C
  show Go l _ Z _ _ _ κ [] h0 0 #[.val (.ref s)] [] 0 0
  refine go_aloadN C 1 d23_0 rfl rfl rfl ?_
  refine go_getF C 4 d23_1 rfl (hq hw 26 rfl) Via.refl p2 ?_
  refine go_arraylength C 5 d23_4 rfl p3 ?_
  refine go_aloadN C 6 d23_5 rfl rfl rfl ?_
  refine go_callV C (a := s) (argsL := []) (W := 1) d23_6 (hq hw 123 rfl) (hq hw 124 rfl) (fun _ hZ => notFace_of_selects (args := #[]) (mvT hZ (hq hw 126 rfl))) (hq hw 126 rfl) (hq hw 125 rfl) p0 (by decide) pd___B (ct_cod1 l Z a0 hw am (s := s) p1) rfl (by decide) (Nat.le_of_eq rfl) (by decide) rfl (by decide) (by decide) mems0 ?_
  intro fv1 h2 K3 fq4
  obtain ⟨rfl, rfl⟩ := fq4
  refine ⟨[], fresh0, ?_⟩
  show Go l _ Z _ _ _ κ _ _ 9 _ [(.int 1), (.int 6)] 0 0
  refine go_ishr C 10 (3 : Int32) d23_9 rfl (by decide) ?_
  refine go_retI C d23_10 rfl (by decide) (by decide) ?_
  exact ⟨rfl, rfl⟩
theorem ct_isl0 (l : Launch) (Z : State) (a0 : Array Value) (hw : HW a0 Z) {cS : Int32} {fm : Value} {ub : Addr} (am : Amb Z a0 cS fm ub) {s : Addr} {h0 : Heap} (p0 : Fld Z h0 s "java/lang/String" "coder" "B" (.int 0)) :
    Py l Z (⟨"java/lang/String", "isLatin1", "()Z"⟩ : MethodName) 1 12 0 0 #[(.ref s)] h0 [] (fun rv h' => rv = some (.int 1) ∧ h' = h0) := by
  refine Ct.py (by0 := jdk_42_method_154_code) (ml := 1) (rt := (some .boolean)) (rm := ({ frames := 0, cells := 0, slots := 0, locals := 0 } : Room)) ?_ (hq hw 117 rfl) (hq hw 8 rfl)
  refine Ct.mk (a0 := a0) (Ls := #[.val (.ref s)]) (plainFor_of_name pn_java_lang_String) (fun m => by first | (simp [entryFrame, mkF, argsToLocals, Value.category]; done) | rfl) ?_
  intro κ C
  show Go l _ Z _ _ _ κ [] h0 0 #[.val (.ref s)] [] 0 0
  refine go_getS C 3 d22_0 rfl (hq hw 73 rfl) am.2.1 ?_
  refine go_ifN C 6 d22_3 rfl (feq (am.2.2.1 : ¬ (cS = (0 : Int32)))).1 ?_
  refine go_aloadN C 7 d22_6 rfl rfl rfl ?_
  refine go_getF C 10 d22_7 rfl (hq hw 27 rfl) Via.refl p0 ?_
  refine go_ifN C 13 d22_10 rfl (teq ((by decide) : (0 : Int32) = (0 : Int32))).2 ?_
  refine go_iconst C 14 (1 : Int32) d22_13 rfl (by decide) ?_
  refine go_goto C (pc' := 18) d22_14 (by decide) (by decide) ?_
  refine go_retN C (t := .boolean) (z := (1 : Int32)) d22_18 rfl (by decide) (by decide) (by decide) (by decide) ?_
  exact ⟨rfl, rfl⟩
theorem ct_isl1 (l : Launch) (Z : State) (a0 : Array Value) (hw : HW a0 Z) {cS : Int32} {fm : Value} {ub : Addr} (am : Amb Z a0 cS fm ub) {s : Addr} {h0 : Heap} (p0 : Fld Z h0 s "java/lang/String" "coder" "B" (.int 1)) :
    Py l Z (⟨"java/lang/String", "isLatin1", "()Z"⟩ : MethodName) 1 12 0 0 #[(.ref s)] h0 [] (fun rv h' => rv = some (.int 0) ∧ h' = h0) := by
  refine Ct.py (by0 := jdk_42_method_154_code) (ml := 1) (rt := (some .boolean)) (rm := ({ frames := 0, cells := 0, slots := 0, locals := 0 } : Room)) ?_ (hq hw 117 rfl) (hq hw 8 rfl)
  refine Ct.mk (a0 := a0) (Ls := #[.val (.ref s)]) (plainFor_of_name pn_java_lang_String) (fun m => by first | (simp [entryFrame, mkF, argsToLocals, Value.category]; done) | rfl) ?_
  intro κ C
  show Go l _ Z _ _ _ κ [] h0 0 #[.val (.ref s)] [] 0 0
  refine go_getS C 3 d22_0 rfl (hq hw 73 rfl) am.2.1 ?_
  refine go_ifN C 6 d22_3 rfl (feq (am.2.2.1 : ¬ (cS = (0 : Int32)))).1 ?_
  refine go_aloadN C 7 d22_6 rfl rfl rfl ?_
  refine go_getF C 10 d22_7 rfl (hq hw 27 rfl) Via.refl p0 ?_
  refine go_ifY C (pc' := 17) d22_10 (feq ((by decide) : ¬ ((1 : Int32) = (0 : Int32)))).2 (by decide) (by decide) ?_
  refine go_iconst C 18 (0 : Int32) d22_17 rfl (by decide) ?_
  refine go_retN C (t := .boolean) (z := (0 : Int32)) d22_18 rfl (by decide) (by decide) (by decide) (by decide) ?_
  exact ⟨rfl, rfl⟩
theorem ct_nz (l : Launch) (Z : State) (a0 : Array Value) (hw : HW a0 Z) {cS : Int32} {fm : Value} {ub : Addr} (am : Amb Z a0 cS fm ub) {x : Int32} {h0 : Heap} :
    Py l Z (⟨"com/example/holdfast/holdfast/sasl/Gs2HeaderWithoutChannelBindingPinLaw", "nz", "(I)C"⟩ : MethodName) 1 12 0 0 #[(.int x)] h0 [] (fun rv h' => ∃ (c : Int32), rv = some (.int c) ∧ h' = h0 ∧ (Chr c) ∧ (¬ c = 0)) := by
  refine Ct.py (by0 := method_3_code) (ml := 1) (rt := (some .char)) (rm := ({ frames := 0, cells := 0, slots := 0, locals := 0 } : Room)) ?_ (hq hw 3 rfl) (hq hw 2 rfl)
  refine Ct.mk (a0 := a0) (Ls := #[.val (.int x)]) (plainFor_of_name pn_com_example_holdfast_holdfast_sasl_Gs2HeaderWithoutChannelBindingPinLaw) (fun m => by first | (simp [entryFrame, mkF, argsToLocals, Value.category]; done) | rfl) ?_
  intro κ C
  show Go l _ Z _ _ _ κ [] h0 0 #[.val (.int x)] [] 0 0
  refine go_iconst C 1 (1 : Int32) d1_0 rfl (by decide) ?_
  refine go_iloadN C 2 d1_1 rfl rfl ?_
  refine go_ldcInt C 4 (v := (2147483647 : Int32)) d1_2 rfl (hq hw 4 rfl) ?_
  refine go_iand C 5 (x &&& (2147483647 : Int32)) d1_4 rfl rfl ?_
  refine go_ldcInt C 7 (v := (65535 : Int32)) d1_5 rfl (hq hw 5 rfl) ?_
  refine go_irem C 8 ((x &&& (2147483647 : Int32)) % (65535 : Int32)) d1_7 rfl (by decide) rfl ?_
  refine go_iadd C 9 ((1 : Int32) + ((x &&& (2147483647 : Int32)) % (65535 : Int32))) d1_8 rfl rfl ?_
  refine go_i2c C 10 (nzc x) d1_9 rfl (nzc_i2c x) ?_
  refine go_retN C (t := .char) (z := (nzc x)) d1_10 rfl (by decide) (nzc_chr x).1.nar (by decide) (by decide) ?_
  exact ⟨(nzc x), rfl, rfl, (nzc_chr x).1, (nzc_chr x).2⟩
theorem ct_cft (l : Launch) (Z : State) (a0 : Array Value) (hw : HW a0 Z) {cS : Int32} {fm : Value} {ub : Addr} (am : Amb Z a0 cS fm ub) {i : Int32} {j : Int32} {n : Int32} {h0 : Heap} (h1 : ¬ (i < (0 : Int32))) (h2 : ¬ (j < i)) (h3 : ¬ (n < j)) :
    Py l Z (⟨"jdk/internal/util/Preconditions", "checkFromToIndex", "(IIILjava/util/function/BiFunction;)I"⟩ : MethodName) 1 15 0 0 #[(.int i), (.int j), (.int n), fm] h0 [] (fun rv h' => rv = some (.int i) ∧ h' = h0) := by
  refine Ct.py (by0 := jdk_41_method_12_code) (ml := 4) (rt := (some .int)) (rm := ({ frames := 0, cells := 0, slots := 0, locals := 0 } : Room)) ?_ (hq hw 155 rfl) (hq hw 152 rfl)
  refine Ct.mk (a0 := a0) (Ls := #[.val (.int i), .val (.int j), .val (.int n), .val fm]) (plainFor_of_name pn_jdk_internal_util_Preconditions) (fun m => by rcases ref_cases am.2.2.2.2.2.2.2.1 with e | ⟨q, e⟩ <;> (subst e; first | (simp [entryFrame, mkF, argsToLocals, Value.category]; done) | rfl)) ?_
  intro κ C
  show Go l _ Z _ _ _ κ [] h0 0 #[.val (.int i), .val (.int j), .val (.int n), .val fm] [] 0 0
  refine go_iloadN C 1 d32_0 rfl rfl ?_
  refine go_ifN C 4 d32_1 rfl (flt (h1 : ¬ (i < (0 : Int32)))).1 ?_
  refine go_iloadN C 5 d32_4 rfl rfl ?_
  refine go_iloadN C 6 d32_5 rfl rfl ?_
  refine go_icmpN C 9 d32_6 rfl (flt (h2 : ¬ (j < i))).2.2.1 ?_
  refine go_iloadN C 10 d32_9 rfl rfl ?_
  refine go_iloadN C 11 d32_10 rfl rfl ?_
  refine go_icmpY C (pc' := 22) d32_11 (flt (h3 : ¬ (n < j))).2.2.2 (by decide) (by decide) ?_
  refine go_iloadN C 23 d32_22 rfl rfl ?_
  refine go_retI C d32_23 rfl (by decide) (by decide) ?_
  exact ⟨rfl, rfl⟩
theorem ct_cbe (l : Launch) (Z : State) (a0 : Array Value) (hw : HW a0 Z) {cS : Int32} {fm : Value} {ub : Addr} (am : Amb Z a0 cS fm ub) {i : Int32} {j : Int32} {n : Int32} {h0 : Heap} (h1 : ¬ (i < (0 : Int32))) (h2 : ¬ (j < i)) (h3 : ¬ (n < j)) :
    Py l Z (⟨"java/lang/String", "checkBoundsBeginEnd", "(III)V"⟩ : MethodName) 2 29 0 0 #[(.int i), (.int j), (.int n)] h0 [] (fun rv h' => rv = none ∧ h' = h0) := by
  refine Ct.py (by0 := jdk_42_method_158_code) (ml := 3) (rt := none) (rm := ({ frames := 1, cells := 0, slots := 0, locals := 15 } : Room)) ?_ (hq hw 150 rfl) (hq hw 8 rfl)
  refine Ct.mk (a0 := a0) (Ls := #[.val (.int i), .val (.int j), .val (.int n)]) (plainFor_of_name pn_java_lang_String) (fun m => by first | (simp [entryFrame, mkF, argsToLocals, Value.category]; done) | rfl) ?_
  intro κ C
  show Go l _ Z _ _ _ κ [] h0 0 #[.val (.int i), .val (.int j), .val (.int n)] [] 0 0
  refine go_iloadN C 1 d31_0 rfl rfl ?_
  refine go_iloadN C 2 d31_1 rfl rfl ?_
  refine go_iloadN C 3 d31_2 rfl rfl ?_
  refine go_getS C 6 d31_3 rfl (hq hw 151 rfl) am.2.2.2.2.2.2.1 ?_
  refine go_callS C (argsL := [(.int i), (.int j), (.int n), fm]) (W := 0) d31_6 (hq hw 153 rfl) (hq hw 154 rfl) (hq hw 152 rfl) (hq hw 155 rfl) (by decide) pd__IIILjava_util_function_BiFunction__I (ct_cft l Z a0 hw am (i := i) (j := j) (n := n) h1 h2 h3) rfl (by decide) (Nat.le_of_eq rfl) (by decide) rfl (by decide) (by decide) mems0 ?_
  intro fv1 h2 K3 fq4
  obtain ⟨rfl, rfl⟩ := fq4
  refine ⟨[], fresh0, ?_⟩
  show Go l _ Z _ _ _ κ _ _ 9 _ [(.int i)] 0 0
  refine go_pop C 10 d31_9 rfl rfl ?_
  refine go_ret C d31_10 rfl (by decide) (by decide) ?_
  exact ⟨rfl, rfl⟩
theorem ct_max0 (l : Launch) (Z : State) (a0 : Array Value) (hw : HW a0 Z) {cS : Int32} {fm : Value} {ub : Addr} (am : Amb Z a0 cS fm ub) {h0 : Heap} :
    Py l Z (⟨"java/lang/Math", "max", "(II)I"⟩ : MethodName) 1 13 0 0 #[(.int 0), (.int 0)] h0 [] (fun rv h' => rv = some (.int 0) ∧ h' = h0) := by
  refine Ct.py (by0 := jdk_29_method_65_code) (ml := 2) (rt := (some .int)) (rm := ({ frames := 0, cells := 0, slots := 0, locals := 0 } : Room)) ?_ (hq hw 134 rfl) (hq hw 133 rfl)
  refine Ct.mk (a0 := a0) (Ls := #[.val (.int 0), .val (.int 0)]) (Jvm.Free.JP.mathPlain rfl (by decide +kernel)) (fun m => by first | (simp [entryFrame, mkF, argsToLocals, Value.category]; done) | rfl) ?_
  intro κ C
  show Go l _ Z _ _ _ κ [] h0 0 #[.val (.int 0), .val (.int 0)] [] 0 0
  refine go_iloadN C 1 d26_0 rfl rfl ?_
  refine go_iloadN C 2 d26_1 rfl rfl ?_
  refine go_icmpN C 5 d26_2 rfl (flt ((by decide) : ¬ ((0 : Int32) < (0 : Int32)))).1 ?_
  refine go_iloadN C 6 d26_5 rfl rfl ?_
  refine go_goto C (pc' := 10) d26_6 (by decide) (by decide) ?_
  refine go_retI C d26_10 rfl (by decide) (by decide) ?_
  exact ⟨rfl, rfl⟩
theorem ct_min1 (l : Launch) (Z : State) (a0 : Array Value) (hw : HW a0 Z) {cS : Int32} {fm : Value} {ub : Addr} (am : Amb Z a0 cS fm ub) {h0 : Heap} :
    Py l Z (⟨"java/lang/Math", "min", "(II)I"⟩ : MethodName) 1 13 0 0 #[(.int 1), (.int 1)] h0 [] (fun rv h' => rv = some (.int 1) ∧ h' = h0) := by
  refine Ct.py (by0 := jdk_29_method_69_code) (ml := 2) (rt := (some .int)) (rm := ({ frames := 0, cells := 0, slots := 0, locals := 0 } : Room)) ?_ (hq hw 137 rfl) (hq hw 133 rfl)
  refine Ct.mk (a0 := a0) (Ls := #[.val (.int 1), .val (.int 1)]) (Jvm.Free.JP.mathPlain rfl (by decide +kernel)) (fun m => by first | (simp [entryFrame, mkF, argsToLocals, Value.category]; done) | rfl) ?_
  intro κ C
  show Go l _ Z _ _ _ κ [] h0 0 #[.val (.int 1), .val (.int 1)] [] 0 0
  refine go_iloadN C 1 d27_0 rfl rfl ?_
  refine go_iloadN C 2 d27_1 rfl rfl ?_
  refine go_icmpN C 5 d27_2 rfl (flt ((by decide) : ¬ ((1 : Int32) < (1 : Int32)))).2.2.1 ?_
  refine go_iloadN C 6 d27_5 rfl rfl ?_
  refine go_goto C (pc' := 10) d27_6 (by decide) (by decide) ?_
  refine go_retI C d27_10 rfl (by decide) (by decide) ?_
  exact ⟨rfl, rfl⟩
theorem ct_min2 (l : Launch) (Z : State) (a0 : Array Value) (hw : HW a0 Z) {cS : Int32} {fm : Value} {ub : Addr} (am : Amb Z a0 cS fm ub) {h0 : Heap} :
    Py l Z (⟨"java/lang/Math", "min", "(II)I"⟩ : MethodName) 1 13 0 0 #[(.int 2), (.int 2)] h0 [] (fun rv h' => rv = some (.int 2) ∧ h' = h0) := by
  refine Ct.py (by0 := jdk_29_method_69_code) (ml := 2) (rt := (some .int)) (rm := ({ frames := 0, cells := 0, slots := 0, locals := 0 } : Room)) ?_ (hq hw 137 rfl) (hq hw 133 rfl)
  refine Ct.mk (a0 := a0) (Ls := #[.val (.int 2), .val (.int 2)]) (Jvm.Free.JP.mathPlain rfl (by decide +kernel)) (fun m => by first | (simp [entryFrame, mkF, argsToLocals, Value.category]; done) | rfl) ?_
  intro κ C
  show Go l _ Z _ _ _ κ [] h0 0 #[.val (.int 2), .val (.int 2)] [] 0 0
  refine go_iloadN C 1 d27_0 rfl rfl ?_
  refine go_iloadN C 2 d27_1 rfl rfl ?_
  refine go_icmpN C 5 d27_2 rfl (flt ((by decide) : ¬ ((2 : Int32) < (2 : Int32)))).2.2.1 ?_
  refine go_iloadN C 6 d27_5 rfl rfl ?_
  refine go_goto C (pc' := 10) d27_6 (by decide) (by decide) ?_
  refine go_retI C d27_10 rfl (by decide) (by decide) ?_
  exact ⟨rfl, rfl⟩
theorem ct_min3 (l : Launch) (Z : State) (a0 : Array Value) (hw : HW a0 Z) {cS : Int32} {fm : Value} {ub : Addr} (am : Amb Z a0 cS fm ub) {h0 : Heap} :
    Py l Z (⟨"java/lang/Math", "min", "(II)I"⟩ : MethodName) 1 13 0 0 #[(.int 3), (.int 3)] h0 [] (fun rv h' => rv = some (.int 3) ∧ h' = h0) := by
  refine Ct.py (by0 := jdk_29_method_69_code) (ml := 2) (rt := (some .int)) (rm := ({ frames := 0, cells := 0, slots := 0, locals := 0 } : Room)) ?_ (hq hw 137 rfl) (hq hw 133 rfl)
  refine Ct.mk (a0 := a0) (Ls := #[.val (.int 3), .val (.int 3)]) (Jvm.Free.JP.mathPlain rfl (by decide +kernel)) (fun m => by first | (simp [entryFrame, mkF, argsToLocals, Value.category]; done) | rfl) ?_
  intro κ C
  show Go l _ Z _ _ _ κ [] h0 0 #[.val (.int 3), .val (.int 3)] [] 0 0
  refine go_iloadN C 1 d27_0 rfl rfl ?_
  refine go_iloadN C 2 d27_1 rfl rfl ?_
  refine go_icmpN C 5 d27_2 rfl (flt ((by decide) : ¬ ((3 : Int32) < (3 : Int32)))).2.2.1 ?_
  refine go_iloadN C 6 d27_5 rfl rfl ?_
  refine go_goto C (pc' := 10) d27_6 (by decide) (by decide) ?_
  refine go_retI C d27_10 rfl (by decide) (by decide) ?_
  exact ⟨rfl, rfl⟩
theorem ct_cane (l : Launch) (Z : State) (a0 : Array Value) (hw : HW a0 Z) {cS : Int32} {fm : Value} {ub : Addr} (am : Amb Z a0 cS fm ub) {h0 : Heap} :
    Py l Z (⟨"java/lang/StringLatin1", "canEncode", "(I)Z"⟩ : MethodName) 1 12 0 0 #[(.int 0)] h0 [] (fun rv h' => rv = some (.int 1) ∧ h' = h0) := by
  refine Ct.py (by0 := jdk_43_method_4_code) (ml := 1) (rt := (some .boolean)) (rm := ({ frames := 0, cells := 0, slots := 0, locals := 0 } : Room)) ?_ (hq hw 170 rfl) (hq hw 166 rfl)
  refine Ct.mk (a0 := a0) (Ls := #[.val (.int 0)]) (plainFor_of_name pn_java_lang_StringLatin1) (fun m => by first | (simp [entryFrame, mkF, argsToLocals, Value.category]; done) | rfl) ?_
  intro κ C
  show Go l _ Z _ _ _ κ [] h0 0 #[.val (.int 0)] [] 0 0
  refine go_iloadN C 1 d36_0 rfl rfl ?_
  refine go_ifN C 4 d36_1 rfl (flt ((by decide) : ¬ ((0 : Int32) < (0 : Int32)))).1 ?_
  refine go_iloadN C 5 d36_4 rfl rfl ?_
  refine go_sipush C 8 (255 : Int32) d36_5 rfl (by decide) ?_
  refine go_icmpN C 11 d36_8 rfl (flt ((by decide) : ¬ ((255 : Int32) < (0 : Int32)))).2.2.1 ?_
  refine go_iconst C 12 (1 : Int32) d36_11 rfl (by decide) ?_
  refine go_goto C (pc' := 16) d36_12 (by decide) (by decide) ?_
  refine go_retN C (t := .boolean) (z := (1 : Int32)) d36_16 rfl (by decide) (by decide) (by decide) (by decide) ?_
  exact ⟨rfl, rfl⟩
theorem ct_ulen1 (l : Launch) (Z : State) (a0 : Array Value) (hw : HW a0 Z) {cS : Int32} {fm : Value} {ub : Addr} (am : Amb Z a0 cS fm ub) {t : Addr} {kB : ClassId} {vs : List Value} {h0 : Heap} (p0 : Arv Z h0 t kB .byte (2 : Int32) vs (.int 0)) :
    Py l Z (⟨"java/lang/StringUTF16", "length", "([B)I"⟩ : MethodName) 1 12 0 0 #[(.ref t)] h0 [] (fun rv h' => rv = some (.int 1) ∧ h' = h0) := by
  refine Ct.py (by0 := jdk_52_method_6_code) (ml := 1) (rt := (some .int)) (rm := ({ frames := 0, cells := 0, slots := 0, locals := 0 } : Room)) ?_ (hq hw 147 rfl) (hq hw 76 rfl)
  refine Ct.mk (a0 := a0) (Ls := #[.val (.ref t)]) (plainFor_of_name pn_java_lang_StringUTF16) (fun m => by first | (simp [entryFrame, mkF, argsToLocals, Value.category]; done) | rfl) ?_
  intro κ C
  show Go l _ Z _ _ _ κ [] h0 0 #[.val (.ref t)] [] 0 0
  refine go_aloadN C 1 d30_0 rfl rfl rfl ?_
  refine go_arraylength C 2 d30_1 rfl p0 ?_
  refine go_iconst C 3 (1 : Int32) d30_2 rfl (by decide) ?_
  refine go_ishr C 4 (1 : Int32) d30_3 rfl (by decide) ?_
  refine go_retI C d30_4 rfl (by decide) (by decide) ?_
  exact ⟨rfl, rfl⟩
theorem ct_ucb1 (l : Launch) (Z : State) (a0 : Array Value) (hw : HW a0 Z) {cS : Int32} {fm : Value} {ub : Addr} (am : Amb Z a0 cS fm ub) {t : Addr} {kB : ClassId} {vs : List Value} {h0 : Heap} (p0 : Arv Z h0 t kB .byte (2 : Int32) vs (.int 0)) :
    Py l Z (⟨"java/lang/StringUTF16", "checkBoundsBeginEnd", "(II[B)V"⟩ : MethodName) 3 43 0 0 #[(.int 0), (.int 1), (.ref t)] h0 [] (fun rv h' => rv = none ∧ h' = h0) := by
  refine Ct.py (by0 := jdk_52_method_93_code) (ml := 3) (rt := none) (rm := ({ frames := 2, cells := 0, slots := 0, locals := 29 } : Room)) ?_ (hq hw 144 rfl) (hq hw 76 rfl)
  refine Ct.mk (a0 := a0) (Ls := #[.val (.int 0), .val (.int 1), .val (.ref t)]) (plainFor_of_name pn_java_lang_StringUTF16) (fun m => by first | (simp [entryFrame, mkF, argsToLocals, Value.category]; done) | rfl) ?_
  intro κ C
  show Go l _ Z _ _ _ κ [] h0 0 #[.val (.int 0), .val (.int 1), .val (.ref t)] [] 0 0
  refine go_iloadN C 1 d29_0 rfl rfl ?_
  refine go_iloadN C 2 d29_1 rfl rfl ?_
  refine go_aloadN C 3 d29_2 rfl rfl rfl ?_
  refine go_callS C (argsL := [(.ref t)]) (W := 2) d29_3 (hq hw 145 rfl) (hq hw 146 rfl) (hq hw 76 rfl) (hq hw 147 rfl) (by decide) pd___B_I (ct_ulen1 l Z a0 hw am (t := t) (kB := kB) (vs := vs) p0) rfl (by decide) (Nat.le_of_eq rfl) (by decide) rfl (by decide) (by decide) mems0 ?_
  intro fv1 h2 K3 fq4
  obtain ⟨rfl, rfl⟩ := fq4
  refine ⟨[], fresh0, ?_⟩
  show Go l _ Z _ _ _ κ _ _ 6 _ [(.int 1), (.int 1), (.int 0)] 0 0
  refine go_callS C (argsL := [(.int 0), (.int 1), (.int 1)]) (W := 0) d29_6 (hq hw 148 rfl) (hq hw 149 rfl) (hq hw 8 rfl) (hq hw 150 rfl) (by decide) pd__III_V (ct_cbe l Z a0 hw am (i := (0 : Int32)) (j := (1 : Int32)) (n := (1 : Int32)) (by decide) (by decide) (by decide)) rfl (by decide) (Nat.le_of_eq rfl) (by decide) rfl (by decide) (by decide) mems0 ?_
  intro fv5 h6 K7 fq8
  obtain ⟨rfl, rfl⟩ := fq8
  refine ⟨[], fresh0, ?_⟩
  show Go l _ Z _ _ _ κ _ _ 9 _ [] 0 0
  refine go_ret C d29_9 rfl (by decide) (by decide) ?_
  exact ⟨rfl, rfl⟩
theorem ct_uiu1 (l : Launch) (Z : State) (a0 : Array Value) (hw : HW a0 Z) {cS : Int32} {fm : Value} {ub : Addr} (am : Amb Z a0 cS fm ub) {t : Addr} {kB : ClassId} {c0 : Int32} {h0 : Heap} (p0 : Arv Z h0 t kB .byte (2 : Int32) [(.int (lo8 c0)), (.int (hi8 c0))] (.int 0)) (r0 : Chr c0) (z0 : ¬ c0 = 0) :
    Py l Z (⟨"java/lang/StringUTF16", "indexOfCharUnsafe", "([BIII)I"⟩ : MethodName) 2 29 0 0 #[(.ref t), (.int 0), (.int 0), (.int 1)] h0 [] (fun rv h' => rv = some (.int (-1 : Int32)) ∧ h' = h0) := by
  refine Ct.py (by0 := jdk_52_method_48_code) (ml := 5) (rt := (some .int)) (rm := ({ frames := 1, cells := 0, slots := 0, locals := 13 } : Room)) ?_ (hq hw 158 rfl) (hq hw 76 rfl)
  refine Ct.mk (a0 := a0) (Ls := #[.val (.ref t), .val (.int 0), .val (.int 0), .val (.int 1), .unset]) (plainFor_of_name pn_java_lang_StringUTF16) (fun m => by first | (simp [entryFrame, mkF, argsToLocals, Value.category]; done) | rfl) ?_
  intro κ C
  show Go l _ Z _ _ _ κ [] h0 0 #[.val (.ref t), .val (.int 0), .val (.int 0), .val (.int 1), .unset] [] 0 0
  refine go_iloadN C 1 d33_0 rfl rfl ?_
  refine go_istore C 3 (Ls' := #[.val (.ref t), .val (.int 0), .val (.int 0), .val (.int 1), .val (.int 0)]) d33_1 rfl rfl ?_
  refine go_iload C 5 d33_3 rfl rfl ?_
  refine go_iloadN C 6 d33_5 rfl rfl ?_
  refine go_icmpN C 9 d33_6 rfl (tlt ((by decide) : (0 : Int32) < (1 : Int32))).2.1 ?_
  refine go_aloadN C 10 d33_9 rfl rfl rfl ?_
  refine go_iload C 12 d33_10 rfl rfl ?_
  refine go_callS C (argsL := [(.ref t), (.int 0)]) (W := 0) d33_12 (hq hw 97 rfl) (hq hw 98 rfl) (hq hw 76 rfl) (hq hw 99 rfl) (by decide) pd___BI_C (ct_get1_0 l Z a0 hw am (t := t) (kB := kB) (c0 := c0) p0 r0) rfl (by decide) (Nat.le_of_eq rfl) (by decide) rfl (by decide) (by decide) mems0 ?_
  intro fv1 h2 K3 fq4
  obtain ⟨rfl, rfl⟩ := fq4
  refine ⟨[], fresh0, ?_⟩
  show Go l _ Z _ _ _ κ _ _ 15 _ [(.int c0)] 0 0
  refine go_iloadN C 16 d33_15 rfl rfl ?_
  refine go_icmpY C (pc' := 22) d33_16 (feq (z0 : ¬ (c0 = (0 : Int32)))).2 (by decide) (by decide) ?_
  refine go_iinc C 25 (Ls' := #[.val (.ref t), .val (.int 0), .val (.int 0), .val (.int 1), .val (.int 1)]) (1 : Int32) d33_22 rfl (by decide) rfl rfl ?_
  refine go_goto C (pc' := 3) d33_25 (by decide) (by decide) ?_
  refine go_iload C 5 d33_3 rfl rfl ?_
  refine go_iloadN C 6 d33_5 rfl rfl ?_
  refine go_icmpY C (pc' := 28) d33_6 (flt ((by decide) : ¬ ((1 : Int32) < (1 : Int32)))).2.1 (by decide) (by decide) ?_
  refine go_iconst C 29 (-1 : Int32) d33_28 rfl (by decide) ?_
  refine go_retI C d33_29 rfl (by decide) (by decide) ?_
  exact ⟨rfl, rfl⟩
theorem ct_uic1 (l : Launch) (Z : State) (a0 : Array Value) (hw : HW a0 Z) {cS : Int32} {fm : Value} {ub : Addr} (am : Amb Z a0 cS fm ub) {t : Addr} {kB : ClassId} {c0 : Int32} {h0 : Heap} (p0 : Arv Z h0 t kB .byte (2 : Int32) [(.int (lo8 c0)), (.int (hi8 c0))] (.int 0)) (r0 : Chr c0) (z0 : ¬ c0 = 0) :
    Py l Z (⟨"java/lang/StringUTF16", "indexOfChar", "([BIII)I"⟩ : MethodName) 4 58 0 0 #[(.ref t), (.int 0), (.int 0), (.int 1)] h0 [] (fun rv h' => rv = some (.int (-1 : Int32)) ∧ h' = h0) := by
  refine Ct.py (by0 := jdk_52_method_47_code) (ml := 4) (rt := (some .int)) (rm := ({ frames := 3, cells := 0, slots := 0, locals := 43 } : Room)) ?_ (hq hw 141 rfl) (hq hw 76 rfl)
  refine Ct.mk (a0 := a0) (Ls := #[.val (.ref t), .val (.int 0), .val (.int 0), .val (.int 1)]) (plainFor_of_name pn_java_lang_StringUTF16) (fun m => by first | (simp [entryFrame, mkF, argsToLocals, Value.category]; done) | rfl) ?_
  intro κ C
  show Go l _ Z _ _ _ κ [] h0 0 #[.val (.ref t), .val (.int 0), .val (.int 0), .val (.int 1)] [] 0 0
  refine go_iloadN C 1 d28_0 rfl rfl ?_
  refine go_iloadN C 2 d28_1 rfl rfl ?_
  refine go_aloadN C 3 d28_2 rfl rfl rfl ?_
  refine go_callS C (argsL := [(.int 0), (.int 1), (.ref t)]) (W := 0) d28_3 (hq hw 142 rfl) (hq hw 143 rfl) (hq hw 76 rfl) (hq hw 144 rfl) (by decide) pd__II_B_V (ct_ucb1 l Z a0 hw am (t := t) (kB := kB) (vs := [(.int (lo8 c0)), (.int (hi8 c0))]) p0) rfl (by decide) (Nat.le_of_eq rfl) (by decide) rfl (by decide) (by decide) mems0 ?_
  intro fv1 h2 K3 fq4
  obtain ⟨rfl, rfl⟩ := fq4
  refine ⟨[], fresh0, ?_⟩
  show Go l _ Z _ _ _ κ _ _ 6 _ [] 0 0
  refine go_aloadN C 7 d28_6 rfl rfl rfl ?_
  refine go_iloadN C 8 d28_7 rfl rfl ?_
  refine go_iloadN C 9 d28_8 rfl rfl ?_
  refine go_iloadN C 10 d28_9 rfl rfl ?_
  refine go_callS C (argsL := [(.ref t), (.int 0), (.int 0), (.int 1)]) (W := 0) d28_10 (hq hw 156 rfl) (hq hw 157 rfl) (hq hw 76 rfl) (hq hw 158 rfl) (by decide) pd___BIII_I (ct_uiu1 l Z a0 hw am (t := t) (kB := kB) (c0 := c0) p0 r0 z0) rfl (by decide) (Nat.le_of_eq rfl) (by decide) rfl (by decide) (by decide) mems0 ?_
  intro fv5 h6 K7 fq8
  obtain ⟨rfl, rfl⟩ := fq8
  refine ⟨[], fresh0, ?_⟩
  show Go l _ Z _ _ _ κ _ _ 13 _ [(.int (-1 : Int32))] 0 0
  refine go_retI C d28_13 rfl (by decide) (by decide) ?_
  exact ⟨rfl, rfl⟩
theorem ct_uix1 (l : Launch) (Z : State) (a0 : Array Value) (hw : HW a0 Z) {cS : Int32} {fm : Value} {ub : Addr} (am : Amb Z a0 cS fm ub) {t : Addr} {kB : ClassId} {c0 : Int32} {h0 : Heap} (p0 : Arv Z h0 t kB .byte (2 : Int32) [(.int (lo8 c0)), (.int (hi8 c0))] (.int 0)) (r0 : Chr c0) (z0 : ¬ c0 = 0) :
    Py l Z (⟨"java/lang/StringUTF16", "indexOf", "([BIII)I"⟩ : MethodName) 5 73 0 0 #[(.ref t), (.int 0), (.int 0), (.int 1)] h0 [] (fun rv h' => rv = some (.int (-1 : Int32)) ∧ h' = h0) := by
  refine Ct.py (by0 := jdk_52_method_40_code) (ml := 4) (rt := (some .int)) (rm := ({ frames := 4, cells := 0, slots := 0, locals := 58 } : Room)) ?_ (hq hw 130 rfl) (hq hw 76 rfl)
  refine Ct.mk (a0 := a0) (Ls := #[.val (.ref t), .val (.int 0), .val (.int 0), .val (.int 1)]) (plainFor_of_name pn_java_lang_StringUTF16) (fun m => by first | (simp [entryFrame, mkF, argsToLocals, Value.category]; done) | rfl) ?_
  intro κ C
  show Go l _ Z _ _ _ κ [] h0 0 #[.val (.ref t), .val (.int 0), .val (.int 0), .val (.int 1)] [] 0 0
  refine go_iloadN C 1 d25_0 rfl rfl ?_
  refine go_iconst C 2 (0 : Int32) d25_1 rfl (by decide) ?_
  refine go_callS C (argsL := [(.int 0), (.int 0)]) (W := 0) d25_2 (hq hw 131 rfl) (hq hw 132 rfl) (hq hw 133 rfl) (hq hw 134 rfl) (by decide) pd__II_I (ct_max0 l Z a0 hw am) rfl (by decide) (Nat.le_of_eq rfl) (by decide) rfl (by decide) (by decide) mems0 ?_
  intro fv1 h2 K3 fq4
  obtain ⟨rfl, rfl⟩ := fq4
  refine ⟨[], fresh0, ?_⟩
  show Go l _ Z _ _ _ κ _ _ 5 _ [(.int 0)] 0 0
  refine go_istoreN C 6 (Ls' := #[.val (.ref t), .val (.int 0), .val (.int 0), .val (.int 1)]) d25_5 rfl rfl ?_
  refine go_iloadN C 7 d25_6 rfl rfl ?_
  refine go_aloadN C 8 d25_7 rfl rfl rfl ?_
  refine go_arraylength C 9 d25_8 rfl p0 ?_
  refine go_iconst C 10 (1 : Int32) d25_9 rfl (by decide) ?_
  refine go_ishr C 11 (1 : Int32) d25_10 rfl (by decide) ?_
  refine go_callS C (argsL := [(.int 1), (.int 1)]) (W := 0) d25_11 (hq hw 135 rfl) (hq hw 136 rfl) (hq hw 133 rfl) (hq hw 137 rfl) (by decide) pd__II_I (ct_min1 l Z a0 hw am) rfl (by decide) (Nat.le_of_eq rfl) (by decide) rfl (by decide) (by decide) mems0 ?_
  intro fv5 h6 K7 fq8
  obtain ⟨rfl, rfl⟩ := fq8
  refine ⟨[], fresh0, ?_⟩
  show Go l _ Z _ _ _ κ _ _ 14 _ [(.int 1)] 0 0
  refine go_istoreN C 15 (Ls' := #[.val (.ref t), .val (.int 0), .val (.int 0), .val (.int 1)]) d25_14 rfl rfl ?_
  refine go_iloadN C 16 d25_15 rfl rfl ?_
  refine go_iloadN C 17 d25_16 rfl rfl ?_
  refine go_icmpY C (pc' := 22) d25_17 (tlt ((by decide) : (0 : Int32) < (1 : Int32))).1 (by decide) (by decide) ?_
  refine go_iloadN C 23 d25_22 rfl rfl ?_
  refine go_ldcInt C 25 (v := (65536 : Int32)) d25_23 rfl (hq hw 138 rfl) ?_
  refine go_icmpN C 28 d25_25 rfl (tlt ((by decide) : (0 : Int32) < (65536 : Int32))).2.1 ?_
  refine go_aloadN C 29 d25_28 rfl rfl rfl ?_
  refine go_iloadN C 30 d25_29 rfl rfl ?_
  refine go_iloadN C 31 d25_30 rfl rfl ?_
  refine go_iloadN C 32 d25_31 rfl rfl ?_
  refine go_callS C (argsL := [(.ref t), (.int 0), (.int 0), (.int 1)]) (W := 0) d25_32 (hq hw 139 rfl) (hq hw 140 rfl) (hq hw 76 rfl) (hq hw 141 rfl) (by decide) pd___BIII_I (ct_uic1 l Z a0 hw am (t := t) (kB := kB) (c0 := c0) p0 r0 z0) rfl (by decide) (Nat.le_of_eq rfl) (by decide) rfl (by decide) (by decide) mems0 ?_
  intro fv9 h10 K11 fq12
  obtain ⟨rfl, rfl⟩ := fq12
  refine ⟨[], fresh0, ?_⟩
  show Go l _ Z _ _ _ κ _ _ 35 _ [(.int (-1 : Int32))] 0 0
  refine go_retI C d25_35 rfl (by decide) (by decide) ?_
  exact ⟨rfl, rfl⟩
theorem ct_lic1 (l : Launch) (Z : State) (a0 : Array Value) (hw : HW a0 Z) {cS : Int32} {fm : Value} {ub : Addr} (am : Amb Z a0 cS fm ub) {t : Addr} {kB : ClassId} {c0 : Int32} {h0 : Heap} (p0 : Arv Z h0 t kB .byte (1 : Int32) [(.int (lo8 c0))] (.int 0)) (r0 : Chr c0) (z0 : ¬ c0 = 0) (l0 : ¬ (255 : Int32) < c0) :
    Py l Z (⟨"java/lang/StringLatin1", "indexOfChar", "([BIII)I"⟩ : MethodName) 1 17 0 0 #[(.ref t), (.int 0), (.int 0), (.int 1)] h0 [] (fun rv h' => rv = some (.int (-1 : Int32)) ∧ h' = h0) := by
  refine Ct.py (by0 := jdk_43_method_23_code) (ml := 6) (rt := (some .int)) (rm := ({ frames := 0, cells := 0, slots := 0, locals := 0 } : Room)) ?_ (hq hw 175 rfl) (hq hw 166 rfl)
  refine Ct.mk (a0 := a0) (Ls := #[.val (.ref t), .val (.int 0), .val (.int 0), .val (.int 1), .unset, .unset]) (plainFor_of_name pn_java_lang_StringLatin1) (fun m => by first | (simp [entryFrame, mkF, argsToLocals, Value.category]; done) | rfl) ?_
  intro κ C
  show Go l _ Z _ _ _ κ [] h0 0 #[.val (.ref t), .val (.int 0), .val (.int 0), .val (.int 1), .unset, .unset] [] 0 0
  refine go_iloadN C 1 d37_0 rfl rfl ?_
  refine go_i2b C 2 (0 : Int32) d37_1 rfl (by decide) ?_
  refine go_istore C 4 (Ls' := #[.val (.ref t), .val (.int 0), .val (.int 0), .val (.int 1), .val (.int 0), .unset]) d37_2 rfl rfl ?_
  refine go_iloadN C 5 d37_4 rfl rfl ?_
  refine go_istore C 7 (Ls' := #[.val (.ref t), .val (.int 0), .val (.int 0), .val (.int 1), .val (.int 0), .val (.int 0)]) d37_5 rfl rfl ?_
  refine go_iload C 9 d37_7 rfl rfl ?_
  refine go_iloadN C 10 d37_9 rfl rfl ?_
  refine go_icmpN C 13 d37_10 rfl (tlt ((by decide) : (0 : Int32) < (1 : Int32))).2.1 ?_
  refine go_aloadN C 14 d37_13 rfl rfl rfl ?_
  refine go_iload C 16 d37_14 rfl rfl ?_
  refine go_baload C 17 (v := (.int (lo8 c0))) d37_16 rfl p0 (by decide) rfl ?_
  refine go_iload C 19 d37_17 rfl rfl ?_
  refine go_icmpY C (pc' := 25) d37_19 (feq (lo8_nz r0.1 l0 z0 : ¬ ((lo8 c0) = (0 : Int32)))).2 (by decide) (by decide) ?_
  refine go_iinc C 28 (Ls' := #[.val (.ref t), .val (.int 0), .val (.int 0), .val (.int 1), .val (.int 0), .val (.int 1)]) (1 : Int32) d37_25 rfl (by decide) rfl rfl ?_
  refine go_goto C (pc' := 7) d37_28 (by decide) (by decide) ?_
  refine go_iload C 9 d37_7 rfl rfl ?_
  refine go_iloadN C 10 d37_9 rfl rfl ?_
  refine go_icmpY C (pc' := 31) d37_10 (flt ((by decide) : ¬ ((1 : Int32) < (1 : Int32)))).2.1 (by decide) (by decide) ?_
  refine go_iconst C 32 (-1 : Int32) d37_31 rfl (by decide) ?_
  refine go_retI C d37_32 rfl (by decide) (by decide) ?_
  exact ⟨rfl, rfl⟩
theorem ct_lix1 (l : Launch) (Z : State) (a0 : Array Value) (hw : HW a0 Z) {cS : Int32} {fm : Value} {ub : Addr} (am : Amb Z a0 cS fm ub) {t : Addr} {kB : ClassId} {c0 : Int32} {h0 : Heap} (p0 : Arv Z h0 t kB .byte (1 : Int32) [(.int (lo8 c0))] (.int 0)) (r0 : Chr c0) (z0 : ¬ c0 = 0) (l0 : ¬ (255 : Int32) < c0) :
    Py l Z (⟨"java/lang/StringLatin1", "indexOf", "([BIII)I"⟩ : MethodName) 2 32 0 0 #[(.ref t), (.int 0), (.int 0), (.int 1)] h0 [] (fun rv h' => rv = some (.int (-1 : Int32)) ∧ h' = h0) := by
  refine Ct.py (by0 := jdk_43_method_22_code) (ml := 4) (rt := (some .int)) (rm := ({ frames := 1, cells := 0, slots := 0, locals := 17 } : Room)) ?_ (hq hw 167 rfl) (hq hw 166 rfl)
  refine Ct.mk (a0 := a0) (Ls := #[.val (.ref t), .val (.int 0), .val (.int 0), .val (.int 1)]) (plainFor_of_name pn_java_lang_StringLatin1) (fun m => by first | (simp [entryFrame, mkF, argsToLocals, Value.category]; done) | rfl) ?_
  intro κ C
  show Go l _ Z _ _ _ κ [] h0 0 #[.val (.ref t), .val (.int 0), .val (.int 0), .val (.int 1)] [] 0 0
  refine go_iloadN C 1 d35_0 rfl rfl ?_
  refine go_callS C (argsL := [(.int 0)]) (W := 0) d35_1 (hq hw 168 rfl) (hq hw 169 rfl) (hq hw 166 rfl) (hq hw 170 rfl) (by decide) pd__I_Z (ct_cane l Z a0 hw am) rfl (by decide) (Nat.le_of_eq rfl) (by decide) rfl (by decide) (by decide) mems0 ?_
  intro fv1 h2 K3 fq4
  obtain ⟨rfl, rfl⟩ := fq4
  refine ⟨[], fresh0, ?_⟩
  show Go l _ Z _ _ _ κ _ _ 4 _ [(.int 1)] 0 0
  refine go_ifY C (pc' := 9) d35_4 (feq ((by decide) : ¬ ((1 : Int32) = (0 : Int32)))).2 (by decide) (by decide) ?_
  refine go_iloadN C 10 d35_9 rfl rfl ?_
  refine go_iconst C 11 (0 : Int32) d35_10 rfl (by decide) ?_
  refine go_callS C (argsL := [(.int 0), (.int 0)]) (W := 0) d35_11 (hq hw 171 rfl) (hq hw 132 rfl) (hq hw 133 rfl) (hq hw 134 rfl) (by decide) pd__II_I (ct_max0 l Z a0 hw am) rfl (by decide) (Nat.le_of_eq rfl) (by decide) rfl (by decide) (by decide) mems0 ?_
  intro fv5 h6 K7 fq8
  obtain ⟨rfl, rfl⟩ := fq8
  refine ⟨[], fresh0, ?_⟩
  show Go l _ Z _ _ _ κ _ _ 14 _ [(.int 0)] 0 0
  refine go_istoreN C 15 (Ls' := #[.val (.ref t), .val (.int 0), .val (.int 0), .val (.int 1)]) d35_14 rfl rfl ?_
  refine go_iloadN C 16 d35_15 rfl rfl ?_
  refine go_aloadN C 17 d35_16 rfl rfl rfl ?_
  refine go_arraylength C 18 d35_17 rfl p0 ?_
  refine go_callS C (argsL := [(.int 1), (.int 1)]) (W := 0) d35_18 (hq hw 172 rfl) (hq hw 136 rfl) (hq hw 133 rfl) (hq hw 137 rfl) (by decide) pd__II_I (ct_min1 l Z a0 hw am) rfl (by decide) (Nat.le_of_eq rfl) (by decide) rfl (by decide) (by decide) mems0 ?_
  intro fv9 h10 K11 fq12
  obtain ⟨rfl, rfl⟩ := fq12
  refine ⟨[], fresh0, ?_⟩
  show Go l _ Z _ _ _ κ _ _ 21 _ [(.int 1)] 0 0
  refine go_istoreN C 22 (Ls' := #[.val (.ref t), .val (.int 0), .val (.int 0), .val (.int 1)]) d35_21 rfl rfl ?_
  refine go_iloadN C 23 d35_22 rfl rfl ?_
  refine go_iloadN C 24 d35_23 rfl rfl ?_
  refine go_icmpY C (pc' := 29) d35_24 (tlt ((by decide) : (0 : Int32) < (1 : Int32))).1 (by decide) (by decide) ?_
  refine go_aloadN C 30 d35_29 rfl rfl rfl ?_
  refine go_iloadN C 31 d35_30 rfl rfl ?_
  refine go_iloadN C 32 d35_31 rfl rfl ?_
  refine go_iloadN C 33 d35_32 rfl rfl ?_
  refine go_callS C (argsL := [(.ref t), (.int 0), (.int 0), (.int 1)]) (W := 0) d35_33 (hq hw 173 rfl) (hq hw 174 rfl) (hq hw 166 rfl) (hq hw 175 rfl) (by decide) pd___BIII_I (ct_lic1 l Z a0 hw am (t := t) (kB := kB) (c0 := c0) p0 r0 z0 l0) rfl (by decide) (Nat.le_of_eq rfl) (by decide) rfl (by decide) (by decide) mems0 ?_
  intro fv13 h14 K15 fq16
  obtain ⟨rfl, rfl⟩ := fq16
  refine ⟨[], fresh0, ?_⟩
  show Go l _ Z _ _ _ κ _ _ 36 _ [(.int (-1 : Int32))] 0 0
  refine go_retI C d35_36 rfl (by decide) (by decide) ?_
  exact ⟨rfl, rfl⟩
theorem ct_ix2_0_1 (l : Launch) (Z : State) (a0 : Array Value) (hw : HW a0 Z) {cS : Int32} {fm : Value} {ub : Addr} (am : Amb Z a0 cS fm ub) {s : Addr} {t : Addr} {kB : ClassId} {c0 : Int32} {h0 : Heap} (p0 : Exa Z h0 s "java/lang/String") (p1 : Fld Z h0 s "java/lang/String" "coder" "B" (.int 0)) (p2 : Fld Z h0 s "java/lang/String" "value" "[B" (.ref t)) (p3 : Arv Z h0 t kB .byte (1 : Int32) [(.int (lo8 c0))] (.int 0)) (r0 : Chr c0) (z0 : ¬ c0 = 0) (l0 : ¬ (255 : Int32) < c0) :
    Py l Z (⟨"java/lang/String", "indexOf", "(II)I"⟩ : MethodName) 3 46 0 0 #[(.ref s), (.int 0), (.int 0)] h0 [] (fun rv h' => rv = some (.int (-1 : Int32)) ∧ h' = h0) := by
  refine Ct.py (by0 := jdk_42_method_80_code) (ml := 3) (rt := (some .int)) (rm := ({ frames := 2, cells := 0, slots := 0, locals := 32 } : Room)) ?_ (hq hw 112 rfl) (hq hw 8 rfl)
  refine Ct.mk (a0 := a0) (Ls := #[.val (.ref s), .val (.int 0), .val (.int 0)]) (plainFor_of_name pn_java_lang_String) (fun m => by first | (simp [entryFrame, mkF, argsToLocals, Value.category]; done) | rfl) ?_
  intro κ C
  show Go l _ Z _ _ _ κ [] h0 0 #[.val (.ref s), .val (.int 0), .val (.int 0)] [] 0 0
  refine go_aloadN C 1 d21_0 rfl rfl rfl ?_
  refine go_callV C (a := s) (argsL := []) (W := 0) d21_1 (hq hw 113 rfl) (hq hw 114 rfl) (fun _ hZ => notFace_of_selects (args := #[]) (mvT hZ (hq hw 116 rfl))) (hq hw 116 rfl) (hq hw 115 rfl) p0 (by decide) pd___Z (ct_isl0 l Z a0 hw am (s := s) p1) rfl (by decide) (Nat.le_of_eq rfl) (by decide) rfl (by decide) (by decide) mems0 ?_
  intro fv1 h2 K3 fq4
  obtain ⟨rfl, rfl⟩ := fq4
  refine ⟨[], fresh0, ?_⟩
  show Go l _ Z _ _ _ κ _ _ 4 _ [(.int 1)] 0 0
  refine go_ifN C 7 d21_4 rfl (feq ((by decide) : ¬ ((1 : Int32) = (0 : Int32)))).1 ?_
  refine go_aloadN C 8 d21_7 rfl rfl rfl ?_
  refine go_getF C 11 d21_8 rfl (hq hw 26 rfl) Via.refl p2 ?_
  refine go_iloadN C 12 d21_11 rfl rfl ?_
  refine go_iloadN C 13 d21_12 rfl rfl ?_
  refine go_aloadN C 14 d21_13 rfl rfl rfl ?_
  refine go_callV C (a := s) (argsL := []) (W := 3) d21_14 (hq hw 118 rfl) (hq hw 119 rfl) (fun _ hZ => notFace_of_selects (args := #[]) (mvT hZ (hq hw 121 rfl))) (hq hw 121 rfl) (hq hw 120 rfl) p0 (by decide) pd___I (ct_len0_1 l Z a0 hw am (s := s) (t := t) (kB := kB) (vs := [(.int (lo8 c0))]) p0 p1 p2 p3) rfl (by decide) (Nat.le_of_eq rfl) (by decide) rfl (by decide) (by decide) mems0 ?_
  intro fv5 h6 K7 fq8
  obtain ⟨rfl, rfl⟩ := fq8
  refine ⟨[], fresh0, ?_⟩
  show Go l _ Z _ _ _ κ _ _ 17 _ [(.int 1), (.int 0), (.int 0), (.ref t)] 0 0
  refine go_callS C (argsL := [(.ref t), (.int 0), (.int 0), (.int 1)]) (W := 0) d21_17 (hq hw 164 rfl) (hq hw 165 rfl) (hq hw 166 rfl) (hq hw 167 rfl) (by decide) pd___BIII_I (ct_lix1 l Z a0 hw am (t := t) (kB := kB) (c0 := c0) p3 r0 z0 l0) rfl (by decide) (Nat.le_of_eq rfl) (by decide) rfl (by decide) (by decide) mems0 ?_
  intro fv9 h10 K11 fq12
  obtain ⟨rfl, rfl⟩ := fq12
  refine ⟨[], fresh0, ?_⟩
  show Go l _ Z _ _ _ κ _ _ 20 _ [(.int (-1 : Int32))] 0 0
  refine go_goto C (pc' := 36) d21_20 (by decide) (by decide) ?_
  refine go_retI C d21_36 rfl (by decide) (by decide) ?_
  exact ⟨rfl, rfl⟩
theorem ct_ix1_0_1 (l : Launch) (Z : State) (a0 : Array Value) (hw : HW a0 Z) {cS : Int32} {fm : Value} {ub : Addr} (am : Amb Z a0 cS fm ub) {s : Addr} {t : Addr} {kB : ClassId} {c0 : Int32} {h0 : Heap} (p0 : Exa Z h0 s "java/lang/String") (p1 : Fld Z h0 s "java/lang/String" "coder" "B" (.int 0)) (p2 : Fld Z h0 s "java/lang/String" "value" "[B" (.ref t)) (p3 : Arv Z h0 t kB .byte (1 : Int32) [(.int (lo8 c0))] (.int 0)) (r0 : Chr c0) (z0 : ¬ c0 = 0) (l0 : ¬ (255 : Int32) < c0) :
    Py l Z (⟨"java/lang/String", "indexOf", "(I)I"⟩ : MethodName) 4 59 0 0 #[(.ref s), (.int 0)] h0 [] (fun rv h' => rv = some (.int (-1 : Int32)) ∧ h' = h0) := by
  refine Ct.py (by0 := jdk_42_method_79_code) (ml := 2) (rt := (some .int)) (rm := ({ frames := 3, cells := 0, slots := 0, locals := 46 } : Room)) ?_ (hq hw 107 rfl) (hq hw 8 rfl)
  refine Ct.mk (a0 := a0) (Ls := #[.val (.ref s), .val (.int 0)]) (plainFor_of_name pn_java_lang_String) (fun m => by first | (simp [entryFrame, mkF, argsToLocals, Value.category]; done) | rfl) ?_
  intro κ C
  show Go l _ Z _ _ _ κ [] h0 0 #[.val (.ref s), .val (.int 0)] [] 0 0
  refine go_aloadN C 1 d20_0 rfl rfl rfl ?_
  refine go_iloadN C 2 d20_1 rfl rfl ?_
  refine go_iconst C 3 (0 : Int32) d20_2 rfl (by decide) ?_
  refine go_callV C (a := s) (argsL := [(.int 0), (.int 0)]) (W := 0) d20_3 (hq hw 108 rfl) (hq hw 109 rfl) (fun _ hZ => notFace_of_selects (args := #[]) (mvT hZ (hq hw 111 rfl))) (hq hw 111 rfl) (hq hw 110 rfl) p0 (by decide) pd__II_I (ct_ix2_0_1 l Z a0 hw am (s := s) (t := t) (kB := kB) (c0 := c0) p0 p1 p2 p3 r0 z0 l0) rfl (by decide) (Nat.le_of_eq rfl) (by decide) rfl (by decide) (by decide) mems0 ?_
  intro fv1 h2 K3 fq4
  obtain ⟨rfl, rfl⟩ := fq4
  refine ⟨[], fresh0, ?_⟩
  show Go l _ Z _ _ _ κ _ _ 6 _ [(.int (-1 : Int32))] 0 0
  refine go_retI C d20_6 rfl (by decide) (by decide) ?_
  exact ⟨rfl, rfl⟩
theorem ct_ix2_1_1 (l : Launch) (Z : State) (a0 : Array Value) (hw : HW a0 Z) {cS : Int32} {fm : Value} {ub : Addr} (am : Amb Z a0 cS fm ub) {s : Addr} {t : Addr} {kB : ClassId} {c0 : Int32} {h0 : Heap} (p0 : Exa Z h0 s "java/lang/String") (p1 : Fld Z h0 s "java/lang/String" "coder" "B" (.int 1)) (p2 : Fld Z h0 s "java/lang/String" "value" "[B" (.ref t)) (p3 : Arv Z h0 t kB .byte (2 : Int32) [(.int (lo8 c0)), (.int (hi8 c0))] (.int 0)) (r0 : Chr c0) (z0 : ¬ c0 = 0) :
    Py l Z (⟨"java/lang/String", "indexOf", "(II)I"⟩ : MethodName) 6 87 0 0 #[(.ref s), (.int 0), (.int 0)] h0 [] (fun rv h' => rv = some (.int (-1 : Int32)) ∧ h' = h0) := by
  refine Ct.py (by0 := jdk_42_method_80_code) (ml := 3) (rt := (some .int)) (rm := ({ frames := 5, cells := 0, slots := 0, locals := 73 } : Room)) ?_ (hq hw 112 rfl) (hq hw 8 rfl)
  refine Ct.mk (a0 := a0) (Ls := #[.val (.ref s), .val (.int 0), .val (.int 0)]) (plainFor_of_name pn_java_lang_String) (fun m => by first | (simp [entryFrame, mkF, argsToLocals, Value.category]; done) | rfl) ?_
  intro κ C
  show Go l _ Z _ _ _ κ [] h0 0 #[.val (.ref s), .val (.int 0), .val (.int 0)] [] 0 0
  refine go_aloadN C 1 d21_0 rfl rfl rfl ?_
  refine go_callV C (a := s) (argsL := []) (W := 0) d21_1 (hq hw 113 rfl) (hq hw 114 rfl) (fun _ hZ => notFace_of_selects (args := #[]) (mvT hZ (hq hw 116 rfl))) (hq hw 116 rfl) (hq hw 115 rfl) p0 (by decide) pd___Z (ct_isl1 l Z a0 hw am (s := s) p1) rfl (by decide) (Nat.le_of_eq rfl) (by decide) rfl (by decide) (by decide) mems0 ?_
  intro fv1 h2 K3 fq4
  obtain ⟨rfl, rfl⟩ := fq4
  refine ⟨[], fresh0, ?_⟩
  show Go l _ Z _ _ _ κ _ _ 4 _ [(.int 0)] 0 0
  refine go_ifY C (pc' := 23) d21_4 (teq ((by decide) : (0 : Int32) = (0 : Int32))).1 (by decide) (by decide) ?_
  refine go_aloadN C 24 d21_23 rfl rfl rfl ?_
  refine go_getF C 27 d21_24 rfl (hq hw 26 rfl) Via.refl p2 ?_
  refine go_iloadN C 28 d21_27 rfl rfl ?_
  refine go_iloadN C 29 d21_28 rfl rfl ?_
  refine go_aloadN C 30 d21_29 rfl rfl rfl ?_
  refine go_callV C (a := s) (argsL := []) (W := 3) d21_30 (hq hw 118 rfl) (hq hw 119 rfl) (fun _ hZ => notFace_of_selects (args := #[]) (mvT hZ (hq hw 121 rfl))) (hq hw 121 rfl) (hq hw 120 rfl) p0 (by decide) pd___I (ct_len1_1 l Z a0 hw am (s := s) (t := t) (kB := kB) (vs := [(.int (lo8 c0)), (.int (hi8 c0))]) p0 p1 p2 p3) rfl (by decide) (Nat.le_of_eq rfl) (by decide) rfl (by decide) (by decide) mems0 ?_
  intro fv5 h6 K7 fq8
  obtain ⟨rfl, rfl⟩ := fq8
  refine ⟨[], fresh0, ?_⟩
  show Go l _ Z _ _ _ κ _ _ 33 _ [(.int 1), (.int 0), (.int 0), (.ref t)] 0 0
  refine go_callS C (argsL := [(.ref t), (.int 0), (.int 0), (.int 1)]) (W := 0) d21_33 (hq hw 128 rfl) (hq hw 129 rfl) (hq hw 76 rfl) (hq hw 130 rfl) (by decide) pd___BIII_I (ct_uix1 l Z a0 hw am (t := t) (kB := kB) (c0 := c0) p3 r0 z0) rfl (by decide) (Nat.le_of_eq rfl) (by decide) rfl (by decide) (by decide) mems0 ?_
  intro fv9 h10 K11 fq12
  obtain ⟨rfl, rfl⟩ := fq12
  refine ⟨[], fresh0, ?_⟩
  show Go l _ Z _ _ _ κ _ _ 36 _ [(.int (-1 : Int32))] 0 0
  refine go_retI C d21_36 rfl (by decide) (by decide) ?_
  exact ⟨rfl, rfl⟩
theorem ct_ix1_1_1 (l : Launch) (Z : State) (a0 : Array Value) (hw : HW a0 Z) {cS : Int32} {fm : Value} {ub : Addr} (am : Amb Z a0 cS fm ub) {s : Addr} {t : Addr} {kB : ClassId} {c0 : Int32} {h0 : Heap} (p0 : Exa Z h0 s "java/lang/String") (p1 : Fld Z h0 s "java/lang/String" "coder" "B" (.int 1)) (p2 : Fld Z h0 s "java/lang/String" "value" "[B" (.ref t)) (p3 : Arv Z h0 t kB .byte (2 : Int32) [(.int (lo8 c0)), (.int (hi8 c0))] (.int 0)) (r0 : Chr c0) (z0 : ¬ c0 = 0) :
    Py l Z (⟨"java/lang/String", "indexOf", "(I)I"⟩ : MethodName) 7 100 0 0 #[(.ref s), (.int 0)] h0 [] (fun rv h' => rv = some (.int (-1 : Int32)) ∧ h' = h0) := by
  refine Ct.py (by0 := jdk_42_method_79_code) (ml := 2) (rt := (some .int)) (rm := ({ frames := 6, cells := 0, slots := 0, locals := 87 } : Room)) ?_ (hq hw 107 rfl) (hq hw 8 rfl)
  refine Ct.mk (a0 := a0) (Ls := #[.val (.ref s), .val (.int 0)]) (plainFor_of_name pn_java_lang_String) (fun m => by first | (simp [entryFrame, mkF, argsToLocals, Value.category]; done) | rfl) ?_
  intro κ C
  show Go l _ Z _ _ _ κ [] h0 0 #[.val (.ref s), .val (.int 0)] [] 0 0
  refine go_aloadN C 1 d20_0 rfl rfl rfl ?_
  refine go_iloadN C 2 d20_1 rfl rfl ?_
  refine go_iconst C 3 (0 : Int32) d20_2 rfl (by decide) ?_
  refine go_callV C (a := s) (argsL := [(.int 0), (.int 0)]) (W := 0) d20_3 (hq hw 108 rfl) (hq hw 109 rfl) (fun _ hZ => notFace_of_selects (args := #[]) (mvT hZ (hq hw 111 rfl))) (hq hw 111 rfl) (hq hw 110 rfl) p0 (by decide) pd__II_I (ct_ix2_1_1 l Z a0 hw am (s := s) (t := t) (kB := kB) (c0 := c0) p0 p1 p2 p3 r0 z0) rfl (by decide) (Nat.le_of_eq rfl) (by decide) rfl (by decide) (by decide) mems0 ?_
  intro fv1 h2 K3 fq4
  obtain ⟨rfl, rfl⟩ := fq4
  refine ⟨[], fresh0, ?_⟩
  show Go l _ Z _ _ _ κ _ _ 6 _ [(.int (-1 : Int32))] 0 0
  refine go_retI C d20_6 rfl (by decide) (by decide) ?_
  exact ⟨rfl, rfl⟩
theorem ct_ulen2 (l : Launch) (Z : State) (a0 : Array Value) (hw : HW a0 Z) {cS : Int32} {fm : Value} {ub : Addr} (am : Amb Z a0 cS fm ub) {t : Addr} {kB : ClassId} {vs : List Value} {h0 : Heap} (p0 : Arv Z h0 t kB .byte (4 : Int32) vs (.int 0)) :
    Py l Z (⟨"java/lang/StringUTF16", "length", "([B)I"⟩ : MethodName) 1 12 0 0 #[(.ref t)] h0 [] (fun rv h' => rv = some (.int 2) ∧ h' = h0) := by
  refine Ct.py (by0 := jdk_52_method_6_code) (ml := 1) (rt := (some .int)) (rm := ({ frames := 0, cells := 0, slots := 0, locals := 0 } : Room)) ?_ (hq hw 147 rfl) (hq hw 76 rfl)
  refine Ct.mk (a0 := a0) (Ls := #[.val (.ref t)]) (plainFor_of_name pn_java_lang_StringUTF16) (fun m => by first | (simp [entryFrame, mkF, argsToLocals, Value.category]; done) | rfl) ?_
  intro κ C
  show Go l _ Z _ _ _ κ [] h0 0 #[.val (.ref t)] [] 0 0
  refine go_aloadN C 1 d30_0 rfl rfl rfl ?_
  refine go_arraylength C 2 d30_1 rfl p0 ?_
  refine go_iconst C 3 (1 : Int32) d30_2 rfl (by decide) ?_
  refine go_ishr C 4 (2 : Int32) d30_3 rfl (by decide) ?_
  refine go_retI C d30_4 rfl (by decide) (by decide) ?_
  exact ⟨rfl, rfl⟩
theorem ct_ucb2 (l : Launch) (Z : State) (a0 : Array Value) (hw : HW a0 Z) {cS : Int32} {fm : Value} {ub : Addr} (am : Amb Z a0 cS fm ub) {t : Addr} {kB : ClassId} {vs : List Value} {h0 : Heap} (p0 : Arv Z h0 t kB .byte (4 : Int32) vs (.int 0)) :
    Py l Z (⟨"java/lang/StringUTF16", "checkBoundsBeginEnd", "(II[B)V"⟩ : MethodName) 3 43 0 0 #[(.int 0), (.int 2), (.ref t)] h0 [] (fun rv h' => rv = none ∧ h' = h0) := by
  refine Ct.py (by0 := jdk_52_method_93_code) (ml := 3) (rt := none) (rm := ({ frames := 2, cells := 0, slots := 0, locals := 29 } : Room)) ?_ (hq hw 144 rfl) (hq hw 76 rfl)
  refine Ct.mk (a0 := a0) (Ls := #[.val (.int 0), .val (.int 2), .val (.ref t)]) (plainFor_of_name pn_java_lang_StringUTF16) (fun m => by first | (simp [entryFrame, mkF, argsToLocals, Value.category]; done) | rfl) ?_
  intro κ C
  show Go l _ Z _ _ _ κ [] h0 0 #[.val (.int 0), .val (.int 2), .val (.ref t)] [] 0 0
  refine go_iloadN C 1 d29_0 rfl rfl ?_
  refine go_iloadN C 2 d29_1 rfl rfl ?_
  refine go_aloadN C 3 d29_2 rfl rfl rfl ?_
  refine go_callS C (argsL := [(.ref t)]) (W := 2) d29_3 (hq hw 145 rfl) (hq hw 146 rfl) (hq hw 76 rfl) (hq hw 147 rfl) (by decide) pd___B_I (ct_ulen2 l Z a0 hw am (t := t) (kB := kB) (vs := vs) p0) rfl (by decide) (Nat.le_of_eq rfl) (by decide) rfl (by decide) (by decide) mems0 ?_
  intro fv1 h2 K3 fq4
  obtain ⟨rfl, rfl⟩ := fq4
  refine ⟨[], fresh0, ?_⟩
  show Go l _ Z _ _ _ κ _ _ 6 _ [(.int 2), (.int 2), (.int 0)] 0 0
  refine go_callS C (argsL := [(.int 0), (.int 2), (.int 2)]) (W := 0) d29_6 (hq hw 148 rfl) (hq hw 149 rfl) (hq hw 8 rfl) (hq hw 150 rfl) (by decide) pd__III_V (ct_cbe l Z a0 hw am (i := (0 : Int32)) (j := (2 : Int32)) (n := (2 : Int32)) (by decide) (by decide) (by decide)) rfl (by decide) (Nat.le_of_eq rfl) (by decide) rfl (by decide) (by decide) mems0 ?_
  intro fv5 h6 K7 fq8
  obtain ⟨rfl, rfl⟩ := fq8
  refine ⟨[], fresh0, ?_⟩
  show Go l _ Z _ _ _ κ _ _ 9 _ [] 0 0
  refine go_ret C d29_9 rfl (by decide) (by decide) ?_
  exact ⟨rfl, rfl⟩
theorem ct_uiu2 (l : Launch) (Z : State) (a0 : Array Value) (hw : HW a0 Z) {cS : Int32} {fm : Value} {ub : Addr} (am : Amb Z a0 cS fm ub) {t : Addr} {kB : ClassId} {c0 : Int32} {c1 : Int32} {h0 : Heap} (p0 : Arv Z h0 t kB .byte (4 : Int32) [(.int (lo8 c0)), (.int (hi8 c0)), (.int (lo8 c1)), (.int (hi8 c1))] (.int 0)) (r0 : Chr c0) (r1 : Chr c1) (z0 : ¬ c0 = 0) (z1 : ¬ c1 = 0) :
    Py l Z (⟨"java/lang/StringUTF16", "indexOfCharUnsafe", "([BIII)I"⟩ : MethodName) 2 29 0 0 #[(.ref t), (.int 0), (.int 0), (.int 2)] h0 [] (fun rv h' => rv = some (.int (-1 : Int32)) ∧ h' = h0) := by
  refine Ct.py (by0 := jdk_52_method_48_code) (ml := 5) (rt := (some .int)) (rm := ({ frames := 1, cells := 0, slots := 0, locals := 13 } : Room)) ?_ (hq hw 158 rfl) (hq hw 76 rfl)
  refine Ct.mk (a0 := a0) (Ls := #[.val (.ref t), .val (.int 0), .val (.int 0), .val (.int 2), .unset]) (plainFor_of_name pn_java_lang_StringUTF16) (fun m => by first | (simp [entryFrame, mkF, argsToLocals, Value.category]; done) | rfl) ?_
  intro κ C
  show Go l _ Z _ _ _ κ [] h0 0 #[.val (.ref t), .val (.int 0), .val (.int 0), .val (.int 2), .unset] [] 0 0
  refine go_iloadN C 1 d33_0 rfl rfl ?_
  refine go_istore C 3 (Ls' := #[.val (.ref t), .val (.int 0), .val (.int 0), .val (.int 2), .val (.int 0)]) d33_1 rfl rfl ?_
  refine go_iload C 5 d33_3 rfl rfl ?_
  refine go_iloadN C 6 d33_5 rfl rfl ?_
  refine go_icmpN C 9 d33_6 rfl (tlt ((by decide) : (0 : Int32) < (2 : Int32))).2.1 ?_
  refine go_aloadN C 10 d33_9 rfl rfl rfl ?_
  refine go_iload C 12 d33_10 rfl rfl ?_
  refine go_callS C (argsL := [(.ref t), (.int 0)]) (W := 0) d33_12 (hq hw 97 rfl) (hq hw 98 rfl) (hq hw 76 rfl) (hq hw 99 rfl) (by decide) pd___BI_C (ct_get2_0 l Z a0 hw am (t := t) (kB := kB) (c0 := c0) (c1 := c1) p0 r0) rfl (by decide) (Nat.le_of_eq rfl) (by decide) rfl (by decide) (by decide) mems0 ?_
  intro fv1 h2 K3 fq4
  obtain ⟨rfl, rfl⟩ := fq4
  refine ⟨[], fresh0, ?_⟩
  show Go l _ Z _ _ _ κ _ _ 15 _ [(.int c0)] 0 0
  refine go_iloadN C 16 d33_15 rfl rfl ?_
  refine go_icmpY C (pc' := 22) d33_16 (feq (z0 : ¬ (c0 = (0 : Int32)))).2 (by decide) (by decide) ?_
  refine go_iinc C 25 (Ls' := #[.val (.ref t), .val (.int 0), .val (.int 0), .val (.int 2), .val (.int 1)]) (1 : Int32) d33_22 rfl (by decide) rfl rfl ?_
  refine go_goto C (pc' := 3) d33_25 (by decide) (by decide) ?_
  refine go_iload C 5 d33_3 rfl rfl ?_
  refine go_iloadN C 6 d33_5 rfl rfl ?_
  refine go_icmpN C 9 d33_6 rfl (tlt ((by decide) : (1 : Int32) < (2 : Int32))).2.1 ?_
  refine go_aloadN C 10 d33_9 rfl rfl rfl ?_
  refine go_iload C 12 d33_10 rfl rfl ?_
  refine go_callS C (argsL := [(.ref t), (.int 1)]) (W := 0) d33_12 (hq hw 97 rfl) (hq hw 98 rfl) (hq hw 76 rfl) (hq hw 99 rfl) (by decide) pd___BI_C (ct_get2_1 l Z a0 hw am (t := t) (kB := kB) (c0 := c0) (c1 := c1) p0 r1) rfl (by decide) (Nat.le_of_eq rfl) (by decide) rfl (by decide) (by decide) mems0 ?_
  intro fv5 h6 K7 fq8
  obtain ⟨rfl, rfl⟩ := fq8
  refine ⟨[], fresh0, ?_⟩
  show Go l _ Z _ _ _ κ _ _ 15 _ [(.int c1)] 0 0
  refine go_iloadN C 16 d33_15 rfl rfl ?_
  refine go_icmpY C (pc' := 22) d33_16 (feq (z1 : ¬ (c1 = (0 : Int32)))).2 (by decide) (by decide) ?_
  refine go_iinc C 25 (Ls' := #[.val (.ref t), .val (.int 0), .val (.int 0), .val (.int 2), .val (.int 2)]) (1 : Int32) d33_22 rfl (by decide) rfl rfl ?_
  refine go_goto C (pc' := 3) d33_25 (by decide) (by decide) ?_
  refine go_iload C 5 d33_3 rfl rfl ?_
  refine go_iloadN C 6 d33_5 rfl rfl ?_
  refine go_icmpY C (pc' := 28) d33_6 (flt ((by decide) : ¬ ((2 : Int32) < (2 : Int32)))).2.1 (by decide) (by decide) ?_
  refine go_iconst C 29 (-1 : Int32) d33_28 rfl (by decide) ?_
  refine go_retI C d33_29 rfl (by decide) (by decide) ?_
  exact ⟨rfl, rfl⟩
theorem ct_uic2 (l : Launch) (Z : State) (a0 : Array Value) (hw : HW a0 Z) {cS : Int32} {fm : Value} {ub : Addr} (am : Amb Z a0 cS fm ub) {t : Addr} {kB : ClassId} {c0 : Int32} {c1 : Int32} {h0 : Heap} (p0 : Arv Z h0 t kB .byte (4 : Int32) [(.int (lo8 c0)), (.int (hi8 c0)), (.int (lo8 c1)), (.int (hi8 c1))] (.int 0)) (r0 : Chr c0) (r1 : Chr c1) (z0 : ¬ c0 = 0) (z1 : ¬ c1 = 0) :
    Py l Z (⟨"java/lang/StringUTF16", "indexOfChar", "([BIII)I"⟩ : MethodName) 4 58 0 0 #[(.ref t), (.int 0), (.int 0), (.int 2)] h0 [] (fun rv h' => rv = some (.int (-1 : Int32)) ∧ h' = h0) := by
  refine Ct.py (by0 := jdk_52_method_47_code) (ml := 4) (rt := (some .int)) (rm := ({ frames := 3, cells := 0, slots := 0, locals := 43 } : Room)) ?_ (hq hw 141 rfl) (hq hw 76 rfl)
  refine Ct.mk (a0 := a0) (Ls := #[.val (.ref t), .val (.int 0), .val (.int 0), .val (.int 2)]) (plainFor_of_name pn_java_lang_StringUTF16) (fun m => by first | (simp [entryFrame, mkF, argsToLocals, Value.category]; done) | rfl) ?_
  intro κ C
  show Go l _ Z _ _ _ κ [] h0 0 #[.val (.ref t), .val (.int 0), .val (.int 0), .val (.int 2)] [] 0 0
  refine go_iloadN C 1 d28_0 rfl rfl ?_
  refine go_iloadN C 2 d28_1 rfl rfl ?_
  refine go_aloadN C 3 d28_2 rfl rfl rfl ?_
  refine go_callS C (argsL := [(.int 0), (.int 2), (.ref t)]) (W := 0) d28_3 (hq hw 142 rfl) (hq hw 143 rfl) (hq hw 76 rfl) (hq hw 144 rfl) (by decide) pd__II_B_V (ct_ucb2 l Z a0 hw am (t := t) (kB := kB) (vs := [(.int (lo8 c0)), (.int (hi8 c0)), (.int (lo8 c1)), (.int (hi8 c1))]) p0) rfl (by decide) (Nat.le_of_eq rfl) (by decide) rfl (by decide) (by decide) mems0 ?_
  intro fv1 h2 K3 fq4
  obtain ⟨rfl, rfl⟩ := fq4
  refine ⟨[], fresh0, ?_⟩
  show Go l _ Z _ _ _ κ _ _ 6 _ [] 0 0
  refine go_aloadN C 7 d28_6 rfl rfl rfl ?_
  refine go_iloadN C 8 d28_7 rfl rfl ?_
  refine go_iloadN C 9 d28_8 rfl rfl ?_
  refine go_iloadN C 10 d28_9 rfl rfl ?_
  refine go_callS C (argsL := [(.ref t), (.int 0), (.int 0), (.int 2)]) (W := 0) d28_10 (hq hw 156 rfl) (hq hw 157 rfl) (hq hw 76 rfl) (hq hw 158 rfl) (by decide) pd___BIII_I (ct_uiu2 l Z a0 hw am (t := t) (kB := kB) (c0 := c0) (c1 := c1) p0 r0 r1 z0 z1) rfl (by decide) (Nat.le_of_eq rfl) (by decide) rfl (by decide) (by decide) mems0 ?_
  intro fv5 h6 K7 fq8
  obtain ⟨rfl, rfl⟩ := fq8
  refine ⟨[], fresh0, ?_⟩
  show Go l _ Z _ _ _ κ _ _ 13 _ [(.int (-1 : Int32))] 0 0
  refine go_retI C d28_13 rfl (by decide) (by decide) ?_
  exact ⟨rfl, rfl⟩
theorem ct_uix2 (l : Launch) (Z : State) (a0 : Array Value) (hw : HW a0 Z) {cS : Int32} {fm : Value} {ub : Addr} (am : Amb Z a0 cS fm ub) {t : Addr} {kB : ClassId} {c0 : Int32} {c1 : Int32} {h0 : Heap} (p0 : Arv Z h0 t kB .byte (4 : Int32) [(.int (lo8 c0)), (.int (hi8 c0)), (.int (lo8 c1)), (.int (hi8 c1))] (.int 0)) (r0 : Chr c0) (r1 : Chr c1) (z0 : ¬ c0 = 0) (z1 : ¬ c1 = 0) :
    Py l Z (⟨"java/lang/StringUTF16", "indexOf", "([BIII)I"⟩ : MethodName) 5 73 0 0 #[(.ref t), (.int 0), (.int 0), (.int 2)] h0 [] (fun rv h' => rv = some (.int (-1 : Int32)) ∧ h' = h0) := by
  refine Ct.py (by0 := jdk_52_method_40_code) (ml := 4) (rt := (some .int)) (rm := ({ frames := 4, cells := 0, slots := 0, locals := 58 } : Room)) ?_ (hq hw 130 rfl) (hq hw 76 rfl)
  refine Ct.mk (a0 := a0) (Ls := #[.val (.ref t), .val (.int 0), .val (.int 0), .val (.int 2)]) (plainFor_of_name pn_java_lang_StringUTF16) (fun m => by first | (simp [entryFrame, mkF, argsToLocals, Value.category]; done) | rfl) ?_
  intro κ C
  show Go l _ Z _ _ _ κ [] h0 0 #[.val (.ref t), .val (.int 0), .val (.int 0), .val (.int 2)] [] 0 0
  refine go_iloadN C 1 d25_0 rfl rfl ?_
  refine go_iconst C 2 (0 : Int32) d25_1 rfl (by decide) ?_
  refine go_callS C (argsL := [(.int 0), (.int 0)]) (W := 0) d25_2 (hq hw 131 rfl) (hq hw 132 rfl) (hq hw 133 rfl) (hq hw 134 rfl) (by decide) pd__II_I (ct_max0 l Z a0 hw am) rfl (by decide) (Nat.le_of_eq rfl) (by decide) rfl (by decide) (by decide) mems0 ?_
  intro fv1 h2 K3 fq4
  obtain ⟨rfl, rfl⟩ := fq4
  refine ⟨[], fresh0, ?_⟩
  show Go l _ Z _ _ _ κ _ _ 5 _ [(.int 0)] 0 0
  refine go_istoreN C 6 (Ls' := #[.val (.ref t), .val (.int 0), .val (.int 0), .val (.int 2)]) d25_5 rfl rfl ?_
  refine go_iloadN C 7 d25_6 rfl rfl ?_
  refine go_aloadN C 8 d25_7 rfl rfl rfl ?_
  refine go_arraylength C 9 d25_8 rfl p0 ?_
  refine go_iconst C 10 (1 : Int32) d25_9 rfl (by decide) ?_
  refine go_ishr C 11 (2 : Int32) d25_10 rfl (by decide) ?_
  refine go_callS C (argsL := [(.int 2), (.int 2)]) (W := 0) d25_11 (hq hw 135 rfl) (hq hw 136 rfl) (hq hw 133 rfl) (hq hw 137 rfl) (by decide) pd__II_I (ct_min2 l Z a0 hw am) rfl (by decide) (Nat.le_of_eq rfl) (by decide) rfl (by decide) (by decide) mems0 ?_
  intro fv5 h6 K7 fq8
  obtain ⟨rfl, rfl⟩ := fq8
  refine ⟨[], fresh0, ?_⟩
  show Go l _ Z _ _ _ κ _ _ 14 _ [(.int 2)] 0 0
  refine go_istoreN C 15 (Ls' := #[.val (.ref t), .val (.int 0), .val (.int 0), .val (.int 2)]) d25_14 rfl rfl ?_
  refine go_iloadN C 16 d25_15 rfl rfl ?_
  refine go_iloadN C 17 d25_16 rfl rfl ?_
  refine go_icmpY C (pc' := 22) d25_17 (tlt ((by decide) : (0 : Int32) < (2 : Int32))).1 (by decide) (by decide) ?_
  refine go_iloadN C 23 d25_22 rfl rfl ?_
  refine go_ldcInt C 25 (v := (65536 : Int32)) d25_23 rfl (hq hw 138 rfl) ?_
  refine go_icmpN C 28 d25_25 rfl (tlt ((by decide) : (0 : Int32) < (65536 : Int32))).2.1 ?_
  refine go_aloadN C 29 d25_28 rfl rfl rfl ?_
  refine go_iloadN C 30 d25_29 rfl rfl ?_
  refine go_iloadN C 31 d25_30 rfl rfl ?_
  refine go_iloadN C 32 d25_31 rfl rfl ?_
  refine go_callS C (argsL := [(.ref t), (.int 0), (.int 0), (.int 2)]) (W := 0) d25_32 (hq hw 139 rfl) (hq hw 140 rfl) (hq hw 76 rfl) (hq hw 141 rfl) (by decide) pd___BIII_I (ct_uic2 l Z a0 hw am (t := t) (kB := kB) (c0 := c0) (c1 := c1) p0 r0 r1 z0 z1) rfl (by decide) (Nat.le_of_eq rfl) (by decide) rfl (by decide) (by decide) mems0 ?_
  intro fv9 h10 K11 fq12
  obtain ⟨rfl, rfl⟩ := fq12
  refine ⟨[], fresh0, ?_⟩
  show Go l _ Z _ _ _ κ _ _ 35 _ [(.int (-1 : Int32))] 0 0
  refine go_retI C d25_35 rfl (by decide) (by decide) ?_
  exact ⟨rfl, rfl⟩
theorem ct_lic2 (l : Launch) (Z : State) (a0 : Array Value) (hw : HW a0 Z) {cS : Int32} {fm : Value} {ub : Addr} (am : Amb Z a0 cS fm ub) {t : Addr} {kB : ClassId} {c0 : Int32} {c1 : Int32} {h0 : Heap} (p0 : Arv Z h0 t kB .byte (2 : Int32) [(.int (lo8 c0)), (.int (lo8 c1))] (.int 0)) (r0 : Chr c0) (r1 : Chr c1) (z0 : ¬ c0 = 0) (z1 : ¬ c1 = 0) (l0 : ¬ (255 : Int32) < c0) (l1 : ¬ (255 : Int32) < c1) :
    Py l Z (⟨"java/lang/StringLatin1", "indexOfChar", "([BIII)I"⟩ : MethodName) 1 17 0 0 #[(.ref t), (.int 0), (.int 0), (.int 2)] h0 [] (fun rv h' => rv = some (.int (-1 : Int32)) ∧ h' = h0) := by
  refine Ct.py (by0 := jdk_43_method_23_code) (ml := 6) (rt := (some .int)) (rm := ({ frames := 0, cells := 0, slots := 0, locals := 0 } : Room)) ?_ (hq hw 175 rfl) (hq hw 166 rfl)
  refine Ct.mk (a0 := a0) (Ls := #[.val (.ref t), .val (.int 0), .val (.int 0), .val (.int 2), .unset, .unset]) (plainFor_of_name pn_java_lang_StringLatin1) (fun m => by first | (simp [entryFrame, mkF, argsToLocals, Value.category]; done) | rfl) ?_
  intro κ C
  show Go l _ Z _ _ _ κ [] h0 0 #[.val (.ref t), .val (.int 0), .val (.int 0), .val (.int 2), .unset, .unset] [] 0 0
  refine go_iloadN C 1 d37_0 rfl rfl ?_
  refine go_i2b C 2 (0 : Int32) d37_1 rfl (by decide) ?_
  refine go_istore C 4 (Ls' := #[.val (.ref t), .val (.int 0), .val (.int 0), .val (.int 2), .val (.int 0), .unset]) d37_2 rfl rfl ?_
  refine go_iloadN C 5 d37_4 rfl rfl ?_
  refine go_istore C 7 (Ls' := #[.val (.ref t), .val (.int 0), .val (.int 0), .val (.int 2), .val (.int 0), .val (.int 0)]) d37_5 rfl rfl ?_
  refine go_iload C 9 d37_7 rfl rfl ?_
  refine go_iloadN C 10 d37_9 rfl rfl ?_
  refine go_icmpN C 13 d37_10 rfl (tlt ((by decide) : (0 : Int32) < (2 : Int32))).2.1 ?_
  refine go_aloadN C 14 d37_13 rfl rfl rfl ?_
  refine go_iload C 16 d37_14 rfl rfl ?_
  refine go_baload C 17 (v := (.int (lo8 c0))) d37_16 rfl p0 (by decide) rfl ?_
  refine go_iload C 19 d37_17 rfl rfl ?_
  refine go_icmpY C (pc' := 25) d37_19 (feq (lo8_nz r0.1 l0 z0 : ¬ ((lo8 c0) = (0 : Int32)))).2 (by decide) (by decide) ?_
  refine go_iinc C 28 (Ls' := #[.val (.ref t), .val (.int 0), .val (.int 0), .val (.int 2), .val (.int 0), .val (.int 1)]) (1 : Int32) d37_25 rfl (by decide) rfl rfl ?_
  refine go_goto C (pc' := 7) d37_28 (by decide) (by decide) ?_
  refine go_iload C 9 d37_7 rfl rfl ?_
  refine go_iloadN C 10 d37_9 rfl rfl ?_
  refine go_icmpN C 13 d37_10 rfl (tlt ((by decide) : (1 : Int32) < (2 : Int32))).2.1 ?_
  refine go_aloadN C 14 d37_13 rfl rfl rfl ?_
  refine go_iload C 16 d37_14 rfl rfl ?_
  refine go_baload C 17 (v := (.int (lo8 c1))) d37_16 rfl p0 (by decide) rfl ?_
  refine go_iload C 19 d37_17 rfl rfl ?_
  refine go_icmpY C (pc' := 25) d37_19 (feq (lo8_nz r1.1 l1 z1 : ¬ ((lo8 c1) = (0 : Int32)))).2 (by decide) (by decide) ?_
  refine go_iinc C 28 (Ls' := #[.val (.ref t), .val (.int 0), .val (.int 0), .val (.int 2), .val (.int 0), .val (.int 2)]) (1 : Int32) d37_25 rfl (by decide) rfl rfl ?_
  refine go_goto C (pc' := 7) d37_28 (by decide) (by decide) ?_
  refine go_iload C 9 d37_7 rfl rfl ?_
  refine go_iloadN C 10 d37_9 rfl rfl ?_
  refine go_icmpY C (pc' := 31) d37_10 (flt ((by decide) : ¬ ((2 : Int32) < (2 : Int32)))).2.1 (by decide) (by decide) ?_
  refine go_iconst C 32 (-1 : Int32) d37_31 rfl (by decide) ?_
  refine go_retI C d37_32 rfl (by decide) (by decide) ?_
  exact ⟨rfl, rfl⟩
theorem ct_lix2 (l : Launch) (Z : State) (a0 : Array Value) (hw : HW a0 Z) {cS : Int32} {fm : Value} {ub : Addr} (am : Amb Z a0 cS fm ub) {t : Addr} {kB : ClassId} {c0 : Int32} {c1 : Int32} {h0 : Heap} (p0 : Arv Z h0 t kB .byte (2 : Int32) [(.int (lo8 c0)), (.int (lo8 c1))] (.int 0)) (r0 : Chr c0) (r1 : Chr c1) (z0 : ¬ c0 = 0) (z1 : ¬ c1 = 0) (l0 : ¬ (255 : Int32) < c0) (l1 : ¬ (255 : Int32) < c1) :
    Py l Z (⟨"java/lang/StringLatin1", "indexOf", "([BIII)I"⟩ : MethodName) 2 32 0 0 #[(.ref t), (.int 0), (.int 0), (.int 2)] h0 [] (fun rv h' => rv = some (.int (-1 : Int32)) ∧ h' = h0) := by
  refine Ct.py (by0 := jdk_43_method_22_code) (ml := 4) (rt := (some .int)) (rm := ({ frames := 1, cells := 0, slots := 0, locals := 17 } : Room)) ?_ (hq hw 167 rfl) (hq hw 166 rfl)
  refine Ct.mk (a0 := a0) (Ls := #[.val (.ref t), .val (.int 0), .val (.int 0), .val (.int 2)]) (plainFor_of_name pn_java_lang_StringLatin1) (fun m => by first | (simp [entryFrame, mkF, argsToLocals, Value.category]; done) | rfl) ?_
  intro κ C
  show Go l _ Z _ _ _ κ [] h0 0 #[.val (.ref t), .val (.int 0), .val (.int 0), .val (.int 2)] [] 0 0
  refine go_iloadN C 1 d35_0 rfl rfl ?_
  refine go_callS C (argsL := [(.int 0)]) (W := 0) d35_1 (hq hw 168 rfl) (hq hw 169 rfl) (hq hw 166 rfl) (hq hw 170 rfl) (by decide) pd__I_Z (ct_cane l Z a0 hw am) rfl (by decide) (Nat.le_of_eq rfl) (by decide) rfl (by decide) (by decide) mems0 ?_
  intro fv1 h2 K3 fq4
  obtain ⟨rfl, rfl⟩ := fq4
  refine ⟨[], fresh0, ?_⟩
  show Go l _ Z _ _ _ κ _ _ 4 _ [(.int 1)] 0 0
  refine go_ifY C (pc' := 9) d35_4 (feq ((by decide) : ¬ ((1 : Int32) = (0 : Int32)))).2 (by decide) (by decide) ?_
  refine go_iloadN C 10 d35_9 rfl rfl ?_
  refine go_iconst C 11 (0 : Int32) d35_10 rfl (by decide) ?_
  refine go_callS C (argsL := [(.int 0), (.int 0)]) (W := 0) d35_11 (hq hw 171 rfl) (hq hw 132 rfl) (hq hw 133 rfl) (hq hw 134 rfl) (by decide) pd__II_I (ct_max0 l Z a0 hw am) rfl (by decide) (Nat.le_of_eq rfl) (by decide) rfl (by decide) (by decide) mems0 ?_
  intro fv5 h6 K7 fq8
  obtain ⟨rfl, rfl⟩ := fq8
  refine ⟨[], fresh0, ?_⟩
  show Go l _ Z _ _ _ κ _ _ 14 _ [(.int 0)] 0 0
  refine go_istoreN C 15 (Ls' := #[.val (.ref t), .val (.int 0), .val (.int 0), .val (.int 2)]) d35_14 rfl rfl ?_
  refine go_iloadN C 16 d35_15 rfl rfl ?_
  refine go_aloadN C 17 d35_16 rfl rfl rfl ?_
  refine go_arraylength C 18 d35_17 rfl p0 ?_
  refine go_callS C (argsL := [(.int 2), (.int 2)]) (W := 0) d35_18 (hq hw 172 rfl) (hq hw 136 rfl) (hq hw 133 rfl) (hq hw 137 rfl) (by decide) pd__II_I (ct_min2 l Z a0 hw am) rfl (by decide) (Nat.le_of_eq rfl) (by decide) rfl (by decide) (by decide) mems0 ?_
  intro fv9 h10 K11 fq12
  obtain ⟨rfl, rfl⟩ := fq12
  refine ⟨[], fresh0, ?_⟩
  show Go l _ Z _ _ _ κ _ _ 21 _ [(.int 2)] 0 0
  refine go_istoreN C 22 (Ls' := #[.val (.ref t), .val (.int 0), .val (.int 0), .val (.int 2)]) d35_21 rfl rfl ?_
  refine go_iloadN C 23 d35_22 rfl rfl ?_
  refine go_iloadN C 24 d35_23 rfl rfl ?_
  refine go_icmpY C (pc' := 29) d35_24 (tlt ((by decide) : (0 : Int32) < (2 : Int32))).1 (by decide) (by decide) ?_
  refine go_aloadN C 30 d35_29 rfl rfl rfl ?_
  refine go_iloadN C 31 d35_30 rfl rfl ?_
  refine go_iloadN C 32 d35_31 rfl rfl ?_
  refine go_iloadN C 33 d35_32 rfl rfl ?_
  refine go_callS C (argsL := [(.ref t), (.int 0), (.int 0), (.int 2)]) (W := 0) d35_33 (hq hw 173 rfl) (hq hw 174 rfl) (hq hw 166 rfl) (hq hw 175 rfl) (by decide) pd___BIII_I (ct_lic2 l Z a0 hw am (t := t) (kB := kB) (c0 := c0) (c1 := c1) p0 r0 r1 z0 z1 l0 l1) rfl (by decide) (Nat.le_of_eq rfl) (by decide) rfl (by decide) (by decide) mems0 ?_
  intro fv13 h14 K15 fq16
  obtain ⟨rfl, rfl⟩ := fq16
  refine ⟨[], fresh0, ?_⟩
  show Go l _ Z _ _ _ κ _ _ 36 _ [(.int (-1 : Int32))] 0 0
  refine go_retI C d35_36 rfl (by decide) (by decide) ?_
  exact ⟨rfl, rfl⟩
theorem ct_ix2_0_2 (l : Launch) (Z : State) (a0 : Array Value) (hw : HW a0 Z) {cS : Int32} {fm : Value} {ub : Addr} (am : Amb Z a0 cS fm ub) {s : Addr} {t : Addr} {kB : ClassId} {c0 : Int32} {c1 : Int32} {h0 : Heap} (p0 : Exa Z h0 s "java/lang/String") (p1 : Fld Z h0 s "java/lang/String" "coder" "B" (.int 0)) (p2 : Fld Z h0 s "java/lang/String" "value" "[B" (.ref t)) (p3 : Arv Z h0 t kB .byte (2 : Int32) [(.int (lo8 c0)), (.int (lo8 c1))] (.int 0)) (r0 : Chr c0) (r1 : Chr c1) (z0 : ¬ c0 = 0) (z1 : ¬ c1 = 0) (l0 : ¬ (255 : Int32) < c0) (l1 : ¬ (255 : Int32) < c1) :
    Py l Z (⟨"java/lang/String", "indexOf", "(II)I"⟩ : MethodName) 3 46 0 0 #[(.ref s), (.int 0), (.int 0)] h0 [] (fun rv h' => rv = some (.int (-1 : Int32)) ∧ h' = h0) := by
  refine Ct.py (by0 := jdk_42_method_80_code) (ml := 3) (rt := (some .int)) (rm := ({ frames := 2, cells := 0, slots := 0, locals := 32 } : Room)) ?_ (hq hw 112 rfl) (hq hw 8 rfl)
  refine Ct.mk (a0 := a0) (Ls := #[.val (.ref s), .val (.int 0), .val (.int 0)]) (plainFor_of_name pn_java_lang_String) (fun m => by first | (simp [entryFrame, mkF, argsToLocals, Value.category]; done) | rfl) ?_
  intro κ C
  show Go l _ Z _ _ _ κ [] h0 0 #[.val (.ref s), .val (.int 0), .val (.int 0)] [] 0 0
  refine go_aloadN C 1 d21_0 rfl rfl rfl ?_
  refine go_callV C (a := s) (argsL := []) (W := 0) d21_1 (hq hw 113 rfl) (hq hw 114 rfl) (fun _ hZ => notFace_of_selects (args := #[]) (mvT hZ (hq hw 116 rfl))) (hq hw 116 rfl) (hq hw 115 rfl) p0 (by decide) pd___Z (ct_isl0 l Z a0 hw am (s := s) p1) rfl (by decide) (Nat.le_of_eq rfl) (by decide) rfl (by decide) (by decide) mems0 ?_
  intro fv1 h2 K3 fq4
  obtain ⟨rfl, rfl⟩ := fq4
  refine ⟨[], fresh0, ?_⟩
  show Go l _ Z _ _ _ κ _ _ 4 _ [(.int 1)] 0 0
  refine go_ifN C 7 d21_4 rfl (feq ((by decide) : ¬ ((1 : Int32) = (0 : Int32)))).1 ?_
  refine go_aloadN C 8 d21_7 rfl rfl rfl ?_
  refine go_getF C 11 d21_8 rfl (hq hw 26 rfl) Via.refl p2 ?_
  refine go_iloadN C 12 d21_11 rfl rfl ?_
  refine go_iloadN C 13 d21_12 rfl rfl ?_
  refine go_aloadN C 14 d21_13 rfl rfl rfl ?_
  refine go_callV C (a := s) (argsL := []) (W := 3) d21_14 (hq hw 118 rfl) (hq hw 119 rfl) (fun _ hZ => notFace_of_selects (args := #[]) (mvT hZ (hq hw 121 rfl))) (hq hw 121 rfl) (hq hw 120 rfl) p0 (by decide) pd___I (ct_len0_2 l Z a0 hw am (s := s) (t := t) (kB := kB) (vs := [(.int (lo8 c0)), (.int (lo8 c1))]) p0 p1 p2 p3) rfl (by decide) (Nat.le_of_eq rfl) (by decide) rfl (by decide) (by decide) mems0 ?_
  intro fv5 h6 K7 fq8
  obtain ⟨rfl, rfl⟩ := fq8
  refine ⟨[], fresh0, ?_⟩
  show Go l _ Z _ _ _ κ _ _ 17 _ [(.int 2), (.int 0), (.int 0), (.ref t)] 0 0
  refine go_callS C (argsL := [(.ref t), (.int 0), (.int 0), (.int 2)]) (W := 0) d21_17 (hq hw 164 rfl) (hq hw 165 rfl) (hq hw 166 rfl) (hq hw 167 rfl) (by decide) pd___BIII_I (ct_lix2 l Z a0 hw am (t := t) (kB := kB) (c0 := c0) (c1 := c1) p3 r0 r1 z0 z1 l0 l1) rfl (by decide) (Nat.le_of_eq rfl) (by decide) rfl (by decide) (by decide) mems0 ?_
  intro fv9 h10 K11 fq12
  obtain ⟨rfl, rfl⟩ := fq12
  refine ⟨[], fresh0, ?_⟩
  show Go l _ Z _ _ _ κ _ _ 20 _ [(.int (-1 : Int32))] 0 0
  refine go_goto C (pc' := 36) d21_20 (by decide) (by decide) ?_
  refine go_retI C d21_36 rfl (by decide) (by decide) ?_
  exact ⟨rfl, rfl⟩
theorem ct_ix1_0_2 (l : Launch) (Z : State) (a0 : Array Value) (hw : HW a0 Z) {cS : Int32} {fm : Value} {ub : Addr} (am : Amb Z a0 cS fm ub) {s : Addr} {t : Addr} {kB : ClassId} {c0 : Int32} {c1 : Int32} {h0 : Heap} (p0 : Exa Z h0 s "java/lang/String") (p1 : Fld Z h0 s "java/lang/String" "coder" "B" (.int 0)) (p2 : Fld Z h0 s "java/lang/String" "value" "[B" (.ref t)) (p3 : Arv Z h0 t kB .byte (2 : Int32) [(.int (lo8 c0)), (.int (lo8 c1))] (.int 0)) (r0 : Chr c0) (r1 : Chr c1) (z0 : ¬ c0 = 0) (z1 : ¬ c1 = 0) (l0 : ¬ (255 : Int32) < c0) (l1 : ¬ (255 : Int32) < c1) :
    Py l Z (⟨"java/lang/String", "indexOf", "(I)I"⟩ : MethodName) 4 59 0 0 #[(.ref s), (.int 0)] h0 [] (fun rv h' => rv = some (.int (-1 : Int32)) ∧ h' = h0) := by
  refine Ct.py (by0 := jdk_42_method_79_code) (ml := 2) (rt := (some .int)) (rm := ({ frames := 3, cells := 0, slots := 0, locals := 46 } : Room)) ?_ (hq hw 107 rfl) (hq hw 8 rfl)
  refine Ct.mk (a0 := a0) (Ls := #[.val (.ref s), .val (.int 0)]) (plainFor_of_name pn_java_lang_String) (fun m => by first | (simp [entryFrame, mkF, argsToLocals, Value.category]; done) | rfl) ?_
  intro κ C
  show Go l _ Z _ _ _ κ [] h0 0 #[.val (.ref s), .val (.int 0)] [] 0 0
  refine go_aloadN C 1 d20_0 rfl rfl rfl ?_
  refine go_iloadN C 2 d20_1 rfl rfl ?_
  refine go_iconst C 3 (0 : Int32) d20_2 rfl (by decide) ?_
  refine go_callV C (a := s) (argsL := [(.int 0), (.int 0)]) (W := 0) d20_3 (hq hw 108 rfl) (hq hw 109 rfl) (fun _ hZ => notFace_of_selects (args := #[]) (mvT hZ (hq hw 111 rfl))) (hq hw 111 rfl) (hq hw 110 rfl) p0 (by decide) pd__II_I (ct_ix2_0_2 l Z a0 hw am (s := s) (t := t) (kB := kB) (c0 := c0) (c1 := c1) p0 p1 p2 p3 r0 r1 z0 z1 l0 l1) rfl (by decide) (Nat.le_of_eq rfl) (by decide) rfl (by decide) (by decide) mems0 ?_
  intro fv1 h2 K3 fq4
  obtain ⟨rfl, rfl⟩ := fq4
  refine ⟨[], fresh0, ?_⟩
  show Go l _ Z _ _ _ κ _ _ 6 _ [(.int (-1 : Int32))] 0 0
  refine go_retI C d20_6 rfl (by decide) (by decide) ?_
  exact ⟨rfl, rfl⟩
theorem ct_ix2_1_2 (l : Launch) (Z : State) (a0 : Array Value) (hw : HW a0 Z) {cS : Int32} {fm : Value} {ub : Addr} (am : Amb Z a0 cS fm ub) {s : Addr} {t : Addr} {kB : ClassId} {c0 : Int32} {c1 : Int32} {h0 : Heap} (p0 : Exa Z h0 s "java/lang/String") (p1 : Fld Z h0 s "java/lang/String" "coder" "B" (.int 1)) (p2 : Fld Z h0 s "java/lang/String" "value" "[B" (.ref t)) (p3 : Arv Z h0 t kB .byte (4 : Int32) [(.int (lo8 c0)), (.int (hi8 c0)), (.int (lo8 c1)), (.int (hi8 c1))] (.int 0)) (r0 : Chr c0) (r1 : Chr c1) (z0 : ¬ c0 = 0) (z1 : ¬ c1 = 0) :
    Py l Z (⟨"java/lang/String", "indexOf", "(II)I"⟩ : MethodName) 6 87 0 0 #[(.ref s), (.int 0), (.int 0)] h0 [] (fun rv h' => rv = some (.int (-1 : Int32)) ∧ h' = h0) := by
  refine Ct.py (by0 := jdk_42_method_80_code) (ml := 3) (rt := (some .int)) (rm := ({ frames := 5, cells := 0, slots := 0, locals := 73 } : Room)) ?_ (hq hw 112 rfl) (hq hw 8 rfl)
  refine Ct.mk (a0 := a0) (Ls := #[.val (.ref s), .val (.int 0), .val (.int 0)]) (plainFor_of_name pn_java_lang_String) (fun m => by first | (simp [entryFrame, mkF, argsToLocals, Value.category]; done) | rfl) ?_
  intro κ C
  show Go l _ Z _ _ _ κ [] h0 0 #[.val (.ref s), .val (.int 0), .val (.int 0)] [] 0 0
  refine go_aloadN C 1 d21_0 rfl rfl rfl ?_
  refine go_callV C (a := s) (argsL := []) (W := 0) d21_1 (hq hw 113 rfl) (hq hw 114 rfl) (fun _ hZ => notFace_of_selects (args := #[]) (mvT hZ (hq hw 116 rfl))) (hq hw 116 rfl) (hq hw 115 rfl) p0 (by decide) pd___Z (ct_isl1 l Z a0 hw am (s := s) p1) rfl (by decide) (Nat.le_of_eq rfl) (by decide) rfl (by decide) (by decide) mems0 ?_
  intro fv1 h2 K3 fq4
  obtain ⟨rfl, rfl⟩ := fq4
  refine ⟨[], fresh0, ?_⟩
  show Go l _ Z _ _ _ κ _ _ 4 _ [(.int 0)] 0 0
  refine go_ifY C (pc' := 23) d21_4 (teq ((by decide) : (0 : Int32) = (0 : Int32))).1 (by decide) (by decide) ?_
  refine go_aloadN C 24 d21_23 rfl rfl rfl ?_
  refine go_getF C 27 d21_24 rfl (hq hw 26 rfl) Via.refl p2 ?_
  refine go_iloadN C 28 d21_27 rfl rfl ?_
  refine go_iloadN C 29 d21_28 rfl rfl ?_
  refine go_aloadN C 30 d21_29 rfl rfl rfl ?_
  refine go_callV C (a := s) (argsL := []) (W := 3) d21_30 (hq hw 118 rfl) (hq hw 119 rfl) (fun _ hZ => notFace_of_selects (args := #[]) (mvT hZ (hq hw 121 rfl))) (hq hw 121 rfl) (hq hw 120 rfl) p0 (by decide) pd___I (ct_len1_2 l Z a0 hw am (s := s) (t := t) (kB := kB) (vs := [(.int (lo8 c0)), (.int (hi8 c0)), (.int (lo8 c1)), (.int (hi8 c1))]) p0 p1 p2 p3) rfl (by decide) (Nat.le_of_eq rfl) (by decide) rfl (by decide) (by decide) mems0 ?_
  intro fv5 h6 K7 fq8
  obtain ⟨rfl, rfl⟩ := fq8
  refine ⟨[], fresh0, ?_⟩
  show Go l _ Z _ _ _ κ _ _ 33 _ [(.int 2), (.int 0), (.int 0), (.ref t)] 0 0
  refine go_callS C (argsL := [(.ref t), (.int 0), (.int 0), (.int 2)]) (W := 0) d21_33 (hq hw 128 rfl) (hq hw 129 rfl) (hq hw 76 rfl) (hq hw 130 rfl) (by decide) pd___BIII_I (ct_uix2 l Z a0 hw am (t := t) (kB := kB) (c0 := c0) (c1 := c1) p3 r0 r1 z0 z1) rfl (by decide) (Nat.le_of_eq rfl) (by decide) rfl (by decide) (by decide) mems0 ?_
  intro fv9 h10 K11 fq12
  obtain ⟨rfl, rfl⟩ := fq12
  refine ⟨[], fresh0, ?_⟩
  show Go l _ Z _ _ _ κ _ _ 36 _ [(.int (-1 : Int32))] 0 0
  refine go_retI C d21_36 rfl (by decide) (by decide) ?_
  exact ⟨rfl, rfl⟩
theorem ct_ix1_1_2 (l : Launch) (Z : State) (a0 : Array Value) (hw : HW a0 Z) {cS : Int32} {fm : Value} {ub : Addr} (am : Amb Z a0 cS fm ub) {s : Addr} {t : Addr} {kB : ClassId} {c0 : Int32} {c1 : Int32} {h0 : Heap} (p0 : Exa Z h0 s "java/lang/String") (p1 : Fld Z h0 s "java/lang/String" "coder" "B" (.int 1)) (p2 : Fld Z h0 s "java/lang/String" "value" "[B" (.ref t)) (p3 : Arv Z h0 t kB .byte (4 : Int32) [(.int (lo8 c0)), (.int (hi8 c0)), (.int (lo8 c1)), (.int (hi8 c1))] (.int 0)) (r0 : Chr c0) (r1 : Chr c1) (z0 : ¬ c0 = 0) (z1 : ¬ c1 = 0) :
    Py l Z (⟨"java/lang/String", "indexOf", "(I)I"⟩ : MethodName) 7 100 0 0 #[(.ref s), (.int 0)] h0 [] (fun rv h' => rv = some (.int (-1 : Int32)) ∧ h' = h0) := by
  refine Ct.py (by0 := jdk_42_method_79_code) (ml := 2) (rt := (some .int)) (rm := ({ frames := 6, cells := 0, slots := 0, locals := 87 } : Room)) ?_ (hq hw 107 rfl) (hq hw 8 rfl)
  refine Ct.mk (a0 := a0) (Ls := #[.val (.ref s), .val (.int 0)]) (plainFor_of_name pn_java_lang_String) (fun m => by first | (simp [entryFrame, mkF, argsToLocals, Value.category]; done) | rfl) ?_
  intro κ C
  show Go l _ Z _ _ _ κ [] h0 0 #[.val (.ref s), .val (.int 0)] [] 0 0
  refine go_aloadN C 1 d20_0 rfl rfl rfl ?_
  refine go_iloadN C 2 d20_1 rfl rfl ?_
  refine go_iconst C 3 (0 : Int32) d20_2 rfl (by decide) ?_
  refine go_callV C (a := s) (argsL := [(.int 0), (.int 0)]) (W := 0) d20_3 (hq hw 108 rfl) (hq hw 109 rfl) (fun _ hZ => notFace_of_selects (args := #[]) (mvT hZ (hq hw 111 rfl))) (hq hw 111 rfl) (hq hw 110 rfl) p0 (by decide) pd__II_I (ct_ix2_1_2 l Z a0 hw am (s := s) (t := t) (kB := kB) (c0 := c0) (c1 := c1) p0 p1 p2 p3 r0 r1 z0 z1) rfl (by decide) (Nat.le_of_eq rfl) (by decide) rfl (by decide) (by decide) mems0 ?_
  intro fv1 h2 K3 fq4
  obtain ⟨rfl, rfl⟩ := fq4
  refine ⟨[], fresh0, ?_⟩
  show Go l _ Z _ _ _ κ _ _ 6 _ [(.int (-1 : Int32))] 0 0
  refine go_retI C d20_6 rfl (by decide) (by decide) ?_
  exact ⟨rfl, rfl⟩
theorem ct_ulen3 (l : Launch) (Z : State) (a0 : Array Value) (hw : HW a0 Z) {cS : Int32} {fm : Value} {ub : Addr} (am : Amb Z a0 cS fm ub) {t : Addr} {kB : ClassId} {vs : List Value} {h0 : Heap} (p0 : Arv Z h0 t kB .byte (6 : Int32) vs (.int 0)) :
    Py l Z (⟨"java/lang/StringUTF16", "length", "([B)I"⟩ : MethodName) 1 12 0 0 #[(.ref t)] h0 [] (fun rv h' => rv = some (.int 3) ∧ h' = h0) := by
  refine Ct.py (by0 := jdk_52_method_6_code) (ml := 1) (rt := (some .int)) (rm := ({ frames := 0, cells := 0, slots := 0, locals := 0 } : Room)) ?_ (hq hw 147 rfl) (hq hw 76 rfl)
  refine Ct.mk (a0 := a0) (Ls := #[.val (.ref t)]) (plainFor_of_name pn_java_lang_StringUTF16) (fun m => by first | (simp [entryFrame, mkF, argsToLocals, Value.category]; done) | rfl) ?_
  intro κ C
  show Go l _ Z _ _ _ κ [] h0 0 #[.val (.ref t)] [] 0 0
  refine go_aloadN C 1 d30_0 rfl rfl rfl ?_
  refine go_arraylength C 2 d30_1 rfl p0 ?_
  refine go_iconst C 3 (1 : Int32) d30_2 rfl (by decide) ?_
  refine go_ishr C 4 (3 : Int32) d30_3 rfl (by decide) ?_
  refine go_retI C d30_4 rfl (by decide) (by decide) ?_
  exact ⟨rfl, rfl⟩
theorem ct_ucb3 (l : Launch) (Z : State) (a0 : Array Value) (hw : HW a0 Z) {cS : Int32} {fm : Value} {ub : Addr} (am : Amb Z a0 cS fm ub) {t : Addr} {kB : ClassId} {vs : List Value} {h0 : Heap} (p0 : Arv Z h0 t kB .byte (6 : Int32) vs (.int 0)) :
    Py l Z (⟨"java/lang/StringUTF16", "checkBoundsBeginEnd", "(II[B)V"⟩ : MethodName) 3 43 0 0 #[(.int 0), (.int 3), (.ref t)] h0 [] (fun rv h' => rv = none ∧ h' = h0) := by
  refine Ct.py (by0 := jdk_52_method_93_code) (ml := 3) (rt := none) (rm := ({ frames := 2, cells := 0, slots := 0, locals := 29 } : Room)) ?_ (hq hw 144 rfl) (hq hw 76 rfl)
  refine Ct.mk (a0 := a0) (Ls := #[.val (.int 0), .val (.int 3), .val (.ref t)]) (plainFor_of_name pn_java_lang_StringUTF16) (fun m => by first | (simp [entryFrame, mkF, argsToLocals, Value.category]; done) | rfl) ?_
  intro κ C
  show Go l _ Z _ _ _ κ [] h0 0 #[.val (.int 0), .val (.int 3), .val (.ref t)] [] 0 0
  refine go_iloadN C 1 d29_0 rfl rfl ?_
  refine go_iloadN C 2 d29_1 rfl rfl ?_
  refine go_aloadN C 3 d29_2 rfl rfl rfl ?_
  refine go_callS C (argsL := [(.ref t)]) (W := 2) d29_3 (hq hw 145 rfl) (hq hw 146 rfl) (hq hw 76 rfl) (hq hw 147 rfl) (by decide) pd___B_I (ct_ulen3 l Z a0 hw am (t := t) (kB := kB) (vs := vs) p0) rfl (by decide) (Nat.le_of_eq rfl) (by decide) rfl (by decide) (by decide) mems0 ?_
  intro fv1 h2 K3 fq4
  obtain ⟨rfl, rfl⟩ := fq4
  refine ⟨[], fresh0, ?_⟩
  show Go l _ Z _ _ _ κ _ _ 6 _ [(.int 3), (.int 3), (.int 0)] 0 0
  refine go_callS C (argsL := [(.int 0), (.int 3), (.int 3)]) (W := 0) d29_6 (hq hw 148 rfl) (hq hw 149 rfl) (hq hw 8 rfl) (hq hw 150 rfl) (by decide) pd__III_V (ct_cbe l Z a0 hw am (i := (0 : Int32)) (j := (3 : Int32)) (n := (3 : Int32)) (by decide) (by decide) (by decide)) rfl (by decide) (Nat.le_of_eq rfl) (by decide) rfl (by decide) (by decide) mems0 ?_
  intro fv5 h6 K7 fq8
  obtain ⟨rfl, rfl⟩ := fq8
  refine ⟨[], fresh0, ?_⟩
  show Go l _ Z _ _ _ κ _ _ 9 _ [] 0 0
  refine go_ret C d29_9 rfl (by decide) (by decide) ?_
  exact ⟨rfl, rfl⟩
theorem ct_uiu3 (l : Launch) (Z : State) (a0 : Array Value) (hw : HW a0 Z) {cS : Int32} {fm : Value} {ub : Addr} (am : Amb Z a0 cS fm ub) {t : Addr} {kB : ClassId} {c0 : Int32} {c1 : Int32} {c2 : Int32} {h0 : Heap} (p0 : Arv Z h0 t kB .byte (6 : Int32) [(.int (lo8 c0)), (.int (hi8 c0)), (.int (lo8 c1)), (.int (hi8 c1)), (.int (lo8 c2)), (.int (hi8 c2))] (.int 0)) (r0 : Chr c0) (r1 : Chr c1) (r2 : Chr c2) (z0 : ¬ c0 = 0) (z1 : ¬ c1 = 0) (z2 : ¬ c2 = 0) :
    Py l Z (⟨"java/lang/StringUTF16", "indexOfCharUnsafe", "([BIII)I"⟩ : MethodName) 2 29 0 0 #[(.ref t), (.int 0), (.int 0), (.int 3)] h0 [] (fun rv h' => rv = some (.int (-1 : Int32)) ∧ h' = h0) := by
  refine Ct.py (by0 := jdk_52_method_48_code) (ml := 5) (rt := (some .int)) (rm := ({ frames := 1, cells := 0, slots := 0, locals := 13 } : Room)) ?_ (hq hw 158 rfl) (hq hw 76 rfl)
  refine Ct.mk (a0 := a0) (Ls := #[.val (.ref t), .val (.int 0), .val (.int 0), .val (.int 3), .unset]) (plainFor_of_name pn_java_lang_StringUTF16) (fun m => by first | (simp [entryFrame, mkF, argsToLocals, Value.category]; done) | rfl) ?_
  intro κ C
  show Go l _ Z _ _ _ κ [] h0 0 #[.val (.ref t), .val (.int 0), .val (.int 0), .val (.int 3), .unset] [] 0 0
  refine go_iloadN C 1 d33_0 rfl rfl ?_
  refine go_istore C 3 (Ls' := #[.val (.ref t), .val (.int 0), .val (.int 0), .val (.int 3), .val (.int 0)]) d33_1 rfl rfl ?_
  refine go_iload C 5 d33_3 rfl rfl ?_
  refine go_iloadN C 6 d33_5 rfl rfl ?_
  refine go_icmpN C 9 d33_6 rfl (tlt ((by decide) : (0 : Int32) < (3 : Int32))).2.1 ?_
  refine go_aloadN C 10 d33_9 rfl rfl rfl ?_
  refine go_iload C 12 d33_10 rfl rfl ?_
  refine go_callS C (argsL := [(.ref t), (.int 0)]) (W := 0) d33_12 (hq hw 97 rfl) (hq hw 98 rfl) (hq hw 76 rfl) (hq hw 99 rfl) (by decide) pd___BI_C (ct_get3_0 l Z a0 hw am (t := t) (kB := kB) (c0 := c0) (c1 := c1) (c2 := c2) p0 r0) rfl (by decide) (Nat.le_of_eq rfl) (by decide) rfl (by decide) (by decide) mems0 ?_
  intro fv1 h2 K3 fq4
  obtain ⟨rfl, rfl⟩ := fq4
  refine ⟨[], fresh0, ?_⟩
  show Go l _ Z _ _ _ κ _ _ 15 _ [(.int c0)] 0 0
  refine go_iloadN C 16 d33_15 rfl rfl ?_
  refine go_icmpY C (pc' := 22) d33_16 (feq (z0 : ¬ (c0 = (0 : Int32)))).2 (by decide) (by decide) ?_
  refine go_iinc C 25 (Ls' := #[.val (.ref t), .val (.int 0), .val (.int 0), .val (.int 3), .val (.int 1)]) (1 : Int32) d33_22 rfl (by decide) rfl rfl ?_
  refine go_goto C (pc' := 3) d33_25 (by decide) (by decide) ?_
  refine go_iload C 5 d33_3 rfl rfl ?_
  refine go_iloadN C 6 d33_5 rfl rfl ?_
  refine go_icmpN C 9 d33_6 rfl (tlt ((by decide) : (1 : Int32) < (3 : Int32))).2.1 ?_
  refine go_aloadN C 10 d33_9 rfl rfl rfl ?_
  refine go_iload C 12 d33_10 rfl rfl ?_
  refine go_callS C (argsL := [(.ref t), (.int 1)]) (W := 0) d33_12 (hq hw 97 rfl) (hq hw 98 rfl) (hq hw 76 rfl) (hq hw 99 rfl) (by decide) pd___BI_C (ct_get3_1 l Z a0 hw am (t := t) (kB := kB) (c0 := c0) (c1 := c1) (c2 := c2) p0 r1) rfl (by decide) (Nat.le_of_eq rfl) (by decide) rfl (by decide) (by decide) mems0 ?_
  intro fv5 h6 K7 fq8
  obtain ⟨rfl, rfl⟩ := fq8
  refine ⟨[], fresh0, ?_⟩
  show Go l _ Z _ _ _ κ _ _ 15 _ [(.int c1)] 0 0
  refine go_iloadN C 16 d33_15 rfl rfl ?_
  refine go_icmpY C (pc' := 22) d33_16 (feq (z1 : ¬ (c1 = (0 : Int32)))).2 (by decide) (by decide) ?_
  refine go_iinc C 25 (Ls' := #[.val (.ref t), .val (.int 0), .val (.int 0), .val (.int 3), .val (.int 2)]) (1 : Int32) d33_22 rfl (by decide) rfl rfl ?_
  refine go_goto C (pc' := 3) d33_25 (by decide) (by decide) ?_
  refine go_iload C 5 d33_3 rfl rfl ?_
  refine go_iloadN C 6 d33_5 rfl rfl ?_
  refine go_icmpN C 9 d33_6 rfl (tlt ((by decide) : (2 : Int32) < (3 : Int32))).2.1 ?_
  refine go_aloadN C 10 d33_9 rfl rfl rfl ?_
  refine go_iload C 12 d33_10 rfl rfl ?_
  refine go_callS C (argsL := [(.ref t), (.int 2)]) (W := 0) d33_12 (hq hw 97 rfl) (hq hw 98 rfl) (hq hw 76 rfl) (hq hw 99 rfl) (by decide) pd___BI_C (ct_get3_2 l Z a0 hw am (t := t) (kB := kB) (c0 := c0) (c1 := c1) (c2 := c2) p0 r2) rfl (by decide) (Nat.le_of_eq rfl) (by decide) rfl (by decide) (by decide) mems0 ?_
  intro fv9 h10 K11 fq12
  obtain ⟨rfl, rfl⟩ := fq12
  refine ⟨[], fresh0, ?_⟩
  show Go l _ Z _ _ _ κ _ _ 15 _ [(.int c2)] 0 0
  refine go_iloadN C 16 d33_15 rfl rfl ?_
  refine go_icmpY C (pc' := 22) d33_16 (feq (z2 : ¬ (c2 = (0 : Int32)))).2 (by decide) (by decide) ?_
  refine go_iinc C 25 (Ls' := #[.val (.ref t), .val (.int 0), .val (.int 0), .val (.int 3), .val (.int 3)]) (1 : Int32) d33_22 rfl (by decide) rfl rfl ?_
  refine go_goto C (pc' := 3) d33_25 (by decide) (by decide) ?_
  refine go_iload C 5 d33_3 rfl rfl ?_
  refine go_iloadN C 6 d33_5 rfl rfl ?_
  refine go_icmpY C (pc' := 28) d33_6 (flt ((by decide) : ¬ ((3 : Int32) < (3 : Int32)))).2.1 (by decide) (by decide) ?_
  refine go_iconst C 29 (-1 : Int32) d33_28 rfl (by decide) ?_
  refine go_retI C d33_29 rfl (by decide) (by decide) ?_
  exact ⟨rfl, rfl⟩
theorem ct_uic3 (l : Launch) (Z : State) (a0 : Array Value) (hw : HW a0 Z) {cS : Int32} {fm : Value} {ub : Addr} (am : Amb Z a0 cS fm ub) {t : Addr} {kB : ClassId} {c0 : Int32} {c1 : Int32} {c2 : Int32} {h0 : Heap} (p0 : Arv Z h0 t kB .byte (6 : Int32) [(.int (lo8 c0)), (.int (hi8 c0)), (.int (lo8 c1)), (.int (hi8 c1)), (.int (lo8 c2)), (.int (hi8 c2))] (.int 0)) (r0 : Chr c0) (r1 : Chr c1) (r2 : Chr c2) (z0 : ¬ c0 = 0) (z1 : ¬ c1 = 0) (z2 : ¬ c2 = 0) :
    Py l Z (⟨"java/lang/StringUTF16", "indexOfChar", "([BIII)I"⟩ : MethodName) 4 58 0 0 #[(.ref t), (.int 0), (.int 0), (.int 3)] h0 [] (fun rv h' => rv = some (.int (-1 : Int32)) ∧ h' = h0) := by
  refine Ct.py (by0 := jdk_52_method_47_code) (ml := 4) (rt := (some .int)) (rm := ({ frames := 3, cells := 0, slots := 0, locals := 43 } : Room)) ?_ (hq hw 141 rfl) (hq hw 76 rfl)
  refine Ct.mk (a0 := a0) (Ls := #[.val (.ref t), .val (.int 0), .val (.int 0), .val (.int 3)]) (plainFor_of_name pn_java_lang_StringUTF16) (fun m => by first | (simp [entryFrame, mkF, argsToLocals, Value.category]; done) | rfl) ?_
  intro κ C
  show Go l _ Z _ _ _ κ [] h0 0 #[.val (.ref t), .val (.int 0), .val (.int 0), .val (.int 3)] [] 0 0
  refine go_iloadN C 1 d28_0 rfl rfl ?_
  refine go_iloadN C 2 d28_1 rfl rfl ?_
  refine go_aloadN C 3 d28_2 rfl rfl rfl ?_
  refine go_callS C (argsL := [(.int 0), (.int 3), (.ref t)]) (W := 0) d28_3 (hq hw 142 rfl) (hq hw 143 rfl) (hq hw 76 rfl) (hq hw 144 rfl) (by decide) pd__II_B_V (ct_ucb3 l Z a0 hw am (t := t) (kB := kB) (vs := [(.int (lo8 c0)), (.int (hi8 c0)), (.int (lo8 c1)), (.int (hi8 c1)), (.int (lo8 c2)), (.int (hi8 c2))]) p0) rfl (by decide) (Nat.le_of_eq rfl) (by decide) rfl (by decide) (by decide) mems0 ?_
  intro fv1 h2 K3 fq4
  obtain ⟨rfl, rfl⟩ := fq4
  refine ⟨[], fresh0, ?_⟩
  show Go l _ Z _ _ _ κ _ _ 6 _ [] 0 0
  refine go_aloadN C 7 d28_6 rfl rfl rfl ?_
  refine go_iloadN C 8 d28_7 rfl rfl ?_
  refine go_iloadN C 9 d28_8 rfl rfl ?_
  refine go_iloadN C 10 d28_9 rfl rfl ?_
  refine go_callS C (argsL := [(.ref t), (.int 0), (.int 0), (.int 3)]) (W := 0) d28_10 (hq hw 156 rfl) (hq hw 157 rfl) (hq hw 76 rfl) (hq hw 158 rfl) (by decide) pd___BIII_I (ct_uiu3 l Z a0 hw am (t := t) (kB := kB) (c0 := c0) (c1 := c1) (c2 := c2) p0 r0 r1 r2 z0 z1 z2) rfl (by decide) (Nat.le_of_eq rfl) (by decide) rfl (by decide) (by decide) mems0 ?_
  intro fv5 h6 K7 fq8
  obtain ⟨rfl, rfl⟩ := fq8
  refine ⟨[], fresh0, ?_⟩
  show Go l _ Z _ _ _ κ _ _ 13 _ [(.int (-1 : Int32))] 0 0
  refine go_retI C d28_13 rfl (by decide) (by decide) ?_
  exact ⟨rfl, rfl⟩
theorem ct_uix3 (l : Launch) (Z : State) (a0 : Array Value) (hw : HW a0 Z) {cS : Int32} {fm : Value} {ub : Addr} (am : Amb Z a0 cS fm ub) {t : Addr} {kB : ClassId} {c0 : Int32} {c1 : Int32} {c2 : Int32} {h0 : Heap} (p0 : Arv Z h0 t kB .byte (6 : Int32) [(.int (lo8 c0)), (.int (hi8 c0)), (.int (lo8 c1)), (.int (hi8 c1)), (.int (lo8 c2)), (.int (hi8 c2))] (.int 0)) (r0 : Chr c0) (r1 : Chr c1) (r2 : Chr c2) (z0 : ¬ c0 = 0) (z1 : ¬ c1 = 0) (z2 : ¬ c2 = 0) :
    Py l Z (⟨"java/lang/StringUTF16", "indexOf", "([BIII)I"⟩ : MethodName) 5 73 0 0 #[(.ref t), (.int 0), (.int 0), (.int 3)] h0 [] (fun rv h' => rv = some (.int (-1 : Int32)) ∧ h' = h0) := by
  refine Ct.py (by0 := jdk_52_method_40_code) (ml := 4) (rt := (some .int)) (rm := ({ frames := 4, cells := 0, slots := 0, locals := 58 } : Room)) ?_ (hq hw 130 rfl) (hq hw 76 rfl)
  refine Ct.mk (a0 := a0) (Ls := #[.val (.ref t), .val (.int 0), .val (.int 0), .val (.int 3)]) (plainFor_of_name pn_java_lang_StringUTF16) (fun m => by first | (simp [entryFrame, mkF, argsToLocals, Value.category]; done) | rfl) ?_
  intro κ C
  show Go l _ Z _ _ _ κ [] h0 0 #[.val (.ref t), .val (.int 0), .val (.int 0), .val (.int 3)] [] 0 0
  refine go_iloadN C 1 d25_0 rfl rfl ?_
  refine go_iconst C 2 (0 : Int32) d25_1 rfl (by decide) ?_
  refine go_callS C (argsL := [(.int 0), (.int 0)]) (W := 0) d25_2 (hq hw 131 rfl) (hq hw 132 rfl) (hq hw 133 rfl) (hq hw 134 rfl) (by decide) pd__II_I (ct_max0 l Z a0 hw am) rfl (by decide) (Nat.le_of_eq rfl) (by decide) rfl (by decide) (by decide) mems0 ?_
  intro fv1 h2 K3 fq4
  obtain ⟨rfl, rfl⟩ := fq4
  refine ⟨[], fresh0, ?_⟩
  show Go l _ Z _ _ _ κ _ _ 5 _ [(.int 0)] 0 0
  refine go_istoreN C 6 (Ls' := #[.val (.ref t), .val (.int 0), .val (.int 0), .val (.int 3)]) d25_5 rfl rfl ?_
  refine go_iloadN C 7 d25_6 rfl rfl ?_
  refine go_aloadN C 8 d25_7 rfl rfl rfl ?_
  refine go_arraylength C 9 d25_8 rfl p0 ?_
  refine go_iconst C 10 (1 : Int32) d25_9 rfl (by decide) ?_
  refine go_ishr C 11 (3 : Int32) d25_10 rfl (by decide) ?_
  refine go_callS C (argsL := [(.int 3), (.int 3)]) (W := 0) d25_11 (hq hw 135 rfl) (hq hw 136 rfl) (hq hw 133 rfl) (hq hw 137 rfl) (by decide) pd__II_I (ct_min3 l Z a0 hw am) rfl (by decide) (Nat.le_of_eq rfl) (by decide) rfl (by decide) (by decide) mems0 ?_
  intro fv5 h6 K7 fq8
  obtain ⟨rfl, rfl⟩ := fq8
  refine ⟨[], fresh0, ?_⟩
  show Go l _ Z _ _ _ κ _ _ 14 _ [(.int 3)] 0 0
  refine go_istoreN C 15 (Ls' := #[.val (.ref t), .val (.int 0), .val (.int 0), .val (.int 3)]) d25_14 rfl rfl ?_
  refine go_iloadN C 16 d25_15 rfl rfl ?_
  refine go_iloadN C 17 d25_16 rfl rfl ?_
  refine go_icmpY C (pc' := 22) d25_17 (tlt ((by decide) : (0 : Int32) < (3 : Int32))).1 (by decide) (by decide) ?_
  refine go_iloadN C 23 d25_22 rfl rfl ?_
  refine go_ldcInt C 25 (v := (65536 : Int32)) d25_23 rfl (hq hw 138 rfl) ?_
  refine go_icmpN C 28 d25_25 rfl (tlt ((by decide) : (0 : Int32) < (65536 : Int32))).2.1 ?_
  refine go_aloadN C 29 d25_28 rfl rfl rfl ?_
  refine go_iloadN C 30 d25_29 rfl rfl ?_
  refine go_iloadN C 31 d25_30 rfl rfl ?_
  refine go_iloadN C 32 d25_31 rfl rfl ?_
  refine go_callS C (argsL := [(.ref t), (.int 0), (.int 0), (.int 3)]) (W := 0) d25_32 (hq hw 139 rfl) (hq hw 140 rfl) (hq hw 76 rfl) (hq hw 141 rfl) (by decide) pd___BIII_I (ct_uic3 l Z a0 hw am (t := t) (kB := kB) (c0 := c0) (c1 := c1) (c2 := c2) p0 r0 r1 r2 z0 z1 z2) rfl (by decide) (Nat.le_of_eq rfl) (by decide) rfl (by decide) (by decide) mems0 ?_
  intro fv9 h10 K11 fq12
  obtain ⟨rfl, rfl⟩ := fq12
  refine ⟨[], fresh0, ?_⟩
  show Go l _ Z _ _ _ κ _ _ 35 _ [(.int (-1 : Int32))] 0 0
  refine go_retI C d25_35 rfl (by decide) (by decide) ?_
  exact ⟨rfl, rfl⟩
theorem ct_lic3 (l : Launch) (Z : State) (a0 : Array Value) (hw : HW a0 Z) {cS : Int32} {fm : Value} {ub : Addr} (am : Amb Z a0 cS fm ub) {t : Addr} {kB : ClassId} {c0 : Int32} {c1 : Int32} {c2 : Int32} {h0 : Heap} (p0 : Arv Z h0 t kB .byte (3 : Int32) [(.int (lo8 c0)), (.int (lo8 c1)), (.int (lo8 c2))] (.int 0)) (r0 : Chr c0) (r1 : Chr c1) (r2 : Chr c2) (z0 : ¬ c0 = 0) (z1 : ¬ c1 = 0) (z2 : ¬ c2 = 0) (l0 : ¬ (255 : Int32) < c0) (l1 : ¬ (255 : Int32) < c1) (l2 : ¬ (255 : Int32) < c2) :
    Py l Z (⟨"java/lang/StringLatin1", "indexOfChar", "([BIII)I"⟩ : MethodName) 1 17 0 0 #[(.ref t), (.int 0), (.int 0), (.int 3)] h0 [] (fun rv h' => rv = some (.int (-1 : Int32)) ∧ h' = h0) := by
  refine Ct.py (by0 := jdk_43_method_23_code) (ml := 6) (rt := (some .int)) (rm := ({ frames := 0, cells := 0, slots := 0, locals := 0 } : Room)) ?_ (hq hw 175 rfl) (hq hw 166 rfl)
  refine Ct.mk (a0 := a0) (Ls := #[.val (.ref t), .val (.int 0), .val (.int 0), .val (.int 3), .unset, .unset]) (plainFor_of_name pn_java_lang_StringLatin1) (fun m => by first | (simp [entryFrame, mkF, argsToLocals, Value.category]; done) | rfl) ?_
  intro κ C
  show Go l _ Z _ _ _ κ [] h0 0 #[.val (.ref t), .val (.int 0), .val (.int 0), .val (.int 3), .unset, .unset] [] 0 0
  refine go_iloadN C 1 d37_0 rfl rfl ?_
  refine go_i2b C 2 (0 : Int32) d37_1 rfl (by decide) ?_
  refine go_istore C 4 (Ls' := #[.val (.ref t), .val (.int 0), .val (.int 0), .val (.int 3), .val (.int 0), .unset]) d37_2 rfl rfl ?_
  refine go_iloadN C 5 d37_4 rfl rfl ?_
  refine go_istore C 7 (Ls' := #[.val (.ref t), .val (.int 0), .val (.int 0), .val (.int 3), .val (.int 0), .val (.int 0)]) d37_5 rfl rfl ?_
  refine go_iload C 9 d37_7 rfl rfl ?_
  refine go_iloadN C 10 d37_9 rfl rfl ?_
  refine go_icmpN C 13 d37_10 rfl (tlt ((by decide) : (0 : Int32) < (3 : Int32))).2.1 ?_
  refine go_aloadN C 14 d37_13 rfl rfl rfl ?_
  refine go_iload C 16 d37_14 rfl rfl ?_
  refine go_baload C 17 (v := (.int (lo8 c0))) d37_16 rfl p0 (by decide) rfl ?_
  refine go_iload C 19 d37_17 rfl rfl ?_
  refine go_icmpY C (pc' := 25) d37_19 (feq (lo8_nz r0.1 l0 z0 : ¬ ((lo8 c0) = (0 : Int32)))).2 (by decide) (by decide) ?_
  refine go_iinc C 28 (Ls' := #[.val (.ref t), .val (.int 0), .val (.int 0), .val (.int 3), .val (.int 0), .val (.int 1)]) (1 : Int32) d37_25 rfl (by decide) rfl rfl ?_
  refine go_goto C (pc' := 7) d37_28 (by decide) (by decide) ?_
  refine go_iload C 9 d37_7 rfl rfl ?_
  refine go_iloadN C 10 d37_9 rfl rfl ?_
  refine go_icmpN C 13 d37_10 rfl (tlt ((by decide) : (1 : Int32) < (3 : Int32))).2.1 ?_
  refine go_aloadN C 14 d37_13 rfl rfl rfl ?_
  refine go_iload C 16 d37_14 rfl rfl ?_
  refine go_baload C 17 (v := (.int (lo8 c1))) d37_16 rfl p0 (by decide) rfl ?_
  refine go_iload C 19 d37_17 rfl rfl ?_
  refine go_icmpY C (pc' := 25) d37_19 (feq (lo8_nz r1.1 l1 z1 : ¬ ((lo8 c1) = (0 : Int32)))).2 (by decide) (by decide) ?_
  refine go_iinc C 28 (Ls' := #[.val (.ref t), .val (.int 0), .val (.int 0), .val (.int 3), .val (.int 0), .val (.int 2)]) (1 : Int32) d37_25 rfl (by decide) rfl rfl ?_
  refine go_goto C (pc' := 7) d37_28 (by decide) (by decide) ?_
  refine go_iload C 9 d37_7 rfl rfl ?_
  refine go_iloadN C 10 d37_9 rfl rfl ?_
  refine go_icmpN C 13 d37_10 rfl (tlt ((by decide) : (2 : Int32) < (3 : Int32))).2.1 ?_
  refine go_aloadN C 14 d37_13 rfl rfl rfl ?_
  refine go_iload C 16 d37_14 rfl rfl ?_
  refine go_baload C 17 (v := (.int (lo8 c2))) d37_16 rfl p0 (by decide) rfl ?_
  refine go_iload C 19 d37_17 rfl rfl ?_
  refine go_icmpY C (pc' := 25) d37_19 (feq (lo8_nz r2.1 l2 z2 : ¬ ((lo8 c2) = (0 : Int32)))).2 (by decide) (by decide) ?_
  refine go_iinc C 28 (Ls' := #[.val (.ref t), .val (.int 0), .val (.int 0), .val (.int 3), .val (.int 0), .val (.int 3)]) (1 : Int32) d37_25 rfl (by decide) rfl rfl ?_
  refine go_goto C (pc' := 7) d37_28 (by decide) (by decide) ?_
  refine go_iload C 9 d37_7 rfl rfl ?_
  refine go_iloadN C 10 d37_9 rfl rfl ?_
  refine go_icmpY C (pc' := 31) d37_10 (flt ((by decide) : ¬ ((3 : Int32) < (3 : Int32)))).2.1 (by decide) (by decide) ?_
  refine go_iconst C 32 (-1 : Int32) d37_31 rfl (by decide) ?_
  refine go_retI C d37_32 rfl (by decide) (by decide) ?_
  exact ⟨rfl, rfl⟩
theorem ct_lix3 (l : Launch) (Z : State) (a0 : Array Value) (hw : HW a0 Z) {cS : Int32} {fm : Value} {ub : Addr} (am : Amb Z a0 cS fm ub) {t : Addr} {kB : ClassId} {c0 : Int32} {c1 : Int32} {c2 : Int32} {h0 : Heap} (p0 : Arv Z h0 t kB .byte (3 : Int32) [(.int (lo8 c0)), (.int (lo8 c1)), (.int (lo8 c2))] (.int 0)) (r0 : Chr c0) (r1 : Chr c1) (r2 : Chr c2) (z0 : ¬ c0 = 0) (z1 : ¬ c1 = 0) (z2 : ¬ c2 = 0) (l0 : ¬ (255 : Int32) < c0) (l1 : ¬ (255 : Int32) < c1) (l2 : ¬ (255 : Int32) < c2) :
    Py l Z (⟨"java/lang/StringLatin1", "indexOf", "([BIII)I"⟩ : MethodName) 2 32 0 0 #[(.ref t), (.int 0), (.int 0), (.int 3)] h0 [] (fun rv h' => rv = some (.int (-1 : Int32)) ∧ h' = h0) := by
  refine Ct.py (by0 := jdk_43_method_22_code) (ml := 4) (rt := (some .int)) (rm := ({ frames := 1, cells := 0, slots := 0, locals := 17 } : Room)) ?_ (hq hw 167 rfl) (hq hw 166 rfl)
  refine Ct.mk (a0 := a0) (Ls := #[.val (.ref t), .val (.int 0), .val (.int 0), .val (.int 3)]) (plainFor_of_name pn_java_lang_StringLatin1) (fun m => by first | (simp [entryFrame, mkF, argsToLocals, Value.category]; done) | rfl) ?_
  intro κ C
  show Go l _ Z _ _ _ κ [] h0 0 #[.val (.ref t), .val (.int 0), .val (.int 0), .val (.int 3)] [] 0 0
  refine go_iloadN C 1 d35_0 rfl rfl ?_
  refine go_callS C (argsL := [(.int 0)]) (W := 0) d35_1 (hq hw 168 rfl) (hq hw 169 rfl) (hq hw 166 rfl) (hq hw 170 rfl) (by decide) pd__I_Z (ct_cane l Z a0 hw am) rfl (by decide) (Nat.le_of_eq rfl) (by decide) rfl (by decide) (by decide) mems0 ?_
  intro fv1 h2 K3 fq4
  obtain ⟨rfl, rfl⟩ := fq4
  refine ⟨[], fresh0, ?_⟩
  show Go l _ Z _ _ _ κ _ _ 4 _ [(.int 1)] 0 0
  refine go_ifY C (pc' := 9) d35_4 (feq ((by decide) : ¬ ((1 : Int32) = (0 : Int32)))).2 (by decide) (by decide) ?_
  refine go_iloadN C 10 d35_9 rfl rfl ?_
  refine go_iconst C 11 (0 : Int32) d35_10 rfl (by decide) ?_
  refine go_callS C (argsL := [(.int 0), (.int 0)]) (W := 0) d35_11 (hq hw 171 rfl) (hq hw 132 rfl) (hq hw 133 rfl) (hq hw 134 rfl) (by decide) pd__II_I (ct_max0 l Z a0 hw am) rfl (by decide) (Nat.le_of_eq rfl) (by decide) rfl (by decide) (by decide) mems0 ?_
  intro fv5 h6 K7 fq8
  obtain ⟨rfl, rfl⟩ := fq8
  refine ⟨[], fresh0, ?_⟩
  show Go l _ Z _ _ _ κ _ _ 14 _ [(.int 0)] 0 0
  refine go_istoreN C 15 (Ls' := #[.val (.ref t), .val (.int 0), .val (.int 0), .val (.int 3)]) d35_14 rfl rfl ?_
  refine go_iloadN C 16 d35_15 rfl rfl ?_
  refine go_aloadN C 17 d35_16 rfl rfl rfl ?_
  refine go_arraylength C 18 d35_17 rfl p0 ?_
  refine go_callS C (argsL := [(.int 3), (.int 3)]) (W := 0) d35_18 (hq hw 172 rfl) (hq hw 136 rfl) (hq hw 133 rfl) (hq hw 137 rfl) (by decide) pd__II_I (ct_min3 l Z a0 hw am) rfl (by decide) (Nat.le_of_eq rfl) (by decide) rfl (by decide) (by decide) mems0 ?_
  intro fv9 h10 K11 fq12
  obtain ⟨rfl, rfl⟩ := fq12
  refine ⟨[], fresh0, ?_⟩
  show Go l _ Z _ _ _ κ _ _ 21 _ [(.int 3)] 0 0
  refine go_istoreN C 22 (Ls' := #[.val (.ref t), .val (.int 0), .val (.int 0), .val (.int 3)]) d35_21 rfl rfl ?_
  refine go_iloadN C 23 d35_22 rfl rfl ?_
  refine go_iloadN C 24 d35_23 rfl rfl ?_
  refine go_icmpY C (pc' := 29) d35_24 (tlt ((by decide) : (0 : Int32) < (3 : Int32))).1 (by decide) (by decide) ?_
  refine go_aloadN C 30 d35_29 rfl rfl rfl ?_
  refine go_iloadN C 31 d35_30 rfl rfl ?_
  refine go_iloadN C 32 d35_31 rfl rfl ?_
  refine go_iloadN C 33 d35_32 rfl rfl ?_
  refine go_callS C (argsL := [(.ref t), (.int 0), (.int 0), (.int 3)]) (W := 0) d35_33 (hq hw 173 rfl) (hq hw 174 rfl) (hq hw 166 rfl) (hq hw 175 rfl) (by decide) pd___BIII_I (ct_lic3 l Z a0 hw am (t := t) (kB := kB) (c0 := c0) (c1 := c1) (c2 := c2) p0 r0 r1 r2 z0 z1 z2 l0 l1 l2) rfl (by decide) (Nat.le_of_eq rfl) (by decide) rfl (by decide) (by decide) mems0 ?_
  intro fv13 h14 K15 fq16
  obtain ⟨rfl, rfl⟩ := fq16
  refine ⟨[], fresh0, ?_⟩
  show Go l _ Z _ _ _ κ _ _ 36 _ [(.int (-1 : Int32))] 0 0
  refine go_retI C d35_36 rfl (by decide) (by decide) ?_
  exact ⟨rfl, rfl⟩
theorem ct_ix2_0_3 (l : Launch) (Z : State) (a0 : Array Value) (hw : HW a0 Z) {cS : Int32} {fm : Value} {ub : Addr} (am : Amb Z a0 cS fm ub) {s : Addr} {t : Addr} {kB : ClassId} {c0 : Int32} {c1 : Int32} {c2 : Int32} {h0 : Heap} (p0 : Exa Z h0 s "java/lang/String") (p1 : Fld Z h0 s "java/lang/String" "coder" "B" (.int 0)) (p2 : Fld Z h0 s "java/lang/String" "value" "[B" (.ref t)) (p3 : Arv Z h0 t kB .byte (3 : Int32) [(.int (lo8 c0)), (.int (lo8 c1)), (.int (lo8 c2))] (.int 0)) (r0 : Chr c0) (r1 : Chr c1) (r2 : Chr c2) (z0 : ¬ c0 = 0) (z1 : ¬ c1 = 0) (z2 : ¬ c2 = 0) (l0 : ¬ (255 : Int32) < c0) (l1 : ¬ (255 : Int32) < c1) (l2 : ¬ (255 : Int32) < c2) :
    Py l Z (⟨"java/lang/String", "indexOf", "(II)I"⟩ : MethodName) 3 46 0 0 #[(.ref s), (.int 0), (.int 0)] h0 [] (fun rv h' => rv = some (.int (-1 : Int32)) ∧ h' = h0) := by
  refine Ct.py (by0 := jdk_42_method_80_code) (ml := 3) (rt := (some .int)) (rm := ({ frames := 2, cells := 0, slots := 0, locals := 32 } : Room)) ?_ (hq hw 112 rfl) (hq hw 8 rfl)
  refine Ct.mk (a0 := a0) (Ls := #[.val (.ref s), .val (.int 0), .val (.int 0)]) (plainFor_of_name pn_java_lang_String) (fun m => by first | (simp [entryFrame, mkF, argsToLocals, Value.category]; done) | rfl) ?_
  intro κ C
  show Go l _ Z _ _ _ κ [] h0 0 #[.val (.ref s), .val (.int 0), .val (.int 0)] [] 0 0
  refine go_aloadN C 1 d21_0 rfl rfl rfl ?_
  refine go_callV C (a := s) (argsL := []) (W := 0) d21_1 (hq hw 113 rfl) (hq hw 114 rfl) (fun _ hZ => notFace_of_selects (args := #[]) (mvT hZ (hq hw 116 rfl))) (hq hw 116 rfl) (hq hw 115 rfl) p0 (by decide) pd___Z (ct_isl0 l Z a0 hw am (s := s) p1) rfl (by decide) (Nat.le_of_eq rfl) (by decide) rfl (by decide) (by decide) mems0 ?_
  intro fv1 h2 K3 fq4
  obtain ⟨rfl, rfl⟩ := fq4
  refine ⟨[], fresh0, ?_⟩
  show Go l _ Z _ _ _ κ _ _ 4 _ [(.int 1)] 0 0
  refine go_ifN C 7 d21_4 rfl (feq ((by decide) : ¬ ((1 : Int32) = (0 : Int32)))).1 ?_
  refine go_aloadN C 8 d21_7 rfl rfl rfl ?_
  refine go_getF C 11 d21_8 rfl (hq hw 26 rfl) Via.refl p2 ?_
  refine go_iloadN C 12 d21_11 rfl rfl ?_
  refine go_iloadN C 13 d21_12 rfl rfl ?_
  refine go_aloadN C 14 d21_13 rfl rfl rfl ?_
  refine go_callV C (a := s) (argsL := []) (W := 3) d21_14 (hq hw 118 rfl) (hq hw 119 rfl) (fun _ hZ => notFace_of_selects (args := #[]) (mvT hZ (hq hw 121 rfl))) (hq hw 121 rfl) (hq hw 120 rfl) p0 (by decide) pd___I (ct_len0_3 l Z a0 hw am (s := s) (t := t) (kB := kB) (vs := [(.int (lo8 c0)), (.int (lo8 c1)), (.int (lo8 c2))]) p0 p1 p2 p3) rfl (by decide) (Nat.le_of_eq rfl) (by decide) rfl (by decide) (by decide) mems0 ?_
  intro fv5 h6 K7 fq8
  obtain ⟨rfl, rfl⟩ := fq8
  refine ⟨[], fresh0, ?_⟩
  show Go l _ Z _ _ _ κ _ _ 17 _ [(.int 3), (.int 0), (.int 0), (.ref t)] 0 0
  refine go_callS C (argsL := [(.ref t), (.int 0), (.int 0), (.int 3)]) (W := 0) d21_17 (hq hw 164 rfl) (hq hw 165 rfl) (hq hw 166 rfl) (hq hw 167 rfl) (by decide) pd___BIII_I (ct_lix3 l Z a0 hw am (t := t) (kB := kB) (c0 := c0) (c1 := c1) (c2 := c2) p3 r0 r1 r2 z0 z1 z2 l0 l1 l2) rfl (by decide) (Nat.le_of_eq rfl) (by decide) rfl (by decide) (by decide) mems0 ?_
  intro fv9 h10 K11 fq12
  obtain ⟨rfl, rfl⟩ := fq12
  refine ⟨[], fresh0, ?_⟩
  show Go l _ Z _ _ _ κ _ _ 20 _ [(.int (-1 : Int32))] 0 0
  refine go_goto C (pc' := 36) d21_20 (by decide) (by decide) ?_
  refine go_retI C d21_36 rfl (by decide) (by decide) ?_
  exact ⟨rfl, rfl⟩
theorem ct_ix1_0_3 (l : Launch) (Z : State) (a0 : Array Value) (hw : HW a0 Z) {cS : Int32} {fm : Value} {ub : Addr} (am : Amb Z a0 cS fm ub) {s : Addr} {t : Addr} {kB : ClassId} {c0 : Int32} {c1 : Int32} {c2 : Int32} {h0 : Heap} (p0 : Exa Z h0 s "java/lang/String") (p1 : Fld Z h0 s "java/lang/String" "coder" "B" (.int 0)) (p2 : Fld Z h0 s "java/lang/String" "value" "[B" (.ref t)) (p3 : Arv Z h0 t kB .byte (3 : Int32) [(.int (lo8 c0)), (.int (lo8 c1)), (.int (lo8 c2))] (.int 0)) (r0 : Chr c0) (r1 : Chr c1) (r2 : Chr c2) (z0 : ¬ c0 = 0) (z1 : ¬ c1 = 0) (z2 : ¬ c2 = 0) (l0 : ¬ (255 : Int32) < c0) (l1 : ¬ (255 : Int32) < c1) (l2 : ¬ (255 : Int32) < c2) :
    Py l Z (⟨"java/lang/String", "indexOf", "(I)I"⟩ : MethodName) 4 59 0 0 #[(.ref s), (.int 0)] h0 [] (fun rv h' => rv = some (.int (-1 : Int32)) ∧ h' = h0) := by
  refine Ct.py (by0 := jdk_42_method_79_code) (ml := 2) (rt := (some .int)) (rm := ({ frames := 3, cells := 0, slots := 0, locals := 46 } : Room)) ?_ (hq hw 107 rfl) (hq hw 8 rfl)
  refine Ct.mk (a0 := a0) (Ls := #[.val (.ref s), .val (.int 0)]) (plainFor_of_name pn_java_lang_String) (fun m => by first | (simp [entryFrame, mkF, argsToLocals, Value.category]; done) | rfl) ?_
  intro κ C
  show Go l _ Z _ _ _ κ [] h0 0 #[.val (.ref s), .val (.int 0)] [] 0 0
  refine go_aloadN C 1 d20_0 rfl rfl rfl ?_
  refine go_iloadN C 2 d20_1 rfl rfl ?_
  refine go_iconst C 3 (0 : Int32) d20_2 rfl (by decide) ?_
  refine go_callV C (a := s) (argsL := [(.int 0), (.int 0)]) (W := 0) d20_3 (hq hw 108 rfl) (hq hw 109 rfl) (fun _ hZ => notFace_of_selects (args := #[]) (mvT hZ (hq hw 111 rfl))) (hq hw 111 rfl) (hq hw 110 rfl) p0 (by decide) pd__II_I (ct_ix2_0_3 l Z a0 hw am (s := s) (t := t) (kB := kB) (c0 := c0) (c1 := c1) (c2 := c2) p0 p1 p2 p3 r0 r1 r2 z0 z1 z2 l0 l1 l2) rfl (by decide) (Nat.le_of_eq rfl) (by decide) rfl (by decide) (by decide) mems0 ?_
  intro fv1 h2 K3 fq4
  obtain ⟨rfl, rfl⟩ := fq4
  refine ⟨[], fresh0, ?_⟩
  show Go l _ Z _ _ _ κ _ _ 6 _ [(.int (-1 : Int32))] 0 0
  refine go_retI C d20_6 rfl (by decide) (by decide) ?_
  exact ⟨rfl, rfl⟩
theorem ct_ix2_1_3 (l : Launch) (Z : State) (a0 : Array Value) (hw : HW a0 Z) {cS : Int32} {fm : Value} {ub : Addr} (am : Amb Z a0 cS fm ub) {s : Addr} {t : Addr} {kB : ClassId} {c0 : Int32} {c1 : Int32} {c2 : Int32} {h0 : Heap} (p0 : Exa Z h0 s "java/lang/String") (p1 : Fld Z h0 s "java/lang/String" "coder" "B" (.int 1)) (p2 : Fld Z h0 s "java/lang/String" "value" "[B" (.ref t)) (p3 : Arv Z h0 t kB .byte (6 : Int32) [(.int (lo8 c0)), (.int (hi8 c0)), (.int (lo8 c1)), (.int (hi8 c1)), (.int (lo8 c2)), (.int (hi8 c2))] (.int 0)) (r0 : Chr c0) (r1 : Chr c1) (r2 : Chr c2) (z0 : ¬ c0 = 0) (z1 : ¬ c1 = 0) (z2 : ¬ c2 = 0) :
    Py l Z (⟨"java/lang/String", "indexOf", "(II)I"⟩ : MethodName) 6 87 0 0 #[(.ref s), (.int 0), (.int 0)] h0 [] (fun rv h' => rv = some (.int (-1 : Int32)) ∧ h' = h0) := by
  refine Ct.py (by0 := jdk_42_method_80_code) (ml := 3) (rt := (some .int)) (rm := ({ frames := 5, cells := 0, slots := 0, locals := 73 } : Room)) ?_ (hq hw 112 rfl) (hq hw 8 rfl)
  refine Ct.mk (a0 := a0) (Ls := #[.val (.ref s), .val (.int 0), .val (.int 0)]) (plainFor_of_name pn_java_lang_String) (fun m => by first | (simp [entryFrame, mkF, argsToLocals, Value.category]; done) | rfl) ?_
  intro κ C
  show Go l _ Z _ _ _ κ [] h0 0 #[.val (.ref s), .val (.int 0), .val (.int 0)] [] 0 0
  refine go_aloadN C 1 d21_0 rfl rfl rfl ?_
  refine go_callV C (a := s) (argsL := []) (W := 0) d21_1 (hq hw 113 rfl) (hq hw 114 rfl) (fun _ hZ => notFace_of_selects (args := #[]) (mvT hZ (hq hw 116 rfl))) (hq hw 116 rfl) (hq hw 115 rfl) p0 (by decide) pd___Z (ct_isl1 l Z a0 hw am (s := s) p1) rfl (by decide) (Nat.le_of_eq rfl) (by decide) rfl (by decide) (by decide) mems0 ?_
  intro fv1 h2 K3 fq4
  obtain ⟨rfl, rfl⟩ := fq4
  refine ⟨[], fresh0, ?_⟩
  show Go l _ Z _ _ _ κ _ _ 4 _ [(.int 0)] 0 0
  refine go_ifY C (pc' := 23) d21_4 (teq ((by decide) : (0 : Int32) = (0 : Int32))).1 (by decide) (by decide) ?_
  refine go_aloadN C 24 d21_23 rfl rfl rfl ?_
  refine go_getF C 27 d21_24 rfl (hq hw 26 rfl) Via.refl p2 ?_
  refine go_iloadN C 28 d21_27 rfl rfl ?_
  refine go_iloadN C 29 d21_28 rfl rfl ?_
  refine go_aloadN C 30 d21_29 rfl rfl rfl ?_
  refine go_callV C (a := s) (argsL := []) (W := 3) d21_30 (hq hw 118 rfl) (hq hw 119 rfl) (fun _ hZ => notFace_of_selects (args := #[]) (mvT hZ (hq hw 121 rfl))) (hq hw 121 rfl) (hq hw 120 rfl) p0 (by decide) pd___I (ct_len1_3 l Z a0 hw am (s := s) (t := t) (kB := kB) (vs := [(.int (lo8 c0)), (.int (hi8 c0)), (.int (lo8 c1)), (.int (hi8 c1)), (.int (lo8 c2)), (.int (hi8 c2))]) p0 p1 p2 p3) rfl (by decide) (Nat.le_of_eq rfl) (by decide) rfl (by decide) (by decide) mems0 ?_
  intro fv5 h6 K7 fq8
  obtain ⟨rfl, rfl⟩ := fq8
  refine ⟨[], fresh0, ?_⟩
  show Go l _ Z _ _ _ κ _ _ 33 _ [(.int 3), (.int 0), (.int 0), (.ref t)] 0 0
  refine go_callS C (argsL := [(.ref t), (.int 0), (.int 0), (.int 3)]) (W := 0) d21_33 (hq hw 128 rfl) (hq hw 129 rfl) (hq hw 76 rfl) (hq hw 130 rfl) (by decide) pd___BIII_I (ct_uix3 l Z a0 hw am (t := t) (kB := kB) (c0 := c0) (c1 := c1) (c2 := c2) p3 r0 r1 r2 z0 z1 z2) rfl (by decide) (Nat.le_of_eq rfl) (by decide) rfl (by decide) (by decide) mems0 ?_
  intro fv9 h10 K11 fq12
  obtain ⟨rfl, rfl⟩ := fq12
  refine ⟨[], fresh0, ?_⟩
  show Go l _ Z _ _ _ κ _ _ 36 _ [(.int (-1 : Int32))] 0 0
  refine go_retI C d21_36 rfl (by decide) (by decide) ?_
  exact ⟨rfl, rfl⟩
theorem ct_ix1_1_3 (l : Launch) (Z : State) (a0 : Array Value) (hw : HW a0 Z) {cS : Int32} {fm : Value} {ub : Addr} (am : Amb Z a0 cS fm ub) {s : Addr} {t : Addr} {kB : ClassId} {c0 : Int32} {c1 : Int32} {c2 : Int32} {h0 : Heap} (p0 : Exa Z h0 s "java/lang/String") (p1 : Fld Z h0 s "java/lang/String" "coder" "B" (.int 1)) (p2 : Fld Z h0 s "java/lang/String" "value" "[B" (.ref t)) (p3 : Arv Z h0 t kB .byte (6 : Int32) [(.int (lo8 c0)), (.int (hi8 c0)), (.int (lo8 c1)), (.int (hi8 c1)), (.int (lo8 c2)), (.int (hi8 c2))] (.int 0)) (r0 : Chr c0) (r1 : Chr c1) (r2 : Chr c2) (z0 : ¬ c0 = 0) (z1 : ¬ c1 = 0) (z2 : ¬ c2 = 0) :
    Py l Z (⟨"java/lang/String", "indexOf", "(I)I"⟩ : MethodName) 7 100 0 0 #[(.ref s), (.int 0)] h0 [] (fun rv h' => rv = some (.int (-1 : Int32)) ∧ h' = h0) := by
  refine Ct.py (by0 := jdk_42_method_79_code) (ml := 2) (rt := (some .int)) (rm := ({ frames := 6, cells := 0, slots := 0, locals := 87 } : Room)) ?_ (hq hw 107 rfl) (hq hw 8 rfl)
  refine Ct.mk (a0 := a0) (Ls := #[.val (.ref s), .val (.int 0)]) (plainFor_of_name pn_java_lang_String) (fun m => by first | (simp [entryFrame, mkF, argsToLocals, Value.category]; done) | rfl) ?_
  intro κ C
  show Go l _ Z _ _ _ κ [] h0 0 #[.val (.ref s), .val (.int 0)] [] 0 0
  refine go_aloadN C 1 d20_0 rfl rfl rfl ?_
  refine go_iloadN C 2 d20_1 rfl rfl ?_
  refine go_iconst C 3 (0 : Int32) d20_2 rfl (by decide) ?_
  refine go_callV C (a := s) (argsL := [(.int 0), (.int 0)]) (W := 0) d20_3 (hq hw 108 rfl) (hq hw 109 rfl) (fun _ hZ => notFace_of_selects (args := #[]) (mvT hZ (hq hw 111 rfl))) (hq hw 111 rfl) (hq hw 110 rfl) p0 (by decide) pd__II_I (ct_ix2_1_3 l Z a0 hw am (s := s) (t := t) (kB := kB) (c0 := c0) (c1 := c1) (c2 := c2) p0 p1 p2 p3 r0 r1 r2 z0 z1 z2) rfl (by decide) (Nat.le_of_eq rfl) (by decide) rfl (by decide) (by decide) mems0 ?_
  intro fv1 h2 K3 fq4
  obtain ⟨rfl, rfl⟩ := fq4
  refine ⟨[], fresh0, ?_⟩
  show Go l _ Z _ _ _ κ _ _ 6 _ [(.int (-1 : Int32))] 0 0
  refine go_retI C d20_6 rfl (by decide) (by decide) ?_
  exact ⟨rfl, rfl⟩
theorem ct_recinit (l : Launch) (Z : State) (a0 : Array Value) (hw : HW a0 Z) {cS : Int32} {fm : Value} {ub : Addr} (am : Amb Z a0 cS fm ub) {a : Addr} {h0 : Heap} :
    Py l Z (⟨"java/lang/Record", "<init>", "()V"⟩ : MethodName) 2 24 0 0 #[(.ref a)] h0 [] (fun rv h' => rv = none ∧ h' = h0) := by
  refine Ct.py (by0 := jdk_30_method_1_code) (ml := 1) (rt := none) (rm := ({ frames := 1, cells := 0, slots := 0, locals := 12 } : Room)) ?_ (hq hw 49 rfl) (hq hw 48 rfl)
  refine Ct.mk (a0 := a0) (Ls := #[.val (.ref a)]) (plainFor_of_name pn_java_lang_Record) (fun m => by first | (simp [entryFrame, mkF, argsToLocals, Value.category]; done) | rfl) ?_
  intro κ C
  show Go l _ Z _ _ _ κ [] h0 0 #[.val (.ref a)] [] 0 0
  refine go_aloadN C 1 d8_0 rfl rfl rfl ?_
  refine go_initO C 4 (W := 0) d8_1 rfl (hq hw 50 rfl) (hq hw 18 rfl) (hq hw 19 rfl) rfl (by decide) (Nat.le_of_eq rfl) (by decide) ?_
  refine go_ret C d8_4 rfl (by decide) (by decide) ?_
  exact ⟨rfl, rfl⟩
theorem ct_ghi_n (l : Launch) (Z : State) (a0 : Array Value) (hw : HW a0 Z) {cS : Int32} {fm : Value} {ub : Addr} (am : Amb Z a0 cS fm ub) {g : Addr} {h0 : Heap} (p0 : Exa Z h0 g "com/example/holdfast/holdfast/sasl/Gs2Header") (p1 : Fld Z h0 g "com/example/holdfast/holdfast/sasl/Gs2Header" "channelBinding" "Lcom/example/holdfast/holdfast/sasl/Gs2Header$ChannelBinding;" .null) (p2 : Fld Z h0 g "com/example/holdfast/holdfast/sasl/Gs2Header" "channelBindingType" "Ljava/lang/String;" .null) (p3 : Fld Z h0 g "com/example/holdfast/holdfast/sasl/Gs2Header" "authorizationId" "Ljava/lang/String;" .null) :
    Py l Z (⟨"com/example/holdfast/holdfast/sasl/Gs2Header", "<init>", "(Lcom/example/holdfast/holdfast/sasl/Gs2Header$ChannelBinding;Ljava/lang/String;Ljava/lang/String;)V"⟩ : MethodName) 3 39 0 0 #[(.ref g), (.ref ub), .null, .null] h0 [g] (fun rv h' => rv = none ∧ Exa Z h' g "com/example/holdfast/holdfast/sasl/Gs2Header" ∧ Fld Z h' g "com/example/holdfast/holdfast/sasl/Gs2Header" "channelBinding" "Lcom/example/holdfast/holdfast/sasl/Gs2Header$ChannelBinding;" (.ref ub) ∧ Fld Z h' g "com/example/holdfast/holdfast/sasl/Gs2Header" "channelBindingType" "Ljava/lang/String;" .null ∧ Fld Z h' g "com/example/holdfast/holdfast/sasl/Gs2Header" "authorizationId" "Ljava/lang/String;" .null) := by
  refine Ct.py (by0 := prog_47_method_1_code) (ml := 4) (rt := none) (rm := ({ frames := 2, cells := 0, slots := 0, locals := 24 } : Room)) ?_ (hq hw 44 rfl) (hq hw 30 rfl)
  refine Ct.mk (a0 := a0) (Ls := #[.val (.ref g), .val (.ref ub), .val .null, .val .null]) (plainFor_of_name pn_com_example_holdfast_holdfast_sasl_Gs2Header) (fun m => by first | (simp [entryFrame, mkF, argsToLocals, Value.category]; done) | rfl) ?_
  intro κ C
  show Go l _ Z _ _ _ κ [g] h0 0 #[.val (.ref g), .val (.ref ub), .val .null, .val .null] [] 0 0
  refine go_aloadN C 1 d7_0 rfl rfl rfl ?_
  refine go_callI C (a := g) (argsL := []) (W := 0) d7_1 rfl (hq hw 45 rfl) (hq hw 46 rfl) (hq hw 49 rfl) (by decide) pd___V (ct_recinit l Z a0 hw am (a := g)) rfl (by decide) (Nat.le_of_eq rfl) (by decide) rfl (by decide) (by decide) mems0 ?_
  intro fv1 h2 K3 fq4
  obtain ⟨rfl, rfl⟩ := fq4
  refine ⟨[], fresh0, ?_⟩
  show Go l _ Z _ _ _ κ _ _ 4 _ [] 0 0
  refine go_aloadN C 5 d7_4 rfl rfl rfl ?_
  refine go_aloadN C 6 d7_5 rfl rfl rfl ?_
  refine go_putF C 9 (ty := (.object "com/example/holdfast/holdfast/sasl/Gs2Header$ChannelBinding")) d7_6 rfl (hq hw 51 rfl) Via.refl p1 p0 (Or.inr ⟨(hq hw 52 rfl), rfl, rfl⟩) (hq hw 38 rfl) (by decide) rfl rfl (mi 0 rfl) ?_
  intro h5 W6
  have fx7 : Fld Z h5 g "com/example/holdfast/holdfast/sasl/Gs2Header" "channelBinding" "Lcom/example/holdfast/holdfast/sasl/Gs2Header$ChannelBinding;" (.ref ub) := Fld.same W6 p1
  refine go_aloadN C 10 d7_9 rfl rfl rfl ?_
  refine go_aloadN C 11 d7_10 rfl rfl rfl ?_
  have fx8 := (Fld.other W6 p2 (Or.inr (slot_ne (Or.inr (hq hw 54 rfl)) (Or.inr (hq hw 52 rfl)) (by decide) (t := (.object "java/lang/String")) (t' := (.object "com/example/holdfast/holdfast/sasl/Gs2Header$ChannelBinding")) (by decide) (by decide))))
  have fx9 := (Exa.wr W6 p0)
  refine go_putF C 14 (ty := (.object "java/lang/String")) d7_11 rfl (hq hw 53 rfl) Via.refl fx8 fx9 (Or.inr ⟨(hq hw 54 rfl), rfl, rfl⟩) (hq hw 38 rfl) (by decide) rfl rfl (mi 0 rfl) ?_
  intro h10 W11
  have fx12 : Fld Z h10 g "com/example/holdfast/holdfast/sasl/Gs2Header" "channelBindingType" "Ljava/lang/String;" .null := Fld.same W11 fx8
  refine go_aloadN C 15 d7_14 rfl rfl rfl ?_
  refine go_aloadN C 16 d7_15 rfl rfl rfl ?_
  have fx13 := (Fld.other W11 (Fld.other W6 p3 (Or.inr (slot_ne (Or.inr (hq hw 56 rfl)) (Or.inr (hq hw 52 rfl)) (by decide) (t := (.object "java/lang/String")) (t' := (.object "com/example/holdfast/holdfast/sasl/Gs2Header$ChannelBinding")) (by decide) (by decide)))) (Or.inr (slot_ne (Or.inr (hq hw 56 rfl)) (Or.inr (hq hw 54 rfl)) (by decide) (t := (.object "java/lang/String")) (t' := (.object "java/lang/String")) (by decide) (by decide))))
  have fx14 := (Exa.wr W11 fx9)
  refine go_putF C 19 (ty := (.object "java/lang/String")) d7_16 rfl (hq hw 55 rfl) Via.refl fx13 fx14 (Or.inr ⟨(hq hw 56 rfl), rfl, rfl⟩) (hq hw 38 rfl) (by decide) rfl rfl (mi 0 rfl) ?_
  intro h15 W16
  have fx17 : Fld Z h15 g "com/example/holdfast/holdfast/sasl/Gs2Header" "authorizationId" "Ljava/lang/String;" .null := Fld.same W16 fx13
  refine go_ret C d7_19 rfl (by decide) (by decide) ?_
  have fx18 := (Exa.wr W16 fx14)
  have fx19 := (Fld.other W16 (Fld.other W11 fx7 (Or.inr (slot_ne (Or.inr (hq hw 52 rfl)) (Or.inr (hq hw 54 rfl)) (by decide) (t := (.object "com/example/holdfast/holdfast/sasl/Gs2Header$ChannelBinding")) (t' := (.object "java/lang/String")) (by decide) (by decide)))) (Or.inr (slot_ne (Or.inr (hq hw 52 rfl)) (Or.inr (hq hw 56 rfl)) (by decide) (t := (.object "com/example/holdfast/holdfast/sasl/Gs2Header$ChannelBinding")) (t' := (.object "java/lang/String")) (by decide) (by decide))))
  have fx20 := (Fld.other W16 fx12 (Or.inr (slot_ne (Or.inr (hq hw 54 rfl)) (Or.inr (hq hw 56 rfl)) (by decide) (t := (.object "java/lang/String")) (t' := (.object "java/lang/String")) (by decide) (by decide))))
  exact ⟨rfl, fx18, fx19, fx20, fx17⟩
theorem ct_ghi_s (l : Launch) (Z : State) (a0 : Array Value) (hw : HW a0 Z) {cS : Int32} {fm : Value} {ub : Addr} (am : Amb Z a0 cS fm ub) {g : Addr} {s : Addr} {h0 : Heap} (p0 : Exa Z h0 g "com/example/holdfast/holdfast/sasl/Gs2Header") (p1 : Fld Z h0 g "com/example/holdfast/holdfast/sasl/Gs2Header" "channelBinding" "Lcom/example/holdfast/holdfast/sasl/Gs2Header$ChannelBinding;" .null) (p2 : Fld Z h0 g "com/example/holdfast/holdfast/sasl/Gs2Header" "channelBindingType" "Ljava/lang/String;" .null) (p3 : Fld Z h0 g "com/example/holdfast/holdfast/sasl/Gs2Header" "authorizationId" "Ljava/lang/String;" .null) :
    Py l Z (⟨"com/example/holdfast/holdfast/sasl/Gs2Header", "<init>", "(Lcom/example/holdfast/holdfast/sasl/Gs2Header$ChannelBinding;Ljava/lang/String;Ljava/lang/String;)V"⟩ : MethodName) 3 39 0 0 #[(.ref g), (.ref ub), .null, (.ref s)] h0 [g] (fun rv h' => rv = none ∧ Exa Z h' g "com/example/holdfast/holdfast/sasl/Gs2Header" ∧ Fld Z h' g "com/example/holdfast/holdfast/sasl/Gs2Header" "channelBinding" "Lcom/example/holdfast/holdfast/sasl/Gs2Header$ChannelBinding;" (.ref ub) ∧ Fld Z h' g "com/example/holdfast/holdfast/sasl/Gs2Header" "channelBindingType" "Ljava/lang/String;" .null ∧ Fld Z h' g "com/example/holdfast/holdfast/sasl/Gs2Header" "authorizationId" "Ljava/lang/String;" (.ref s)) := by
  refine Ct.py (by0 := prog_47_method_1_code) (ml := 4) (rt := none) (rm := ({ frames := 2, cells := 0, slots := 0, locals := 24 } : Room)) ?_ (hq hw 44 rfl) (hq hw 30 rfl)
  refine Ct.mk (a0 := a0) (Ls := #[.val (.ref g), .val (.ref ub), .val .null, .val (.ref s)]) (plainFor_of_name pn_com_example_holdfast_holdfast_sasl_Gs2Header) (fun m => by first | (simp [entryFrame, mkF, argsToLocals, Value.category]; done) | rfl) ?_
  intro κ C
  show Go l _ Z _ _ _ κ [g] h0 0 #[.val (.ref g), .val (.ref ub), .val .null, .val (.ref s)] [] 0 0
  refine go_aloadN C 1 d7_0 rfl rfl rfl ?_
  refine go_callI C (a := g) (argsL := []) (W := 0) d7_1 rfl (hq hw 45 rfl) (hq hw 46 rfl) (hq hw 49 rfl) (by decide) pd___V (ct_recinit l Z a0 hw am (a := g)) rfl (by decide) (Nat.le_of_eq rfl) (by decide) rfl (by decide) (by decide) mems0 ?_
  intro fv1 h2 K3 fq4
  obtain ⟨rfl, rfl⟩ := fq4
  refine ⟨[], fresh0, ?_⟩
  show Go l _ Z _ _ _ κ _ _ 4 _ [] 0 0
  refine go_aloadN C 5 d7_4 rfl rfl rfl ?_
  refine go_aloadN C 6 d7_5 rfl rfl rfl ?_
  refine go_putF C 9 (ty := (.object "com/example/holdfast/holdfast/sasl/Gs2Header$ChannelBinding")) d7_6 rfl (hq hw 51 rfl) Via.refl p1 p0 (Or.inr ⟨(hq hw 52 rfl), rfl, rfl⟩) (hq hw 38 rfl) (by decide) rfl rfl (mi 0 rfl) ?_
  intro h5 W6
  have fx7 : Fld Z h5 g "com/example/holdfast/holdfast/sasl/Gs2Header" "channelBinding" "Lcom/example/holdfast/holdfast/sasl/Gs2Header$ChannelBinding;" (.ref ub) := Fld.same W6 p1
  refine go_aloadN C 10 d7_9 rfl rfl rfl ?_
  refine go_aloadN C 11 d7_10 rfl rfl rfl ?_
  have fx8 := (Fld.other W6 p2 (Or.inr (slot_ne (Or.inr (hq hw 54 rfl)) (Or.inr (hq hw 52 rfl)) (by decide) (t := (.object "java/lang/String")) (t' := (.object "com/example/holdfast/holdfast/sasl/Gs2Header$ChannelBinding")) (by decide) (by decide))))
  have fx9 := (Exa.wr W6 p0)
  refine go_putF C 14 (ty := (.object "java/lang/String")) d7_11 rfl (hq hw 53 rfl) Via.refl fx8 fx9 (Or.inr ⟨(hq hw 54 rfl), rfl, rfl⟩) (hq hw 38 rfl) (by decide) rfl rfl (mi 0 rfl) ?_
  intro h10 W11
  have fx12 : Fld Z h10 g "com/example/holdfast/holdfast/sasl/Gs2Header" "channelBindingType" "Ljava/lang/String;" .null := Fld.same W11 fx8
  refine go_aloadN C 15 d7_14 rfl rfl rfl ?_
  refine go_aloadN C 16 d7_15 rfl rfl rfl ?_
  have fx13 := (Fld.other W11 (Fld.other W6 p3 (Or.inr (slot_ne (Or.inr (hq hw 56 rfl)) (Or.inr (hq hw 52 rfl)) (by decide) (t := (.object "java/lang/String")) (t' := (.object "com/example/holdfast/holdfast/sasl/Gs2Header$ChannelBinding")) (by decide) (by decide)))) (Or.inr (slot_ne (Or.inr (hq hw 56 rfl)) (Or.inr (hq hw 54 rfl)) (by decide) (t := (.object "java/lang/String")) (t' := (.object "java/lang/String")) (by decide) (by decide))))
  have fx14 := (Exa.wr W11 fx9)
  refine go_putF C 19 (ty := (.object "java/lang/String")) d7_16 rfl (hq hw 55 rfl) Via.refl fx13 fx14 (Or.inr ⟨(hq hw 56 rfl), rfl, rfl⟩) (hq hw 38 rfl) (by decide) rfl rfl (mi 0 rfl) ?_
  intro h15 W16
  have fx17 : Fld Z h15 g "com/example/holdfast/holdfast/sasl/Gs2Header" "authorizationId" "Ljava/lang/String;" (.ref s) := Fld.same W16 fx13
  refine go_ret C d7_19 rfl (by decide) (by decide) ?_
  have fx18 := (Exa.wr W16 fx14)
  have fx19 := (Fld.other W16 (Fld.other W11 fx7 (Or.inr (slot_ne (Or.inr (hq hw 52 rfl)) (Or.inr (hq hw 54 rfl)) (by decide) (t := (.object "com/example/holdfast/holdfast/sasl/Gs2Header$ChannelBinding")) (t' := (.object "java/lang/String")) (by decide) (by decide)))) (Or.inr (slot_ne (Or.inr (hq hw 52 rfl)) (Or.inr (hq hw 56 rfl)) (by decide) (t := (.object "com/example/holdfast/holdfast/sasl/Gs2Header$ChannelBinding")) (t' := (.object "java/lang/String")) (by decide) (by decide))))
  have fx20 := (Fld.other W16 fx12 (Or.inr (slot_ne (Or.inr (hq hw 54 rfl)) (Or.inr (hq hw 56 rfl)) (by decide) (t := (.object "java/lang/String")) (t' := (.object "java/lang/String")) (by decide) (by decide))))
  exact ⟨rfl, fx18, fx19, fx20, fx17⟩
theorem ct_emp0 (l : Launch) (Z : State) (a0 : Array Value) (hw : HW a0 Z) {cS : Int32} {fm : Value} {ub : Addr} (am : Amb Z a0 cS fm ub) {s : Addr} {t : Addr} {kB : ClassId} {vs : List Value} {h0 : Heap} (p0 : Fld Z h0 s "java/lang/String" "value" "[B" (.ref t)) (p1 : Arv Z h0 t kB .byte (0 : Int32) vs (.int 0)) :
    Py l Z (⟨"java/lang/String", "isEmpty", "()Z"⟩ : MethodName) 1 12 0 0 #[(.ref s)] h0 [] (fun rv h' => rv = some (.int 1) ∧ h' = h0) := by
  refine Ct.py (by0 := jdk_42_method_55_code) (ml := 1) (rt := (some .boolean)) (rm := ({ frames := 0, cells := 0, slots := 0, locals := 0 } : Room)) ?_ (hq hw 36 rfl) (hq hw 8 rfl)
  refine Ct.mk (a0 := a0) (Ls := #[.val (.ref s)]) (plainFor_of_name pn_java_lang_String) (fun m => by first | (simp [entryFrame, mkF, argsToLocals, Value.category]; done) | rfl) ?_
  intro κ C
  show Go l _ Z _ _ _ κ [] h0 0 #[.val (.ref s)] [] 0 0
  refine go_aloadN C 1 d6_0 rfl rfl rfl ?_
  refine go_getF C 4 d6_1 rfl (hq hw 26 rfl) Via.refl p0 ?_
  refine go_arraylength C 5 d6_4 rfl p1 ?_
  refine go_ifN C 8 d6_5 rfl (teq ((by decide) : (0 : Int32) = (0 : Int32))).2 ?_
  refine go_iconst C 9 (1 : Int32) d6_8 rfl (by decide) ?_
  refine go_goto C (pc' := 13) d6_9 (by decide) (by decide) ?_
  refine go_retN C (t := .boolean) (z := (1 : Int32)) d6_13 rfl (by decide) (by decide) (by decide) (by decide) ?_
  exact ⟨rfl, rfl⟩
theorem ct_emp1 (l : Launch) (Z : State) (a0 : Array Value) (hw : HW a0 Z) {cS : Int32} {fm : Value} {ub : Addr} (am : Amb Z a0 cS fm ub) {s : Addr} {t : Addr} {kB : ClassId} {vs : List Value} {h0 : Heap} (p0 : Fld Z h0 s "java/lang/String" "value" "[B" (.ref t)) (p1 : Arv Z h0 t kB .byte (1 : Int32) vs (.int 0)) :
    Py l Z (⟨"java/lang/String", "isEmpty", "()Z"⟩ : MethodName) 1 12 0 0 #[(.ref s)] h0 [] (fun rv h' => rv = some (.int 0) ∧ h' = h0) := by
  refine Ct.py (by0 := jdk_42_method_55_code) (ml := 1) (rt := (some .boolean)) (rm := ({ frames := 0, cells := 0, slots := 0, locals := 0 } : Room)) ?_ (hq hw 36 rfl) (hq hw 8 rfl)
  refine Ct.mk (a0 := a0) (Ls := #[.val (.ref s)]) (plainFor_of_name pn_java_lang_String) (fun m => by first | (simp [entryFrame, mkF, argsToLocals, Value.category]; done) | rfl) ?_
  intro κ C
  show Go l _ Z _ _ _ κ [] h0 0 #[.val (.ref s)] [] 0 0
  refine go_aloadN C 1 d6_0 rfl rfl rfl ?_
  refine go_getF C 4 d6_1 rfl (hq hw 26 rfl) Via.refl p0 ?_
  refine go_arraylength C 5 d6_4 rfl p1 ?_
  refine go_ifY C (pc' := 12) d6_5 (feq ((by decide) : ¬ ((1 : Int32) = (0 : Int32)))).2 (by decide) (by decide) ?_
  refine go_iconst C 13 (0 : Int32) d6_12 rfl (by decide) ?_
  refine go_retN C (t := .boolean) (z := (0 : Int32)) d6_13 rfl (by decide) (by decide) (by decide) (by decide) ?_
  exact ⟨rfl, rfl⟩
theorem ct_emp2 (l : Launch) (Z : State) (a0 : Array Value) (hw : HW a0 Z) {cS : Int32} {fm : Value} {ub : Addr} (am : Amb Z a0 cS fm ub) {s : Addr} {t : Addr} {kB : ClassId} {vs : List Value} {h0 : Heap} (p0 : Fld Z h0 s "java/lang/String" "value" "[B" (.ref t)) (p1 : Arv Z h0 t kB .byte (2 : Int32) vs (.int 0)) :
    Py l Z (⟨"java/lang/String", "isEmpty", "()Z"⟩ : MethodName) 1 12 0 0 #[(.ref s)] h0 [] (fun rv h' => rv = some (.int 0) ∧ h' = h0) := by
  refine Ct.py (by0 := jdk_42_method_55_code) (ml := 1) (rt := (some .boolean)) (rm := ({ frames := 0, cells := 0, slots := 0, locals := 0 } : Room)) ?_ (hq hw 36 rfl) (hq hw 8 rfl)
  refine Ct.mk (a0 := a0) (Ls := #[.val (.ref s)]) (plainFor_of_name pn_java_lang_String) (fun m => by first | (simp [entryFrame, mkF, argsToLocals, Value.category]; done) | rfl) ?_
  intro κ C
  show Go l _ Z _ _ _ κ [] h0 0 #[.val (.ref s)] [] 0 0
  refine go_aloadN C 1 d6_0 rfl rfl rfl ?_
  refine go_getF C 4 d6_1 rfl (hq hw 26 rfl) Via.refl p0 ?_
  refine go_arraylength C 5 d6_4 rfl p1 ?_
  refine go_ifY C (pc' := 12) d6_5 (feq ((by decide) : ¬ ((2 : Int32) = (0 : Int32)))).2 (by decide) (by decide) ?_
  refine go_iconst C 13 (0 : Int32) d6_12 rfl (by decide) ?_
  refine go_retN C (t := .boolean) (z := (0 : Int32)) d6_13 rfl (by decide) (by decide) (by decide) (by decide) ?_
  exact ⟨rfl, rfl⟩
theorem ct_emp3 (l : Launch) (Z : State) (a0 : Array Value) (hw : HW a0 Z) {cS : Int32} {fm : Value} {ub : Addr} (am : Amb Z a0 cS fm ub) {s : Addr} {t : Addr} {kB : ClassId} {vs : List Value} {h0 : Heap} (p0 : Fld Z h0 s "java/lang/String" "value" "[B" (.ref t)) (p1 : Arv Z h0 t kB .byte (3 : Int32) vs (.int 0)) :
    Py l Z (⟨"java/lang/String", "isEmpty", "()Z"⟩ : MethodName) 1 12 0 0 #[(.ref s)] h0 [] (fun rv h' => rv = some (.int 0) ∧ h' = h0) := by
  refine Ct.py (by0 := jdk_42_method_55_code) (ml := 1) (rt := (some .boolean)) (rm := ({ frames := 0, cells := 0, slots := 0, locals := 0 } : Room)) ?_ (hq hw 36 rfl) (hq hw 8 rfl)
  refine Ct.mk (a0 := a0) (Ls := #[.val (.ref s)]) (plainFor_of_name pn_java_lang_String) (fun m => by first | (simp [entryFrame, mkF, argsToLocals, Value.category]; done) | rfl) ?_
  intro κ C
  show Go l _ Z _ _ _ κ [] h0 0 #[.val (.ref s)] [] 0 0
  refine go_aloadN C 1 d6_0 rfl rfl rfl ?_
  refine go_getF C 4 d6_1 rfl (hq hw 26 rfl) Via.refl p0 ?_
  refine go_arraylength C 5 d6_4 rfl p1 ?_
  refine go_ifY C (pc' := 12) d6_5 (feq ((by decide) : ¬ ((3 : Int32) = (0 : Int32)))).2 (by decide) (by decide) ?_
  refine go_iconst C 13 (0 : Int32) d6_12 rfl (by decide) ?_
  refine go_retN C (t := .boolean) (z := (0 : Int32)) d6_13 rfl (by decide) (by decide) (by decide) (by decide) ?_
  exact ⟨rfl, rfl⟩
theorem ct_emp4 (l : Launch) (Z : State) (a0 : Array Value) (hw : HW a0 Z) {cS : Int32} {fm : Value} {ub : Addr} (am : Amb Z a0 cS fm ub) {s : Addr} {t : Addr} {kB : ClassId} {vs : List Value} {h0 : Heap} (p0 : Fld Z h0 s "java/lang/String" "value" "[B" (.ref t)) (p1 : Arv Z h0 t kB .byte (4 : Int32) vs (.int 0)) :
    Py l Z (⟨"java/lang/String", "isEmpty", "()Z"⟩ : MethodName) 1 12 0 0 #[(.ref s)] h0 [] (fun rv h' => rv = some (.int 0) ∧ h' = h0) := by
  refine Ct.py (by0 := jdk_42_method_55_code) (ml := 1) (rt := (some .boolean)) (rm := ({ frames := 0, cells := 0, slots := 0, locals := 0 } : Room)) ?_ (hq hw 36 rfl) (hq hw 8 rfl)
  refine Ct.mk (a0 := a0) (Ls := #[.val (.ref s)]) (plainFor_of_name pn_java_lang_String) (fun m => by first | (simp [entryFrame, mkF, argsToLocals, Value.category]; done) | rfl) ?_
  intro κ C
  show Go l _ Z _ _ _ κ [] h0 0 #[.val (.ref s)] [] 0 0
  refine go_aloadN C 1 d6_0 rfl rfl rfl ?_
  refine go_getF C 4 d6_1 rfl (hq hw 26 rfl) Via.refl p0 ?_
  refine go_arraylength C 5 d6_4 rfl p1 ?_
  refine go_ifY C (pc' := 12) d6_5 (feq ((by decide) : ¬ ((4 : Int32) = (0 : Int32)))).2 (by decide) (by decide) ?_
  refine go_iconst C 13 (0 : Int32) d6_12 rfl (by decide) ?_
  refine go_retN C (t := .boolean) (z := (0 : Int32)) d6_13 rfl (by decide) (by decide) (by decide) (by decide) ?_
  exact ⟨rfl, rfl⟩
theorem ct_emp6 (l : Launch) (Z : State) (a0 : Array Value) (hw : HW a0 Z) {cS : Int32} {fm : Value} {ub : Addr} (am : Amb Z a0 cS fm ub) {s : Addr} {t : Addr} {kB : ClassId} {vs : List Value} {h0 : Heap} (p0 : Fld Z h0 s "java/lang/String" "value" "[B" (.ref t)) (p1 : Arv Z h0 t kB .byte (6 : Int32) vs (.int 0)) :
    Py l Z (⟨"java/lang/String", "isEmpty", "()Z"⟩ : MethodName) 1 12 0 0 #[(.ref s)] h0 [] (fun rv h' => rv = some (.int 0) ∧ h' = h0) := by
  refine Ct.py (by0 := jdk_42_method_55_code) (ml := 1) (rt := (some .boolean)) (rm := ({ frames := 0, cells := 0, slots := 0, locals := 0 } : Room)) ?_ (hq hw 36 rfl) (hq hw 8 rfl)
  refine Ct.mk (a0 := a0) (Ls := #[.val (.ref s)]) (plainFor_of_name pn_java_lang_String) (fun m => by first | (simp [entryFrame, mkF, argsToLocals, Value.category]; done) | rfl) ?_
  intro κ C
  show Go l _ Z _ _ _ κ [] h0 0 #[.val (.ref s)] [] 0 0
  refine go_aloadN C 1 d6_0 rfl rfl rfl ?_
  refine go_getF C 4 d6_1 rfl (hq hw 26 rfl) Via.refl p0 ?_
  refine go_arraylength C 5 d6_4 rfl p1 ?_
  refine go_ifY C (pc' := 12) d6_5 (feq ((by decide) : ¬ ((6 : Int32) = (0 : Int32)))).2 (by decide) (by decide) ?_
  refine go_iconst C 13 (0 : Int32) d6_12 rfl (by decide) ?_
  refine go_retN C (t := .boolean) (z := (0 : Int32)) d6_13 rfl (by decide) (by decide) (by decide) (by decide) ?_
  exact ⟨rfl, rfl⟩
theorem ct_wcn (l : Launch) (Z : State) (a0 : Array Value) (hw : HW a0 Z) {cS : Int32} {fm : Value} {ub : Addr} (am : Amb Z a0 cS fm ub) {h0 : Heap} :
    Py l Z (⟨"com/example/holdfast/holdfast/sasl/Gs2Header", "withoutChannelBinding", "(Ljava/lang/String;)Lcom/example/holdfast/holdfast/sasl/Gs2Header;"⟩ : MethodName) 4 53 1 3 #[.null] h0 [] (fun rv h' => ∃ (g : Addr), rv = some (.ref g) ∧ Exa Z h' g "com/example/holdfast/holdfast/sasl/Gs2Header" ∧ Fld Z h' g "com/example/holdfast/holdfast/sasl/Gs2Header" "channelBinding" "Lcom/example/holdfast/holdfast/sasl/Gs2Header$ChannelBinding;" (.ref ub) ∧ Fld Z h' g "com/example/holdfast/holdfast/sasl/Gs2Header" "channelBindingType" "Ljava/lang/String;" .null ∧ Fld Z h' g "com/example/holdfast/holdfast/sasl/Gs2Header" "authorizationId" "Ljava/lang/String;" .null) := by
  refine Ct.py (by0 := prog_47_method_4_code) (ml := 2) (rt := (some (.object "com/example/holdfast/holdfast/sasl/Gs2Header"))) (rm := ({ frames := 3, cells := 1, slots := 3, locals := 40 } : Room)) ?_ (hq hw 31 rfl) (hq hw 30 rfl)
  refine Ct.mk (a0 := a0) (Ls := #[.val .null, .unset]) (plainFor_of_name pn_com_example_holdfast_holdfast_sasl_Gs2Header) (fun m => by first | (simp [entryFrame, mkF, argsToLocals, Value.category]; done) | rfl) ?_
  intro κ C
  show Go l _ Z _ _ _ κ [] h0 0 #[.val .null, .unset] [] 0 0
  refine go_aloadN C 1 d5_0 rfl rfl rfl ?_
  refine go_ifnullY C (pc' := 11) d5_1 (by decide) (by decide) ?_
  refine go_aconstNull C 12 d5_11 rfl ?_
  refine go_goto C (pc' := 16) d5_12 (by decide) (by decide) ?_
  refine go_astoreN C 17 (Ls' := #[.val .null, .val .null]) d5_16 rfl rfl rfl ?_
  refine go_aloadN C 18 d5_17 rfl rfl rfl ?_
  refine go_ifnullY C (pc' := 39) d5_18 (by decide) (by decide) ?_
  refine go_new C 42 1 3 d5_39 rfl rfl rfl (hq hw 37 rfl) (hq hw 38 rfl) (hq hw 30 rfl) (by decide) (by decide) ?_
  intro b1 h2 g3 E4 A5 D6
  have fx7 : Fld Z h2 b1 "com/example/holdfast/holdfast/sasl/Gs2Header" "channelBinding" "Lcom/example/holdfast/holdfast/sasl/Gs2Header$ChannelBinding;" .null := D6 (Or.inr (hq hw 52 rfl)) (ty := (.object "com/example/holdfast/holdfast/sasl/Gs2Header$ChannelBinding")) (by decide)
  have fx8 : Fld Z h2 b1 "com/example/holdfast/holdfast/sasl/Gs2Header" "channelBindingType" "Ljava/lang/String;" .null := D6 (Or.inr (hq hw 54 rfl)) (ty := (.object "java/lang/String")) (by decide)
  have fx9 : Fld Z h2 b1 "com/example/holdfast/holdfast/sasl/Gs2Header" "authorizationId" "Ljava/lang/String;" .null := D6 (Or.inr (hq hw 56 rfl)) (ty := (.object "java/lang/String")) (by decide)
  refine go_dup C 43 d5_42 rfl rfl ?_
  refine go_getS C 46 d5_43 rfl (hq hw 39 rfl) am.2.2.2.2.2.2.2.2 ?_
  refine go_aconstNull C 47 d5_46 rfl ?_
  refine go_aloadN C 48 d5_47 rfl rfl rfl ?_
  refine go_callI C (a := b1) (argsL := [(.ref ub), .null, .null]) (W := 1) d5_48 rfl (hq hw 42 rfl) (hq hw 43 rfl) (hq hw 44 rfl) (by decide) pd__Lcom_example_holdfast_holdfast_sasl_Gs2Header_ChannelBinding_Ljava_lang_String_Ljava_lang_String__V (ct_ghi_n l Z a0 hw am (g := b1) A5 fx7 fx8 fx9) rfl (by decide) (Nat.le_of_eq rfl) (by decide) rfl (by decide) (by decide) (memsS (mi 0 rfl) mems0) ?_
  intro fv10 h11 K12 fq13
  obtain ⟨rfl, fx14, fx15, fx16, fx17⟩ := fq13
  refine ⟨[], fresh0, ?_⟩
  show Go l _ Z _ _ _ κ _ _ 51 _ [(.ref b1)] 1 3
  refine go_retA C (v := (.ref b1)) d5_51 rfl rfl rfl (by decide) (by decide) ?_
  exact ⟨b1, rfl, fx14, fx15, fx16, fx17⟩
theorem ct_wce (l : Launch) (Z : State) (a0 : Array Value) (hw : HW a0 Z) {cS : Int32} {fm : Value} {ub : Addr} (am : Amb Z a0 cS fm ub) {s : Addr} {t : Addr} {kB : ClassId} {h0 : Heap} (p0 : Exa Z h0 s "java/lang/String") (p1 : Fld Z h0 s "java/lang/String" "value" "[B" (.ref t)) (p2 : Arv Z h0 t kB .byte (0 : Int32) [] (.int 0)) :
    Py l Z (⟨"com/example/holdfast/holdfast/sasl/Gs2Header", "withoutChannelBinding", "(Ljava/lang/String;)Lcom/example/holdfast/holdfast/sasl/Gs2Header;"⟩ : MethodName) 4 53 1 3 #[(.ref s)] h0 [] (fun rv h' => ∃ (g : Addr), rv = some (.ref g) ∧ Exa Z h' g "com/example/holdfast/holdfast/sasl/Gs2Header" ∧ Fld Z h' g "com/example/holdfast/holdfast/sasl/Gs2Header" "channelBinding" "Lcom/example/holdfast/holdfast/sasl/Gs2Header$ChannelBinding;" (.ref ub) ∧ Fld Z h' g "com/example/holdfast/holdfast/sasl/Gs2Header" "channelBindingType" "Ljava/lang/String;" .null ∧ Fld Z h' g "com/example/holdfast/holdfast/sasl/Gs2Header" "authorizationId" "Ljava/lang/String;" .null) := by
  refine Ct.py (by0 := prog_47_method_4_code) (ml := 2) (rt := (some (.object "com/example/holdfast/holdfast/sasl/Gs2Header"))) (rm := ({ frames := 3, cells := 1, slots := 3, locals := 40 } : Room)) ?_ (hq hw 31 rfl) (hq hw 30 rfl)
  refine Ct.mk (a0 := a0) (Ls := #[.val (.ref s), .unset]) (plainFor_of_name pn_com_example_holdfast_holdfast_sasl_Gs2Header) (fun m => by first | (simp [entryFrame, mkF, argsToLocals, Value.category]; done) | rfl) ?_
  intro κ C
  show Go l _ Z _ _ _ κ [] h0 0 #[.val (.ref s), .unset] [] 0 0
  refine go_aloadN C 1 d5_0 rfl rfl rfl ?_
  refine go_ifnullN C 4 d5_1 rfl ?_
  refine go_aloadN C 5 d5_4 rfl rfl rfl ?_
  refine go_callV C (a := s) (argsL := []) (W := 0) d5_5 (hq hw 32 rfl) (hq hw 33 rfl) (fun _ hZ => notFace_of_selects (args := #[]) (mvT hZ (hq hw 35 rfl))) (hq hw 35 rfl) (hq hw 34 rfl) p0 (by decide) pd___Z (ct_emp0 l Z a0 hw am (s := s) (t := t) (kB := kB) (vs := []) p1 p2) rfl (by decide) (Nat.le_of_eq rfl) (by decide) rfl (by decide) (by decide) mems0 ?_
  intro fv1 h2 K3 fq4
  obtain ⟨rfl, rfl⟩ := fq4
  refine ⟨[], fresh0, ?_⟩
  show Go l _ Z _ _ _ κ _ _ 8 _ [(.int 1)] 0 0
  refine go_ifN C 11 d5_8 rfl (feq ((by decide) : ¬ ((1 : Int32) = (0 : Int32)))).1 ?_
  refine go_aconstNull C 12 d5_11 rfl ?_
  refine go_goto C (pc' := 16) d5_12 (by decide) (by decide) ?_
  refine go_astoreN C 17 (Ls' := #[.val (.ref s), .val .null]) d5_16 rfl rfl rfl ?_
  refine go_aloadN C 18 d5_17 rfl rfl rfl ?_
  refine go_ifnullY C (pc' := 39) d5_18 (by decide) (by decide) ?_
  refine go_new C 42 1 3 d5_39 rfl rfl rfl (hq hw 37 rfl) (hq hw 38 rfl) (hq hw 30 rfl) (by decide) (by decide) ?_
  intro b5 h6 g7 E8 A9 D10
  have fx11 : Fld Z h6 b5 "com/example/holdfast/holdfast/sasl/Gs2Header" "channelBinding" "Lcom/example/holdfast/holdfast/sasl/Gs2Header$ChannelBinding;" .null := D10 (Or.inr (hq hw 52 rfl)) (ty := (.object "com/example/holdfast/holdfast/sasl/Gs2Header$ChannelBinding")) (by decide)
  have fx12 : Fld Z h6 b5 "com/example/holdfast/holdfast/sasl/Gs2Header" "channelBindingType" "Ljava/lang/String;" .null := D10 (Or.inr (hq hw 54 rfl)) (ty := (.object "java/lang/String")) (by decide)
  have fx13 : Fld Z h6 b5 "com/example/holdfast/holdfast/sasl/Gs2Header" "authorizationId" "Ljava/lang/String;" .null := D10 (Or.inr (hq hw 56 rfl)) (ty := (.object "java/lang/String")) (by decide)
  refine go_dup C 43 d5_42 rfl rfl ?_
  refine go_getS C 46 d5_43 rfl (hq hw 39 rfl) am.2.2.2.2.2.2.2.2 ?_
  refine go_aconstNull C 47 d5_46 rfl ?_
  refine go_aloadN C 48 d5_47 rfl rfl rfl ?_
  refine go_callI C (a := b5) (argsL := [(.ref ub), .null, .null]) (W := 1) d5_48 rfl (hq hw 42 rfl) (hq hw 43 rfl) (hq hw 44 rfl) (by decide) pd__Lcom_example_holdfast_holdfast_sasl_Gs2Header_ChannelBinding_Ljava_lang_String_Ljava_lang_String__V (ct_ghi_n l Z a0 hw am (g := b5) A9 fx11 fx12 fx13) rfl (by decide) (Nat.le_of_eq rfl) (by decide) rfl (by decide) (by decide) (memsS (mi 0 rfl) mems0) ?_
  intro fv14 h15 K16 fq17
  obtain ⟨rfl, fx18, fx19, fx20, fx21⟩ := fq17
  refine ⟨[], fresh0, ?_⟩
  show Go l _ Z _ _ _ κ _ _ 51 _ [(.ref b5)] 1 3
  refine go_retA C (v := (.ref b5)) d5_51 rfl rfl rfl (by decide) (by decide) ?_
  exact ⟨b5, rfl, fx18, fx19, fx20, fx21⟩
theorem ct_wc0_1 (l : Launch) (Z : State) (a0 : Array Value) (hw : HW a0 Z) {cS : Int32} {fm : Value} {ub : Addr} (am : Amb Z a0 cS fm ub) {s : Addr} {t : Addr} {kB : ClassId} {c0 : Int32} {h0 : Heap} (p0 : Exa Z h0 s "java/lang/String") (p1 : Fld Z h0 s "java/lang/String" "coder" "B" (.int 0)) (p2 : Fld Z h0 s "java/lang/String" "value" "[B" (.ref t)) (p3 : Arv Z h0 t kB .byte (1 : Int32) [(.int (lo8 c0))] (.int 0)) (r0 : Chr c0) (z0 : ¬ c0 = 0) (l0 : ¬ (255 : Int32) < c0) :
    Py l Z (⟨"com/example/holdfast/holdfast/sasl/Gs2Header", "withoutChannelBinding", "(Ljava/lang/String;)Lcom/example/holdfast/holdfast/sasl/Gs2Header;"⟩ : MethodName) 5 72 1 3 #[(.ref s)] h0 [] (fun rv h' => ∃ (g : Addr), rv = some (.ref g) ∧ Exa Z h' g "com/example/holdfast/holdfast/sasl/Gs2Header" ∧ Fld Z h' g "com/example/holdfast/holdfast/sasl/Gs2Header" "channelBinding" "Lcom/example/holdfast/holdfast/sasl/Gs2Header$ChannelBinding;" (.ref ub) ∧ Fld Z h' g "com/example/holdfast/holdfast/sasl/Gs2Header" "channelBindingType" "Ljava/lang/String;" .null ∧ Fld Z h' g "com/example/holdfast/holdfast/sasl/Gs2Header" "authorizationId" "Ljava/lang/String;" (.ref s)) := by
  refine Ct.py (by0 := prog_47_method_4_code) (ml := 2) (rt := (some (.object "com/example/holdfast/holdfast/sasl/Gs2Header"))) (rm := ({ frames := 4, cells := 1, slots := 3, locals := 59 } : Room)) ?_ (hq hw 31 rfl) (hq hw 30 rfl)
  refine Ct.mk (a0 := a0) (Ls := #[.val (.ref s), .unset]) (plainFor_of_name pn_com_example_holdfast_holdfast_sasl_Gs2Header) (fun m => by first | (simp [entryFrame, mkF, argsToLocals, Value.category]; done) | rfl) ?_
  intro κ C
  show Go l _ Z _ _ _ κ [] h0 0 #[.val (.ref s), .unset] [] 0 0
  refine go_aloadN C 1 d5_0 rfl rfl rfl ?_
  refine go_ifnullN C 4 d5_1 rfl ?_
  refine go_aloadN C 5 d5_4 rfl rfl rfl ?_
  refine go_callV C (a := s) (argsL := []) (W := 0) d5_5 (hq hw 32 rfl) (hq hw 33 rfl) (fun _ hZ => notFace_of_selects (args := #[]) (mvT hZ (hq hw 35 rfl))) (hq hw 35 rfl) (hq hw 34 rfl) p0 (by decide) pd___Z (ct_emp1 l Z a0 hw am (s := s) (t := t) (kB := kB) (vs := [(.int (lo8 c0))]) p2 p3) rfl (by decide) (Nat.le_of_eq rfl) (by decide) rfl (by decide) (by decide) mems0 ?_
  intro fv1 h2 K3 fq4
  obtain ⟨rfl, rfl⟩ := fq4
  refine ⟨[], fresh0, ?_⟩
  show Go l _ Z _ _ _ κ _ _ 8 _ [(.int 0)] 0 0
  refine go_ifY C (pc' := 15) d5_8 (teq ((by decide) : (0 : Int32) = (0 : Int32))).1 (by decide) (by decide) ?_
  refine go_aloadN C 16 d5_15 rfl rfl rfl ?_
  refine go_astoreN C 17 (Ls' := #[.val (.ref s), .val (.ref s)]) d5_16 rfl rfl rfl ?_
  refine go_aloadN C 18 d5_17 rfl rfl rfl ?_
  refine go_ifnullN C 21 d5_18 rfl ?_
  refine go_aloadN C 22 d5_21 rfl rfl rfl ?_
  refine go_iconst C 23 (0 : Int32) d5_22 rfl (by decide) ?_
  refine go_callV C (a := s) (argsL := [(.int 0)]) (W := 0) d5_23 (hq hw 103 rfl) (hq hw 104 rfl) (fun _ hZ => notFace_of_selects (args := #[]) (mvT hZ (hq hw 106 rfl))) (hq hw 106 rfl) (hq hw 105 rfl) p0 (by decide) pd__I_I (ct_ix1_0_1 l Z a0 hw am (s := s) (t := t) (kB := kB) (c0 := c0) p0 p1 p2 p3 r0 z0 l0) rfl (by decide) (Nat.le_of_eq rfl) (by decide) rfl (by decide) (by decide) mems0 ?_
  intro fv5 h6 K7 fq8
  obtain ⟨rfl, rfl⟩ := fq8
  refine ⟨[], fresh0, ?_⟩
  show Go l _ Z _ _ _ κ _ _ 26 _ [(.int (-1 : Int32))] 0 0
  refine go_ifY C (pc' := 39) d5_26 (tlt ((by decide) : (-1 : Int32) < (0 : Int32))).1 (by decide) (by decide) ?_
  refine go_new C 42 1 3 d5_39 rfl rfl rfl (hq hw 37 rfl) (hq hw 38 rfl) (hq hw 30 rfl) (by decide) (by decide) ?_
  intro b9 h10 g11 E12 A13 D14
  have fx15 : Fld Z h10 b9 "com/example/holdfast/holdfast/sasl/Gs2Header" "channelBinding" "Lcom/example/holdfast/holdfast/sasl/Gs2Header$ChannelBinding;" .null := D14 (Or.inr (hq hw 52 rfl)) (ty := (.object "com/example/holdfast/holdfast/sasl/Gs2Header$ChannelBinding")) (by decide)
  have fx16 : Fld Z h10 b9 "com/example/holdfast/holdfast/sasl/Gs2Header" "channelBindingType" "Ljava/lang/String;" .null := D14 (Or.inr (hq hw 54 rfl)) (ty := (.object "java/lang/String")) (by decide)
  have fx17 : Fld Z h10 b9 "com/example/holdfast/holdfast/sasl/Gs2Header" "authorizationId" "Ljava/lang/String;" .null := D14 (Or.inr (hq hw 56 rfl)) (ty := (.object "java/lang/String")) (by decide)
  refine go_dup C 43 d5_42 rfl rfl ?_
  refine go_getS C 46 d5_43 rfl (hq hw 39 rfl) am.2.2.2.2.2.2.2.2 ?_
  refine go_aconstNull C 47 d5_46 rfl ?_
  refine go_aloadN C 48 d5_47 rfl rfl rfl ?_
  refine go_callI C (a := b9) (argsL := [(.ref ub), .null, (.ref s)]) (W := 1) d5_48 rfl (hq hw 42 rfl) (hq hw 43 rfl) (hq hw 44 rfl) (by decide) pd__Lcom_example_holdfast_holdfast_sasl_Gs2Header_ChannelBinding_Ljava_lang_String_Ljava_lang_String__V (ct_ghi_s l Z a0 hw am (g := b9) (s := s) A13 fx15 fx16 fx17) rfl (by decide) (Nat.le_of_eq rfl) (by decide) rfl (by decide) (by decide) (memsS (mi 0 rfl) mems0) ?_
  intro fv18 h19 K20 fq21
  obtain ⟨rfl, fx22, fx23, fx24, fx25⟩ := fq21
  refine ⟨[], fresh0, ?_⟩
  show Go l _ Z _ _ _ κ _ _ 51 _ [(.ref b9)] 1 3
  refine go_retA C (v := (.ref b9)) d5_51 rfl rfl rfl (by decide) (by decide) ?_
  exact ⟨b9, rfl, fx22, fx23, fx24, fx25⟩
theorem ct_wc1_1 (l : Launch) (Z : State) (a0 : Array Value) (hw : HW a0 Z) {cS : Int32} {fm : Value} {ub : Addr} (am : Amb Z a0 cS fm ub) {s : Addr} {t : Addr} {kB : ClassId} {c0 : Int32} {h0 : Heap} (p0 : Exa Z h0 s "java/lang/String") (p1 : Fld Z h0 s "java/lang/String" "coder" "B" (.int 1)) (p2 : Fld Z h0 s "java/lang/String" "value" "[B" (.ref t)) (p3 : Arv Z h0 t kB .byte (2 : Int32) [(.int (lo8 c0)), (.int (hi8 c0))] (.int 0)) (r0 : Chr c0) (z0 : ¬ c0 = 0) :
    Py l Z (⟨"com/example/holdfast/holdfast/sasl/Gs2Header", "withoutChannelBinding", "(Ljava/lang/String;)Lcom/example/holdfast/holdfast/sasl/Gs2Header;"⟩ : MethodName) 8 113 1 3 #[(.ref s)] h0 [] (fun rv h' => ∃ (g : Addr), rv = some (.ref g) ∧ Exa Z h' g "com/example/holdfast/holdfast/sasl/Gs2Header" ∧ Fld Z h' g "com/example/holdfast/holdfast/sasl/Gs2Header" "channelBinding" "Lcom/example/holdfast/holdfast/sasl/Gs2Header$ChannelBinding;" (.ref ub) ∧ Fld Z h' g "com/example/holdfast/holdfast/sasl/Gs2Header" "channelBindingType" "Ljava/lang/String;" .null ∧ Fld Z h' g "com/example/holdfast/holdfast/sasl/Gs2Header" "authorizationId" "Ljava/lang/String;" (.ref s)) := by
  refine Ct.py (by0 := prog_47_method_4_code) (ml := 2) (rt := (some (.object "com/example/holdfast/holdfast/sasl/Gs2Header"))) (rm := ({ frames := 7, cells := 1, slots := 3, locals := 100 } : Room)) ?_ (hq hw 31 rfl) (hq hw 30 rfl)
  refine Ct.mk (a0 := a0) (Ls := #[.val (.ref s), .unset]) (plainFor_of_name pn_com_example_holdfast_holdfast_sasl_Gs2Header) (fun m => by first | (simp [entryFrame, mkF, argsToLocals, Value.category]; done) | rfl) ?_
  intro κ C
  show Go l _ Z _ _ _ κ [] h0 0 #[.val (.ref s), .unset] [] 0 0
  refine go_aloadN C 1 d5_0 rfl rfl rfl ?_
  refine go_ifnullN C 4 d5_1 rfl ?_
  refine go_aloadN C 5 d5_4 rfl rfl rfl ?_
  refine go_callV C (a := s) (argsL := []) (W := 0) d5_5 (hq hw 32 rfl) (hq hw 33 rfl) (fun _ hZ => notFace_of_selects (args := #[]) (mvT hZ (hq hw 35 rfl))) (hq hw 35 rfl) (hq hw 34 rfl) p0 (by decide) pd___Z (ct_emp2 l Z a0 hw am (s := s) (t := t) (kB := kB) (vs := [(.int (lo8 c0)), (.int (hi8 c0))]) p2 p3) rfl (by decide) (Nat.le_of_eq rfl) (by decide) rfl (by decide) (by decide) mems0 ?_
  intro fv1 h2 K3 fq4
  obtain ⟨rfl, rfl⟩ := fq4
  refine ⟨[], fresh0, ?_⟩
  show Go l _ Z _ _ _ κ _ _ 8 _ [(.int 0)] 0 0
  refine go_ifY C (pc' := 15) d5_8 (teq ((by decide) : (0 : Int32) = (0 : Int32))).1 (by decide) (by decide) ?_
  refine go_aloadN C 16 d5_15 rfl rfl rfl ?_
  refine go_astoreN C 17 (Ls' := #[.val (.ref s), .val (.ref s)]) d5_16 rfl rfl rfl ?_
  refine go_aloadN C 18 d5_17 rfl rfl rfl ?_
  refine go_ifnullN C 21 d5_18 rfl ?_
  refine go_aloadN C 22 d5_21 rfl rfl rfl ?_
  refine go_iconst C 23 (0 : Int32) d5_22 rfl (by decide) ?_
  refine go_callV C (a := s) (argsL := [(.int 0)]) (W := 0) d5_23 (hq hw 103 rfl) (hq hw 104 rfl) (fun _ hZ => notFace_of_selects (args := #[]) (mvT hZ (hq hw 106 rfl))) (hq hw 106 rfl) (hq hw 105 rfl) p0 (by decide) pd__I_I (ct_ix1_1_1 l Z a0 hw am (s := s) (t := t) (kB := kB) (c0 := c0) p0 p1 p2 p3 r0 z0) rfl (by decide) (Nat.le_of_eq rfl) (by decide) rfl (by decide) (by decide) mems0 ?_
  intro fv5 h6 K7 fq8
  obtain ⟨rfl, rfl⟩ := fq8
  refine ⟨[], fresh0, ?_⟩
  show Go l _ Z _ _ _ κ _ _ 26 _ [(.int (-1 : Int32))] 0 0
  refine go_ifY C (pc' := 39) d5_26 (tlt ((by decide) : (-1 : Int32) < (0 : Int32))).1 (by decide) (by decide) ?_
  refine go_new C 42 1 3 d5_39 rfl rfl rfl (hq hw 37 rfl) (hq hw 38 rfl) (hq hw 30 rfl) (by decide) (by decide) ?_
  intro b9 h10 g11 E12 A13 D14
  have fx15 : Fld Z h10 b9 "com/example/holdfast/holdfast/sasl/Gs2Header" "channelBinding" "Lcom/example/holdfast/holdfast/sasl/Gs2Header$ChannelBinding;" .null := D14 (Or.inr (hq hw 52 rfl)) (ty := (.object "com/example/holdfast/holdfast/sasl/Gs2Header$ChannelBinding")) (by decide)
  have fx16 : Fld Z h10 b9 "com/example/holdfast/holdfast/sasl/Gs2Header" "channelBindingType" "Ljava/lang/String;" .null := D14 (Or.inr (hq hw 54 rfl)) (ty := (.object "java/lang/String")) (by decide)
  have fx17 : Fld Z h10 b9 "com/example/holdfast/holdfast/sasl/Gs2Header" "authorizationId" "Ljava/lang/String;" .null := D14 (Or.inr (hq hw 56 rfl)) (ty := (.object "java/lang/String")) (by decide)
  refine go_dup C 43 d5_42 rfl rfl ?_
  refine go_getS C 46 d5_43 rfl (hq hw 39 rfl) am.2.2.2.2.2.2.2.2 ?_
  refine go_aconstNull C 47 d5_46 rfl ?_
  refine go_aloadN C 48 d5_47 rfl rfl rfl ?_
  refine go_callI C (a := b9) (argsL := [(.ref ub), .null, (.ref s)]) (W := 1) d5_48 rfl (hq hw 42 rfl) (hq hw 43 rfl) (hq hw 44 rfl) (by decide) pd__Lcom_example_holdfast_holdfast_sasl_Gs2Header_ChannelBinding_Ljava_lang_String_Ljava_lang_String__V (ct_ghi_s l Z a0 hw am (g := b9) (s := s) A13 fx15 fx16 fx17) rfl (by decide) (Nat.le_of_eq rfl) (by decide) rfl (by decide) (by decide) (memsS (mi 0 rfl) mems0) ?_
  intro fv18 h19 K20 fq21
  obtain ⟨rfl, fx22, fx23, fx24, fx25⟩ := fq21
  refine ⟨[], fresh0, ?_⟩
  show Go l _ Z _ _ _ κ _ _ 51 _ [(.ref b9)] 1 3
  refine go_retA C (v := (.ref b9)) d5_51 rfl rfl rfl (by decide) (by decide) ?_
  exact ⟨b9, rfl, fx22, fx23, fx24, fx25⟩
theorem ct_wc0_2 (l : Launch) (Z : State) (a0 : Array Value) (hw : HW a0 Z) {cS : Int32} {fm : Value} {ub : Addr} (am : Amb Z a0 cS fm ub) {s : Addr} {t : Addr} {kB : ClassId} {c0 : Int32} {c1 : Int32} {h0 : Heap} (p0 : Exa Z h0 s "java/lang/String") (p1 : Fld Z h0 s "java/lang/String" "coder" "B" (.int 0)) (p2 : Fld Z h0 s "java/lang/String" "value" "[B" (.ref t)) (p3 : Arv Z h0 t kB .byte (2 : Int32) [(.int (lo8 c0)), (.int (lo8 c1))] (.int 0)) (r0 : Chr c0) (r1 : Chr c1) (z0 : ¬ c0 = 0) (z1 : ¬ c1 = 0) (l0 : ¬ (255 : Int32) < c0) (l1 : ¬ (255 : Int32) < c1) :
    Py l Z (⟨"com/example/holdfast/holdfast/sasl/Gs2Header", "withoutChannelBinding", "(Ljava/lang/String;)Lcom/example/holdfast/holdfast/sasl/Gs2Header;"⟩ : MethodName) 5 72 1 3 #[(.ref s)] h0 [] (fun rv h' => ∃ (g : Addr), rv = some (.ref g) ∧ Exa Z h' g "com/example/holdfast/holdfast/sasl/Gs2Header" ∧ Fld Z h' g "com/example/holdfast/holdfast/sasl/Gs2Header" "channelBinding" "Lcom/example/holdfast/holdfast/sasl/Gs2Header$ChannelBinding;" (.ref ub) ∧ Fld Z h' g "com/example/holdfast/holdfast/sasl/Gs2Header" "channelBindingType" "Ljava/lang/String;" .null ∧ Fld Z h' g "com/example/holdfast/holdfast/sasl/Gs2Header" "authorizationId" "Ljava/lang/String;" (.ref s)) := by
  refine Ct.py (by0 := prog_47_method_4_code) (ml := 2) (rt := (some (.object "com/example/holdfast/holdfast/sasl/Gs2Header"))) (rm := ({ frames := 4, cells := 1, slots := 3, locals := 59 } : Room)) ?_ (hq hw 31 rfl) (hq hw 30 rfl)
  refine Ct.mk (a0 := a0) (Ls := #[.val (.ref s), .unset]) (plainFor_of_name pn_com_example_holdfast_holdfast_sasl_Gs2Header) (fun m => by first | (simp [entryFrame, mkF, argsToLocals, Value.category]; done) | rfl) ?_
  intro κ C
  show Go l _ Z _ _ _ κ [] h0 0 #[.val (.ref s), .unset] [] 0 0
  refine go_aloadN C 1 d5_0 rfl rfl rfl ?_
  refine go_ifnullN C 4 d5_1 rfl ?_
  refine go_aloadN C 5 d5_4 rfl rfl rfl ?_
  refine go_callV C (a := s) (argsL := []) (W := 0) d5_5 (hq hw 32 rfl) (hq hw 33 rfl) (fun _ hZ => notFace_of_selects (args := #[]) (mvT hZ (hq hw 35 rfl))) (hq hw 35 rfl) (hq hw 34 rfl) p0 (by decide) pd___Z (ct_emp2 l Z a0 hw am (s := s) (t := t) (kB := kB) (vs := [(.int (lo8 c0)), (.int (lo8 c1))]) p2 p3) rfl (by decide) (Nat.le_of_eq rfl) (by decide) rfl (by decide) (by decide) mems0 ?_
  intro fv1 h2 K3 fq4
  obtain ⟨rfl, rfl⟩ := fq4
  refine ⟨[], fresh0, ?_⟩
  show Go l _ Z _ _ _ κ _ _ 8 _ [(.int 0)] 0 0
  refine go_ifY C (pc' := 15) d5_8 (teq ((by decide) : (0 : Int32) = (0 : Int32))).1 (by decide) (by decide) ?_
  refine go_aloadN C 16 d5_15 rfl rfl rfl ?_
  refine go_astoreN C 17 (Ls' := #[.val (.ref s), .val (.ref s)]) d5_16 rfl rfl rfl ?_
  refine go_aloadN C 18 d5_17 rfl rfl rfl ?_
  refine go_ifnullN C 21 d5_18 rfl ?_
  refine go_aloadN C 22 d5_21 rfl rfl rfl ?_
  refine go_iconst C 23 (0 : Int32) d5_22 rfl (by decide) ?_
  refine go_callV C (a := s) (argsL := [(.int 0)]) (W := 0) d5_23 (hq hw 103 rfl) (hq hw 104 rfl) (fun _ hZ => notFace_of_selects (args := #[]) (mvT hZ (hq hw 106 rfl))) (hq hw 106 rfl) (hq hw 105 rfl) p0 (by decide) pd__I_I (ct_ix1_0_2 l Z a0 hw am (s := s) (t := t) (kB := kB) (c0 := c0) (c1 := c1) p0 p1 p2 p3 r0 r1 z0 z1 l0 l1) rfl (by decide) (Nat.le_of_eq rfl) (by decide) rfl (by decide) (by decide) mems0 ?_
  intro fv5 h6 K7 fq8
  obtain ⟨rfl, rfl⟩ := fq8
  refine ⟨[], fresh0, ?_⟩
  show Go l _ Z _ _ _ κ _ _ 26 _ [(.int (-1 : Int32))] 0 0
  refine go_ifY C (pc' := 39) d5_26 (tlt ((by decide) : (-1 : Int32) < (0 : Int32))).1 (by decide) (by decide) ?_
  refine go_new C 42 1 3 d5_39 rfl rfl rfl (hq hw 37 rfl) (hq hw 38 rfl) (hq hw 30 rfl) (by decide) (by decide) ?_
  intro b9 h10 g11 E12 A13 D14
  have fx15 : Fld Z h10 b9 "com/example/holdfast/holdfast/sasl/Gs2Header" "channelBinding" "Lcom/example/holdfast/holdfast/sasl/Gs2Header$ChannelBinding;" .null := D14 (Or.inr (hq hw 52 rfl)) (ty := (.object "com/example/holdfast/holdfast/sasl/Gs2Header$ChannelBinding")) (by decide)
  have fx16 : Fld Z h10 b9 "com/example/holdfast/holdfast/sasl/Gs2Header" "channelBindingType" "Ljava/lang/String;" .null := D14 (Or.inr (hq hw 54 rfl)) (ty := (.object "java/lang/String")) (by decide)
  have fx17 : Fld Z h10 b9 "com/example/holdfast/holdfast/sasl/Gs2Header" "authorizationId" "Ljava/lang/String;" .null := D14 (Or.inr (hq hw 56 rfl)) (ty := (.object "java/lang/String")) (by decide)
  refine go_dup C 43 d5_42 rfl rfl ?_
  refine go_getS C 46 d5_43 rfl (hq hw 39 rfl) am.2.2.2.2.2.2.2.2 ?_
  refine go_aconstNull C 47 d5_46 rfl ?_
  refine go_aloadN C 48 d5_47 rfl rfl rfl ?_
  refine go_callI C (a := b9) (argsL := [(.ref ub), .null, (.ref s)]) (W := 1) d5_48 rfl (hq hw 42 rfl) (hq hw 43 rfl) (hq hw 44 rfl) (by decide) pd__Lcom_example_holdfast_holdfast_sasl_Gs2Header_ChannelBinding_Ljava_lang_String_Ljava_lang_String__V (ct_ghi_s l Z a0 hw am (g := b9) (s := s) A13 fx15 fx16 fx17) rfl (by decide) (Nat.le_of_eq rfl) (by decide) rfl (by decide) (by decide) (memsS (mi 0 rfl) mems0) ?_
  intro fv18 h19 K20 fq21
  obtain ⟨rfl, fx22, fx23, fx24, fx25⟩ := fq21
  refine ⟨[], fresh0, ?_⟩
  show Go l _ Z _ _ _ κ _ _ 51 _ [(.ref b9)] 1 3
  refine go_retA C (v := (.ref b9)) d5_51 rfl rfl rfl (by decide) (by decide) ?_
  exact ⟨b9, rfl, fx22, fx23, fx24, fx25⟩
theorem ct_wc1_2 (l : Launch) (Z : State) (a0 : Array Value) (hw : HW a0 Z) {cS : Int32} {fm : Value} {ub : Addr} (am : Amb Z a0 cS fm ub) {s : Addr} {t : Addr} {kB : ClassId} {c0 : Int32} {c1 : Int32} {h0 : Heap} (p0 : Exa Z h0 s "java/lang/String") (p1 : Fld Z h0 s "java/lang/String" "coder" "B" (.int 1)) (p2 : Fld Z h0 s "java/lang/String" "value" "[B" (.ref t)) (p3 : Arv Z h0 t kB .byte (4 : Int32) [(.int (lo8 c0)), (.int (hi8 c0)), (.int (lo8 c1)), (.int (hi8 c1))] (.int 0)) (r0 : Chr c0) (r1 : Chr c1) (z0 : ¬ c0 = 0) (z1 : ¬ c1 = 0) :
    Py l Z (⟨"com/example/holdfast/holdfast/sasl/Gs2Header", "withoutChannelBinding", "(Ljava/lang/String;)Lcom/example/holdfast/holdfast/sasl/Gs2Header;"⟩ : MethodName) 8 113 1 3 #[(.ref s)] h0 [] (fun rv h' => ∃ (g : Addr), rv = some (.ref g) ∧ Exa Z h' g "com/example/holdfast/holdfast/sasl/Gs2Header" ∧ Fld Z h' g "com/example/holdfast/holdfast/sasl/Gs2Header" "channelBinding" "Lcom/example/holdfast/holdfast/sasl/Gs2Header$ChannelBinding;" (.ref ub) ∧ Fld Z h' g "com/example/holdfast/holdfast/sasl/Gs2Header" "channelBindingType" "Ljava/lang/String;" .null ∧ Fld Z h' g "com/example/holdfast/holdfast/sasl/Gs2Header" "authorizationId" "Ljava/lang/String;" (.ref s)) := by
  refine Ct.py (by0 := prog_47_method_4_code) (ml := 2) (rt := (some (.object "com/example/holdfast/holdfast/sasl/Gs2Header"))) (rm := ({ frames := 7, cells := 1, slots := 3, locals := 100 } : Room)) ?_ (hq hw 31 rfl) (hq hw 30 rfl)
  refine Ct.mk (a0 := a0) (Ls := #[.val (.ref s), .unset]) (plainFor_of_name pn_com_example_holdfast_holdfast_sasl_Gs2Header) (fun m => by first | (simp [entryFrame, mkF, argsToLocals, Value.category]; done) | rfl) ?_
  intro κ C
  show Go l _ Z _ _ _ κ [] h0 0 #[.val (.ref s), .unset] [] 0 0
  refine go_aloadN C 1 d5_0 rfl rfl rfl ?_
  refine go_ifnullN C 4 d5_1 rfl ?_
  refine go_aloadN C 5 d5_4 rfl rfl rfl ?_
  refine go_callV C (a := s) (argsL := []) (W := 0) d5_5 (hq hw 32 rfl) (hq hw 33 rfl) (fun _ hZ => notFace_of_selects (args := #[]) (mvT hZ (hq hw 35 rfl))) (hq hw 35 rfl) (hq hw 34 rfl) p0 (by decide) pd___Z (ct_emp4 l Z a0 hw am (s := s) (t := t) (kB := kB) (vs := [(.int (lo8 c0)), (.int (hi8 c0)), (.int (lo8 c1)), (.int (hi8 c1))]) p2 p3) rfl (by decide) (Nat.le_of_eq rfl) (by decide) rfl (by decide) (by decide) mems0 ?_
  intro fv1 h2 K3 fq4
  obtain ⟨rfl, rfl⟩ := fq4
  refine ⟨[], fresh0, ?_⟩
  show Go l _ Z _ _ _ κ _ _ 8 _ [(.int 0)] 0 0
  refine go_ifY C (pc' := 15) d5_8 (teq ((by decide) : (0 : Int32) = (0 : Int32))).1 (by decide) (by decide) ?_
  refine go_aloadN C 16 d5_15 rfl rfl rfl ?_
  refine go_astoreN C 17 (Ls' := #[.val (.ref s), .val (.ref s)]) d5_16 rfl rfl rfl ?_
  refine go_aloadN C 18 d5_17 rfl rfl rfl ?_
  refine go_ifnullN C 21 d5_18 rfl ?_
  refine go_aloadN C 22 d5_21 rfl rfl rfl ?_
  refine go_iconst C 23 (0 : Int32) d5_22 rfl (by decide) ?_
  refine go_callV C (a := s) (argsL := [(.int 0)]) (W := 0) d5_23 (hq hw 103 rfl) (hq hw 104 rfl) (fun _ hZ => notFace_of_selects (args := #[]) (mvT hZ (hq hw 106 rfl))) (hq hw 106 rfl) (hq hw 105 rfl) p0 (by decide) pd__I_I (ct_ix1_1_2 l Z a0 hw am (s := s) (t := t) (kB := kB) (c0 := c0) (c1 := c1) p0 p1 p2 p3 r0 r1 z0 z1) rfl (by decide) (Nat.le_of_eq rfl) (by decide) rfl (by decide) (by decide) mems0 ?_
  intro fv5 h6 K7 fq8
  obtain ⟨rfl, rfl⟩ := fq8
  refine ⟨[], fresh0, ?_⟩
  show Go l _ Z _ _ _ κ _ _ 26 _ [(.int (-1 : Int32))] 0 0
  refine go_ifY C (pc' := 39) d5_26 (tlt ((by decide) : (-1 : Int32) < (0 : Int32))).1 (by decide) (by decide) ?_
  refine go_new C 42 1 3 d5_39 rfl rfl rfl (hq hw 37 rfl) (hq hw 38 rfl) (hq hw 30 rfl) (by decide) (by decide) ?_
  intro b9 h10 g11 E12 A13 D14
  have fx15 : Fld Z h10 b9 "com/example/holdfast/holdfast/sasl/Gs2Header" "channelBinding" "Lcom/example/holdfast/holdfast/sasl/Gs2Header$ChannelBinding;" .null := D14 (Or.inr (hq hw 52 rfl)) (ty := (.object "com/example/holdfast/holdfast/sasl/Gs2Header$ChannelBinding")) (by decide)
  have fx16 : Fld Z h10 b9 "com/example/holdfast/holdfast/sasl/Gs2Header" "channelBindingType" "Ljava/lang/String;" .null := D14 (Or.inr (hq hw 54 rfl)) (ty := (.object "java/lang/String")) (by decide)
  have fx17 : Fld Z h10 b9 "com/example/holdfast/holdfast/sasl/Gs2Header" "authorizationId" "Ljava/lang/String;" .null := D14 (Or.inr (hq hw 56 rfl)) (ty := (.object "java/lang/String")) (by decide)
  refine go_dup C 43 d5_42 rfl rfl ?_
  refine go_getS C 46 d5_43 rfl (hq hw 39 rfl) am.2.2.2.2.2.2.2.2 ?_
  refine go_aconstNull C 47 d5_46 rfl ?_
  refine go_aloadN C 48 d5_47 rfl rfl rfl ?_
  refine go_callI C (a := b9) (argsL := [(.ref ub), .null, (.ref s)]) (W := 1) d5_48 rfl (hq hw 42 rfl) (hq hw 43 rfl) (hq hw 44 rfl) (by decide) pd__Lcom_example_holdfast_holdfast_sasl_Gs2Header_ChannelBinding_Ljava_lang_String_Ljava_lang_String__V (ct_ghi_s l Z a0 hw am (g := b9) (s := s) A13 fx15 fx16 fx17) rfl (by decide) (Nat.le_of_eq rfl) (by decide) rfl (by decide) (by decide) (memsS (mi 0 rfl) mems0) ?_
  intro fv18 h19 K20 fq21
  obtain ⟨rfl, fx22, fx23, fx24, fx25⟩ := fq21
  refine ⟨[], fresh0, ?_⟩
  show Go l _ Z _ _ _ κ _ _ 51 _ [(.ref b9)] 1 3
  refine go_retA C (v := (.ref b9)) d5_51 rfl rfl rfl (by decide) (by decide) ?_
  exact ⟨b9, rfl, fx22, fx23, fx24, fx25⟩
theorem ct_wc0_3 (l : Launch) (Z : State) (a0 : Array Value) (hw : HW a0 Z) {cS : Int32} {fm : Value} {ub : Addr} (am : Amb Z a0 cS fm ub) {s : Addr} {t : Addr} {kB : ClassId} {c0 : Int32} {c1 : Int32} {c2 : Int32} {h0 : Heap} (p0 : Exa Z h0 s "java/lang/String") (p1 : Fld Z h0 s "java/lang/String" "coder" "B" (.int 0)) (p2 : Fld Z h0 s "java/lang/String" "value" "[B" (.ref t)) (p3 : Arv Z h0 t kB .byte (3 : Int32) [(.int (lo8 c0)), (.int (lo8 c1)), (.int (lo8 c2))] (.int 0)) (r0 : Chr c0) (r1 : Chr c1) (r2 : Chr c2) (z0 : ¬ c0 = 0) (z1 : ¬ c1 = 0) (z2 : ¬ c2 = 0) (l0 : ¬ (255 : Int32) < c0) (l1 : ¬ (255 : Int32) < c1) (l2 : ¬ (255 : Int32) < c2) :
    Py l Z (⟨"com/example/holdfast/holdfast/sasl/Gs2Header", "withoutChannelBinding", "(Ljava/lang/String;)Lcom/example/holdfast/holdfast/sasl/Gs2Header;"⟩ : MethodName) 5 72 1 3 #[(.ref s)] h0 [] (fun rv h' => ∃ (g : Addr), rv = some (.ref g) ∧ Exa Z h' g "com/example/holdfast/holdfast/sasl/Gs2Header" ∧ Fld Z h' g "com/example/holdfast/holdfast/sasl/Gs2Header" "channelBinding" "Lcom/example/holdfast/holdfast/sasl/Gs2Header$ChannelBinding;" (.ref ub) ∧ Fld Z h' g "com/example/holdfast/holdfast/sasl/Gs2Header" "channelBindingType" "Ljava/lang/String;" .null ∧ Fld Z h' g "com/example/holdfast/holdfast/sasl/Gs2Header" "authorizationId" "Ljava/lang/String;" (.ref s)) := by
  refine Ct.py (by0 := prog_47_method_4_code) (ml := 2) (rt := (some (.object "com/example/holdfast/holdfast/sasl/Gs2Header"))) (rm := ({ frames := 4, cells := 1, slots := 3, locals := 59 } : Room)) ?_ (hq hw 31 rfl) (hq hw 30 rfl)
  refine Ct.mk (a0 := a0) (Ls := #[.val (.ref s), .unset]) (plainFor_of_name pn_com_example_holdfast_holdfast_sasl_Gs2Header) (fun m => by first | (simp [entryFrame, mkF, argsToLocals, Value.category]; done) | rfl) ?_
  intro κ C
  show Go l _ Z _ _ _ κ [] h0 0 #[.val (.ref s), .unset] [] 0 0
  refine go_aloadN C 1 d5_0 rfl rfl rfl ?_
  refine go_ifnullN C 4 d5_1 rfl ?_
  refine go_aloadN C 5 d5_4 rfl rfl rfl ?_
  refine go_callV C (a := s) (argsL := []) (W := 0) d5_5 (hq hw 32 rfl) (hq hw 33 rfl) (fun _ hZ => notFace_of_selects (args := #[]) (mvT hZ (hq hw 35 rfl))) (hq hw 35 rfl) (hq hw 34 rfl) p0 (by decide) pd___Z (ct_emp3 l Z a0 hw am (s := s) (t := t) (kB := kB) (vs := [(.int (lo8 c0)), (.int (lo8 c1)), (.int (lo8 c2))]) p2 p3) rfl (by decide) (Nat.le_of_eq rfl) (by decide) rfl (by decide) (by decide) mems0 ?_
  intro fv1 h2 K3 fq4
  obtain ⟨rfl, rfl⟩ := fq4
  refine ⟨[], fresh0, ?_⟩
  show Go l _ Z _ _ _ κ _ _ 8 _ [(.int 0)] 0 0
  refine go_ifY C (pc' := 15) d5_8 (teq ((by decide) : (0 : Int32) = (0 : Int32))).1 (by decide) (by decide) ?_
  refine go_aloadN C 16 d5_15 rfl rfl rfl ?_
  refine go_astoreN C 17 (Ls' := #[.val (.ref s), .val (.ref s)]) d5_16 rfl rfl rfl ?_
  refine go_aloadN C 18 d5_17 rfl rfl rfl ?_
  refine go_ifnullN C 21 d5_18 rfl ?_
  refine go_aloadN C 22 d5_21 rfl rfl rfl ?_
  refine go_iconst C 23 (0 : Int32) d5_22 rfl (by decide) ?_
  refine go_callV C (a := s) (argsL := [(.int 0)]) (W := 0) d5_23 (hq hw 103 rfl) (hq hw 104 rfl) (fun _ hZ => notFace_of_selects (args := #[]) (mvT hZ (hq hw 106 rfl))) (hq hw 106 rfl) (hq hw 105 rfl) p0 (by decide) pd__I_I (ct_ix1_0_3 l Z a0 hw am (s := s) (t := t) (kB := kB) (c0 := c0) (c1 := c1) (c2 := c2) p0 p1 p2 p3 r0 r1 r2 z0 z1 z2 l0 l1 l2) rfl (by decide) (Nat.le_of_eq rfl) (by decide) rfl (by decide) (by decide) mems0 ?_
  intro fv5 h6 K7 fq8
  obtain ⟨rfl, rfl⟩ := fq8
  refine ⟨[], fresh0, ?_⟩
  show Go l _ Z _ _ _ κ _ _ 26 _ [(.int (-1 : Int32))] 0 0
  refine go_ifY C (pc' := 39) d5_26 (tlt ((by decide) : (-1 : Int32) < (0 : Int32))).1 (by decide) (by decide) ?_
  refine go_new C 42 1 3 d5_39 rfl rfl rfl (hq hw 37 rfl) (hq hw 38 rfl) (hq hw 30 rfl) (by decide) (by decide) ?_
  intro b9 h10 g11 E12 A13 D14
  have fx15 : Fld Z h10 b9 "com/example/holdfast/holdfast/sasl/Gs2Header" "channelBinding" "Lcom/example/holdfast/holdfast/sasl/Gs2Header$ChannelBinding;" .null := D14 (Or.inr (hq hw 52 rfl)) (ty := (.object "com/example/holdfast/holdfast/sasl/Gs2Header$ChannelBinding")) (by decide)
  have fx16 : Fld Z h10 b9 "com/example/holdfast/holdfast/sasl/Gs2Header" "channelBindingType" "Ljava/lang/String;" .null := D14 (Or.inr (hq hw 54 rfl)) (ty := (.object "java/lang/String")) (by decide)
  have fx17 : Fld Z h10 b9 "com/example/holdfast/holdfast/sasl/Gs2Header" "authorizationId" "Ljava/lang/String;" .null := D14 (Or.inr (hq hw 56 rfl)) (ty := (.object "java/lang/String")) (by decide)
  refine go_dup C 43 d5_42 rfl rfl ?_
  refine go_getS C 46 d5_43 rfl (hq hw 39 rfl) am.2.2.2.2.2.2.2.2 ?_
  refine go_aconstNull C 47 d5_46 rfl ?_
  refine go_aloadN C 48 d5_47 rfl rfl rfl ?_
  refine go_callI C (a := b9) (argsL := [(.ref ub), .null, (.ref s)]) (W := 1) d5_48 rfl (hq hw 42 rfl) (hq hw 43 rfl) (hq hw 44 rfl) (by decide) pd__Lcom_example_holdfast_holdfast_sasl_Gs2Header_ChannelBinding_Ljava_lang_String_Ljava_lang_String__V (ct_ghi_s l Z a0 hw am (g := b9) (s := s) A13 fx15 fx16 fx17) rfl (by decide) (Nat.le_of_eq rfl) (by decide) rfl (by decide) (by decide) (memsS (mi 0 rfl) mems0) ?_
  intro fv18 h19 K20 fq21
  obtain ⟨rfl, fx22, fx23, fx24, fx25⟩ := fq21
  refine ⟨[], fresh0, ?_⟩
  show Go l _ Z _ _ _ κ _ _ 51 _ [(.ref b9)] 1 3
  refine go_retA C (v := (.ref b9)) d5_51 rfl rfl rfl (by decide) (by decide) ?_
  exact ⟨b9, rfl, fx22, fx23, fx24, fx25⟩
theorem ct_wc1_3 (l : Launch) (Z : State) (a0 : Array Value) (hw : HW a0 Z) {cS : Int32} {fm : Value} {ub : Addr} (am : Amb Z a0 cS fm ub) {s : Addr} {t : Addr} {kB : ClassId} {c0 : Int32} {c1 : Int32} {c2 : Int32} {h0 : Heap} (p0 : Exa Z h0 s "java/lang/String") (p1 : Fld Z h0 s "java/lang/String" "coder" "B" (.int 1)) (p2 : Fld Z h0 s "java/lang/String" "value" "[B" (.ref t)) (p3 : Arv Z h0 t kB .byte (6 : Int32) [(.int (lo8 c0)), (.int (hi8 c0)), (.int (lo8 c1)), (.int (hi8 c1)), (.int (lo8 c2)), (.int (hi8 c2))] (.int 0)) (r0 : Chr c0) (r1 : Chr c1) (r2 : Chr c2) (z0 : ¬ c0 = 0) (z1 : ¬ c1 = 0) (z2 : ¬ c2 = 0) :
    Py l Z (⟨"com/example/holdfast/holdfast/sasl/Gs2Header", "withoutChannelBinding", "(Ljava/lang/String;)Lcom/example/holdfast/holdfast/sasl/Gs2Header;"⟩ : MethodName) 8 113 1 3 #[(.ref s)] h0 [] (fun rv h' => ∃ (g : Addr), rv = some (.ref g) ∧ Exa Z h' g "com/example/holdfast/holdfast/sasl/Gs2Header" ∧ Fld Z h' g "com/example/holdfast/holdfast/sasl/Gs2Header" "channelBinding" "Lcom/example/holdfast/holdfast/sasl/Gs2Header$ChannelBinding;" (.ref ub) ∧ Fld Z h' g "com/example/holdfast/holdfast/sasl/Gs2Header" "channelBindingType" "Ljava/lang/String;" .null ∧ Fld Z h' g "com/example/holdfast/holdfast/sasl/Gs2Header" "authorizationId" "Ljava/lang/String;" (.ref s)) := by
  refine Ct.py (by0 := prog_47_method_4_code) (ml := 2) (rt := (some (.object "com/example/holdfast/holdfast/sasl/Gs2Header"))) (rm := ({ frames := 7, cells := 1, slots := 3, locals := 100 } : Room)) ?_ (hq hw 31 rfl) (hq hw 30 rfl)
  refine Ct.mk (a0 := a0) (Ls := #[.val (.ref s), .unset]) (plainFor_of_name pn_com_example_holdfast_holdfast_sasl_Gs2Header) (fun m => by first | (simp [entryFrame, mkF, argsToLocals, Value.category]; done) | rfl) ?_
  intro κ C
  show Go l _ Z _ _ _ κ [] h0 0 #[.val (.ref s), .unset] [] 0 0
  refine go_aloadN C 1 d5_0 rfl rfl rfl ?_
  refine go_ifnullN C 4 d5_1 rfl ?_
  refine go_aloadN C 5 d5_4 rfl rfl rfl ?_
  refine go_callV C (a := s) (argsL := []) (W := 0) d5_5 (hq hw 32 rfl) (hq hw 33 rfl) (fun _ hZ => notFace_of_selects (args := #[]) (mvT hZ (hq hw 35 rfl))) (hq hw 35 rfl) (hq hw 34 rfl) p0 (by decide) pd___Z (ct_emp6 l Z a0 hw am (s := s) (t := t) (kB := kB) (vs := [(.int (lo8 c0)), (.int (hi8 c0)), (.int (lo8 c1)), (.int (hi8 c1)), (.int (lo8 c2)), (.int (hi8 c2))]) p2 p3) rfl (by decide) (Nat.le_of_eq rfl) (by decide) rfl (by decide) (by decide) mems0 ?_
  intro fv1 h2 K3 fq4
  obtain ⟨rfl, rfl⟩ := fq4
  refine ⟨[], fresh0, ?_⟩
  show Go l _ Z _ _ _ κ _ _ 8 _ [(.int 0)] 0 0
  refine go_ifY C (pc' := 15) d5_8 (teq ((by decide) : (0 : Int32) = (0 : Int32))).1 (by decide) (by decide) ?_
  refine go_aloadN C 16 d5_15 rfl rfl rfl ?_
  refine go_astoreN C 17 (Ls' := #[.val (.ref s), .val (.ref s)]) d5_16 rfl rfl rfl ?_
  refine go_aloadN C 18 d5_17 rfl rfl rfl ?_
  refine go_ifnullN C 21 d5_18 rfl ?_
  refine go_aloadN C 22 d5_21 rfl rfl rfl ?_
  refine go_iconst C 23 (0 : Int32) d5_22 rfl (by decide) ?_
  refine go_callV C (a := s) (argsL := [(.int 0)]) (W := 0) d5_23 (hq hw 103 rfl) (hq hw 104 rfl) (fun _ hZ => notFace_of_selects (args := #[]) (mvT hZ (hq hw 106 rfl))) (hq hw 106 rfl) (hq hw 105 rfl) p0 (by decide) pd__I_I (ct_ix1_1_3 l Z a0 hw am (s := s) (t := t) (kB := kB) (c0 := c0) (c1 := c1) (c2 := c2) p0 p1 p2 p3 r0 r1 r2 z0 z1 z2) rfl (by decide) (Nat.le_of_eq rfl) (by decide) rfl (by decide) (by decide) mems0 ?_
  intro fv5 h6 K7 fq8
  obtain ⟨rfl, rfl⟩ := fq8
  refine ⟨[], fresh0, ?_⟩
  show Go l _ Z _ _ _ κ _ _ 26 _ [(.int (-1 : Int32))] 0 0
  refine go_ifY C (pc' := 39) d5_26 (tlt ((by decide) : (-1 : Int32) < (0 : Int32))).1 (by decide) (by decide) ?_
  refine go_new C 42 1 3 d5_39 rfl rfl rfl (hq hw 37 rfl) (hq hw 38 rfl) (hq hw 30 rfl) (by decide) (by decide) ?_
  intro b9 h10 g11 E12 A13 D14
  have fx15 : Fld Z h10 b9 "com/example/holdfast/holdfast/sasl/Gs2Header" "channelBinding" "Lcom/example/holdfast/holdfast/sasl/Gs2Header$ChannelBinding;" .null := D14 (Or.inr (hq hw 52 rfl)) (ty := (.object "com/example/holdfast/holdfast/sasl/Gs2Header$ChannelBinding")) (by decide)
  have fx16 : Fld Z h10 b9 "com/example/holdfast/holdfast/sasl/Gs2Header" "channelBindingType" "Ljava/lang/String;" .null := D14 (Or.inr (hq hw 54 rfl)) (ty := (.object "java/lang/String")) (by decide)
  have fx17 : Fld Z h10 b9 "com/example/holdfast/holdfast/sasl/Gs2Header" "authorizationId" "Ljava/lang/String;" .null := D14 (Or.inr (hq hw 56 rfl)) (ty := (.object "java/lang/String")) (by decide)
  refine go_dup C 43 d5_42 rfl rfl ?_
  refine go_getS C 46 d5_43 rfl (hq hw 39 rfl) am.2.2.2.2.2.2.2.2 ?_
  refine go_aconstNull C 47 d5_46 rfl ?_
  refine go_aloadN C 48 d5_47 rfl rfl rfl ?_
  refine go_callI C (a := b9) (argsL := [(.ref ub), .null, (.ref s)]) (W := 1) d5_48 rfl (hq hw 42 rfl) (hq hw 43 rfl) (hq hw 44 rfl) (by decide) pd__Lcom_example_holdfast_holdfast_sasl_Gs2Header_ChannelBinding_Ljava_lang_String_Ljava_lang_String__V (ct_ghi_s l Z a0 hw am (g := b9) (s := s) A13 fx15 fx16 fx17) rfl (by decide) (Nat.le_of_eq rfl) (by decide) rfl (by decide) (by decide) (memsS (mi 0 rfl) mems0) ?_
  intro fv18 h19 K20 fq21
  obtain ⟨rfl, fx22, fx23, fx24, fx25⟩ := fq21
  refine ⟨[], fresh0, ?_⟩
  show Go l _ Z _ _ _ κ _ _ 51 _ [(.ref b9)] 1 3
  refine go_retA C (v := (.ref b9)) d5_51 rfl rfl rfl (by decide) (by decide) ?_
  exact ⟨b9, rfl, fx22, fx23, fx24, fx25⟩
theorem ct_cb (l : Launch) (Z : State) (a0 : Array Value) (hw : HW a0 Z) {cS : Int32} {fm : Value} {ub : Addr} (am : Amb Z a0 cS fm ub) {g : Addr} {h0 : Heap} (p0 : Fld Z h0 g "com/example/holdfast/holdfast/sasl/Gs2Header" "channelBinding" "Lcom/example/holdfast/holdfast/sasl/Gs2Header$ChannelBinding;" (.ref ub)) :
    Py l Z (⟨"com/example/holdfast/holdfast/sasl/Gs2Header", "channelBinding", "()Lcom/example/holdfast/holdfast/sasl/Gs2Header$ChannelBinding;"⟩ : MethodName) 1 12 0 0 #[(.ref g)] h0 [] (fun rv h' => rv = some (.ref ub) ∧ h' = h0) := by
  refine Ct.py (by0 := prog_47_method_13_code) (ml := 1) (rt := (some (.object "com/example/holdfast/holdfast/sasl/Gs2Header$ChannelBinding"))) (rm := ({ frames := 0, cells := 0, slots := 0, locals := 0 } : Room)) ?_ (hq hw 61 rfl) (hq hw 30 rfl)
  refine Ct.mk (a0 := a0) (Ls := #[.val (.ref g)]) (plainFor_of_name pn_com_example_holdfast_holdfast_sasl_Gs2Header) (fun m => by first | (simp [entryFrame, mkF, argsToLocals, Value.category]; done) | rfl) ?_
  intro κ C
  show Go l _ Z _ _ _ κ [] h0 0 #[.val (.ref g)] [] 0 0
  refine go_aloadN C 1 d9_0 rfl rfl rfl ?_
  refine go_getF C 4 d9_1 rfl (hq hw 51 rfl) Via.refl p0 ?_
  refine go_retA C (v := (.ref ub)) d9_4 rfl rfl rfl (by decide) (by decide) ?_
  exact ⟨rfl, rfl⟩
theorem ct_cbt (l : Launch) (Z : State) (a0 : Array Value) (hw : HW a0 Z) {cS : Int32} {fm : Value} {ub : Addr} (am : Amb Z a0 cS fm ub) {g : Addr} {h0 : Heap} (p0 : Fld Z h0 g "com/example/holdfast/holdfast/sasl/Gs2Header" "channelBindingType" "Ljava/lang/String;" .null) :
    Py l Z (⟨"com/example/holdfast/holdfast/sasl/Gs2Header", "channelBindingType", "()Ljava/lang/String;"⟩ : MethodName) 1 12 0 0 #[(.ref g)] h0 [] (fun rv h' => rv = some .null ∧ h' = h0) := by
  refine Ct.py (by0 := prog_47_method_14_code) (ml := 1) (rt := (some (.object "java/lang/String"))) (rm := ({ frames := 0, cells := 0, slots := 0, locals := 0 } : Room)) ?_ (hq hw 67 rfl) (hq hw 30 rfl)
  refine Ct.mk (a0 := a0) (Ls := #[.val (.ref g)]) (plainFor_of_name pn_com_example_holdfast_holdfast_sasl_Gs2Header) (fun m => by first | (simp [entryFrame, mkF, argsToLocals, Value.category]; done) | rfl) ?_
  intro κ C
  show Go l _ Z _ _ _ κ [] h0 0 #[.val (.ref g)] [] 0 0
  refine go_aloadN C 1 d10_0 rfl rfl rfl ?_
  refine go_getF C 4 d10_1 rfl (hq hw 53 rfl) Via.refl p0 ?_
  refine go_retA C (v := .null) d10_4 rfl rfl rfl (by decide) (by decide) ?_
  exact ⟨rfl, rfl⟩
theorem ct_aid0 (l : Launch) (Z : State) (a0 : Array Value) (hw : HW a0 Z) {cS : Int32} {fm : Value} {ub : Addr} (am : Amb Z a0 cS fm ub) {g : Addr} {h0 : Heap} (p0 : Fld Z h0 g "com/example/holdfast/holdfast/sasl/Gs2Header" "authorizationId" "Ljava/lang/String;" .null) :
    Py l Z (⟨"com/example/holdfast/holdfast/sasl/Gs2Header", "authorizationId", "()Ljava/lang/String;"⟩ : MethodName) 1 12 0 0 #[(.ref g)] h0 [] (fun rv h' => rv = some .null ∧ h' = h0) := by
  refine Ct.py (by0 := prog_47_method_15_code) (ml := 1) (rt := (some (.object "java/lang/String"))) (rm := ({ frames := 0, cells := 0, slots := 0, locals := 0 } : Room)) ?_ (hq hw 72 rfl) (hq hw 30 rfl)
  refine Ct.mk (a0 := a0) (Ls := #[.val (.ref g)]) (plainFor_of_name pn_com_example_holdfast_holdfast_sasl_Gs2Header) (fun m => by first | (simp [entryFrame, mkF, argsToLocals, Value.category]; done) | rfl) ?_
  intro κ C
  show Go l _ Z _ _ _ κ [] h0 0 #[.val (.ref g)] [] 0 0
  refine go_aloadN C 1 d11_0 rfl rfl rfl ?_
  refine go_getF C 4 d11_1 rfl (hq hw 55 rfl) Via.refl p0 ?_
  refine go_retA C (v := .null) d11_4 rfl rfl rfl (by decide) (by decide) ?_
  exact ⟨rfl, rfl⟩
theorem ct_aid (l : Launch) (Z : State) (a0 : Array Value) (hw : HW a0 Z) {cS : Int32} {fm : Value} {ub : Addr} (am : Amb Z a0 cS fm ub) {g : Addr} {s : Addr} {h0 : Heap} (p0 : Fld Z h0 g "com/example/holdfast/holdfast/sasl/Gs2Header" "authorizationId" "Ljava/lang/String;" (.ref s)) :
    Py l Z (⟨"com/example/holdfast/holdfast/sasl/Gs2Header", "authorizationId", "()Ljava/lang/String;"⟩ : MethodName) 1 12 0 0 #[(.ref g)] h0 [] (fun rv h' => rv = some (.ref s) ∧ h' = h0) := by
  refine Ct.py (by0 := prog_47_method_15_code) (ml := 1) (rt := (some (.object "java/lang/String"))) (rm := ({ frames := 0, cells := 0, slots := 0, locals := 0 } : Room)) ?_ (hq hw 72 rfl) (hq hw 30 rfl)
  refine Ct.mk (a0 := a0) (Ls := #[.val (.ref g)]) (plainFor_of_name pn_com_example_holdfast_holdfast_sasl_Gs2Header) (fun m => by first | (simp [entryFrame, mkF, argsToLocals, Value.category]; done) | rfl) ?_
  intro κ C
  show Go l _ Z _ _ _ κ [] h0 0 #[.val (.ref g)] [] 0 0
  refine go_aloadN C 1 d11_0 rfl rfl rfl ?_
  refine go_getF C 4 d11_1 rfl (hq hw 55 rfl) Via.refl p0 ?_
  refine go_retA C (v := (.ref s)) d11_4 rfl rfl rfl (by decide) (by decide) ?_
  exact ⟨rfl, rfl⟩
theorem ct_eqs (l : Launch) (Z : State) (a0 : Array Value) (hw : HW a0 Z) {cS : Int32} {fm : Value} {ub : Addr} (am : Amb Z a0 cS fm ub) {a : Addr} {h0 : Heap} :
    Py l Z (⟨"java/lang/String", "equals", "(Ljava/lang/Object;)Z"⟩ : MethodName) 1 14 0 0 #[(.ref a), (.ref a)] h0 [] (fun rv h' => rv = some (.int 1) ∧ h' = h0) := by
  refine Ct.py (by0 := jdk_42_method_66_code) (ml := 3) (rt := (some .boolean)) (rm := ({ frames := 0, cells := 0, slots := 0, locals := 0 } : Room)) ?_ (hq hw 163 rfl) (hq hw 8 rfl)
  refine Ct.mk (a0 := a0) (Ls := #[.val (.ref a), .val (.ref a), .unset]) (plainFor_of_name pn_java_lang_String) (fun m => by first | (simp [entryFrame, mkF, argsToLocals, Value.category]; done) | rfl) ?_
  intro κ C
  show Go l _ Z _ _ _ κ [] h0 0 #[.val (.ref a), .val (.ref a), .unset] [] 0 0
  refine go_aloadN C 1 d34_0 rfl rfl rfl ?_
  refine go_aloadN C 2 d34_1 rfl rfl rfl ?_
  refine go_acmp C (b := true) (pc' := 5) d34_2 rfl rfl (decide_eq_true rfl) (by decide) (by decide) ?_
  refine go_iconst C 6 (1 : Int32) d34_5 rfl (by decide) ?_
  refine go_retN C (t := .boolean) (z := (1 : Int32)) d34_6 rfl (by decide) (by decide) (by decide) (by decide) ?_
  exact ⟨rfl, rfl⟩
theorem law0 (l : Launch) (Z : State) (a0 : Array Value) (hw : HW a0 Z) {cS : Int32} {fm : Value} {ub : Addr} (am : Amb Z a0 cS fm ub) {p0 : Int32} {p1 : Int32} {p2 : Int32} {p3 : Int32} {h0 : Heap} :
    CtW l Z consts_1 x code maxLocals ret room_1 #[(.int p0), (.int p1), (.int p2), (.int p3)] h0 [] (fun v h' => v = some (.int 1)) := by
  have hEL := am.1
  refine CtW.mk (a0 := a0) (Ls := #[.val (.int p0), .val (.int p1), .val (.int p2), .val (.int p3), .unset, .unset, .unset, .unset, .unset, .unset, .unset, .unset]) (plainFor_of_name pn_com_example_holdfast_holdfast_sasl_Gs2HeaderWithoutChannelBindingPinLaw) (fun m => by first | (simp [entryFrame, mkF, argsToLocals, Value.category, maxLocals]; done) | rfl) ?_
  intro κ C
  show GoW l _ Z _ _ _ _ _ κ [] h0 0 #[.val (.int p0), .val (.int p1), .val (.int p2), .val (.int p3), .unset, .unset, .unset, .unset, .unset, .unset, .unset, .unset] [] 0 0
  refine gw_iloadN C 1 at_0 rfl rfl ?_
  refine gw_callS C (argsL := [(.int p1)]) (W := 0) at_1 (hq hw 0 rfl) (hq hw 1 rfl) (hq hw 2 rfl) (hq hw 3 rfl) (by decide) pd__I_C (ct_nz l Z a0 hw am (x := p1)) rfl (by decide) (Nat.le_of_eq rfl) (by decide) rfl (by decide) (by decide) mems0 ?_
  intro fv1 h2 K3 fq4
  obtain ⟨c5, rfl, rfl, fx6, fx7⟩ := fq4
  refine ⟨[], fresh0, ?_⟩
  show GoW l _ Z _ _ _ _ _ κ _ _ 4 _ [(.int c5)] 0 0
  refine gw_istore C 6 (Ls' := #[.val (.int p0), .val (.int p1), .val (.int p2), .val (.int p3), .val (.int c5), .unset, .unset, .unset, .unset, .unset, .unset, .unset]) at_4 rfl rfl ?_
  refine gw_iloadN C 7 at_6 rfl rfl ?_
  refine gw_callS C (argsL := [(.int p2)]) (W := 0) at_7 (hq hw 0 rfl) (hq hw 1 rfl) (hq hw 2 rfl) (hq hw 3 rfl) (by decide) pd__I_C (ct_nz l Z a0 hw am (x := p2)) rfl (by decide) (Nat.le_of_eq rfl) (by decide) rfl (by decide) (by decide) mems0 ?_
  intro fv8 h9 K10 fq11
  obtain ⟨c12, rfl, rfl, fx13, fx14⟩ := fq11
  refine ⟨[], fresh0, ?_⟩
  show GoW l _ Z _ _ _ _ _ κ _ _ 10 _ [(.int c12)] 0 0
  refine gw_istore C 12 (Ls' := #[.val (.int p0), .val (.int p1), .val (.int p2), .val (.int p3), .val (.int c5), .val (.int c12), .unset, .unset, .unset, .unset, .unset, .unset]) at_10 rfl rfl ?_
  refine gw_iloadN C 13 at_12 rfl rfl ?_
  refine gw_callS C (argsL := [(.int p3)]) (W := 0) at_13 (hq hw 0 rfl) (hq hw 1 rfl) (hq hw 2 rfl) (hq hw 3 rfl) (by decide) pd__I_C (ct_nz l Z a0 hw am (x := p3)) rfl (by decide) (Nat.le_of_eq rfl) (by decide) rfl (by decide) (by decide) mems0 ?_
  intro fv15 h16 K17 fq18
  obtain ⟨c19, rfl, rfl, fx20, fx21⟩ := fq18
  refine ⟨[], fresh0, ?_⟩
  show GoW l _ Z _ _ _ _ _ κ _ _ 16 _ [(.int c19)] 0 0
  refine gw_istore C 18 (Ls' := #[.val (.int p0), .val (.int p1), .val (.int p2), .val (.int p3), .val (.int c5), .val (.int c12), .val (.int c19), .unset, .unset, .unset, .unset, .unset]) at_16 rfl rfl ?_
  refine gw_iloadN C 19 at_18 rfl rfl ?_
  refine gw_iconst C 20 (3 : Int32) at_19 rfl (by decide) ?_
  rcases and3 p0 with ec22 | ec22 | ec22 | ec22
  · skip
    refine gw_iand C 21 (0 : Int32) at_20 rfl ec22 ?_
    refine gw_istore C 23 (Ls' := #[.val (.int p0), .val (.int p1), .val (.int p2), .val (.int p3), .val (.int c5), .val (.int c12), .val (.int c19), .val (.int 0), .unset, .unset, .unset, .unset]) at_21 rfl rfl ?_
    refine gw_iloadN C 24 at_23 rfl rfl ?_
    refine gw_iconst C 25 (4 : Int32) at_24 rfl (by decide) ?_
    refine gw_iand C 26 (p0 &&& (4 : Int32)) at_25 rfl rfl ?_
    by_cases hc23 : (p0 &&& (4 : Int32)) = (0 : Int32)
    · skip
      refine gw_ifY C (pc' := 33) at_26 (teq hc23).1 (by decide) (by decide) ?_
      refine gw_iconst C 34 (0 : Int32) at_33 rfl (by decide) ?_
      refine gw_istore C 36 (Ls' := #[.val (.int p0), .val (.int p1), .val (.int p2), .val (.int p3), .val (.int c5), .val (.int c12), .val (.int c19), .val (.int 0), .val (.int 0), .unset, .unset, .unset]) at_34 rfl rfl ?_
      refine gw_iload C 38 at_36 rfl rfl ?_
      refine gw_ifY C (pc' := 47) at_38 (teq ((by decide) : (0 : Int32) = (0 : Int32))).1 (by decide) (by decide) ?_
      refine gw_iload C 49 at_47 rfl rfl ?_
      refine gw_ifN C 52 at_49 rfl (teq ((by decide) : (0 : Int32) = (0 : Int32))).2 ?_
      refine gw_new C 55 1 4 at_52 rfl rfl rfl (hq hw 6 rfl) (hq hw 7 rfl) (hq hw 8 rfl) (by decide) (by decide) ?_
      intro b24 h25 g26 E27 A28 D29
      have fx30 : Fld Z h25 b24 "java/lang/String" "value" "[B" .null := D29 (Or.inr (hq hw 22 rfl)) (ty := (.array .byte)) (by decide)
      have fx31 : Fld Z h25 b24 "java/lang/String" "coder" "B" (.int 0) := D29 (Or.inr (hq hw 23 rfl)) (ty := .byte) (by decide)
      refine gw_dup C 56 at_55 rfl rfl ?_
      refine gw_iconst C 57 (0 : Int32) at_56 rfl (by decide) ?_
      refine gw_newP C 59 2 4 (ty := .char) (cap := 0) at_57 rfl rfl rfl rfl (hq hw 9 rfl) (by decide) (by decide) (by decide) (by decide) (by decide) ?_
      intro b32 h33 k34 g35 E36 V37
      have fx38 : Arv Z h33 b32 k34 .char (0 : Int32) [] (.int 0) := V37
      have fx39 := (Exa.ext E36 A28)
      have fx40 := (Fld.ext E36 fx30)
      have fx41 := (Fld.ext E36 fx31)
      refine gw_callIW C hEL (a := b24) (argsL := [(.ref b32)]) (W := 1) at_59 rfl (hq hw 10 rfl) (hq hw 11 rfl) (hq hw 12 rfl) (by decide) pd___C_V (ct_str0 l Z a0 hw am (a := b24) (b := b32) (kC := k34) fx39 fx40 fx41 fx38) rfl (by decide) (Nat.le_of_eq rfl) (by decide) rfl (by decide) (by decide) (memsS (mi 1 rfl) mems0) ?_
      intro fv42 h43 K44 fq45
      obtain ⟨t46, kB47, rfl, fx48, fx49, fx50, fx51⟩ := fq45
      show GoW l _ Z _ _ _ _ _ κ _ _ 62 _ [(.ref b24)] 6 12
      refine gw_astore C 64 (Ls' := #[.val (.int p0), .val (.int p1), .val (.int p2), .val (.int p3), .val (.int c5), .val (.int c12), .val (.int c19), .val (.int 0), .val (.int 0), .val (.ref b24), .unset, .unset]) at_62 rfl rfl rfl ?_
      refine gw_goto C (pc' := 151) at_64 (by decide) (by decide) ?_
      refine gw_aload C 153 at_151 rfl rfl rfl ?_
      refine gw_callS C (argsL := [(.ref b24)]) (W := 0) at_153 (hq hw 28 rfl) (hq hw 29 rfl) (hq hw 30 rfl) (hq hw 31 rfl) (by decide) pd__Ljava_lang_String__Lcom_example_holdfast_holdfast_sasl_Gs2Header_ (ct_wce l Z a0 hw am (s := b24) (t := t46) (kB := kB47) fx48 fx50 fx51) rfl (by decide) (Nat.le_of_eq rfl) (by decide) rfl (by decide) (by decide) mems0 ?_
      intro fv52 h53 K54 fq55
      obtain ⟨g56, rfl, fx57, fx58, fx59, fx60⟩ := fq55
      refine ⟨[], fresh0, ?_⟩
      show GoW l _ Z _ _ _ _ _ κ _ _ 156 _ [(.ref g56)] 7 15
      refine gw_astore C 158 (Ls' := #[.val (.int p0), .val (.int p1), .val (.int p2), .val (.int p3), .val (.int c5), .val (.int c12), .val (.int c19), .val (.int 0), .val (.int 0), .val (.ref b24), .val (.ref g56), .unset]) at_156 rfl rfl rfl ?_
      refine gw_aload C 160 at_158 rfl rfl rfl ?_
      refine gw_ifnonnullY C (pc' := 165) at_160 (by decide) (by decide) ?_
      refine gw_aload C 167 at_165 rfl rfl rfl ?_
      refine gw_callV C (a := g56) (argsL := []) (W := 0) at_167 (hq hw 57 rfl) (hq hw 58 rfl) (fun _ hZ => notFace_of_selects (args := #[]) (mvT hZ (hq hw 60 rfl))) (hq hw 60 rfl) (hq hw 59 rfl) fx57 (by decide) pd___Lcom_example_holdfast_holdfast_sasl_Gs2Header_ChannelBinding_ (ct_cb l Z a0 hw am (g := g56) fx58) rfl (by decide) (Nat.le_of_eq rfl) (by decide) rfl (by decide) (by decide) mems0 ?_
      intro fv61 h62 K63 fq64
      obtain ⟨rfl, rfl⟩ := fq64
      refine ⟨[], fresh0, ?_⟩
      show GoW l _ Z _ _ _ _ _ κ _ _ 170 _ [(.ref ub)] 7 15
      refine gw_getS C 173 at_170 rfl (hq hw 62 rfl) am.2.2.2.2.2.2.2.2 ?_
      refine gw_acmp C (b := true) (pc' := 178) at_173 rfl rfl (decide_eq_true rfl) (by decide) (by decide) ?_
      refine gw_aload C 180 at_178 rfl rfl rfl ?_
      refine gw_callV C (a := g56) (argsL := []) (W := 0) at_180 (hq hw 63 rfl) (hq hw 64 rfl) (fun _ hZ => notFace_of_selects (args := #[]) (mvT hZ (hq hw 66 rfl))) (hq hw 66 rfl) (hq hw 65 rfl) fx57 (by decide) pd___Ljava_lang_String_ (ct_cbt l Z a0 hw am (g := g56) fx59) rfl (by decide) (Nat.le_of_eq rfl) (by decide) rfl (by decide) (by decide) mems0 ?_
      intro fv65 h66 K67 fq68
      obtain ⟨rfl, rfl⟩ := fq68
      refine ⟨[], fresh0, ?_⟩
      show GoW l _ Z _ _ _ _ _ κ _ _ 183 _ [.null] 7 15
      refine gw_ifnullY C (pc' := 188) at_183 (by decide) (by decide) ?_
      refine gw_aload C 190 at_188 rfl rfl rfl ?_
      refine gw_callV C (a := g56) (argsL := []) (W := 0) at_190 (hq hw 68 rfl) (hq hw 69 rfl) (fun _ hZ => notFace_of_selects (args := #[]) (mvT hZ (hq hw 71 rfl))) (hq hw 71 rfl) (hq hw 70 rfl) fx57 (by decide) pd___Ljava_lang_String_ (ct_aid0 l Z a0 hw am (g := g56) fx60) rfl (by decide) (Nat.le_of_eq rfl) (by decide) rfl (by decide) (by decide) mems0 ?_
      intro fv69 h70 K71 fq72
      obtain ⟨rfl, rfl⟩ := fq72
      refine ⟨[], fresh0, ?_⟩
      show GoW l _ Z _ _ _ _ _ κ _ _ 193 _ [.null] 7 15
      refine gw_astore C 195 (Ls' := #[.val (.int p0), .val (.int p1), .val (.int p2), .val (.int p3), .val (.int c5), .val (.int c12), .val (.int c19), .val (.int 0), .val (.int 0), .val (.ref b24), .val (.ref g56), .val .null]) at_193 rfl rfl rfl ?_
      refine gw_iload C 197 at_195 rfl rfl ?_
      refine gw_ifN C 200 at_197 rfl (teq ((by decide) : (0 : Int32) = (0 : Int32))).2 ?_
      refine gw_iload C 202 at_200 rfl rfl ?_
      refine gw_ifN C 205 at_202 rfl (teq ((by decide) : (0 : Int32) = (0 : Int32))).2 ?_
      refine gw_aload C 207 at_205 rfl rfl rfl ?_
      refine gw_ifnonnullN C 210 at_207 rfl ?_
      refine gw_iconst C 211 (1 : Int32) at_210 rfl (by decide) ?_
      refine gw_goto C (pc' := 215) at_211 (by decide) (by decide) ?_
      refine gw_retN C hEL (t := .boolean) (z := (1 : Int32)) at_215 rfl (by decide) (by decide) (by decide) (by decide) ?_
      exact rfl
    · skip
      refine gw_ifN C 29 at_26 rfl (feq hc23).1 ?_
      refine gw_iconst C 30 (1 : Int32) at_29 rfl (by decide) ?_
      refine gw_goto C (pc' := 34) at_30 (by decide) (by decide) ?_
      refine gw_istore C 36 (Ls' := #[.val (.int p0), .val (.int p1), .val (.int p2), .val (.int p3), .val (.int c5), .val (.int c12), .val (.int c19), .val (.int 0), .val (.int 1), .unset, .unset, .unset]) at_34 rfl rfl ?_
      refine gw_iload C 38 at_36 rfl rfl ?_
      refine gw_ifN C 41 at_38 rfl (feq ((by decide) : ¬ ((1 : Int32) = (0 : Int32)))).1 ?_
      refine gw_aconstNull C 42 at_41 rfl ?_
      refine gw_astore C 44 (Ls' := #[.val (.int p0), .val (.int p1), .val (.int p2), .val (.int p3), .val (.int c5), .val (.int c12), .val (.int c19), .val (.int 0), .val (.int 1), .val .null, .unset, .unset]) at_42 rfl rfl rfl ?_
      refine gw_goto C (pc' := 151) at_44 (by decide) (by decide) ?_
      refine gw_aload C 153 at_151 rfl rfl rfl ?_
      refine gw_callS C (argsL := [.null]) (W := 0) at_153 (hq hw 28 rfl) (hq hw 29 rfl) (hq hw 30 rfl) (hq hw 31 rfl) (by decide) pd__Ljava_lang_String__Lcom_example_holdfast_holdfast_sasl_Gs2Header_ (ct_wcn l Z a0 hw am) rfl (by decide) (Nat.le_of_eq rfl) (by decide) rfl (by decide) (by decide) mems0 ?_
      intro fv73 h74 K75 fq76
      obtain ⟨g77, rfl, fx78, fx79, fx80, fx81⟩ := fq76
      refine ⟨[], fresh0, ?_⟩
      show GoW l _ Z _ _ _ _ _ κ _ _ 156 _ [(.ref g77)] 1 3
      refine gw_astore C 158 (Ls' := #[.val (.int p0), .val (.int p1), .val (.int p2), .val (.int p3), .val (.int c5), .val (.int c12), .val (.int c19), .val (.int 0), .val (.int 1), .val .null, .val (.ref g77), .unset]) at_156 rfl rfl rfl ?_
      refine gw_aload C 160 at_158 rfl rfl rfl ?_
      refine gw_ifnonnullY C (pc' := 165) at_160 (by decide) (by decide) ?_
      refine gw_aload C 167 at_165 rfl rfl rfl ?_
      refine gw_callV C (a := g77) (argsL := []) (W := 0) at_167 (hq hw 57 rfl) (hq hw 58 rfl) (fun _ hZ => notFace_of_selects (args := #[]) (mvT hZ (hq hw 60 rfl))) (hq hw 60 rfl) (hq hw 59 rfl) fx78 (by decide) pd___Lcom_example_holdfast_holdfast_sasl_Gs2Header_ChannelBinding_ (ct_cb l Z a0 hw am (g := g77) fx79) rfl (by decide) (Nat.le_of_eq rfl) (by decide) rfl (by decide) (by decide) mems0 ?_
      intro fv82 h83 K84 fq85
      obtain ⟨rfl, rfl⟩ := fq85
      refine ⟨[], fresh0, ?_⟩
      show GoW l _ Z _ _ _ _ _ κ _ _ 170 _ [(.ref ub)] 1 3
      refine gw_getS C 173 at_170 rfl (hq hw 62 rfl) am.2.2.2.2.2.2.2.2 ?_
      refine gw_acmp C (b := true) (pc' := 178) at_173 rfl rfl (decide_eq_true rfl) (by decide) (by decide) ?_
      refine gw_aload C 180 at_178 rfl rfl rfl ?_
      refine gw_callV C (a := g77) (argsL := []) (W := 0) at_180 (hq hw 63 rfl) (hq hw 64 rfl) (fun _ hZ => notFace_of_selects (args := #[]) (mvT hZ (hq hw 66 rfl))) (hq hw 66 rfl) (hq hw 65 rfl) fx78 (by decide) pd___Ljava_lang_String_ (ct_cbt l Z a0 hw am (g := g77) fx80) rfl (by decide) (Nat.le_of_eq rfl) (by decide) rfl (by decide) (by decide) mems0 ?_
      intro fv86 h87 K88 fq89
      obtain ⟨rfl, rfl⟩ := fq89
      refine ⟨[], fresh0, ?_⟩
      show GoW l _ Z _ _ _ _ _ κ _ _ 183 _ [.null] 1 3
      refine gw_ifnullY C (pc' := 188) at_183 (by decide) (by decide) ?_
      refine gw_aload C 190 at_188 rfl rfl rfl ?_
      refine gw_callV C (a := g77) (argsL := []) (W := 0) at_190 (hq hw 68 rfl) (hq hw 69 rfl) (fun _ hZ => notFace_of_selects (args := #[]) (mvT hZ (hq hw 71 rfl))) (hq hw 71 rfl) (hq hw 70 rfl) fx78 (by decide) pd___Ljava_lang_String_ (ct_aid0 l Z a0 hw am (g := g77) fx81) rfl (by decide) (Nat.le_of_eq rfl) (by decide) rfl (by decide) (by decide) mems0 ?_
      intro fv90 h91 K92 fq93
      obtain ⟨rfl, rfl⟩ := fq93
      refine ⟨[], fresh0, ?_⟩
      show GoW l _ Z _ _ _ _ _ κ _ _ 193 _ [.null] 1 3
      refine gw_astore C 195 (Ls' := #[.val (.int p0), .val (.int p1), .val (.int p2), .val (.int p3), .val (.int c5), .val (.int c12), .val (.int c19), .val (.int 0), .val (.int 1), .val .null, .val (.ref g77), .val .null]) at_193 rfl rfl rfl ?_
      refine gw_iload C 197 at_195 rfl rfl ?_
      refine gw_ifY C (pc' := 205) at_197 (feq ((by decide) : ¬ ((1 : Int32) = (0 : Int32)))).2 (by decide) (by decide) ?_
      refine gw_aload C 207 at_205 rfl rfl rfl ?_
      refine gw_ifnonnullN C 210 at_207 rfl ?_
      refine gw_iconst C 211 (1 : Int32) at_210 rfl (by decide) ?_
      refine gw_goto C (pc' := 215) at_211 (by decide) (by decide) ?_
      refine gw_retN C hEL (t := .boolean) (z := (1 : Int32)) at_215 rfl (by decide) (by decide) (by decide) (by decide) ?_
      exact rfl
  · skip
    refine gw_iand C 21 (1 : Int32) at_20 rfl ec22 ?_
    refine gw_istore C 23 (Ls' := #[.val (.int p0), .val (.int p1), .val (.int p2), .val (.int p3), .val (.int c5), .val (.int c12), .val (.int c19), .val (.int 1), .unset, .unset, .unset, .unset]) at_21 rfl rfl ?_
    refine gw_iloadN C 24 at_23 rfl rfl ?_
    refine gw_iconst C 25 (4 : Int32) at_24 rfl (by decide) ?_
    refine gw_iand C 26 (p0 &&& (4 : Int32)) at_25 rfl rfl ?_
    by_cases hc94 : (p0 &&& (4 : Int32)) = (0 : Int32)
    · skip
      refine gw_ifY C (pc' := 33) at_26 (teq hc94).1 (by decide) (by decide) ?_
      refine gw_iconst C 34 (0 : Int32) at_33 rfl (by decide) ?_
      refine gw_istore C 36 (Ls' := #[.val (.int p0), .val (.int p1), .val (.int p2), .val (.int p3), .val (.int c5), .val (.int c12), .val (.int c19), .val (.int 1), .val (.int 0), .unset, .unset, .unset]) at_34 rfl rfl ?_
      refine gw_iload C 38 at_36 rfl rfl ?_
      refine gw_ifY C (pc' := 47) at_38 (teq ((by decide) : (0 : Int32) = (0 : Int32))).1 (by decide) (by decide) ?_
      refine gw_iload C 49 at_47 rfl rfl ?_
      refine gw_ifY C (pc' := 67) at_49 (feq ((by decide) : ¬ ((1 : Int32) = (0 : Int32)))).2 (by decide) (by decide) ?_
      refine gw_iload C 69 at_67 rfl rfl ?_
      refine gw_iconst C 70 (1 : Int32) at_69 rfl (by decide) ?_
      refine gw_icmpN C 73 at_70 rfl (teq ((by decide) : (1 : Int32) = (1 : Int32))).2 ?_
      refine gw_new C 76 1 4 at_73 rfl rfl rfl (hq hw 6 rfl) (hq hw 7 rfl) (hq hw 8 rfl) (by decide) (by decide) ?_
      intro b95 h96 g97 E98 A99 D100
      have fx101 : Fld Z h96 b95 "java/lang/String" "value" "[B" .null := D100 (Or.inr (hq hw 22 rfl)) (ty := (.array .byte)) (by decide)
      have fx102 : Fld Z h96 b95 "java/lang/String" "coder" "B" (.int 0) := D100 (Or.inr (hq hw 23 rfl)) (ty := .byte) (by decide)
      refine gw_dup C 77 at_76 rfl rfl ?_
      refine gw_iconst C 78 (1 : Int32) at_77 rfl (by decide) ?_
      refine gw_newP C 80 2 5 (ty := .char) (cap := 1) at_78 rfl rfl rfl rfl (hq hw 9 rfl) (by decide) (by decide) (by decide) (by decide) (by decide) ?_
      intro b103 h104 k105 g106 E107 V108
      have fx109 : Arv Z h104 b103 k105 .char (1 : Int32) [(.int 0)] (.int 0) := V108
      refine gw_dup C 81 at_80 rfl rfl ?_
      refine gw_iconst C 82 (0 : Int32) at_81 rfl (by decide) ?_
      refine gw_iload C 84 at_82 rfl rfl ?_
      refine gw_castore C 85 0 (v := c5) (fx6.nar) at_84 rfl fx109 (by decide) rfl (nble rfl) (mi 0 rfl) ?_
      intro h110 W111 fx112
      have fx113 : Arv Z h110 b103 k105 .char (1 : Int32) [(.int c5)] (.int 0) := fx112
      have fx114 := (Exa.wr W111 (Exa.ext E107 A99))
      have fx115 := (Fld.other W111 (Fld.ext E107 fx101) (Or.inl (Nat.ne_of_lt (Nat.lt_of_lt_of_le (A99).lt (Nat.le_of_eq g106.symm)))))
      have fx116 := (Fld.other W111 (Fld.ext E107 fx102) (Or.inl (Nat.ne_of_lt (Nat.lt_of_lt_of_le (A99).lt (Nat.le_of_eq g106.symm)))))
      refine gw_callI C (a := b95) (argsL := [(.ref b103)]) (W := 1) at_85 rfl (hq hw 10 rfl) (hq hw 11 rfl) (hq hw 12 rfl) (by decide) pd___C_V (ct_str1 l Z a0 hw am (a := b95) (b := b103) (kC := k105) (c0 := c5) fx114 fx115 fx116 fx113 fx6) rfl (by decide) (Nat.le_of_eq rfl) (by decide) rfl (by decide) (by decide) (memsS (mi 1 rfl) mems0) ?_
      intro fv117 h118 K119 fq120
      rcases fq120 with ⟨t121, kB122, rfl, fx123, fx124, fx125, fx126, fx127, fx128⟩ | ⟨t129, kB130, rfl, fx131, fx132, fx133, fx134, fx135, fx136⟩
      · skip
        refine ⟨[t121], (freshS ⟨fx127, (fx126).lt⟩ fresh0), ?_⟩
        show GoW l _ Z _ _ _ _ _ κ [t121, b103, b95] _ 88 _ [(.ref b95)] 4 8
        refine gw_astore C 90 (Ls' := #[.val (.int p0), .val (.int p1), .val (.int p2), .val (.int p3), .val (.int c5), .val (.int c12), .val (.int c19), .val (.int 1), .val (.int 0), .val (.ref b95), .unset, .unset]) at_88 rfl rfl rfl ?_
        refine gw_goto C (pc' := 151) at_90 (by decide) (by decide) ?_
        refine gw_aload C 153 at_151 rfl rfl rfl ?_
        refine gw_callS C (argsL := [(.ref b95)]) (W := 0) at_153 (hq hw 28 rfl) (hq hw 29 rfl) (hq hw 30 rfl) (hq hw 31 rfl) (by decide) pd__Ljava_lang_String__Lcom_example_holdfast_holdfast_sasl_Gs2Header_ (ct_wc0_1 l Z a0 hw am (s := b95) (t := t121) (kB := kB122) (c0 := c5) fx123 fx124 fx125 fx126 fx6 fx7 fx128) rfl (by decide) (Nat.le_of_eq rfl) (by decide) rfl (by decide) (by decide) mems0 ?_
        intro fv137 h138 K139 fq140
        obtain ⟨g141, rfl, fx142, fx143, fx144, fx145⟩ := fq140
        refine ⟨[], fresh0, ?_⟩
        show GoW l _ Z _ _ _ _ _ κ _ _ 156 _ [(.ref g141)] 5 11
        refine gw_astore C 158 (Ls' := #[.val (.int p0), .val (.int p1), .val (.int p2), .val (.int p3), .val (.int c5), .val (.int c12), .val (.int c19), .val (.int 1), .val (.int 0), .val (.ref b95), .val (.ref g141), .unset]) at_156 rfl rfl rfl ?_
        refine gw_aload C 160 at_158 rfl rfl rfl ?_
        refine gw_ifnonnullY C (pc' := 165) at_160 (by decide) (by decide) ?_
        refine gw_aload C 167 at_165 rfl rfl rfl ?_
        refine gw_callV C (a := g141) (argsL := []) (W := 0) at_167 (hq hw 57 rfl) (hq hw 58 rfl) (fun _ hZ => notFace_of_selects (args := #[]) (mvT hZ (hq hw 60 rfl))) (hq hw 60 rfl) (hq hw 59 rfl) fx142 (by decide) pd___Lcom_example_holdfast_holdfast_sasl_Gs2Header_ChannelBinding_ (ct_cb l Z a0 hw am (g := g141) fx143) rfl (by decide) (Nat.le_of_eq rfl) (by decide) rfl (by decide) (by decide) mems0 ?_
        intro fv146 h147 K148 fq149
        obtain ⟨rfl, rfl⟩ := fq149
        refine ⟨[], fresh0, ?_⟩
        show GoW l _ Z _ _ _ _ _ κ _ _ 170 _ [(.ref ub)] 5 11
        refine gw_getS C 173 at_170 rfl (hq hw 62 rfl) am.2.2.2.2.2.2.2.2 ?_
        refine gw_acmp C (b := true) (pc' := 178) at_173 rfl rfl (decide_eq_true rfl) (by decide) (by decide) ?_
        refine gw_aload C 180 at_178 rfl rfl rfl ?_
        refine gw_callV C (a := g141) (argsL := []) (W := 0) at_180 (hq hw 63 rfl) (hq hw 64 rfl) (fun _ hZ => notFace_of_selects (args := #[]) (mvT hZ (hq hw 66 rfl))) (hq hw 66 rfl) (hq hw 65 rfl) fx142 (by decide) pd___Ljava_lang_String_ (ct_cbt l Z a0 hw am (g := g141) fx144) rfl (by decide) (Nat.le_of_eq rfl) (by decide) rfl (by decide) (by decide) mems0 ?_
        intro fv150 h151 K152 fq153
        obtain ⟨rfl, rfl⟩ := fq153
        refine ⟨[], fresh0, ?_⟩
        show GoW l _ Z _ _ _ _ _ κ _ _ 183 _ [.null] 5 11
        refine gw_ifnullY C (pc' := 188) at_183 (by decide) (by decide) ?_
        refine gw_aload C 190 at_188 rfl rfl rfl ?_
        refine gw_callV C (a := g141) (argsL := []) (W := 0) at_190 (hq hw 68 rfl) (hq hw 69 rfl) (fun _ hZ => notFace_of_selects (args := #[]) (mvT hZ (hq hw 71 rfl))) (hq hw 71 rfl) (hq hw 70 rfl) fx142 (by decide) pd___Ljava_lang_String_ (ct_aid l Z a0 hw am (g := g141) (s := b95) fx145) rfl (by decide) (Nat.le_of_eq rfl) (by decide) rfl (by decide) (by decide) mems0 ?_
        intro fv154 h155 K156 fq157
        obtain ⟨rfl, rfl⟩ := fq157
        refine ⟨[], fresh0, ?_⟩
        show GoW l _ Z _ _ _ _ _ κ _ _ 193 _ [(.ref b95)] 5 11
        refine gw_astore C 195 (Ls' := #[.val (.int p0), .val (.int p1), .val (.int p2), .val (.int p3), .val (.int c5), .val (.int c12), .val (.int c19), .val (.int 1), .val (.int 0), .val (.ref b95), .val (.ref g141), .val (.ref b95)]) at_193 rfl rfl rfl ?_
        refine gw_iload C 197 at_195 rfl rfl ?_
        refine gw_ifN C 200 at_197 rfl (teq ((by decide) : (0 : Int32) = (0 : Int32))).2 ?_
        refine gw_iload C 202 at_200 rfl rfl ?_
        refine gw_ifY C (pc' := 216) at_202 (feq ((by decide) : ¬ ((1 : Int32) = (0 : Int32)))).2 (by decide) (by decide) ?_
        refine gw_aload C 218 at_216 rfl rfl rfl ?_
        refine gw_ifnullN C 221 at_218 rfl ?_
        refine gw_aload C 223 at_221 rfl rfl rfl ?_
        refine gw_aload C 225 at_223 rfl rfl rfl ?_
        have fx158 := (fx123.keep K139)
        refine gw_callV C (a := b95) (argsL := [(.ref b95)]) (W := 0) at_225 (hq hw 159 rfl) (hq hw 160 rfl) (fun _ hZ => notFace_of_selects (args := #[]) (mvT hZ (hq hw 162 rfl))) (hq hw 162 rfl) (hq hw 161 rfl) fx158 (by decide) pd__Ljava_lang_Object__Z (ct_eqs l Z a0 hw am (a := b95)) rfl (by decide) (Nat.le_of_eq rfl) (by decide) rfl (by decide) (by decide) mems0 ?_
        intro fv159 h160 K161 fq162
        obtain ⟨rfl, rfl⟩ := fq162
        refine ⟨[], fresh0, ?_⟩
        show GoW l _ Z _ _ _ _ _ κ _ _ 228 _ [(.int 1)] 5 11
        refine gw_ifN C 231 at_228 rfl (feq ((by decide) : ¬ ((1 : Int32) = (0 : Int32)))).1 ?_
        refine gw_iconst C 232 (1 : Int32) at_231 rfl (by decide) ?_
        refine gw_goto C (pc' := 236) at_232 (by decide) (by decide) ?_
        refine gw_retN C hEL (t := .boolean) (z := (1 : Int32)) at_236 rfl (by decide) (by decide) (by decide) (by decide) ?_
        exact rfl
      · skip
        refine ⟨[t129], (freshS ⟨fx135, (fx134).lt⟩ fresh0), ?_⟩
        show GoW l _ Z _ _ _ _ _ κ [t129, b103, b95] _ 88 _ [(.ref b95)] 4 8
        refine gw_astore C 90 (Ls' := #[.val (.int p0), .val (.int p1), .val (.int p2), .val (.int p3), .val (.int c5), .val (.int c12), .val (.int c19), .val (.int 1), .val (.int 0), .val (.ref b95), .unset, .unset]) at_88 rfl rfl rfl ?_
        refine gw_goto C (pc' := 151) at_90 (by decide) (by decide) ?_
        refine gw_aload C 153 at_151 rfl rfl rfl ?_
        refine gw_callS C (argsL := [(.ref b95)]) (W := 0) at_153 (hq hw 28 rfl) (hq hw 29 rfl) (hq hw 30 rfl) (hq hw 31 rfl) (by decide) pd__Ljava_lang_String__Lcom_example_holdfast_holdfast_sasl_Gs2Header_ (ct_wc1_1 l Z a0 hw am (s := b95) (t := t129) (kB := kB130) (c0 := c5) fx131 fx132 fx133 fx134 fx6 fx7) rfl (by decide) (Nat.le_of_eq rfl) (by decide) rfl (by decide) (by decide) mems0 ?_
        intro fv163 h164 K165 fq166
        obtain ⟨g167, rfl, fx168, fx169, fx170, fx171⟩ := fq166
        refine ⟨[], fresh0, ?_⟩
        show GoW l _ Z _ _ _ _ _ κ _ _ 156 _ [(.ref g167)] 5 11
        refine gw_astore C 158 (Ls' := #[.val (.int p0), .val (.int p1), .val (.int p2), .val (.int p3), .val (.int c5), .val (.int c12), .val (.int c19), .val (.int 1), .val (.int 0), .val (.ref b95), .val (.ref g167), .unset]) at_156 rfl rfl rfl ?_
        refine gw_aload C 160 at_158 rfl rfl rfl ?_
        refine gw_ifnonnullY C (pc' := 165) at_160 (by decide) (by decide) ?_
        refine gw_aload C 167 at_165 rfl rfl rfl ?_
        refine gw_callV C (a := g167) (argsL := []) (W := 0) at_167 (hq hw 57 rfl) (hq hw 58 rfl) (fun _ hZ => notFace_of_selects (args := #[]) (mvT hZ (hq hw 60 rfl))) (hq hw 60 rfl) (hq hw 59 rfl) fx168 (by decide) pd___Lcom_example_holdfast_holdfast_sasl_Gs2Header_ChannelBinding_ (ct_cb l Z a0 hw am (g := g167) fx169) rfl (by decide) (Nat.le_of_eq rfl) (by decide) rfl (by decide) (by decide) mems0 ?_
        intro fv172 h173 K174 fq175
        obtain ⟨rfl, rfl⟩ := fq175
        refine ⟨[], fresh0, ?_⟩
        show GoW l _ Z _ _ _ _ _ κ _ _ 170 _ [(.ref ub)] 5 11
        refine gw_getS C 173 at_170 rfl (hq hw 62 rfl) am.2.2.2.2.2.2.2.2 ?_
        refine gw_acmp C (b := true) (pc' := 178) at_173 rfl rfl (decide_eq_true rfl) (by decide) (by decide) ?_
        refine gw_aload C 180 at_178 rfl rfl rfl ?_
        refine gw_callV C (a := g167) (argsL := []) (W := 0) at_180 (hq hw 63 rfl) (hq hw 64 rfl) (fun _ hZ => notFace_of_selects (args := #[]) (mvT hZ (hq hw 66 rfl))) (hq hw 66 rfl) (hq hw 65 rfl) fx168 (by decide) pd___Ljava_lang_String_ (ct_cbt l Z a0 hw am (g := g167) fx170) rfl (by decide) (Nat.le_of_eq rfl) (by decide) rfl (by decide) (by decide) mems0 ?_
        intro fv176 h177 K178 fq179
        obtain ⟨rfl, rfl⟩ := fq179
        refine ⟨[], fresh0, ?_⟩
        show GoW l _ Z _ _ _ _ _ κ _ _ 183 _ [.null] 5 11
        refine gw_ifnullY C (pc' := 188) at_183 (by decide) (by decide) ?_
        refine gw_aload C 190 at_188 rfl rfl rfl ?_
        refine gw_callV C (a := g167) (argsL := []) (W := 0) at_190 (hq hw 68 rfl) (hq hw 69 rfl) (fun _ hZ => notFace_of_selects (args := #[]) (mvT hZ (hq hw 71 rfl))) (hq hw 71 rfl) (hq hw 70 rfl) fx168 (by decide) pd___Ljava_lang_String_ (ct_aid l Z a0 hw am (g := g167) (s := b95) fx171) rfl (by decide) (Nat.le_of_eq rfl) (by decide) rfl (by decide) (by decide) mems0 ?_
        intro fv180 h181 K182 fq183
        obtain ⟨rfl, rfl⟩ := fq183
        refine ⟨[], fresh0, ?_⟩
        show GoW l _ Z _ _ _ _ _ κ _ _ 193 _ [(.ref b95)] 5 11
        refine gw_astore C 195 (Ls' := #[.val (.int p0), .val (.int p1), .val (.int p2), .val (.int p3), .val (.int c5), .val (.int c12), .val (.int c19), .val (.int 1), .val (.int 0), .val (.ref b95), .val (.ref g167), .val (.ref b95)]) at_193 rfl rfl rfl ?_
        refine gw_iload C 197 at_195 rfl rfl ?_
        refine gw_ifN C 200 at_197 rfl (teq ((by decide) : (0 : Int32) = (0 : Int32))).2 ?_
        refine gw_iload C 202 at_200 rfl rfl ?_
        refine gw_ifY C (pc' := 216) at_202 (feq ((by decide) : ¬ ((1 : Int32) = (0 : Int32)))).2 (by decide) (by decide) ?_
        refine gw_aload C 218 at_216 rfl rfl rfl ?_
        refine gw_ifnullN C 221 at_218 rfl ?_
        refine gw_aload C 223 at_221 rfl rfl rfl ?_
        refine gw_aload C 225 at_223 rfl rfl rfl ?_
        have fx184 := (fx131.keep K165)
        refine gw_callV C (a := b95) (argsL := [(.ref b95)]) (W := 0) at_225 (hq hw 159 rfl) (hq hw 160 rfl) (fun _ hZ => notFace_of_selects (args := #[]) (mvT hZ (hq hw 162 rfl))) (hq hw 162 rfl) (hq hw 161 rfl) fx184 (by decide) pd__Ljava_lang_Object__Z (ct_eqs l Z a0 hw am (a := b95)) rfl (by decide) (Nat.le_of_eq rfl) (by decide) rfl (by decide) (by decide) mems0 ?_
        intro fv185 h186 K187 fq188
        obtain ⟨rfl, rfl⟩ := fq188
        refine ⟨[], fresh0, ?_⟩
        show GoW l _ Z _ _ _ _ _ κ _ _ 228 _ [(.int 1)] 5 11
        refine gw_ifN C 231 at_228 rfl (feq ((by decide) : ¬ ((1 : Int32) = (0 : Int32)))).1 ?_
        refine gw_iconst C 232 (1 : Int32) at_231 rfl (by decide) ?_
        refine gw_goto C (pc' := 236) at_232 (by decide) (by decide) ?_
        refine gw_retN C hEL (t := .boolean) (z := (1 : Int32)) at_236 rfl (by decide) (by decide) (by decide) (by decide) ?_
        exact rfl
    · skip
      refine gw_ifN C 29 at_26 rfl (feq hc94).1 ?_
      refine gw_iconst C 30 (1 : Int32) at_29 rfl (by decide) ?_
      refine gw_goto C (pc' := 34) at_30 (by decide) (by decide) ?_
      refine gw_istore C 36 (Ls' := #[.val (.int p0), .val (.int p1), .val (.int p2), .val (.int p3), .val (.int c5), .val (.int c12), .val (.int c19), .val (.int 1), .val (.int 1), .unset, .unset, .unset]) at_34 rfl rfl ?_
      refine gw_iload C 38 at_36 rfl rfl ?_
      refine gw_ifN C 41 at_38 rfl (feq ((by decide) : ¬ ((1 : Int32) = (0 : Int32)))).1 ?_
      refine gw_aconstNull C 42 at_41 rfl ?_
      refine gw_astore C 44 (Ls' := #[.val (.int p0), .val (.int p1), .val (.int p2), .val (.int p3), .val (.int c5), .val (.int c12), .val (.int c19), .val (.int 1), .val (.int 1), .val .null, .unset, .unset]) at_42 rfl rfl rfl ?_
      refine gw_goto C (pc' := 151) at_44 (by decide) (by decide) ?_
      refine gw_aload C 153 at_151 rfl rfl rfl ?_
      refine gw_callS C (argsL := [.null]) (W := 0) at_153 (hq hw 28 rfl) (hq hw 29 rfl) (hq hw 30 rfl) (hq hw 31 rfl) (by decide) pd__Ljava_lang_String__Lcom_example_holdfast_holdfast_sasl_Gs2Header_ (ct_wcn l Z a0 hw am) rfl (by decide) (Nat.le_of_eq rfl) (by decide) rfl (by decide) (by decide) mems0 ?_
      intro fv189 h190 K191 fq192
      obtain ⟨g193, rfl, fx194, fx195, fx196, fx197⟩ := fq192
      refine ⟨[], fresh0, ?_⟩
      show GoW l _ Z _ _ _ _ _ κ _ _ 156 _ [(.ref g193)] 1 3
      refine gw_astore C 158 (Ls' := #[.val (.int p0), .val (.int p1), .val (.int p2), .val (.int p3), .val (.int c5), .val (.int c12), .val (.int c19), .val (.int 1), .val (.int 1), .val .null, .val (.ref g193), .unset]) at_156 rfl rfl rfl ?_
      refine gw_aload C 160 at_158 rfl rfl rfl ?_
      refine gw_ifnonnullY C (pc' := 165) at_160 (by decide) (by decide) ?_
      refine gw_aload C 167 at_165 rfl rfl rfl ?_
      refine gw_callV C (a := g193) (argsL := []) (W := 0) at_167 (hq hw 57 rfl) (hq hw 58 rfl) (fun _ hZ => notFace_of_selects (args := #[]) (mvT hZ (hq hw 60 rfl))) (hq hw 60 rfl) (hq hw 59 rfl) fx194 (by decide) pd___Lcom_example_holdfast_holdfast_sasl_Gs2Header_ChannelBinding_ (ct_cb l Z a0 hw am (g := g193) fx195) rfl (by decide) (Nat.le_of_eq rfl) (by decide) rfl (by decide) (by decide) mems0 ?_
      intro fv198 h199 K200 fq201
      obtain ⟨rfl, rfl⟩ := fq201
      refine ⟨[], fresh0, ?_⟩
      show GoW l _ Z _ _ _ _ _ κ _ _ 170 _ [(.ref ub)] 1 3
      refine gw_getS C 173 at_170 rfl (hq hw 62 rfl) am.2.2.2.2.2.2.2.2 ?_
      refine gw_acmp C (b := true) (pc' := 178) at_173 rfl rfl (decide_eq_true rfl) (by decide) (by decide) ?_
      refine gw_aload C 180 at_178 rfl rfl rfl ?_
      refine gw_callV C (a := g193) (argsL := []) (W := 0) at_180 (hq hw 63 rfl) (hq hw 64 rfl) (fun _ hZ => notFace_of_selects (args := #[]) (mvT hZ (hq hw 66 rfl))) (hq hw 66 rfl) (hq hw 65 rfl) fx194 (by decide) pd___Ljava_lang_String_ (ct_cbt l Z a0 hw am (g := g193) fx196) rfl (by decide) (Nat.le_of_eq rfl) (by decide) rfl (by decide) (by decide) mems0 ?_
      intro fv202 h203 K204 fq205
      obtain ⟨rfl, rfl⟩ := fq205
      refine ⟨[], fresh0, ?_⟩
      show GoW l _ Z _ _ _ _ _ κ _ _ 183 _ [.null] 1 3
      refine gw_ifnullY C (pc' := 188) at_183 (by decide) (by decide) ?_
      refine gw_aload C 190 at_188 rfl rfl rfl ?_
      refine gw_callV C (a := g193) (argsL := []) (W := 0) at_190 (hq hw 68 rfl) (hq hw 69 rfl) (fun _ hZ => notFace_of_selects (args := #[]) (mvT hZ (hq hw 71 rfl))) (hq hw 71 rfl) (hq hw 70 rfl) fx194 (by decide) pd___Ljava_lang_String_ (ct_aid0 l Z a0 hw am (g := g193) fx197) rfl (by decide) (Nat.le_of_eq rfl) (by decide) rfl (by decide) (by decide) mems0 ?_
      intro fv206 h207 K208 fq209
      obtain ⟨rfl, rfl⟩ := fq209
      refine ⟨[], fresh0, ?_⟩
      show GoW l _ Z _ _ _ _ _ κ _ _ 193 _ [.null] 1 3
      refine gw_astore C 195 (Ls' := #[.val (.int p0), .val (.int p1), .val (.int p2), .val (.int p3), .val (.int c5), .val (.int c12), .val (.int c19), .val (.int 1), .val (.int 1), .val .null, .val (.ref g193), .val .null]) at_193 rfl rfl rfl ?_
      refine gw_iload C 197 at_195 rfl rfl ?_
      refine gw_ifY C (pc' := 205) at_197 (feq ((by decide) : ¬ ((1 : Int32) = (0 : Int32)))).2 (by decide) (by decide) ?_
      refine gw_aload C 207 at_205 rfl rfl rfl ?_
      refine gw_ifnonnullN C 210 at_207 rfl ?_
      refine gw_iconst C 211 (1 : Int32) at_210 rfl (by decide) ?_
      refine gw_goto C (pc' := 215) at_211 (by decide) (by decide) ?_
      refine gw_retN C hEL (t := .boolean) (z := (1 : Int32)) at_215 rfl (by decide) (by decide) (by decide) (by decide) ?_
      exact rfl
  · skip
    refine gw_iand C 21 (2 : Int32) at_20 rfl ec22 ?_
    refine gw_istore C 23 (Ls' := #[.val (.int p0), .val (.int p1), .val (.int p2), .val (.int p3), .val (.int c5), .val (.int c12), .val (.int c19), .val (.int 2), .unset, .unset, .unset, .unset]) at_21 rfl rfl ?_
    refine gw_iloadN C 24 at_23 rfl rfl ?_
    refine gw_iconst C 25 (4 : Int32) at_24 rfl (by decide) ?_
    refine gw_iand C 26 (p0 &&& (4 : Int32)) at_25 rfl rfl ?_
    by_cases hc210 : (p0 &&& (4 : Int32)) = (0 : Int32)
    · skip
      refine gw_ifY C (pc' := 33) at_26 (teq hc210).1 (by decide) (by decide) ?_
      refine gw_iconst C 34 (0 : Int32) at_33 rfl (by decide) ?_
      refine gw_istore C 36 (Ls' := #[.val (.int p0), .val (.int p1), .val (.int p2), .val (.int p3), .val (.int c5), .val (.int c12), .val (.int c19), .val (.int 2), .val (.int 0), .unset, .unset, .unset]) at_34 rfl rfl ?_
      refine gw_iload C 38 at_36 rfl rfl ?_
      refine gw_ifY C (pc' := 47) at_38 (teq ((by decide) : (0 : Int32) = (0 : Int32))).1 (by decide) (by decide) ?_
      refine gw_iload C 49 at_47 rfl rfl ?_
      refine gw_ifY C (pc' := 67) at_49 (feq ((by decide) : ¬ ((2 : Int32) = (0 : Int32)))).2 (by decide) (by decide) ?_
      refine gw_iload C 69 at_67 rfl rfl ?_
      refine gw_iconst C 70 (1 : Int32) at_69 rfl (by decide) ?_
      refine gw_icmpY C (pc' := 93) at_70 (feq ((by decide) : ¬ ((2 : Int32) = (1 : Int32)))).2 (by decide) (by decide) ?_
      refine gw_iload C 95 at_93 rfl rfl ?_
      refine gw_iconst C 96 (2 : Int32) at_95 rfl (by decide) ?_
      refine gw_icmpN C 99 at_96 rfl (teq ((by decide) : (2 : Int32) = (2 : Int32))).2 ?_
      refine gw_new C 102 1 4 at_99 rfl rfl rfl (hq hw 6 rfl) (hq hw 7 rfl) (hq hw 8 rfl) (by decide) (by decide) ?_
      intro b211 h212 g213 E214 A215 D216
      have fx217 : Fld Z h212 b211 "java/lang/String" "value" "[B" .null := D216 (Or.inr (hq hw 22 rfl)) (ty := (.array .byte)) (by decide)
      have fx218 : Fld Z h212 b211 "java/lang/String" "coder" "B" (.int 0) := D216 (Or.inr (hq hw 23 rfl)) (ty := .byte) (by decide)
      refine gw_dup C 103 at_102 rfl rfl ?_
      refine gw_iconst C 104 (2 : Int32) at_103 rfl (by decide) ?_
      refine gw_newP C 106 2 6 (ty := .char) (cap := 2) at_104 rfl rfl rfl rfl (hq hw 9 rfl) (by decide) (by decide) (by decide) (by decide) (by decide) ?_
      intro b219 h220 k221 g222 E223 V224
      have fx225 : Arv Z h220 b219 k221 .char (2 : Int32) [(.int 0), (.int 0)] (.int 0) := V224
      refine gw_dup C 107 at_106 rfl rfl ?_
      refine gw_iconst C 108 (0 : Int32) at_107 rfl (by decide) ?_
      refine gw_iload C 110 at_108 rfl rfl ?_
      refine gw_castore C 111 0 (v := c5) (fx6.nar) at_110 rfl fx225 (by decide) rfl (nble rfl) (mi 0 rfl) ?_
      intro h226 W227 fx228
      have fx229 : Arv Z h226 b219 k221 .char (2 : Int32) [(.int c5), (.int 0)] (.int 0) := fx228
      refine gw_dup C 112 at_111 rfl rfl ?_
      refine gw_iconst C 113 (1 : Int32) at_112 rfl (by decide) ?_
      refine gw_iload C 115 at_113 rfl rfl ?_
      refine gw_castore C 116 1 (v := c12) (fx13.nar) at_115 rfl fx229 (by decide) rfl (nble rfl) (mi 0 rfl) ?_
      intro h230 W231 fx232
      have fx233 : Arv Z h230 b219 k221 .char (2 : Int32) [(.int c5), (.int c12)] (.int 0) := fx232
      have fx234 := (Exa.wr W231 (Exa.wr W227 (Exa.ext E223 A215)))
      have fx235 := (Fld.other W231 (Fld.other W227 (Fld.ext E223 fx217) (Or.inl (Nat.ne_of_lt (Nat.lt_of_lt_of_le (A215).lt (Nat.le_of_eq g222.symm))))) (Or.inl (Nat.ne_of_lt (Nat.lt_of_lt_of_le (A215).lt (Nat.le_of_eq g222.symm)))))
      have fx236 := (Fld.other W231 (Fld.other W227 (Fld.ext E223 fx218) (Or.inl (Nat.ne_of_lt (Nat.lt_of_lt_of_le (A215).lt (Nat.le_of_eq g222.symm))))) (Or.inl (Nat.ne_of_lt (Nat.lt_of_lt_of_le (A215).lt (Nat.le_of_eq g222.symm)))))
      refine gw_callI C (a := b211) (argsL := [(.ref b219)]) (W := 1) at_116 rfl (hq hw 10 rfl) (hq hw 11 rfl) (hq hw 12 rfl) (by decide) pd___C_V (ct_str2 l Z a0 hw am (a := b211) (b := b219) (kC := k221) (c0 := c5) (c1 := c12) fx234 fx235 fx236 fx233 fx6 fx13) rfl (by decide) (Nat.le_of_eq rfl) (by decide) rfl (by decide) (by decide) (memsS (mi 1 rfl) mems0) ?_
      intro fv237 h238 K239 fq240
      rcases fq240 with ⟨t241, kB242, rfl, fx243, fx244, fx245, fx246, fx247, fx248, fx249⟩ | ⟨t250, kB251, rfl, fx252, fx253, fx254, fx255, fx256, fx257⟩
      · skip
        refine ⟨[t241], (freshS ⟨fx247, (fx246).lt⟩ fresh0), ?_⟩
        show GoW l _ Z _ _ _ _ _ κ [t241, b219, b211] _ 119 _ [(.ref b211)] 4 12
        refine gw_astore C 121 (Ls' := #[.val (.int p0), .val (.int p1), .val (.int p2), .val (.int p3), .val (.int c5), .val (.int c12), .val (.int c19), .val (.int 2), .val (.int 0), .val (.ref b211), .unset, .unset]) at_119 rfl rfl rfl ?_
        refine gw_goto C (pc' := 151) at_121 (by decide) (by decide) ?_
        refine gw_aload C 153 at_151 rfl rfl rfl ?_
        refine gw_callS C (argsL := [(.ref b211)]) (W := 0) at_153 (hq hw 28 rfl) (hq hw 29 rfl) (hq hw 30 rfl) (hq hw 31 rfl) (by decide) pd__Ljava_lang_String__Lcom_example_holdfast_holdfast_sasl_Gs2Header_ (ct_wc0_2 l Z a0 hw am (s := b211) (t := t241) (kB := kB242) (c0 := c5) (c1 := c12) fx243 fx244 fx245 fx246 fx6 fx13 fx7 fx14 fx248 fx249) rfl (by decide) (Nat.le_of_eq rfl) (by decide) rfl (by decide) (by decide) mems0 ?_
        intro fv258 h259 K260 fq261
        obtain ⟨g262, rfl, fx263, fx264, fx265, fx266⟩ := fq261
        refine ⟨[], fresh0, ?_⟩
        show GoW l _ Z _ _ _ _ _ κ _ _ 156 _ [(.ref g262)] 5 15
        refine gw_astore C 158 (Ls' := #[.val (.int p0), .val (.int p1), .val (.int p2), .val (.int p3), .val (.int c5), .val (.int c12), .val (.int c19), .val (.int 2), .val (.int 0), .val (.ref b211), .val (.ref g262), .unset]) at_156 rfl rfl rfl ?_
        refine gw_aload C 160 at_158 rfl rfl rfl ?_
        refine gw_ifnonnullY C (pc' := 165) at_160 (by decide) (by decide) ?_
        refine gw_aload C 167 at_165 rfl rfl rfl ?_
        refine gw_callV C (a := g262) (argsL := []) (W := 0) at_167 (hq hw 57 rfl) (hq hw 58 rfl) (fun _ hZ => notFace_of_selects (args := #[]) (mvT hZ (hq hw 60 rfl))) (hq hw 60 rfl) (hq hw 59 rfl) fx263 (by decide) pd___Lcom_example_holdfast_holdfast_sasl_Gs2Header_ChannelBinding_ (ct_cb l Z a0 hw am (g := g262) fx264) rfl (by decide) (Nat.le_of_eq rfl) (by decide) rfl (by decide) (by decide) mems0 ?_
        intro fv267 h268 K269 fq270
        obtain ⟨rfl, rfl⟩ := fq270
        refine ⟨[], fresh0, ?_⟩
        show GoW l _ Z _ _ _ _ _ κ _ _ 170 _ [(.ref ub)] 5 15
        refine gw_getS C 173 at_170 rfl (hq hw 62 rfl) am.2.2.2.2.2.2.2.2 ?_
        refine gw_acmp C (b := true) (pc' := 178) at_173 rfl rfl (decide_eq_true rfl) (by decide) (by decide) ?_
        refine gw_aload C 180 at_178 rfl rfl rfl ?_
        refine gw_callV C (a := g262) (argsL := []) (W := 0) at_180 (hq hw 63 rfl) (hq hw 64 rfl) (fun _ hZ => notFace_of_selects (args := #[]) (mvT hZ (hq hw 66 rfl))) (hq hw 66 rfl) (hq hw 65 rfl) fx263 (by decide) pd___Ljava_lang_String_ (ct_cbt l Z a0 hw am (g := g262) fx265) rfl (by decide) (Nat.le_of_eq rfl) (by decide) rfl (by decide) (by decide) mems0 ?_
        intro fv271 h272 K273 fq274
        obtain ⟨rfl, rfl⟩ := fq274
        refine ⟨[], fresh0, ?_⟩
        show GoW l _ Z _ _ _ _ _ κ _ _ 183 _ [.null] 5 15
        refine gw_ifnullY C (pc' := 188) at_183 (by decide) (by decide) ?_
        refine gw_aload C 190 at_188 rfl rfl rfl ?_
        refine gw_callV C (a := g262) (argsL := []) (W := 0) at_190 (hq hw 68 rfl) (hq hw 69 rfl) (fun _ hZ => notFace_of_selects (args := #[]) (mvT hZ (hq hw 71 rfl))) (hq hw 71 rfl) (hq hw 70 rfl) fx263 (by decide) pd___Ljava_lang_String_ (ct_aid l Z a0 hw am (g := g262) (s := b211) fx266) rfl (by decide) (Nat.le_of_eq rfl) (by decide) rfl (by decide) (by decide) mems0 ?_
        intro fv275 h276 K277 fq278
        obtain ⟨rfl, rfl⟩ := fq278
        refine ⟨[], fresh0, ?_⟩
        show GoW l _ Z _ _ _ _ _ κ _ _ 193 _ [(.ref b211)] 5 15
        refine gw_astore C 195 (Ls' := #[.val (.int p0), .val (.int p1), .val (.int p2), .val (.int p3), .val (.int c5), .val (.int c12), .val (.int c19), .val (.int 2), .val (.int 0), .val (.ref b211), .val (.ref g262), .val (.ref b211)]) at_193 rfl rfl rfl ?_
        refine gw_iload C 197 at_195 rfl rfl ?_
        refine gw_ifN C 200 at_197 rfl (teq ((by decide) : (0 : Int32) = (0 : Int32))).2 ?_
        refine gw_iload C 202 at_200 rfl rfl ?_
        refine gw_ifY C (pc' := 216) at_202 (feq ((by decide) : ¬ ((2 : Int32) = (0 : Int32)))).2 (by decide) (by decide) ?_
        refine gw_aload C 218 at_216 rfl rfl rfl ?_
        refine gw_ifnullN C 221 at_218 rfl ?_
        refine gw_aload C 223 at_221 rfl rfl rfl ?_
        refine gw_aload C 225 at_223 rfl rfl rfl ?_
        have fx279 := (fx243.keep K260)
        refine gw_callV C (a := b211) (argsL := [(.ref b211)]) (W := 0) at_225 (hq hw 159 rfl) (hq hw 160 rfl) (fun _ hZ => notFace_of_selects (args := #[]) (mvT hZ (hq hw 162 rfl))) (hq hw 162 rfl) (hq hw 161 rfl) fx279 (by decide) pd__Ljava_lang_Object__Z (ct_eqs l Z a0 hw am (a := b211)) rfl (by decide) (Nat.le_of_eq rfl) (by decide) rfl (by decide) (by decide) mems0 ?_
        intro fv280 h281 K282 fq283
        obtain ⟨rfl, rfl⟩ := fq283
        refine ⟨[], fresh0, ?_⟩
        show GoW l _ Z _ _ _ _ _ κ _ _ 228 _ [(.int 1)] 5 15
        refine gw_ifN C 231 at_228 rfl (feq ((by decide) : ¬ ((1 : Int32) = (0 : Int32)))).1 ?_
        refine gw_iconst C 232 (1 : Int32) at_231 rfl (by decide) ?_
        refine gw_goto C (pc' := 236) at_232 (by decide) (by decide) ?_
        refine gw_retN C hEL (t := .boolean) (z := (1 : Int32)) at_236 rfl (by decide) (by decide) (by decide) (by decide) ?_
        exact rfl
      · skip
        refine ⟨[t250], (freshS ⟨fx256, (fx255).lt⟩ fresh0), ?_⟩
        show GoW l _ Z _ _ _ _ _ κ [t250, b219, b211] _ 119 _ [(.ref b211)] 4 12
        refine gw_astore C 121 (Ls' := #[.val (.int p0), .val (.int p1), .val (.int p2), .val (.int p3), .val (.int c5), .val (.int c12), .val (.int c19), .val (.int 2), .val (.int 0), .val (.ref b211), .unset, .unset]) at_119 rfl rfl rfl ?_
        refine gw_goto C (pc' := 151) at_121 (by decide) (by decide) ?_
        refine gw_aload C 153 at_151 rfl rfl rfl ?_
        refine gw_callS C (argsL := [(.ref b211)]) (W := 0) at_153 (hq hw 28 rfl) (hq hw 29 rfl) (hq hw 30 rfl) (hq hw 31 rfl) (by decide) pd__Ljava_lang_String__Lcom_example_holdfast_holdfast_sasl_Gs2Header_ (ct_wc1_2 l Z a0 hw am (s := b211) (t := t250) (kB := kB251) (c0 := c5) (c1 := c12) fx252 fx253 fx254 fx255 fx6 fx13 fx7 fx14) rfl (by decide) (Nat.le_of_eq rfl) (by decide) rfl (by decide) (by decide) mems0 ?_
        intro fv284 h285 K286 fq287
        obtain ⟨g288, rfl, fx289, fx290, fx291, fx292⟩ := fq287
        refine ⟨[], fresh0, ?_⟩
        show GoW l _ Z _ _ _ _ _ κ _ _ 156 _ [(.ref g288)] 5 15
        refine gw_astore C 158 (Ls' := #[.val (.int p0), .val (.int p1), .val (.int p2), .val (.int p3), .val (.int c5), .val (.int c12), .val (.int c19), .val (.int 2), .val (.int 0), .val (.ref b211), .val (.ref g288), .unset]) at_156 rfl rfl rfl ?_
        refine gw_aload C 160 at_158 rfl rfl rfl ?_
        refine gw_ifnonnullY C (pc' := 165) at_160 (by decide) (by decide) ?_
        refine gw_aload C 167 at_165 rfl rfl rfl ?_
        refine gw_callV C (a := g288) (argsL := []) (W := 0) at_167 (hq hw 57 rfl) (hq hw 58 rfl) (fun _ hZ => notFace_of_selects (args := #[]) (mvT hZ (hq hw 60 rfl))) (hq hw 60 rfl) (hq hw 59 rfl) fx289 (by decide) pd___Lcom_example_holdfast_holdfast_sasl_Gs2Header_ChannelBinding_ (ct_cb l Z a0 hw am (g := g288) fx290) rfl (by decide) (Nat.le_of_eq rfl) (by decide) rfl (by decide) (by decide) mems0 ?_
        intro fv293 h294 K295 fq296
        obtain ⟨rfl, rfl⟩ := fq296
        refine ⟨[], fresh0, ?_⟩
        show GoW l _ Z _ _ _ _ _ κ _ _ 170 _ [(.ref ub)] 5 15
        refine gw_getS C 173 at_170 rfl (hq hw 62 rfl) am.2.2.2.2.2.2.2.2 ?_
        refine gw_acmp C (b := true) (pc' := 178) at_173 rfl rfl (decide_eq_true rfl) (by decide) (by decide) ?_
        refine gw_aload C 180 at_178 rfl rfl rfl ?_
        refine gw_callV C (a := g288) (argsL := []) (W := 0) at_180 (hq hw 63 rfl) (hq hw 64 rfl) (fun _ hZ => notFace_of_selects (args := #[]) (mvT hZ (hq hw 66 rfl))) (hq hw 66 rfl) (hq hw 65 rfl) fx289 (by decide) pd___Ljava_lang_String_ (ct_cbt l Z a0 hw am (g := g288) fx291) rfl (by decide) (Nat.le_of_eq rfl) (by decide) rfl (by decide) (by decide) mems0 ?_
        intro fv297 h298 K299 fq300
        obtain ⟨rfl, rfl⟩ := fq300
        refine ⟨[], fresh0, ?_⟩
        show GoW l _ Z _ _ _ _ _ κ _ _ 183 _ [.null] 5 15
        refine gw_ifnullY C (pc' := 188) at_183 (by decide) (by decide) ?_
        refine gw_aload C 190 at_188 rfl rfl rfl ?_
        refine gw_callV C (a := g288) (argsL := []) (W := 0) at_190 (hq hw 68 rfl) (hq hw 69 rfl) (fun _ hZ => notFace_of_selects (args := #[]) (mvT hZ (hq hw 71 rfl))) (hq hw 71 rfl) (hq hw 70 rfl) fx289 (by decide) pd___Ljava_lang_String_ (ct_aid l Z a0 hw am (g := g288) (s := b211) fx292) rfl (by decide) (Nat.le_of_eq rfl) (by decide) rfl (by decide) (by decide) mems0 ?_
        intro fv301 h302 K303 fq304
        obtain ⟨rfl, rfl⟩ := fq304
        refine ⟨[], fresh0, ?_⟩
        show GoW l _ Z _ _ _ _ _ κ _ _ 193 _ [(.ref b211)] 5 15
        refine gw_astore C 195 (Ls' := #[.val (.int p0), .val (.int p1), .val (.int p2), .val (.int p3), .val (.int c5), .val (.int c12), .val (.int c19), .val (.int 2), .val (.int 0), .val (.ref b211), .val (.ref g288), .val (.ref b211)]) at_193 rfl rfl rfl ?_
        refine gw_iload C 197 at_195 rfl rfl ?_
        refine gw_ifN C 200 at_197 rfl (teq ((by decide) : (0 : Int32) = (0 : Int32))).2 ?_
        refine gw_iload C 202 at_200 rfl rfl ?_
        refine gw_ifY C (pc' := 216) at_202 (feq ((by decide) : ¬ ((2 : Int32) = (0 : Int32)))).2 (by decide) (by decide) ?_
        refine gw_aload C 218 at_216 rfl rfl rfl ?_
        refine gw_ifnullN C 221 at_218 rfl ?_
        refine gw_aload C 223 at_221 rfl rfl rfl ?_
        refine gw_aload C 225 at_223 rfl rfl rfl ?_
        have fx305 := (fx252.keep K286)
        refine gw_callV C (a := b211) (argsL := [(.ref b211)]) (W := 0) at_225 (hq hw 159 rfl) (hq hw 160 rfl) (fun _ hZ => notFace_of_selects (args := #[]) (mvT hZ (hq hw 162 rfl))) (hq hw 162 rfl) (hq hw 161 rfl) fx305 (by decide) pd__Ljava_lang_Object__Z (ct_eqs l Z a0 hw am (a := b211)) rfl (by decide) (Nat.le_of_eq rfl) (by decide) rfl (by decide) (by decide) mems0 ?_
        intro fv306 h307 K308 fq309
        obtain ⟨rfl, rfl⟩ := fq309
        refine ⟨[], fresh0, ?_⟩
        show GoW l _ Z _ _ _ _ _ κ _ _ 228 _ [(.int 1)] 5 15
        refine gw_ifN C 231 at_228 rfl (feq ((by decide) : ¬ ((1 : Int32) = (0 : Int32)))).1 ?_
        refine gw_iconst C 232 (1 : Int32) at_231 rfl (by decide) ?_
        refine gw_goto C (pc' := 236) at_232 (by decide) (by decide) ?_
        refine gw_retN C hEL (t := .boolean) (z := (1 : Int32)) at_236 rfl (by decide) (by decide) (by decide) (by decide) ?_
        exact rfl
    · skip
      refine gw_ifN C 29 at_26 rfl (feq hc210).1 ?_
      refine gw_iconst C 30 (1 : Int32) at_29 rfl (by decide) ?_
      refine gw_goto C (pc' := 34) at_30 (by decide) (by decide) ?_
      refine gw_istore C 36 (Ls' := #[.val (.int p0), .val (.int p1), .val (.int p2), .val (.int p3), .val (.int c5), .val (.int c12), .val (.int c19), .val (.int 2), .val (.int 1), .unset, .unset, .unset]) at_34 rfl rfl ?_
      refine gw_iload C 38 at_36 rfl rfl ?_
      refine gw_ifN C 41 at_38 rfl (feq ((by decide) : ¬ ((1 : Int32) = (0 : Int32)))).1 ?_
      refine gw_aconstNull C 42 at_41 rfl ?_
      refine gw_astore C 44 (Ls' := #[.val (.int p0), .val (.int p1), .val (.int p2), .val (.int p3), .val (.int c5), .val (.int c12), .val (.int c19), .val (.int 2), .val (.int 1), .val .null, .unset, .unset]) at_42 rfl rfl rfl ?_
      refine gw_goto C (pc' := 151) at_44 (by decide) (by decide) ?_
      refine gw_aload C 153 at_151 rfl rfl rfl ?_
      refine gw_callS C (argsL := [.null]) (W := 0) at_153 (hq hw 28 rfl) (hq hw 29 rfl) (hq hw 30 rfl) (hq hw 31 rfl) (by decide) pd__Ljava_lang_String__Lcom_example_holdfast_holdfast_sasl_Gs2Header_ (ct_wcn l Z a0 hw am) rfl (by decide) (Nat.le_of_eq rfl) (by decide) rfl (by decide) (by decide) mems0 ?_
      intro fv310 h311 K312 fq313
      obtain ⟨g314, rfl, fx315, fx316, fx317, fx318⟩ := fq313
      refine ⟨[], fresh0, ?_⟩
      show GoW l _ Z _ _ _ _ _ κ _ _ 156 _ [(.ref g314)] 1 3
      refine gw_astore C 158 (Ls' := #[.val (.int p0), .val (.int p1), .val (.int p2), .val (.int p3), .val (.int c5), .val (.int c12), .val (.int c19), .val (.int 2), .val (.int 1), .val .null, .val (.ref g314), .unset]) at_156 rfl rfl rfl ?_
      refine gw_aload C 160 at_158 rfl rfl rfl ?_
      refine gw_ifnonnullY C (pc' := 165) at_160 (by decide) (by decide) ?_
      refine gw_aload C 167 at_165 rfl rfl rfl ?_
      refine gw_callV C (a := g314) (argsL := []) (W := 0) at_167 (hq hw 57 rfl) (hq hw 58 rfl) (fun _ hZ => notFace_of_selects (args := #[]) (mvT hZ (hq hw 60 rfl))) (hq hw 60 rfl) (hq hw 59 rfl) fx315 (by decide) pd___Lcom_example_holdfast_holdfast_sasl_Gs2Header_ChannelBinding_ (ct_cb l Z a0 hw am (g := g314) fx316) rfl (by decide) (Nat.le_of_eq rfl) (by decide) rfl (by decide) (by decide) mems0 ?_
      intro fv319 h320 K321 fq322
      obtain ⟨rfl, rfl⟩ := fq322
      refine ⟨[], fresh0, ?_⟩
      show GoW l _ Z _ _ _ _ _ κ _ _ 170 _ [(.ref ub)] 1 3
      refine gw_getS C 173 at_170 rfl (hq hw 62 rfl) am.2.2.2.2.2.2.2.2 ?_
      refine gw_acmp C (b := true) (pc' := 178) at_173 rfl rfl (decide_eq_true rfl) (by decide) (by decide) ?_
      refine gw_aload C 180 at_178 rfl rfl rfl ?_
      refine gw_callV C (a := g314) (argsL := []) (W := 0) at_180 (hq hw 63 rfl) (hq hw 64 rfl) (fun _ hZ => notFace_of_selects (args := #[]) (mvT hZ (hq hw 66 rfl))) (hq hw 66 rfl) (hq hw 65 rfl) fx315 (by decide) pd___Ljava_lang_String_ (ct_cbt l Z a0 hw am (g := g314) fx317) rfl (by decide) (Nat.le_of_eq rfl) (by decide) rfl (by decide) (by decide) mems0 ?_
      intro fv323 h324 K325 fq326
      obtain ⟨rfl, rfl⟩ := fq326
      refine ⟨[], fresh0, ?_⟩
      show GoW l _ Z _ _ _ _ _ κ _ _ 183 _ [.null] 1 3
      refine gw_ifnullY C (pc' := 188) at_183 (by decide) (by decide) ?_
      refine gw_aload C 190 at_188 rfl rfl rfl ?_
      refine gw_callV C (a := g314) (argsL := []) (W := 0) at_190 (hq hw 68 rfl) (hq hw 69 rfl) (fun _ hZ => notFace_of_selects (args := #[]) (mvT hZ (hq hw 71 rfl))) (hq hw 71 rfl) (hq hw 70 rfl) fx315 (by decide) pd___Ljava_lang_String_ (ct_aid0 l Z a0 hw am (g := g314) fx318) rfl (by decide) (Nat.le_of_eq rfl) (by decide) rfl (by decide) (by decide) mems0 ?_
      intro fv327 h328 K329 fq330
      obtain ⟨rfl, rfl⟩ := fq330
      refine ⟨[], fresh0, ?_⟩
      show GoW l _ Z _ _ _ _ _ κ _ _ 193 _ [.null] 1 3
      refine gw_astore C 195 (Ls' := #[.val (.int p0), .val (.int p1), .val (.int p2), .val (.int p3), .val (.int c5), .val (.int c12), .val (.int c19), .val (.int 2), .val (.int 1), .val .null, .val (.ref g314), .val .null]) at_193 rfl rfl rfl ?_
      refine gw_iload C 197 at_195 rfl rfl ?_
      refine gw_ifY C (pc' := 205) at_197 (feq ((by decide) : ¬ ((1 : Int32) = (0 : Int32)))).2 (by decide) (by decide) ?_
      refine gw_aload C 207 at_205 rfl rfl rfl ?_
      refine gw_ifnonnullN C 210 at_207 rfl ?_
      refine gw_iconst C 211 (1 : Int32) at_210 rfl (by decide) ?_
      refine gw_goto C (pc' := 215) at_211 (by decide) (by decide) ?_
      refine gw_retN C hEL (t := .boolean) (z := (1 : Int32)) at_215 rfl (by decide) (by decide) (by decide) (by decide) ?_
      exact rfl
  · skip
    refine gw_iand C 21 (3 : Int32) at_20 rfl ec22 ?_
    refine gw_istore C 23 (Ls' := #[.val (.int p0), .val (.int p1), .val (.int p2), .val (.int p3), .val (.int c5), .val (.int c12), .val (.int c19), .val (.int 3), .unset, .unset, .unset, .unset]) at_21 rfl rfl ?_
    refine gw_iloadN C 24 at_23 rfl rfl ?_
    refine gw_iconst C 25 (4 : Int32) at_24 rfl (by decide) ?_
    refine gw_iand C 26 (p0 &&& (4 : Int32)) at_25 rfl rfl ?_
    by_cases hc331 : (p0 &&& (4 : Int32)) = (0 : Int32)
    · skip
      refine gw_ifY C (pc' := 33) at_26 (teq hc331).1 (by decide) (by decide) ?_
      refine gw_iconst C 34 (0 : Int32) at_33 rfl (by decide) ?_
      refine gw_istore C 36 (Ls' := #[.val (.int p0), .val (.int p1), .val (.int p2), .val (.int p3), .val (.int c5), .val (.int c12), .val (.int c19), .val (.int 3), .val (.int 0), .unset, .unset, .unset]) at_34 rfl rfl ?_
      refine gw_iload C 38 at_36 rfl rfl ?_
      refine gw_ifY C (pc' := 47) at_38 (teq ((by decide) : (0 : Int32) = (0 : Int32))).1 (by decide) (by decide) ?_
      refine gw_iload C 49 at_47 rfl rfl ?_
      refine gw_ifY C (pc' := 67) at_49 (feq ((by decide) : ¬ ((3 : Int32) = (0 : Int32)))).2 (by decide) (by decide) ?_
      refine gw_iload C 69 at_67 rfl rfl ?_
      refine gw_iconst C 70 (1 : Int32) at_69 rfl (by decide) ?_
      refine gw_icmpY C (pc' := 93) at_70 (feq ((by decide) : ¬ ((3 : Int32) = (1 : Int32)))).2 (by decide) (by decide) ?_
      refine gw_iload C 95 at_93 rfl rfl ?_
      refine gw_iconst C 96 (2 : Int32) at_95 rfl (by decide) ?_
      refine gw_icmpY C (pc' := 124) at_96 (feq ((by decide) : ¬ ((3 : Int32) = (2 : Int32)))).2 (by decide) (by decide) ?_
      refine gw_new C 127 1 4 at_124 rfl rfl rfl (hq hw 6 rfl) (hq hw 7 rfl) (hq hw 8 rfl) (by decide) (by decide) ?_
      intro b332 h333 g334 E335 A336 D337
      have fx338 : Fld Z h333 b332 "java/lang/String" "value" "[B" .null := D337 (Or.inr (hq hw 22 rfl)) (ty := (.array .byte)) (by decide)
      have fx339 : Fld Z h333 b332 "java/lang/String" "coder" "B" (.int 0) := D337 (Or.inr (hq hw 23 rfl)) (ty := .byte) (by decide)
      refine gw_dup C 128 at_127 rfl rfl ?_
      refine gw_iconst C 129 (3 : Int32) at_128 rfl (by decide) ?_
      refine gw_newP C 131 2 7 (ty := .char) (cap := 3) at_129 rfl rfl rfl rfl (hq hw 9 rfl) (by decide) (by decide) (by decide) (by decide) (by decide) ?_
      intro b340 h341 k342 g343 E344 V345
      have fx346 : Arv Z h341 b340 k342 .char (3 : Int32) [(.int 0), (.int 0), (.int 0)] (.int 0) := V345
      refine gw_dup C 132 at_131 rfl rfl ?_
      refine gw_iconst C 133 (0 : Int32) at_132 rfl (by decide) ?_
      refine gw_iload C 135 at_133 rfl rfl ?_
      refine gw_castore C 136 0 (v := c5) (fx6.nar) at_135 rfl fx346 (by decide) rfl (nble rfl) (mi 0 rfl) ?_
      intro h347 W348 fx349
      have fx350 : Arv Z h347 b340 k342 .char (3 : Int32) [(.int c5), (.int 0), (.int 0)] (.int 0) := fx349
      refine gw_dup C 137 at_136 rfl rfl ?_
      refine gw_iconst C 138 (1 : Int32) at_137 rfl (by decide) ?_
      refine gw_iload C 140 at_138 rfl rfl ?_
      refine gw_castore C 141 1 (v := c12) (fx13.nar) at_140 rfl fx350 (by decide) rfl (nble rfl) (mi 0 rfl) ?_
      intro h351 W352 fx353
      have fx354 : Arv Z h351 b340 k342 .char (3 : Int32) [(.int c5), (.int c12), (.int 0)] (.int 0) := fx353
      refine gw_dup C 142 at_141 rfl rfl ?_
      refine gw_iconst C 143 (2 : Int32) at_142 rfl (by decide) ?_
      refine gw_iload C 145 at_143 rfl rfl ?_
      refine gw_castore C 146 2 (v := c19) (fx20.nar) at_145 rfl fx354 (by decide) rfl (nble rfl) (mi 0 rfl) ?_
      intro h355 W356 fx357
      have fx358 : Arv Z h355 b340 k342 .char (3 : Int32) [(.int c5), (.int c12), (.int c19)] (.int 0) := fx357
      have fx359 := (Exa.wr W356 (Exa.wr W352 (Exa.wr W348 (Exa.ext E344 A336))))
      have fx360 := (Fld.other W356 (Fld.other W352 (Fld.other W348 (Fld.ext E344 fx338) (Or.inl (Nat.ne_of_lt (Nat.lt_of_lt_of_le (A336).lt (Nat.le_of_eq g343.symm))))) (Or.inl (Nat.ne_of_lt (Nat.lt_of_lt_of_le (A336).lt (Nat.le_of_eq g343.symm))))) (Or.inl (Nat.ne_of_lt (Nat.lt_of_lt_of_le (A336).lt (Nat.le_of_eq g343.symm)))))
      have fx361 := (Fld.other W356 (Fld.other W352 (Fld.other W348 (Fld.ext E344 fx339) (Or.inl (Nat.ne_of_lt (Nat.lt_of_lt_of_le (A336).lt (Nat.le_of_eq g343.symm))))) (Or.inl (Nat.ne_of_lt (Nat.lt_of_lt_of_le (A336).lt (Nat.le_of_eq g343.symm))))) (Or.inl (Nat.ne_of_lt (Nat.lt_of_lt_of_le (A336).lt (Nat.le_of_eq g343.symm)))))
      refine gw_callI C (a := b332) (argsL := [(.ref b340)]) (W := 1) at_146 rfl (hq hw 10 rfl) (hq hw 11 rfl) (hq hw 12 rfl) (by decide) pd___C_V (ct_str3 l Z a0 hw am (a := b332) (b := b340) (kC := k342) (c0 := c5) (c1 := c12) (c2 := c19) fx359 fx360 fx361 fx358 fx6 fx13 fx20) rfl (by decide) (Nat.le_of_eq rfl) (by decide) rfl (by decide) (by decide) (memsS (mi 1 rfl) mems0) ?_
      intro fv362 h363 K364 fq365
      rcases fq365 with ⟨t366, kB367, rfl, fx368, fx369, fx370, fx371, fx372, fx373, fx374, fx375⟩ | ⟨t376, kB377, rfl, fx378, fx379, fx380, fx381, fx382, fx383⟩
      · skip
        refine ⟨[t366], (freshS ⟨fx372, (fx371).lt⟩ fresh0), ?_⟩
        show GoW l _ Z _ _ _ _ _ κ [t366, b340, b332] _ 149 _ [(.ref b332)] 4 16
        refine gw_astore C 151 (Ls' := #[.val (.int p0), .val (.int p1), .val (.int p2), .val (.int p3), .val (.int c5), .val (.int c12), .val (.int c19), .val (.int 3), .val (.int 0), .val (.ref b332), .unset, .unset]) at_149 rfl rfl rfl ?_
        refine gw_aload C 153 at_151 rfl rfl rfl ?_
        refine gw_callS C (argsL := [(.ref b332)]) (W := 0) at_153 (hq hw 28 rfl) (hq hw 29 rfl) (hq hw 30 rfl) (hq hw 31 rfl) (by decide) pd__Ljava_lang_String__Lcom_example_holdfast_holdfast_sasl_Gs2Header_ (ct_wc0_3 l Z a0 hw am (s := b332) (t := t366) (kB := kB367) (c0 := c5) (c1 := c12) (c2 := c19) fx368 fx369 fx370 fx371 fx6 fx13 fx20 fx7 fx14 fx21 fx373 fx374 fx375) rfl (by decide) (Nat.le_of_eq rfl) (by decide) rfl (by decide) (by decide) mems0 ?_
        intro fv384 h385 K386 fq387
        obtain ⟨g388, rfl, fx389, fx390, fx391, fx392⟩ := fq387
        refine ⟨[], fresh0, ?_⟩
        show GoW l _ Z _ _ _ _ _ κ _ _ 156 _ [(.ref g388)] 5 19
        refine gw_astore C 158 (Ls' := #[.val (.int p0), .val (.int p1), .val (.int p2), .val (.int p3), .val (.int c5), .val (.int c12), .val (.int c19), .val (.int 3), .val (.int 0), .val (.ref b332), .val (.ref g388), .unset]) at_156 rfl rfl rfl ?_
        refine gw_aload C 160 at_158 rfl rfl rfl ?_
        refine gw_ifnonnullY C (pc' := 165) at_160 (by decide) (by decide) ?_
        refine gw_aload C 167 at_165 rfl rfl rfl ?_
        refine gw_callV C (a := g388) (argsL := []) (W := 0) at_167 (hq hw 57 rfl) (hq hw 58 rfl) (fun _ hZ => notFace_of_selects (args := #[]) (mvT hZ (hq hw 60 rfl))) (hq hw 60 rfl) (hq hw 59 rfl) fx389 (by decide) pd___Lcom_example_holdfast_holdfast_sasl_Gs2Header_ChannelBinding_ (ct_cb l Z a0 hw am (g := g388) fx390) rfl (by decide) (Nat.le_of_eq rfl) (by decide) rfl (by decide) (by decide) mems0 ?_
        intro fv393 h394 K395 fq396
        obtain ⟨rfl, rfl⟩ := fq396
        refine ⟨[], fresh0, ?_⟩
        show GoW l _ Z _ _ _ _ _ κ _ _ 170 _ [(.ref ub)] 5 19
        refine gw_getS C 173 at_170 rfl (hq hw 62 rfl) am.2.2.2.2.2.2.2.2 ?_
        refine gw_acmp C (b := true) (pc' := 178) at_173 rfl rfl (decide_eq_true rfl) (by decide) (by decide) ?_
        refine gw_aload C 180 at_178 rfl rfl rfl ?_
        refine gw_callV C (a := g388) (argsL := []) (W := 0) at_180 (hq hw 63 rfl) (hq hw 64 rfl) (fun _ hZ => notFace_of_selects (args := #[]) (mvT hZ (hq hw 66 rfl))) (hq hw 66 rfl) (hq hw 65 rfl) fx389 (by decide) pd___Ljava_lang_String_ (ct_cbt l Z a0 hw am (g := g388) fx391) rfl (by decide) (Nat.le_of_eq rfl) (by decide) rfl (by decide) (by decide) mems0 ?_
        intro fv397 h398 K399 fq400
        obtain ⟨rfl, rfl⟩ := fq400
        refine ⟨[], fresh0, ?_⟩
        show GoW l _ Z _ _ _ _ _ κ _ _ 183 _ [.null] 5 19
        refine gw_ifnullY C (pc' := 188) at_183 (by decide) (by decide) ?_
        refine gw_aload C 190 at_188 rfl rfl rfl ?_
        refine gw_callV C (a := g388) (argsL := []) (W := 0) at_190 (hq hw 68 rfl) (hq hw 69 rfl) (fun _ hZ => notFace_of_selects (args := #[]) (mvT hZ (hq hw 71 rfl))) (hq hw 71 rfl) (hq hw 70 rfl) fx389 (by decide) pd___Ljava_lang_String_ (ct_aid l Z a0 hw am (g := g388) (s := b332) fx392) rfl (by decide) (Nat.le_of_eq rfl) (by decide) rfl (by decide) (by decide) mems0 ?_
        intro fv401 h402 K403 fq404
        obtain ⟨rfl, rfl⟩ := fq404
        refine ⟨[], fresh0, ?_⟩
        show GoW l _ Z _ _ _ _ _ κ _ _ 193 _ [(.ref b332)] 5 19
        refine gw_astore C 195 (Ls' := #[.val (.int p0), .val (.int p1), .val (.int p2), .val (.int p3), .val (.int c5), .val (.int c12), .val (.int c19), .val (.int 3), .val (.int 0), .val (.ref b332), .val (.ref g388), .val (.ref b332)]) at_193 rfl rfl rfl ?_
        refine gw_iload C 197 at_195 rfl rfl ?_
        refine gw_ifN C 200 at_197 rfl (teq ((by decide) : (0 : Int32) = (0 : Int32))).2 ?_
        refine gw_iload C 202 at_200 rfl rfl ?_
        refine gw_ifY C (pc' := 216) at_202 (feq ((by decide) : ¬ ((3 : Int32) = (0 : Int32)))).2 (by decide) (by decide) ?_
        refine gw_aload C 218 at_216 rfl rfl rfl ?_
        refine gw_ifnullN C 221 at_218 rfl ?_
        refine gw_aload C 223 at_221 rfl rfl rfl ?_
        refine gw_aload C 225 at_223 rfl rfl rfl ?_
        have fx405 := (fx368.keep K386)
        refine gw_callV C (a := b332) (argsL := [(.ref b332)]) (W := 0) at_225 (hq hw 159 rfl) (hq hw 160 rfl) (fun _ hZ => notFace_of_selects (args := #[]) (mvT hZ (hq hw 162 rfl))) (hq hw 162 rfl) (hq hw 161 rfl) fx405 (by decide) pd__Ljava_lang_Object__Z (ct_eqs l Z a0 hw am (a := b332)) rfl (by decide) (Nat.le_of_eq rfl) (by decide) rfl (by decide) (by decide) mems0 ?_
        intro fv406 h407 K408 fq409
        obtain ⟨rfl, rfl⟩ := fq409
        refine ⟨[], fresh0, ?_⟩
        show GoW l _ Z _ _ _ _ _ κ _ _ 228 _ [(.int 1)] 5 19
        refine gw_ifN C 231 at_228 rfl (feq ((by decide) : ¬ ((1 : Int32) = (0 : Int32)))).1 ?_
        refine gw_iconst C 232 (1 : Int32) at_231 rfl (by decide) ?_
        refine gw_goto C (pc' := 236) at_232 (by decide) (by decide) ?_
        refine gw_retN C hEL (t := .boolean) (z := (1 : Int32)) at_236 rfl (by decide) (by decide) (by decide) (by decide) ?_
        exact rfl
      · skip
        refine ⟨[t376], (freshS ⟨fx382, (fx381).lt⟩ fresh0), ?_⟩
        show GoW l _ Z _ _ _ _ _ κ [t376, b340, b332] _ 149 _ [(.ref b332)] 4 16
        refine gw_astore C 151 (Ls' := #[.val (.int p0), .val (.int p1), .val (.int p2), .val (.int p3), .val (.int c5), .val (.int c12), .val (.int c19), .val (.int 3), .val (.int 0), .val (.ref b332), .unset, .unset]) at_149 rfl rfl rfl ?_
        refine gw_aload C 153 at_151 rfl rfl rfl ?_
        refine gw_callS C (argsL := [(.ref b332)]) (W := 0) at_153 (hq hw 28 rfl) (hq hw 29 rfl) (hq hw 30 rfl) (hq hw 31 rfl) (by decide) pd__Ljava_lang_String__Lcom_example_holdfast_holdfast_sasl_Gs2Header_ (ct_wc1_3 l Z a0 hw am (s := b332) (t := t376) (kB := kB377) (c0 := c5) (c1 := c12) (c2 := c19) fx378 fx379 fx380 fx381 fx6 fx13 fx20 fx7 fx14 fx21) rfl (by decide) (Nat.le_of_eq rfl) (by decide) rfl (by decide) (by decide) mems0 ?_
        intro fv410 h411 K412 fq413
        obtain ⟨g414, rfl, fx415, fx416, fx417, fx418⟩ := fq413
        refine ⟨[], fresh0, ?_⟩
        show GoW l _ Z _ _ _ _ _ κ _ _ 156 _ [(.ref g414)] 5 19
        refine gw_astore C 158 (Ls' := #[.val (.int p0), .val (.int p1), .val (.int p2), .val (.int p3), .val (.int c5), .val (.int c12), .val (.int c19), .val (.int 3), .val (.int 0), .val (.ref b332), .val (.ref g414), .unset]) at_156 rfl rfl rfl ?_
        refine gw_aload C 160 at_158 rfl rfl rfl ?_
        refine gw_ifnonnullY C (pc' := 165) at_160 (by decide) (by decide) ?_
        refine gw_aload C 167 at_165 rfl rfl rfl ?_
        refine gw_callV C (a := g414) (argsL := []) (W := 0) at_167 (hq hw 57 rfl) (hq hw 58 rfl) (fun _ hZ => notFace_of_selects (args := #[]) (mvT hZ (hq hw 60 rfl))) (hq hw 60 rfl) (hq hw 59 rfl) fx415 (by decide) pd___Lcom_example_holdfast_holdfast_sasl_Gs2Header_ChannelBinding_ (ct_cb l Z a0 hw am (g := g414) fx416) rfl (by decide) (Nat.le_of_eq rfl) (by decide) rfl (by decide) (by decide) mems0 ?_
        intro fv419 h420 K421 fq422
        obtain ⟨rfl, rfl⟩ := fq422
        refine ⟨[], fresh0, ?_⟩
        show GoW l _ Z _ _ _ _ _ κ _ _ 170 _ [(.ref ub)] 5 19
        refine gw_getS C 173 at_170 rfl (hq hw 62 rfl) am.2.2.2.2.2.2.2.2 ?_
        refine gw_acmp C (b := true) (pc' := 178) at_173 rfl rfl (decide_eq_true rfl) (by decide) (by decide) ?_
        refine gw_aload C 180 at_178 rfl rfl rfl ?_
        refine gw_callV C (a := g414) (argsL := []) (W := 0) at_180 (hq hw 63 rfl) (hq hw 64 rfl) (fun _ hZ => notFace_of_selects (args := #[]) (mvT hZ (hq hw 66 rfl))) (hq hw 66 rfl) (hq hw 65 rfl) fx415 (by decide) pd___Ljava_lang_String_ (ct_cbt l Z a0 hw am (g := g414) fx417) rfl (by decide) (Nat.le_of_eq rfl) (by decide) rfl (by decide) (by decide) mems0 ?_
        intro fv423 h424 K425 fq426
        obtain ⟨rfl, rfl⟩ := fq426
        refine ⟨[], fresh0, ?_⟩
        show GoW l _ Z _ _ _ _ _ κ _ _ 183 _ [.null] 5 19
        refine gw_ifnullY C (pc' := 188) at_183 (by decide) (by decide) ?_
        refine gw_aload C 190 at_188 rfl rfl rfl ?_
        refine gw_callV C (a := g414) (argsL := []) (W := 0) at_190 (hq hw 68 rfl) (hq hw 69 rfl) (fun _ hZ => notFace_of_selects (args := #[]) (mvT hZ (hq hw 71 rfl))) (hq hw 71 rfl) (hq hw 70 rfl) fx415 (by decide) pd___Ljava_lang_String_ (ct_aid l Z a0 hw am (g := g414) (s := b332) fx418) rfl (by decide) (Nat.le_of_eq rfl) (by decide) rfl (by decide) (by decide) mems0 ?_
        intro fv427 h428 K429 fq430
        obtain ⟨rfl, rfl⟩ := fq430
        refine ⟨[], fresh0, ?_⟩
        show GoW l _ Z _ _ _ _ _ κ _ _ 193 _ [(.ref b332)] 5 19
        refine gw_astore C 195 (Ls' := #[.val (.int p0), .val (.int p1), .val (.int p2), .val (.int p3), .val (.int c5), .val (.int c12), .val (.int c19), .val (.int 3), .val (.int 0), .val (.ref b332), .val (.ref g414), .val (.ref b332)]) at_193 rfl rfl rfl ?_
        refine gw_iload C 197 at_195 rfl rfl ?_
        refine gw_ifN C 200 at_197 rfl (teq ((by decide) : (0 : Int32) = (0 : Int32))).2 ?_
        refine gw_iload C 202 at_200 rfl rfl ?_
        refine gw_ifY C (pc' := 216) at_202 (feq ((by decide) : ¬ ((3 : Int32) = (0 : Int32)))).2 (by decide) (by decide) ?_
        refine gw_aload C 218 at_216 rfl rfl rfl ?_
        refine gw_ifnullN C 221 at_218 rfl ?_
        refine gw_aload C 223 at_221 rfl rfl rfl ?_
        refine gw_aload C 225 at_223 rfl rfl rfl ?_
        have fx431 := (fx378.keep K412)
        refine gw_callV C (a := b332) (argsL := [(.ref b332)]) (W := 0) at_225 (hq hw 159 rfl) (hq hw 160 rfl) (fun _ hZ => notFace_of_selects (args := #[]) (mvT hZ (hq hw 162 rfl))) (hq hw 162 rfl) (hq hw 161 rfl) fx431 (by decide) pd__Ljava_lang_Object__Z (ct_eqs l Z a0 hw am (a := b332)) rfl (by decide) (Nat.le_of_eq rfl) (by decide) rfl (by decide) (by decide) mems0 ?_
        intro fv432 h433 K434 fq435
        obtain ⟨rfl, rfl⟩ := fq435
        refine ⟨[], fresh0, ?_⟩
        show GoW l _ Z _ _ _ _ _ κ _ _ 228 _ [(.int 1)] 5 19
        refine gw_ifN C 231 at_228 rfl (feq ((by decide) : ¬ ((1 : Int32) = (0 : Int32)))).1 ?_
        refine gw_iconst C 232 (1 : Int32) at_231 rfl (by decide) ?_
        refine gw_goto C (pc' := 236) at_232 (by decide) (by decide) ?_
        refine gw_retN C hEL (t := .boolean) (z := (1 : Int32)) at_236 rfl (by decide) (by decide) (by decide) (by decide) ?_
        exact rfl
    · skip
      refine gw_ifN C 29 at_26 rfl (feq hc331).1 ?_
      refine gw_iconst C 30 (1 : Int32) at_29 rfl (by decide) ?_
      refine gw_goto C (pc' := 34) at_30 (by decide) (by decide) ?_
      refine gw_istore C 36 (Ls' := #[.val (.int p0), .val (.int p1), .val (.int p2), .val (.int p3), .val (.int c5), .val (.int c12), .val (.int c19), .val (.int 3), .val (.int 1), .unset, .unset, .unset]) at_34 rfl rfl ?_
      refine gw_iload C 38 at_36 rfl rfl ?_
      refine gw_ifN C 41 at_38 rfl (feq ((by decide) : ¬ ((1 : Int32) = (0 : Int32)))).1 ?_
      refine gw_aconstNull C 42 at_41 rfl ?_
      refine gw_astore C 44 (Ls' := #[.val (.int p0), .val (.int p1), .val (.int p2), .val (.int p3), .val (.int c5), .val (.int c12), .val (.int c19), .val (.int 3), .val (.int 1), .val .null, .unset, .unset]) at_42 rfl rfl rfl ?_
      refine gw_goto C (pc' := 151) at_44 (by decide) (by decide) ?_
      refine gw_aload C 153 at_151 rfl rfl rfl ?_
      refine gw_callS C (argsL := [.null]) (W := 0) at_153 (hq hw 28 rfl) (hq hw 29 rfl) (hq hw 30 rfl) (hq hw 31 rfl) (by decide) pd__Ljava_lang_String__Lcom_example_holdfast_holdfast_sasl_Gs2Header_ (ct_wcn l Z a0 hw am) rfl (by decide) (Nat.le_of_eq rfl) (by decide) rfl (by decide) (by decide) mems0 ?_
      intro fv436 h437 K438 fq439
      obtain ⟨g440, rfl, fx441, fx442, fx443, fx444⟩ := fq439
      refine ⟨[], fresh0, ?_⟩
      show GoW l _ Z _ _ _ _ _ κ _ _ 156 _ [(.ref g440)] 1 3
      refine gw_astore C 158 (Ls' := #[.val (.int p0), .val (.int p1), .val (.int p2), .val (.int p3), .val (.int c5), .val (.int c12), .val (.int c19), .val (.int 3), .val (.int 1), .val .null, .val (.ref g440), .unset]) at_156 rfl rfl rfl ?_
      refine gw_aload C 160 at_158 rfl rfl rfl ?_
      refine gw_ifnonnullY C (pc' := 165) at_160 (by decide) (by decide) ?_
      refine gw_aload C 167 at_165 rfl rfl rfl ?_
      refine gw_callV C (a := g440) (argsL := []) (W := 0) at_167 (hq hw 57 rfl) (hq hw 58 rfl) (fun _ hZ => notFace_of_selects (args := #[]) (mvT hZ (hq hw 60 rfl))) (hq hw 60 rfl) (hq hw 59 rfl) fx441 (by decide) pd___Lcom_example_holdfast_holdfast_sasl_Gs2Header_ChannelBinding_ (ct_cb l Z a0 hw am (g := g440) fx442) rfl (by decide) (Nat.le_of_eq rfl) (by decide) rfl (by decide) (by decide) mems0 ?_
      intro fv445 h446 K447 fq448
      obtain ⟨rfl, rfl⟩ := fq448
      refine ⟨[], fresh0, ?_⟩
      show GoW l _ Z _ _ _ _ _ κ _ _ 170 _ [(.ref ub)] 1 3
      refine gw_getS C 173 at_170 rfl (hq hw 62 rfl) am.2.2.2.2.2.2.2.2 ?_
      refine gw_acmp C (b := true) (pc' := 178) at_173 rfl rfl (decide_eq_true rfl) (by decide) (by decide) ?_
      refine gw_aload C 180 at_178 rfl rfl rfl ?_
      refine gw_callV C (a := g440) (argsL := []) (W := 0) at_180 (hq hw 63 rfl) (hq hw 64 rfl) (fun _ hZ => notFace_of_selects (args := #[]) (mvT hZ (hq hw 66 rfl))) (hq hw 66 rfl) (hq hw 65 rfl) fx441 (by decide) pd___Ljava_lang_String_ (ct_cbt l Z a0 hw am (g := g440) fx443) rfl (by decide) (Nat.le_of_eq rfl) (by decide) rfl (by decide) (by decide) mems0 ?_
      intro fv449 h450 K451 fq452
      obtain ⟨rfl, rfl⟩ := fq452
      refine ⟨[], fresh0, ?_⟩
      show GoW l _ Z _ _ _ _ _ κ _ _ 183 _ [.null] 1 3
      refine gw_ifnullY C (pc' := 188) at_183 (by decide) (by decide) ?_
      refine gw_aload C 190 at_188 rfl rfl rfl ?_
      refine gw_callV C (a := g440) (argsL := []) (W := 0) at_190 (hq hw 68 rfl) (hq hw 69 rfl) (fun _ hZ => notFace_of_selects (args := #[]) (mvT hZ (hq hw 71 rfl))) (hq hw 71 rfl) (hq hw 70 rfl) fx441 (by decide) pd___Ljava_lang_String_ (ct_aid0 l Z a0 hw am (g := g440) fx444) rfl (by decide) (Nat.le_of_eq rfl) (by decide) rfl (by decide) (by decide) mems0 ?_
      intro fv453 h454 K455 fq456
      obtain ⟨rfl, rfl⟩ := fq456
      refine ⟨[], fresh0, ?_⟩
      show GoW l _ Z _ _ _ _ _ κ _ _ 193 _ [.null] 1 3
      refine gw_astore C 195 (Ls' := #[.val (.int p0), .val (.int p1), .val (.int p2), .val (.int p3), .val (.int c5), .val (.int c12), .val (.int c19), .val (.int 3), .val (.int 1), .val .null, .val (.ref g440), .val .null]) at_193 rfl rfl rfl ?_
      refine gw_iload C 197 at_195 rfl rfl ?_
      refine gw_ifY C (pc' := 205) at_197 (feq ((by decide) : ¬ ((1 : Int32) = (0 : Int32)))).2 (by decide) (by decide) ?_
      refine gw_aload C 207 at_205 rfl rfl rfl ?_
      refine gw_ifnonnullN C 210 at_207 rfl ?_
      refine gw_iconst C 211 (1 : Int32) at_210 rfl (by decide) ?_
      refine gw_goto C (pc' := 215) at_211 (by decide) (by decide) ?_
      refine gw_retN C hEL (t := .boolean) (z := (1 : Int32)) at_215 rfl (by decide) (by decide) (by decide) (by decide) ?_
      exact rfl
theorem comes_1 {Post : Tables → Env → Array Value → State → Outcome → State → Prop} (hpost : ∀ tb e args s v u, (limb_1_1.after args s (.returned v) u = true ∧ limb_1_2.after args s (.returned v) u = true ∧ True) → ReturnedEndW s (.returned v) u (Jvm.fieldLocs frame_1_writes args s ++ Jvm.arrayLocs frame_1_arrays args s ++ Jvm.staticLocs frame_1_statics s) 24 1152 → Post tb e args s (.returned v) u) :
    ArmFor flags0 classFile x code maxLocals ret World_1 tables_1 room_1 Calls_1 rest_1 Pre_1 Post := by
  intro l hfl _ _ p e ha hc hk s m args below hf hA hF happ hP
  obtain ⟨hcalls, hrest, hpre⟩ := hP
  obtain ⟨-, -, -, hnamed, -, -, -, hat⟩ := (Spec.applies_iff hf).mp happ
  obtain ⟨hg, hn⟩ := and_e (Cond.before_iff.mp (show (Jvm.Cond.and given_1 narrow_1).before args s = true from hpre))
  obtain ⟨g0, gr0⟩ := and_e hg
  obtain ⟨g1, gr1⟩ := and_e gr0
  obtain ⟨g2, gr2⟩ := and_e gr1
  obtain ⟨g3, gr3⟩ := and_e gr2
  have g4 := gr3
  obtain ⟨w0, w1, w2, w3, rfl⟩ : ∃ w0 w1 w2 w3 : Value, args = #[w0, w1, w2, w3] := by
    have hs : args.size = 4 := by simpa [Cond.value, given_1] using g0
    obtain ⟨L⟩ := args
    match L, hs with
    | [w0, w1, w2, w3], _ => exact ⟨w0, w1, w2, w3, rfl⟩
  have hw := fun d (hd : d ∈ tables_1) => atoms_spec (ws := Jvm.Cond.code x code maxLocals ret :: tables_1) hat d (List.mem_cons_of_mem _ hd)
  have hfit : Fit s := fun {y c} hc i hi => by
    obtain ⟨ha, rfl⟩ := Array.getElem?_eq_some_iff.mp hc
    have q := List.all_eq_true.mp ((Array.all_eq_true_iff_forall_mem.mp hF) _ (Array.getElem_mem ha)) i (List.mem_range.mpr hi)
    simpa [Array.getElem?_eq_getElem hi] using q
  obtain ⟨hsets, hown0⟩ := atoms_of _ (rest_1_c_eq ▸ (show rest_1_c.before _ s = true from hrest))
  obtain ⟨i0, ei0⟩ := is_v g1
  obtain rfl : w0 = (.int i0) := Option.some.inj ei0
  obtain ⟨i1, ei1⟩ := is_v g2
  obtain rfl : w1 = (.int i1) := Option.some.inj ei1
  obtain ⟨i2, ei2⟩ := is_v g3
  obtain rfl : w2 = (.int i2) := Option.some.inj ei2
  obtain ⟨i3, ei3⟩ := is_v g4
  obtain rfl : w3 = (.int i3) := Option.some.inj ei3
  have nCS := not_v (Cond.before_iff.mp (hsets _ (List.mem_of_getElem? (i := 2) rfl)))
  obtain ⟨cS, ecS⟩ := is_v (Cond.before_iff.mp (hsets _ (List.mem_of_getElem? (i := 1) rfl)))
  have S1 : Sta s s.heap "java/lang/String" "COMPACT_STRINGS" "Z" (.int cS) := Sta.start ecS (Or.inl (hsets _ (List.mem_of_getElem? (i := 0) rfl)))
  have c1 : ¬ (cS = (0 : Int32)) := gotF (Cond.eq_ints ecS (Term.int_eval (0))) nCS
  have S2 : Sta s s.heap "java/lang/StringUTF16" "$assertionsDisabled" "Z" (.int 1) := Sta.start (eqv_i (Term.int_eval (1)) (Cond.before_iff.mp (hsets _ (List.mem_of_getElem? (i := 12) rfl)))) (Or.inl (hsets _ (List.mem_of_getElem? (i := 11) rfl)))
  have S3 : Sta s s.heap "java/lang/StringUTF16" "HI_BYTE_SHIFT" "I" (.int 0) := Sta.start (eqv_i (Term.int_eval (0)) (Cond.before_iff.mp (hsets _ (List.mem_of_getElem? (i := 15) rfl)))) (Or.inl (hsets _ (List.mem_of_getElem? (i := 14) rfl)))
  have S4 : Sta s s.heap "java/lang/StringUTF16" "LO_BYTE_SHIFT" "I" (.int 8) := Sta.start (eqv_i (Term.int_eval (8)) (Cond.before_iff.mp (hsets _ (List.mem_of_getElem? (i := 18) rfl)))) (Or.inl (hsets _ (List.mem_of_getElem? (i := 17) rfl)))
  have hEL : EW s _ consts_1 := (EW.cons (hw _ (List.mem_of_getElem? (i := 20) rfl)) (by decide) EW.nil)
  have hCH : CHv s consts_1 s.vm s.heap := CHv.start hEL (fun p hp => hcalls.1 p hp) (hsets _ (List.mem_of_getElem? (i := 2) rfl)) (hq hw 21 rfl) (hq hw 7 rfl)
  obtain ⟨fm, efm, r5⟩ := isR_v (Cond.before_iff.mp (hsets _ (List.mem_of_getElem? (i := 8) rfl)))
  have S5 : Sta s s.heap "jdk/internal/util/Preconditions" "SIOOBE_FORMATTER" "Ljava/util/function/BiFunction;" fm := Sta.start efm (Or.inl (hsets _ (List.mem_of_getElem? (i := 7) rfl)))
  obtain ⟨ub, eub⟩ := exa_v hn
  have S6 : Sta s s.heap "com/example/holdfast/holdfast/sasl/Gs2Header$ChannelBinding" "UNSUPPORTED" "Lcom/example/holdfast/holdfast/sasl/Gs2Header$ChannelBinding;" (.ref ub) := Sta.start eub (Or.inr ⟨hw _ (List.mem_of_getElem? (i := 40) rfl), hw _ (List.mem_of_getElem? (i := 41) rfl)⟩)
  obtain ⟨n, o, h1, h2, h3, _, L, rfl, ⟨-, rfl, N⟩, -, hq⟩ := law0 l s _ hw (am := ⟨hEL, S1, c1, S2, S3, S4, S5, r5, S6⟩) (p0 := i0) (p1 := i1) (p2 := i2) (p3 := i3) (h0 := s.heap) (ext_refl _) (fun _ q => nomatch q) tables_1 p e ha hc hk s m _ below hf ((Spec.applies_iff_loose hf).mp happ).1 ⟨rfl, State.Warmed39.refl s, rfl, hCH, fun _ q => nomatch q⟩ trivial
  exact ⟨n, _, h1, h2, h3, hpost _ _ _ _ _ _ ⟨Cond.after_iff.mpr rfl, Cond.after_iff.mpr (eq_i res_at (Term.int_eval (1)) rfl), trivial⟩ ⟨hq.1, hq.2.1, hq.2.2.1, (hq.2.2.2.sift fun y hy => Or.inr (N y hy)).mono (by decide) (by decide)⟩⟩
theorem main_1_1 : Claimed_1_1 := comes_1 fun _ _ _ _ _ _ h hF => ⟨h.1, hF⟩
theorem main_1_2 : Claimed_1_2 := comes_1 fun _ _ _ _ _ _ h hF => ⟨h.2.1, hF⟩
end Jvm.Pilot.@@N@@
namespace Jvm.Pilot.@@N@@
open Jvm Jvm.ClassFile Sem Op Lib Jvm.Free Jvm.Stand Jvm.Pilot.@@N@@.Jvm.D
/-! MADE BY PROGRAM (witnessworld.py) out of the Statement's table words and the real class files: 24 classes; the members and pool entries that the words name. The judged class is class 1, her method 1. -/
namespace start1
open Jvm.ClassFile
def u (s : String) : CpInfo := .utf8 (stringToUtf16 s)
/-- a pool by its gaps: so many unusable entries, then the entry; so many at the end -/
def gap : Nat → List CpInfo → List CpInfo
  | 0, r => r
  | n + 1, r => .unusable :: gap n r
def poolList (es : List (Nat × CpInfo)) (last : Nat) : List CpInfo := es.foldr (fun e r => gap e.1 (e.2 :: r)) (gap last [])
def pool (es : List (Nat × CpInfo)) (last : Nat) : Array CpInfo := ⟨poolList es last⟩
def fileOf (pool : Array CpInfo) (this : Nat) (attrs : Array Attribute := #[]) (ms : Array MethodInfo := #[]) (fl : Nat := 33) (sup : Nat := 0) (ifs : Array Nat := #[]) (fds : Array FieldInfo := #[]) : ClassFile where
  minorVersion := 0
  majorVersion := 65
  constantPool := pool
  accessFlags := fl
  thisClass := this
  superClass := sup
  interfaces := ifs
  fields := fds
  methods := ms
  attributes := attrs
def plain (name : String) (sup : Option ClassId) : Class where
  name := name
  kind := .ordinary
  loader := none
  accessFlags := 33
  super := sup
  interfaces := #[]
  cf := none
  fields := #[]
  methods := #[]
  instanceTypes := #[]
  staticTypes := #[]
  resolved := #[]
  callSites := []
  init := .initialized
  statics := none
  mirror := none

def pool0 : Array CpInfo := pool [(5, u "<init>"), (0, u "()V"), (1, .class_ 10), (1, u "java/lang/Object")] 113

def k0c0 : Code := { maxStack := 0, maxLocals := 1, code := object_method_1_code, exceptionTable := #[], attributes := #[] }
def k0m0 : Method := { name := "<init>", desc := "()V", sig := { parameters := [], returnType := none }, accessFlags := 1, code := some k0c0 }
/-- java/lang/Object -/
def k0 : Class := { plain "java/lang/Object" none with
  accessFlags := 33
  interfaces := #[]
  cf := some (fileOf pool0 8 #[] #[{ accessFlags := 1, nameIndex := 5, descriptorIndex := 6, attributes := #[] }] 33 0 #[] #[])
  fields := #[]
  methods := #[k0m0]
  instanceTypes := #[]
  staticTypes := #[]
  resolved := Array.replicate 124 none
  statics := none }

def pool1 : Array CpInfo := pool [(2, .class_ 4), (1, u "java/lang/Object"), (0, u "<init>"), (0, u "()V"), (0, .methodref 8 9), (0, .class_ 10), (0, .nameAndType 11 12), (0, u "com/example/holdfast/holdfast/sasl/Gs2HeaderWithoutChannelBindingPinLaw"), (0, u "nz"), (0, u "(I)C"), (0, .class_ 14), (0, u "java/lang/String"), (0, .methodref 13 16), (0, .nameAndType 5 17), (0, u "([C)V"), (0, .methodref 19 20), (0, .class_ 21), (0, .nameAndType 22 23), (0, u "com/example/holdfast/holdfast/sasl/Gs2Header"), (0, u "withoutChannelBinding"), (0, u "(Ljava/lang/String;)Lcom/example/holdfast/holdfast/sasl/Gs2Header;"), (0, .methodref 19 25), (0, .nameAndType 26 27), (0, u "channelBinding"), (0, u "()Lcom/example/holdfast/holdfast/sasl/Gs2Header$ChannelBinding;"), (0, .fieldref 29 30), (0, .class_ 31), (0, .nameAndType 32 33), (0, u "com/example/holdfast/holdfast/sasl/Gs2Header$ChannelBinding"), (0, u "UNSUPPORTED"), (0, u "Lcom/example/holdfast/holdfast/sasl/Gs2Header$ChannelBinding;"), (0, .methodref 19 35), (0, .nameAndType 36 37), (0, u "channelBindingType"), (0, u "()Ljava/lang/String;"), (0, .methodref 19 39), (0, .nameAndType 40 37), (0, u "authorizationId"), (0, .methodref 13 42), (0, .nameAndType 43 44), (0, u "equals"), (0, u "(Ljava/lang/Object;)Z"), (0, .integer 2147483647), (0, .integer 65535), (2, u "law"), (0, u "(IIII)Z")] 8

def k1m0 : Method := { name := "<init>", desc := "()V", sig := { parameters := [], returnType := none }, accessFlags := 1, code := none }
def k1c1 : Code := { maxStack := 6, maxLocals := 12, code := code, exceptionTable := #[], attributes := #[] }
def k1m1 : Method := { name := "law", desc := "(IIII)Z", sig := { parameters := [.int, .int, .int, .int], returnType := some .boolean }, accessFlags := 9, code := some k1c1 }
def k1c2 : Code := { maxStack := 3, maxLocals := 1, code := method_3_code, exceptionTable := #[], attributes := #[] }
def k1m2 : Method := { name := "nz", desc := "(I)C", sig := { parameters := [.int], returnType := some .char }, accessFlags := 10, code := some k1c2 }
/-- com/example/holdfast/holdfast/sasl/Gs2HeaderWithoutChannelBindingPinLaw -/
def k1 : Class := { plain "com/example/holdfast/holdfast/sasl/Gs2HeaderWithoutChannelBindingPinLaw" (some 0) with
  accessFlags := 49
  interfaces := #[]
  cf := some (fileOf pool1 8 #[] #[{ accessFlags := 1, nameIndex := 5, descriptorIndex := 6, attributes := #[] }, { accessFlags := 9, nameIndex := 49, descriptorIndex := 50, attributes := #[] }, { accessFlags := 10, nameIndex := 11, descriptorIndex := 12, attributes := #[] }] 49 2 #[] #[])
  fields := #[]
  methods := #[k1m0, k1m1, k1m2]
  instanceTypes := #[]
  staticTypes := #[]
  resolved := Array.replicate 59 none
  statics := none }

def pool2 : Array CpInfo := pool [(1, .class_ 2), (0, u "java/io/Serializable"), (0, .class_ 4), (0, u "java/lang/Object")] 2

/-- java/io/Serializable -/
def k2 : Class := { plain "java/io/Serializable" (some 0) with
  accessFlags := 1537
  interfaces := #[]
  cf := some (fileOf pool2 1 #[] #[] 1537 3 #[] #[])
  fields := #[]
  methods := #[]
  instanceTypes := #[]
  staticTypes := #[]
  resolved := Array.replicate 7 none
  statics := none }

def pool3 : Array CpInfo := pool [(1, .class_ 2), (0, u "java/lang/Comparable"), (0, .class_ 4), (0, u "java/lang/Object")] 7

/-- java/lang/Comparable -/
def k3 : Class := { plain "java/lang/Comparable" (some 0) with
  accessFlags := 1537
  interfaces := #[]
  cf := some (fileOf pool3 1 #[] #[] 1537 3 #[] #[])
  fields := #[]
  methods := #[]
  instanceTypes := #[]
  staticTypes := #[]
  resolved := Array.replicate 12 none
  statics := none }

def pool4 : Array CpInfo := pool [(2, .class_ 4), (1, u "java/lang/CharSequence"), (42, .class_ 48), (0, u "java/lang/CharSequence$1CodePointIterator"), (10, .class_ 60), (0, u "java/lang/CharSequence$1CharIterator"), (5, .class_ 67), (0, u "java/lang/Object")] 63

/-- java/lang/CharSequence -/
def k4 : Class := { plain "java/lang/CharSequence" (some 0) with
  accessFlags := 1537
  interfaces := #[]
  cf := some (fileOf pool4 2 #[.nestMembers #[47, 59]] #[] 1537 66 #[] #[])
  fields := #[]
  methods := #[]
  instanceTypes := #[]
  staticTypes := #[]
  resolved := Array.replicate 131 none
  statics := none }

def pool5 : Array CpInfo := pool [(1, .class_ 2), (0, u "java/lang/constant/Constable"), (0, .class_ 4), (0, u "java/lang/Object")] 6

/-- java/lang/constant/Constable -/
def k5 : Class := { plain "java/lang/constant/Constable" (some 0) with
  accessFlags := 1537
  interfaces := #[]
  cf := some (fileOf pool5 1 #[] #[] 1537 3 #[] #[])
  fields := #[]
  methods := #[]
  instanceTypes := #[]
  staticTypes := #[]
  resolved := Array.replicate 11 none
  statics := none }

def pool6 : Array CpInfo := pool [(1, .class_ 2), (0, u "java/lang/constant/ConstantDesc"), (0, .class_ 4), (0, u "java/lang/Object")] 32

/-- java/lang/constant/ConstantDesc -/
def k6 : Class := { plain "java/lang/constant/ConstantDesc" (some 0) with
  accessFlags := 1537
  interfaces := #[]
  cf := some (fileOf pool6 1 #[] #[] 1537 3 #[] #[])
  fields := #[]
  methods := #[]
  instanceTypes := #[]
  staticTypes := #[]
  resolved := Array.replicate 37 none
  statics := none }

def pool7 : Array CpInfo := pool [(1, .methodref 2 3), (0, .class_ 4), (0, .nameAndType 5 6), (0, u "java/lang/Object"), (0, u "<init>"), (0, u "()V"), (0, .string 8), (0, u ""), (0, .fieldref 10 11), (0, .class_ 12), (0, .nameAndType 13 14), (0, u "java/lang/String"), (0, u "value"), (0, u "[B"), (0, .fieldref 10 16), (0, .nameAndType 17 18), (0, u "coder"), (0, u "B"), (2, u "hash"), (0, u "I"), (2, u "hashIsZero"), (0, u "Z"), (0, .methodref 10 28), (0, .nameAndType 5 29), (0, u "([CIILjava/lang/Void;)V"), (8, .fieldref 10 39), (0, .nameAndType 40 26), (0, u "COMPACT_STRINGS"), (1, .class_ 44), (1, u "java/lang/StringUTF16"), (0, u "compress"), (1, .methodref 42 48), (0, .nameAndType 49 50), (0, u "coderFromArrayLen"), (0, u "([BI)B"), (56, .class_ 109), (1, u "java/lang/StringLatin1"), (32, u "()Z"), (34, .methodref 42 178), (0, .nameAndType 45 179), (0, u "([CII)[B"), (154, u "()I"), (0, .methodref 10 336), (0, .nameAndType 17 337), (0, u "()B"), (154, .methodref 10 493), (0, .nameAndType 494 142), (0, u "isLatin1"), (10, .methodref 10 506), (0, .nameAndType 507 334), (0, u "length"), (5, u "checkFromToIndex"), (9, u "checkBoundsBeginEnd"), (0, u "(III)V"), (18, u "equals"), (29, u "(Ljava/lang/Object;)Z"), (1, .class_ 576), (0, u "java/lang/CharSequence"), (22, u "CASE_INSENSITIVE_ORDER"), (0, u "Ljava/util/Comparator;"), (32, .methodref 10 634), (0, .nameAndType 635 636), (0, u "indexOf"), (0, u "(II)I"), (0, .methodref 107 638), (0, .nameAndType 635 639), (0, u "([BIII)I"), (0, .methodref 42 638), (51, u "isEmpty"), (72, u "(I)I"), (244, u "([C)V"), (42, .fieldref 1054 1055), (0, .class_ 1056), (0, .nameAndType 1057 1058), (0, u "jdk/internal/util/Preconditions"), (0, u "SIOOBE_FORMATTER"), (0, u "Ljava/util/function/BiFunction;"), (3, .methodref 1054 1063), (0, .nameAndType 513 1064), (0, u "(IIILjava/util/function/BiFunction;)I"), (36, u "serialPersistentFields"), (0, u "[Ljava/io/ObjectStreamField;"), (0, .class_ 1104), (0, u "java/lang/String$CaseInsensitiveComparator"), (1, .class_ 1107), (0, u "java/io/Serializable"), (0, .class_ 1109), (0, u "java/lang/Comparable"), (0, .class_ 1111), (0, u "java/lang/constant/Constable"), (0, .class_ 1113), (0, u "java/lang/constant/ConstantDesc"), (2, u "serialVersionUID"), (0, u "J"), (3, u "REPL"), (0, u "C"), (2, u "LATIN1"), (1, u "UTF16")] 323

def k7m0 : Method := { name := "<init>", desc := "()V", sig := { parameters := [], returnType := none }, accessFlags := 1, code := none }
def k7c1 : Code := { maxStack := 5, maxLocals := 2, code := jdk_42_method_3_code, exceptionTable := #[], attributes := #[] }
def k7m1 : Method := { name := "<init>", desc := "([C)V", sig := { parameters := [(.array .char)], returnType := none }, accessFlags := 1, code := some k7c1 }
def k7c2 : Code := { maxStack := 2, maxLocals := 1, code := jdk_42_method_54_code, exceptionTable := #[], attributes := #[] }
def k7m2 : Method := { name := "length", desc := "()I", sig := { parameters := [], returnType := some .int }, accessFlags := 1, code := some k7c2 }
def k7c3 : Code := { maxStack := 1, maxLocals := 1, code := jdk_42_method_55_code, exceptionTable := #[], attributes := #[] }
def k7m3 : Method := { name := "isEmpty", desc := "()Z", sig := { parameters := [], returnType := some .boolean }, accessFlags := 1, code := some k7c3 }
def k7c4 : Code := { maxStack := 2, maxLocals := 3, code := jdk_42_method_66_code, exceptionTable := #[], attributes := #[] }
def k7m4 : Method := { name := "equals", desc := "(Ljava/lang/Object;)Z", sig := { parameters := [(.object "java/lang/Object")], returnType := some .boolean }, accessFlags := 1, code := some k7c4 }
def k7c5 : Code := { maxStack := 3, maxLocals := 2, code := jdk_42_method_79_code, exceptionTable := #[], attributes := #[] }
def k7m5 : Method := { name := "indexOf", desc := "(I)I", sig := { parameters := [.int], returnType := some .int }, accessFlags := 1, code := some k7c5 }
def k7c6 : Code := { maxStack := 4, maxLocals := 3, code := jdk_42_method_80_code, exceptionTable := #[], attributes := #[] }
def k7m6 : Method := { name := "indexOf", desc := "(II)I", sig := { parameters := [.int, .int], returnType := some .int }, accessFlags := 1, code := some k7c6 }
def k7c7 : Code := { maxStack := 4, maxLocals := 6, code := jdk_42_method_149_code, exceptionTable := #[], attributes := #[] }
def k7m7 : Method := { name := "<init>", desc := "([CIILjava/lang/Void;)V", sig := { parameters := [(.array .char), .int, .int, (.object "java/lang/Void")], returnType := none }, accessFlags := 2, code := some k7c7 }
def k7c8 : Code := { maxStack := 1, maxLocals := 1, code := jdk_42_method_152_code, exceptionTable := #[], attributes := #[] }
def k7m8 : Method := { name := "coder", desc := "()B", sig := { parameters := [], returnType := some .byte }, accessFlags := 0, code := some k7c8 }
def k7c9 : Code := { maxStack := 1, maxLocals := 1, code := jdk_42_method_154_code, exceptionTable := #[], attributes := #[] }
def k7m9 : Method := { name := "isLatin1", desc := "()Z", sig := { parameters := [], returnType := some .boolean }, accessFlags := 0, code := some k7c9 }
def k7c10 : Code := { maxStack := 4, maxLocals := 3, code := jdk_42_method_158_code, exceptionTable := #[], attributes := #[] }
def k7m10 : Method := { name := "checkBoundsBeginEnd", desc := "(III)V", sig := { parameters := [.int, .int, .int], returnType := none }, accessFlags := 8, code := some k7c10 }
/-- java/lang/String -/
def k7 : Class := { plain "java/lang/String" (some 0) with
  accessFlags := 49
  interfaces := #[2, 3, 4, 5, 6]
  cf := some (fileOf pool7 10 #[.nestMembers #[1103]] #[{ accessFlags := 1, nameIndex := 5, descriptorIndex := 6, attributes := #[] }, { accessFlags := 1, nameIndex := 5, descriptorIndex := 1010, attributes := #[] }, { accessFlags := 1, nameIndex := 507, descriptorIndex := 334, attributes := #[] }, { accessFlags := 1, nameIndex := 692, descriptorIndex := 142, attributes := #[] }, { accessFlags := 1, nameIndex := 543, descriptorIndex := 573, attributes := #[] }, { accessFlags := 1, nameIndex := 635, descriptorIndex := 765, attributes := #[] }, { accessFlags := 1, nameIndex := 635, descriptorIndex := 636, attributes := #[] }, { accessFlags := 2, nameIndex := 5, descriptorIndex := 29, attributes := #[] }, { accessFlags := 0, nameIndex := 17, descriptorIndex := 337, attributes := #[] }, { accessFlags := 0, nameIndex := 494, descriptorIndex := 142, attributes := #[] }, { accessFlags := 8, nameIndex := 523, descriptorIndex := 524, attributes := #[] }] 49 2 #[1106, 1108, 575, 1110, 1112] #[{ accessFlags := 18, nameIndex := 13, descriptorIndex := 14, attributes := #[] }, { accessFlags := 18, nameIndex := 17, descriptorIndex := 18, attributes := #[] }, { accessFlags := 2, nameIndex := 21, descriptorIndex := 22, attributes := #[] }, { accessFlags := 2, nameIndex := 25, descriptorIndex := 26, attributes := #[] }, { accessFlags := 26, nameIndex := 1116, descriptorIndex := 1117, attributes := #[] }, { accessFlags := 24, nameIndex := 40, descriptorIndex := 26, attributes := #[] }, { accessFlags := 26, nameIndex := 1101, descriptorIndex := 1102, attributes := #[] }, { accessFlags := 26, nameIndex := 1121, descriptorIndex := 1122, attributes := #[] }, { accessFlags := 25, nameIndex := 599, descriptorIndex := 600, attributes := #[] }, { accessFlags := 24, nameIndex := 1125, descriptorIndex := 18, attributes := #[] }, { accessFlags := 24, nameIndex := 1127, descriptorIndex := 18, attributes := #[] }])
  fields := #[{ name := "value", type := (.array .byte), accessFlags := 18, slot := 0, constantValue := 0 }, { name := "coder", type := .byte, accessFlags := 18, slot := 1, constantValue := 0 }, { name := "hash", type := .int, accessFlags := 2, slot := 2, constantValue := 0 }, { name := "hashIsZero", type := .boolean, accessFlags := 2, slot := 3, constantValue := 0 }, { name := "serialVersionUID", type := .long, accessFlags := 26, slot := 0, constantValue := 0 }, { name := "COMPACT_STRINGS", type := .boolean, accessFlags := 24, slot := 1, constantValue := 0 }, { name := "serialPersistentFields", type := (.array (.object "java/io/ObjectStreamField")), accessFlags := 26, slot := 2, constantValue := 0 }, { name := "REPL", type := .char, accessFlags := 26, slot := 3, constantValue := 0 }, { name := "CASE_INSENSITIVE_ORDER", type := (.object "java/util/Comparator"), accessFlags := 25, slot := 4, constantValue := 0 }, { name := "LATIN1", type := .byte, accessFlags := 24, slot := 5, constantValue := 0 }, { name := "UTF16", type := .byte, accessFlags := 24, slot := 6, constantValue := 0 }]
  methods := #[k7m0, k7m1, k7m2, k7m3, k7m4, k7m5, k7m6, k7m7, k7m8, k7m9, k7m10]
  instanceTypes := #[(.array .byte), .byte, .int, .boolean]
  staticTypes := #[.long, .boolean, (.array (.object "java/io/ObjectStreamField")), .char, (.object "java/util/Comparator"), .byte, .byte]
  resolved := Array.replicate 1451 none
  statics := some 0 }

def pool8 : Array CpInfo := pool [(1, .methodref 2 3), (0, .class_ 4), (0, .nameAndType 5 6), (0, u "java/lang/Object"), (0, u "<init>"), (0, u "()V"), (0, .class_ 8), (0, u "java/lang/Record")] 13

def k8c0 : Code := { maxStack := 1, maxLocals := 1, code := jdk_30_method_1_code, exceptionTable := #[], attributes := #[] }
def k8m0 : Method := { name := "<init>", desc := "()V", sig := { parameters := [], returnType := none }, accessFlags := 4, code := some k8c0 }
/-- java/lang/Record -/
def k8 : Class := { plain "java/lang/Record" (some 0) with
  accessFlags := 1057
  interfaces := #[]
  cf := some (fileOf pool8 7 #[] #[{ accessFlags := 4, nameIndex := 5, descriptorIndex := 6, attributes := #[] }] 1057 2 #[] #[])
  fields := #[]
  methods := #[k8m0]
  instanceTypes := #[]
  staticTypes := #[]
  resolved := Array.replicate 22 none
  statics := none }

def pool9 : Array CpInfo := pool [(1, .methodref 2 3), (0, .class_ 4), (0, .nameAndType 5 6), (0, u "java/lang/Record"), (0, u "<init>"), (0, u "()V"), (0, .fieldref 8 9), (0, .class_ 10), (0, .nameAndType 11 12), (0, u "com/example/holdfast/holdfast/sasl/Gs2Header"), (0, u "channelBinding"), (0, u "Lcom/example/holdfast/holdfast/sasl/Gs2Header$ChannelBinding;"), (0, .fieldref 8 14), (0, .nameAndType 15 16), (0, u "channelBindingType"), (0, u "Ljava/lang/String;"), (0, .fieldref 8 18), (0, .nameAndType 19 16), (0, u "authorizationId"), (4, .methodref 25 26), (0, .class_ 27), (0, .nameAndType 28 29), (0, u "java/lang/String"), (0, u "indexOf"), (0, u "(I)I"), (22, .methodref 8 53), (0, .nameAndType 5 54), (0, u "(Lcom/example/holdfast/holdfast/sasl/Gs2Header$ChannelBinding;Ljava/lang/String;Ljava/lang/String;)V"), (0, .class_ 56), (0, u "com/example/holdfast/holdfast/sasl/Gs2Header$Message"), (7, .class_ 66), (1, u "com/example/holdfast/holdfast/sasl/Gs2Header$ChannelBinding"), (23, .methodref 25 91), (0, .nameAndType 92 93), (0, u "isEmpty"), (0, u "()Z"), (2, .fieldref 64 97), (0, .nameAndType 98 12), (0, u "UNSUPPORTED"), (28, u "()Ljava/lang/String;"), (97, u "withoutChannelBinding"), (0, u "(Ljava/lang/String;)Lcom/example/holdfast/holdfast/sasl/Gs2Header;"), (0, u "()Lcom/example/holdfast/holdfast/sasl/Gs2Header$ChannelBinding;")] 37

def k9c0 : Code := { maxStack := 2, maxLocals := 4, code := prog_47_method_1_code, exceptionTable := #[], attributes := #[] }
def k9m0 : Method := { name := "<init>", desc := "(Lcom/example/holdfast/holdfast/sasl/Gs2Header$ChannelBinding;Ljava/lang/String;Ljava/lang/String;)V", sig := { parameters := [(.object "com/example/holdfast/holdfast/sasl/Gs2Header$ChannelBinding"), (.object "java/lang/String"), (.object "java/lang/String")], returnType := none }, accessFlags := 0, code := some k9c0 }
def k9c1 : Code := { maxStack := 5, maxLocals := 2, code := prog_47_method_4_code, exceptionTable := #[], attributes := #[] }
def k9m1 : Method := { name := "withoutChannelBinding", desc := "(Ljava/lang/String;)Lcom/example/holdfast/holdfast/sasl/Gs2Header;", sig := { parameters := [(.object "java/lang/String")], returnType := some (.object "com/example/holdfast/holdfast/sasl/Gs2Header") }, accessFlags := 8, code := some k9c1 }
def k9c2 : Code := { maxStack := 1, maxLocals := 1, code := prog_47_method_13_code, exceptionTable := #[], attributes := #[] }
def k9m2 : Method := { name := "channelBinding", desc := "()Lcom/example/holdfast/holdfast/sasl/Gs2Header$ChannelBinding;", sig := { parameters := [], returnType := some (.object "com/example/holdfast/holdfast/sasl/Gs2Header$ChannelBinding") }, accessFlags := 1, code := some k9c2 }
def k9c3 : Code := { maxStack := 1, maxLocals := 1, code := prog_47_method_14_code, exceptionTable := #[], attributes := #[] }
def k9m3 : Method := { name := "channelBindingType", desc := "()Ljava/lang/String;", sig := { parameters := [], returnType := some (.object "java/lang/String") }, accessFlags := 1, code := some k9c3 }
def k9c4 : Code := { maxStack := 1, maxLocals := 1, code := prog_47_method_15_code, exceptionTable := #[], attributes := #[] }
def k9m4 : Method := { name := "authorizationId", desc := "()Ljava/lang/String;", sig := { parameters := [], returnType := some (.object "java/lang/String") }, accessFlags := 1, code := some k9c4 }
/-- com/example/holdfast/holdfast/sasl/Gs2Header -/
def k9 : Class := { plain "com/example/holdfast/holdfast/sasl/Gs2Header" (some 8) with
  accessFlags := 48
  interfaces := #[]
  cf := some (fileOf pool9 8 #[.nestMembers #[55, 64]] #[{ accessFlags := 0, nameIndex := 5, descriptorIndex := 54, attributes := #[] }, { accessFlags := 8, nameIndex := 225, descriptorIndex := 226, attributes := #[] }, { accessFlags := 1, nameIndex := 11, descriptorIndex := 227, attributes := #[] }, { accessFlags := 1, nameIndex := 15, descriptorIndex := 127, attributes := #[] }, { accessFlags := 1, nameIndex := 19, descriptorIndex := 127, attributes := #[] }] 48 2 #[] #[{ accessFlags := 18, nameIndex := 11, descriptorIndex := 12, attributes := #[] }, { accessFlags := 18, nameIndex := 15, descriptorIndex := 16, attributes := #[] }, { accessFlags := 18, nameIndex := 19, descriptorIndex := 16, attributes := #[] }])
  fields := #[{ name := "channelBinding", type := (.object "com/example/holdfast/holdfast/sasl/Gs2Header$ChannelBinding"), accessFlags := 18, slot := 0, constantValue := 0 }, { name := "channelBindingType", type := (.object "java/lang/String"), accessFlags := 18, slot := 1, constantValue := 0 }, { name := "authorizationId", type := (.object "java/lang/String"), accessFlags := 18, slot := 2, constantValue := 0 }]
  methods := #[k9m0, k9m1, k9m2, k9m3, k9m4]
  instanceTypes := #[(.object "com/example/holdfast/holdfast/sasl/Gs2Header$ChannelBinding"), (.object "java/lang/String"), (.object "java/lang/String")]
  staticTypes := #[]
  resolved := Array.replicate 265 none
  statics := none }

def pool10 : Array CpInfo := pool [(2, .class_ 4), (1, u "java/lang/Enum"), (0, u "name"), (0, u "Ljava/lang/String;"), (2, u "ordinal"), (0, u "I"), (1, .class_ 14), (1, u "java/lang/Object"), (4, u "hash"), (86, .class_ 108), (1, u "java/lang/Enum$EnumDesc"), (2, .class_ 112), (0, u "java/lang/constant/Constable"), (0, .class_ 114), (0, u "java/lang/Comparable"), (0, .class_ 116), (0, u "java/io/Serializable")] 87

/-- java/lang/Enum -/
def k10 : Class := { plain "java/lang/Enum" (some 0) with
  accessFlags := 1057
  interfaces := #[5, 3, 2]
  cf := some (fileOf pool10 2 #[.nestMembers #[106]] #[] 1057 12 #[111, 113, 115] #[{ accessFlags := 18, nameIndex := 5, descriptorIndex := 6, attributes := #[] }, { accessFlags := 18, nameIndex := 9, descriptorIndex := 10, attributes := #[] }, { accessFlags := 2, nameIndex := 19, descriptorIndex := 10, attributes := #[] }])
  fields := #[{ name := "name", type := (.object "java/lang/String"), accessFlags := 18, slot := 0, constantValue := 0 }, { name := "ordinal", type := .int, accessFlags := 18, slot := 1, constantValue := 0 }, { name := "hash", type := .int, accessFlags := 2, slot := 2, constantValue := 0 }]
  methods := #[]
  instanceTypes := #[(.object "java/lang/String"), .int, .int]
  staticTypes := #[]
  resolved := Array.replicate 204 none
  statics := none }

def pool11 : Array CpInfo := pool [(1, .class_ 2), (0, u "com/example/holdfast/holdfast/sasl/Gs2Header$ChannelBinding"), (2, u "UNSUPPORTED"), (0, u "Lcom/example/holdfast/holdfast/sasl/Gs2Header$ChannelBinding;"), (2, u "UNSUPPORTED_BY_SERVER"), (2, u "REQUIRED"), (2, u "$VALUES"), (0, u "[Lcom/example/holdfast/holdfast/sasl/Gs2Header$ChannelBinding;"), (6, .class_ 25), (1, u "java/lang/Enum"), (26, .class_ 53), (0, u "com/example/holdfast/holdfast/sasl/Gs2Header")] 2

/-- com/example/holdfast/holdfast/sasl/Gs2Header$ChannelBinding -/
def k11 : Class := { plain "com/example/holdfast/holdfast/sasl/Gs2Header$ChannelBinding" (some 10) with
  accessFlags := 16432
  interfaces := #[]
  cf := some (fileOf pool11 1 #[.nestHost 52] #[] 16432 23 #[] #[{ accessFlags := 16409, nameIndex := 5, descriptorIndex := 6, attributes := #[] }, { accessFlags := 16409, nameIndex := 9, descriptorIndex := 6, attributes := #[] }, { accessFlags := 16409, nameIndex := 12, descriptorIndex := 6, attributes := #[] }, { accessFlags := 4122, nameIndex := 15, descriptorIndex := 16, attributes := #[] }])
  fields := #[{ name := "UNSUPPORTED", type := (.object "com/example/holdfast/holdfast/sasl/Gs2Header$ChannelBinding"), accessFlags := 16409, slot := 0, constantValue := 0 }, { name := "UNSUPPORTED_BY_SERVER", type := (.object "com/example/holdfast/holdfast/sasl/Gs2Header$ChannelBinding"), accessFlags := 16409, slot := 1, constantValue := 0 }, { name := "REQUIRED", type := (.object "com/example/holdfast/holdfast/sasl/Gs2Header$ChannelBinding"), accessFlags := 16409, slot := 2, constantValue := 0 }, { name := "$VALUES", type := (.array (.object "com/example/holdfast/holdfast/sasl/Gs2Header$ChannelBinding")), accessFlags := 4122, slot := 3, constantValue := 0 }]
  methods := #[]
  instanceTypes := #[(.object "java/lang/String"), .int, .int]
  staticTypes := #[(.object "com/example/holdfast/holdfast/sasl/Gs2Header$ChannelBinding"), (.object "com/example/holdfast/holdfast/sasl/Gs2Header$ChannelBinding"), (.object "com/example/holdfast/holdfast/sasl/Gs2Header$ChannelBinding"), (.array (.object "com/example/holdfast/holdfast/sasl/Gs2Header$ChannelBinding"))]
  resolved := Array.replicate 56 none
  statics := some 1 }

def pool12 : Array CpInfo := pool [(3, .class_ 4), (0, u "java/lang/String"), (1, .class_ 8), (1, u "java/lang/Object"), (0, u "<init>"), (0, u "()V"), (0, .methodref 12 13), (0, .class_ 14), (0, .nameAndType 15 16), (0, u "java/lang/StringUTF16"), (0, u "newBytesLength"), (0, u "(I)I"), (3, .integer 1073741823), (23, .fieldref 12 45), (0, .nameAndType 46 47), (0, u "$assertionsDisabled"), (0, u "Z"), (0, .methodref 12 49), (0, .nameAndType 50 51), (0, u "length"), (0, u "([B)I"), (7, .fieldref 12 60), (0, .nameAndType 61 62), (0, u "HI_BYTE_SHIFT"), (0, u "I"), (0, .fieldref 12 64), (0, .nameAndType 65 62), (0, u "LO_BYTE_SHIFT"), (5, .methodref 12 72), (0, .nameAndType 73 74), (0, u "getChar"), (0, u "([BI)C"), (21, .methodref 12 97), (0, .nameAndType 98 99), (0, u "checkBoundsBeginEnd"), (0, u "(II[B)V"), (7, .methodref 12 108), (0, .nameAndType 109 110), (0, u "newBytesFor"), (0, u "(I)[B"), (0, .methodref 12 112), (0, .nameAndType 113 114), (0, u "putChar"), (0, u "([BII)V"), (0, .methodref 12 116), (0, .nameAndType 117 118), (0, u "compress"), (0, u "([CI[BII)I"), (0, .methodref 12 120), (0, .nameAndType 121 122), (0, u "toBytes"), (0, u "([CII)[B"), (60, .methodref 184 185), (0, .class_ 186), (0, .nameAndType 187 188), (0, u "java/lang/Math"), (0, u "min"), (0, u "(II)I"), (35, .methodref 184 225), (0, .nameAndType 226 188), (0, u "max"), (0, .integer 65536), (0, .methodref 12 229), (0, .nameAndType 230 231), (0, u "indexOfChar"), (0, u "([BIII)I"), (9, .methodref 3 242), (0, .nameAndType 98 243), (0, u "(III)V"), (0, .methodref 12 245), (0, .nameAndType 246 231), (0, u "indexOfCharUnsafe"), (14, u "coderFromArrayLen"), (0, u "([BI)B"), (5, u "indexOf"), (100, .class_ 371), (1, u "java/lang/StringUTF16$LinesSpliterator"), (58, u "MAX_LENGTH"), (196, .class_ 628), (0, u "java/lang/StringUTF16$CodePointsSpliterator"), (0, .class_ 630), (0, u "java/lang/StringUTF16$CharsSpliterator")] 4

def k12m0 : Method := { name := "<init>", desc := "()V", sig := { parameters := [], returnType := none }, accessFlags := 0, code := none }
def k12c1 : Code := { maxStack := 1, maxLocals := 1, code := jdk_52_method_2_code, exceptionTable := #[], attributes := #[] }
def k12m1 : Method := { name := "newBytesFor", desc := "(I)[B", sig := { parameters := [.int], returnType := some (.array .byte) }, accessFlags := 9, code := some k12c1 }
def k12c2 : Code := { maxStack := 4, maxLocals := 1, code := jdk_52_method_3_code, exceptionTable := #[], attributes := #[] }
def k12m2 : Method := { name := "newBytesLength", desc := "(I)I", sig := { parameters := [.int], returnType := some .int }, accessFlags := 9, code := some k12c2 }
def k12c3 : Code := { maxStack := 4, maxLocals := 3, code := jdk_52_method_4_code, exceptionTable := #[], attributes := #[] }
def k12m3 : Method := { name := "putChar", desc := "([BII)V", sig := { parameters := [(.array .byte), .int, .int], returnType := none }, accessFlags := 8, code := some k12c3 }
def k12c4 : Code := { maxStack := 3, maxLocals := 2, code := jdk_52_method_5_code, exceptionTable := #[], attributes := #[] }
def k12m4 : Method := { name := "getChar", desc := "([BI)C", sig := { parameters := [(.array .byte), .int], returnType := some .char }, accessFlags := 8, code := some k12c4 }
def k12c5 : Code := { maxStack := 2, maxLocals := 1, code := jdk_52_method_6_code, exceptionTable := #[], attributes := #[] }
def k12m5 : Method := { name := "length", desc := "([B)I", sig := { parameters := [(.array .byte)], returnType := some .int }, accessFlags := 9, code := some k12c5 }
def k12c6 : Code := { maxStack := 4, maxLocals := 5, code := jdk_52_method_14_code, exceptionTable := #[], attributes := #[] }
def k12m6 : Method := { name := "toBytes", desc := "([CII)[B", sig := { parameters := [(.array .char), .int, .int], returnType := some (.array .byte) }, accessFlags := 9, code := some k12c6 }
def k12c7 : Code := { maxStack := 2, maxLocals := 2, code := jdk_52_method_15_code, exceptionTable := #[], attributes := #[] }
def k12m7 : Method := { name := "coderFromArrayLen", desc := "([BI)B", sig := { parameters := [(.array .byte), .int], returnType := some .byte }, accessFlags := 8, code := some k12c7 }
def k12c8 : Code := { maxStack := 5, maxLocals := 6, code := jdk_52_method_16_code, exceptionTable := #[], attributes := #[] }
def k12m8 : Method := { name := "compress", desc := "([CII)[B", sig := { parameters := [(.array .char), .int, .int], returnType := some (.array .byte) }, accessFlags := 9, code := some k12c8 }
def k12c9 : Code := { maxStack := 3, maxLocals := 7, code := jdk_52_method_21_code, exceptionTable := #[], attributes := #[] }
def k12m9 : Method := { name := "compress", desc := "([CI[BII)I", sig := { parameters := [(.array .char), .int, (.array .byte), .int, .int], returnType := some .int }, accessFlags := 9, code := some k12c9 }
def k12c10 : Code := { maxStack := 4, maxLocals := 4, code := jdk_52_method_40_code, exceptionTable := #[], attributes := #[] }
def k12m10 : Method := { name := "indexOf", desc := "([BIII)I", sig := { parameters := [(.array .byte), .int, .int, .int], returnType := some .int }, accessFlags := 9, code := some k12c10 }
def k12c11 : Code := { maxStack := 4, maxLocals := 4, code := jdk_52_method_47_code, exceptionTable := #[], attributes := #[] }
def k12m11 : Method := { name := "indexOfChar", desc := "([BIII)I", sig := { parameters := [(.array .byte), .int, .int, .int], returnType := some .int }, accessFlags := 10, code := some k12c11 }
def k12c12 : Code := { maxStack := 2, maxLocals := 5, code := jdk_52_method_48_code, exceptionTable := #[], attributes := #[] }
def k12m12 : Method := { name := "indexOfCharUnsafe", desc := "([BIII)I", sig := { parameters := [(.array .byte), .int, .int, .int], returnType := some .int }, accessFlags := 10, code := some k12c12 }
def k12c13 : Code := { maxStack := 3, maxLocals := 3, code := jdk_52_method_93_code, exceptionTable := #[], attributes := #[] }
def k12m13 : Method := { name := "checkBoundsBeginEnd", desc := "(II[B)V", sig := { parameters := [.int, .int, (.array .byte)], returnType := none }, accessFlags := 9, code := some k12c13 }
/-- java/lang/StringUTF16 -/
def k12 : Class := { plain "java/lang/StringUTF16" (some 0) with
  accessFlags := 48
  interfaces := #[]
  cf := some (fileOf pool12 12 #[.nestMembers #[627, 629, 369]] #[{ accessFlags := 0, nameIndex := 9, descriptorIndex := 10, attributes := #[] }, { accessFlags := 9, nameIndex := 109, descriptorIndex := 110, attributes := #[] }, { accessFlags := 9, nameIndex := 15, descriptorIndex := 16, attributes := #[] }, { accessFlags := 8, nameIndex := 113, descriptorIndex := 114, attributes := #[] }, { accessFlags := 8, nameIndex := 73, descriptorIndex := 74, attributes := #[] }, { accessFlags := 9, nameIndex := 50, descriptorIndex := 51, attributes := #[] }, { accessFlags := 9, nameIndex := 121, descriptorIndex := 122, attributes := #[] }, { accessFlags := 8, nameIndex := 261, descriptorIndex := 262, attributes := #[] }, { accessFlags := 9, nameIndex := 117, descriptorIndex := 122, attributes := #[] }, { accessFlags := 9, nameIndex := 117, descriptorIndex := 118, attributes := #[] }, { accessFlags := 9, nameIndex := 268, descriptorIndex := 231, attributes := #[] }, { accessFlags := 10, nameIndex := 230, descriptorIndex := 231, attributes := #[] }, { accessFlags := 10, nameIndex := 246, descriptorIndex := 231, attributes := #[] }, { accessFlags := 9, nameIndex := 98, descriptorIndex := 99, attributes := #[] }] 48 6 #[] #[{ accessFlags := 26, nameIndex := 61, descriptorIndex := 62, attributes := #[] }, { accessFlags := 26, nameIndex := 65, descriptorIndex := 62, attributes := #[] }, { accessFlags := 24, nameIndex := 430, descriptorIndex := 62, attributes := #[] }, { accessFlags := 4120, nameIndex := 46, descriptorIndex := 47, attributes := #[] }])
  fields := #[{ name := "HI_BYTE_SHIFT", type := .int, accessFlags := 26, slot := 0, constantValue := 0 }, { name := "LO_BYTE_SHIFT", type := .int, accessFlags := 26, slot := 1, constantValue := 0 }, { name := "MAX_LENGTH", type := .int, accessFlags := 24, slot := 2, constantValue := 0 }, { name := "$assertionsDisabled", type := .boolean, accessFlags := 4120, slot := 3, constantValue := 0 }]
  methods := #[k12m0, k12m1, k12m2, k12m3, k12m4, k12m5, k12m6, k12m7, k12m8, k12m9, k12m10, k12m11, k12m12, k12m13]
  instanceTypes := #[]
  staticTypes := #[.int, .int, .int, .boolean]
  resolved := Array.replicate 635 none
  statics := some 2 }

def pool13 : Array CpInfo := pool [(1, .class_ 2), (0, u "java/lang/Math"), (1, .class_ 6), (1, u "java/lang/Object"), (0, u "<init>"), (0, u "()V"), (89, .class_ 100), (1, u "java/lang/Math$RandomNumberGeneratorHolder"), (71, u "negativeZeroFloatBits"), (0, u "J"), (2, u "negativeZeroDoubleBits"), (21, u "max"), (2, u "min"), (43, u "$assertionsDisabled"), (0, u "Z"), (88, u "(II)I"), (2, u "twoToTheDoubleScaleDown"), (0, u "D"), (4, u "twoToTheDoubleScaleUp"), (9, u "E"), (3, u "PI"), (2, u "TAU"), (2, u "DEGREES_TO_RADIANS"), (0, u "RADIANS_TO_DEGREES")] 94

def k13m0 : Method := { name := "<init>", desc := "()V", sig := { parameters := [], returnType := none }, accessFlags := 2, code := none }
def k13c1 : Code := { maxStack := 2, maxLocals := 2, code := jdk_29_method_65_code, exceptionTable := #[], attributes := #[] }
def k13m1 : Method := { name := "max", desc := "(II)I", sig := { parameters := [.int, .int], returnType := some .int }, accessFlags := 9, code := some k13c1 }
def k13c2 : Code := { maxStack := 2, maxLocals := 2, code := jdk_29_method_69_code, exceptionTable := #[], attributes := #[] }
def k13m2 : Method := { name := "min", desc := "(II)I", sig := { parameters := [.int, .int], returnType := some .int }, accessFlags := 9, code := some k13c2 }
/-- java/lang/Math -/
def k13 : Class := { plain "java/lang/Math" (some 0) with
  accessFlags := 49
  interfaces := #[]
  cf := some (fileOf pool13 1 #[.nestMembers #[98]] #[{ accessFlags := 2, nameIndex := 7, descriptorIndex := 8, attributes := #[] }, { accessFlags := 9, nameIndex := 198, descriptorIndex := 335, attributes := #[] }, { accessFlags := 9, nameIndex := 201, descriptorIndex := 335, attributes := #[] }] 49 4 #[] #[{ accessFlags := 25, nameIndex := 354, descriptorIndex := 339, attributes := #[] }, { accessFlags := 25, nameIndex := 358, descriptorIndex := 339, attributes := #[] }, { accessFlags := 25, nameIndex := 361, descriptorIndex := 339, attributes := #[] }, { accessFlags := 26, nameIndex := 364, descriptorIndex := 339, attributes := #[] }, { accessFlags := 26, nameIndex := 365, descriptorIndex := 339, attributes := #[] }, { accessFlags := 26, nameIndex := 172, descriptorIndex := 173, attributes := #[] }, { accessFlags := 26, nameIndex := 176, descriptorIndex := 173, attributes := #[] }, { accessFlags := 8, nameIndex := 344, descriptorIndex := 339, attributes := #[] }, { accessFlags := 8, nameIndex := 338, descriptorIndex := 339, attributes := #[] }, { accessFlags := 4120, nameIndex := 245, descriptorIndex := 246, attributes := #[] }])
  fields := #[{ name := "E", type := .double, accessFlags := 25, slot := 0, constantValue := 0 }, { name := "PI", type := .double, accessFlags := 25, slot := 1, constantValue := 0 }, { name := "TAU", type := .double, accessFlags := 25, slot := 2, constantValue := 0 }, { name := "DEGREES_TO_RADIANS", type := .double, accessFlags := 26, slot := 3, constantValue := 0 }, { name := "RADIANS_TO_DEGREES", type := .double, accessFlags := 26, slot := 4, constantValue := 0 }, { name := "negativeZeroFloatBits", type := .long, accessFlags := 26, slot := 5, constantValue := 0 }, { name := "negativeZeroDoubleBits", type := .long, accessFlags := 26, slot := 6, constantValue := 0 }, { name := "twoToTheDoubleScaleUp", type := .double, accessFlags := 8, slot := 7, constantValue := 0 }, { name := "twoToTheDoubleScaleDown", type := .double, accessFlags := 8, slot := 8, constantValue := 0 }, { name := "$assertionsDisabled", type := .boolean, accessFlags := 4120, slot := 9, constantValue := 0 }]
  methods := #[k13m0, k13m1, k13m2]
  instanceTypes := #[]
  staticTypes := #[.double, .double, .double, .double, .double, .long, .long, .double, .double, .boolean]
  resolved := Array.replicate 460 none
  statics := none }

def pool14 : Array CpInfo := pool [(2, .class_ 4), (1, u "java/lang/Object"), (0, u "<init>"), (0, u "()V"), (17, .class_ 26), (1, u "jdk/internal/util/Preconditions"), (20, u "checkFromToIndex"), (7, .class_ 56), (0, u "jdk/internal/util/Preconditions$4"), (57, .class_ 115), (0, u "jdk/internal/util/Preconditions$1"), (7, u "SIOOBE_FORMATTER"), (0, u "Ljava/util/function/BiFunction;"), (0, .class_ 126), (0, u "jdk/internal/util/Preconditions$2"), (3, u "AIOOBE_FORMATTER"), (0, .class_ 132), (0, u "jdk/internal/util/Preconditions$3"), (3, u "IOOBE_FORMATTER"), (46, u "(IIILjava/util/function/BiFunction;)I")] 10

def k14m0 : Method := { name := "<init>", desc := "()V", sig := { parameters := [], returnType := none }, accessFlags := 1, code := none }
def k14c1 : Code := { maxStack := 4, maxLocals := 4, code := jdk_41_method_12_code, exceptionTable := #[], attributes := #[] }
def k14m1 : Method := { name := "checkFromToIndex", desc := "(IIILjava/util/function/BiFunction;)I", sig := { parameters := [.int, .int, .int, (.object "java/util/function/BiFunction")], returnType := some .int }, accessFlags := 9, code := some k14c1 }
/-- jdk/internal/util/Preconditions -/
def k14 : Class := { plain "jdk/internal/util/Preconditions" (some 0) with
  accessFlags := 33
  interfaces := #[]
  cf := some (fileOf pool14 24 #[.nestMembers #[55, 131, 125, 114]] #[{ accessFlags := 1, nameIndex := 5, descriptorIndex := 6, attributes := #[] }, { accessFlags := 9, nameIndex := 47, descriptorIndex := 183, attributes := #[] }] 33 2 #[] #[{ accessFlags := 25, nameIndex := 123, descriptorIndex := 124, attributes := #[] }, { accessFlags := 25, nameIndex := 130, descriptorIndex := 124, attributes := #[] }, { accessFlags := 25, nameIndex := 136, descriptorIndex := 124, attributes := #[] }])
  fields := #[{ name := "SIOOBE_FORMATTER", type := (.object "java/util/function/BiFunction"), accessFlags := 25, slot := 0, constantValue := 0 }, { name := "AIOOBE_FORMATTER", type := (.object "java/util/function/BiFunction"), accessFlags := 25, slot := 1, constantValue := 0 }, { name := "IOOBE_FORMATTER", type := (.object "java/util/function/BiFunction"), accessFlags := 25, slot := 2, constantValue := 0 }]
  methods := #[k14m0, k14m1]
  instanceTypes := #[]
  staticTypes := #[(.object "java/util/function/BiFunction"), (.object "java/util/function/BiFunction"), (.object "java/util/function/BiFunction")]
  resolved := Array.replicate 194 none
  statics := some 3 }

def pool15 : Array CpInfo := pool [(4, .class_ 6), (1, u "java/lang/Object"), (0, u "<init>"), (0, u "()V"), (5, .class_ 16), (1, u "java/lang/StringLatin1"), (21, .methodref 39 40), (0, .class_ 41), (0, .nameAndType 42 43), (0, u "java/lang/Math"), (0, u "min"), (0, u "(II)I"), (44, .methodref 14 89), (0, .nameAndType 90 91), (0, u "canEncode"), (0, u "(I)Z"), (0, .methodref 39 93), (0, .nameAndType 94 43), (0, u "max"), (0, .methodref 14 96), (0, .nameAndType 97 98), (0, u "indexOfChar"), (0, u "([BIII)I"), (2, u "indexOf"), (19, u "$assertionsDisabled"), (0, u "Z"), (98, .class_ 223), (1, u "java/lang/StringLatin1$LinesSpliterator"), (166, .class_ 391), (0, u "java/lang/StringLatin1$CharsSpliterator")] 3

def k15m0 : Method := { name := "<init>", desc := "()V", sig := { parameters := [], returnType := none }, accessFlags := 0, code := none }
def k15c1 : Code := { maxStack := 2, maxLocals := 1, code := jdk_43_method_4_code, exceptionTable := #[], attributes := #[] }
def k15m1 : Method := { name := "canEncode", desc := "(I)Z", sig := { parameters := [.int], returnType := some .boolean }, accessFlags := 9, code := some k15c1 }
def k15c2 : Code := { maxStack := 4, maxLocals := 4, code := jdk_43_method_22_code, exceptionTable := #[], attributes := #[] }
def k15m2 : Method := { name := "indexOf", desc := "([BIII)I", sig := { parameters := [(.array .byte), .int, .int, .int], returnType := some .int }, accessFlags := 9, code := some k15c2 }
def k15c3 : Code := { maxStack := 2, maxLocals := 6, code := jdk_43_method_23_code, exceptionTable := #[], attributes := #[] }
def k15m3 : Method := { name := "indexOfChar", desc := "([BIII)I", sig := { parameters := [(.array .byte), .int, .int, .int], returnType := some .int }, accessFlags := 10, code := some k15c3 }
/-- java/lang/StringLatin1 -/
def k15 : Class := { plain "java/lang/StringLatin1" (some 0) with
  accessFlags := 48
  interfaces := #[]
  cf := some (fileOf pool15 14 #[.nestMembers #[390, 221]] #[{ accessFlags := 0, nameIndex := 7, descriptorIndex := 8, attributes := #[] }, { accessFlags := 9, nameIndex := 90, descriptorIndex := 91, attributes := #[] }, { accessFlags := 9, nameIndex := 101, descriptorIndex := 98, attributes := #[] }, { accessFlags := 10, nameIndex := 97, descriptorIndex := 98, attributes := #[] }] 48 4 #[] #[{ accessFlags := 4120, nameIndex := 121, descriptorIndex := 122, attributes := #[] }])
  fields := #[{ name := "$assertionsDisabled", type := .boolean, accessFlags := 4120, slot := 0, constantValue := 0 }]
  methods := #[k15m0, k15m1, k15m2, k15m3]
  instanceTypes := #[]
  staticTypes := #[.boolean]
  resolved := Array.replicate 395 none
  statics := none }

def pool16 : Array CpInfo := pool [(9, u "<init>"), (6, .class_ 18), (1, u "java/lang/Object"), (0, u "()V"), (1, .class_ 23), (1, u "jdk/internal/util/ArraysSupport"), (0, u "LOG2_ARRAY_LONG_INDEX_SCALE"), (0, u "I"), (2, u "U"), (0, u "Ljdk/internal/misc/Unsafe;"), (8, u "BIG_ENDIAN"), (0, u "Z"), (8, u "LOG2_BYTE_BIT_SIZE"), (4, u "LOG2_ARRAY_INT_INDEX_SCALE"), (54, u "JLA"), (0, u "Ljdk/internal/access/JavaLangAccess;"), (11, u "LOG2_ARRAY_BOOLEAN_INDEX_SCALE"), (9, u "LOG2_ARRAY_BYTE_INDEX_SCALE"), (5, u "LOG2_ARRAY_CHAR_INDEX_SCALE"), (5, u "LOG2_ARRAY_SHORT_INDEX_SCALE"), (18, u "LOG2_ARRAY_FLOAT_INDEX_SCALE"), (24, u "LOG2_ARRAY_DOUBLE_INDEX_SCALE"), (89, u "T_BOOLEAN"), (2, u "T_CHAR"), (1, u "T_FLOAT"), (1, u "T_DOUBLE"), (1, u "T_BYTE"), (1, u "T_SHORT"), (1, u "T_INT"), (1, u "T_LONG"), (1, u "SOFT_MAX_ARRAY_LENGTH")] 83

def k16m0 : Method := { name := "<init>", desc := "()V", sig := { parameters := [], returnType := none }, accessFlags := 2, code := none }
/-- jdk/internal/util/ArraysSupport -/
def k16 : Class := { plain "jdk/internal/util/ArraysSupport" (some 0) with
  accessFlags := 33
  interfaces := #[]
  cf := some (fileOf pool16 21 #[] #[{ accessFlags := 2, nameIndex := 9, descriptorIndex := 19, attributes := #[] }] 33 16 #[] #[{ accessFlags := 24, nameIndex := 28, descriptorIndex := 29, attributes := #[] }, { accessFlags := 26, nameIndex := 38, descriptorIndex := 39, attributes := #[] }, { accessFlags := 25, nameIndex := 121, descriptorIndex := 25, attributes := #[] }, { accessFlags := 25, nameIndex := 131, descriptorIndex := 25, attributes := #[] }, { accessFlags := 25, nameIndex := 137, descriptorIndex := 25, attributes := #[] }, { accessFlags := 25, nameIndex := 143, descriptorIndex := 25, attributes := #[] }, { accessFlags := 25, nameIndex := 53, descriptorIndex := 25, attributes := #[] }, { accessFlags := 25, nameIndex := 24, descriptorIndex := 25, attributes := #[] }, { accessFlags := 25, nameIndex := 162, descriptorIndex := 25, attributes := #[] }, { accessFlags := 25, nameIndex := 187, descriptorIndex := 25, attributes := #[] }, { accessFlags := 26, nameIndex := 48, descriptorIndex := 25, attributes := #[] }, { accessFlags := 25, nameIndex := 277, descriptorIndex := 25, attributes := #[] }, { accessFlags := 25, nameIndex := 280, descriptorIndex := 25, attributes := #[] }, { accessFlags := 25, nameIndex := 282, descriptorIndex := 25, attributes := #[] }, { accessFlags := 25, nameIndex := 284, descriptorIndex := 25, attributes := #[] }, { accessFlags := 25, nameIndex := 286, descriptorIndex := 25, attributes := #[] }, { accessFlags := 25, nameIndex := 288, descriptorIndex := 25, attributes := #[] }, { accessFlags := 25, nameIndex := 290, descriptorIndex := 25, attributes := #[] }, { accessFlags := 25, nameIndex := 292, descriptorIndex := 25, attributes := #[] }, { accessFlags := 26, nameIndex := 108, descriptorIndex := 109, attributes := #[] }, { accessFlags := 25, nameIndex := 294, descriptorIndex := 25, attributes := #[] }])
  fields := #[{ name := "U", type := (.object "jdk/internal/misc/Unsafe"), accessFlags := 24, slot := 0, constantValue := 0 }, { name := "BIG_ENDIAN", type := .boolean, accessFlags := 26, slot := 1, constantValue := 0 }, { name := "LOG2_ARRAY_BOOLEAN_INDEX_SCALE", type := .int, accessFlags := 25, slot := 2, constantValue := 0 }, { name := "LOG2_ARRAY_BYTE_INDEX_SCALE", type := .int, accessFlags := 25, slot := 3, constantValue := 0 }, { name := "LOG2_ARRAY_CHAR_INDEX_SCALE", type := .int, accessFlags := 25, slot := 4, constantValue := 0 }, { name := "LOG2_ARRAY_SHORT_INDEX_SCALE", type := .int, accessFlags := 25, slot := 5, constantValue := 0 }, { name := "LOG2_ARRAY_INT_INDEX_SCALE", type := .int, accessFlags := 25, slot := 6, constantValue := 0 }, { name := "LOG2_ARRAY_LONG_INDEX_SCALE", type := .int, accessFlags := 25, slot := 7, constantValue := 0 }, { name := "LOG2_ARRAY_FLOAT_INDEX_SCALE", type := .int, accessFlags := 25, slot := 8, constantValue := 0 }, { name := "LOG2_ARRAY_DOUBLE_INDEX_SCALE", type := .int, accessFlags := 25, slot := 9, constantValue := 0 }, { name := "LOG2_BYTE_BIT_SIZE", type := .int, accessFlags := 26, slot := 10, constantValue := 0 }, { name := "T_BOOLEAN", type := .int, accessFlags := 25, slot := 11, constantValue := 0 }, { name := "T_CHAR", type := .int, accessFlags := 25, slot := 12, constantValue := 0 }, { name := "T_FLOAT", type := .int, accessFlags := 25, slot := 13, constantValue := 0 }, { name := "T_DOUBLE", type := .int, accessFlags := 25, slot := 14, constantValue := 0 }, { name := "T_BYTE", type := .int, accessFlags := 25, slot := 15, constantValue := 0 }, { name := "T_SHORT", type := .int, accessFlags := 25, slot := 16, constantValue := 0 }, { name := "T_INT", type := .int, accessFlags := 25, slot := 17, constantValue := 0 }, { name := "T_LONG", type := .int, accessFlags := 25, slot := 18, constantValue := 0 }, { name := "JLA", type := (.object "jdk/internal/access/JavaLangAccess"), accessFlags := 26, slot := 19, constantValue := 0 }, { name := "SOFT_MAX_ARRAY_LENGTH", type := .int, accessFlags := 25, slot := 20, constantValue := 0 }]
  methods := #[k16m0]
  instanceTypes := #[]
  staticTypes := #[(.object "jdk/internal/misc/Unsafe"), .boolean, .int, .int, .int, .int, .int, .int, .int, .int, .int, .int, .int, .int, .int, .int, .int, .int, .int, (.object "jdk/internal/access/JavaLangAccess"), .int]
  resolved := Array.replicate 378 none
  statics := none }

def pool17 : Array CpInfo := pool [(1, u "java/lang/Cloneable"), (0, .class_ 1), (0, u "java/lang/Object"), (0, .class_ 3)] 3

/-- java/lang/Cloneable -/
def k17 : Class := { plain "java/lang/Cloneable" (some 0) with
  accessFlags := 1537
  interfaces := #[]
  cf := some (fileOf pool17 2 #[] #[] 1537 4 #[] #[])
  fields := #[]
  methods := #[]
  instanceTypes := #[]
  staticTypes := #[]
  resolved := Array.replicate 8 none
  statics := none }

/-- the primitive byte -/
def k18 : Class := { plain "byte" none with kind := .primitive 'B', accessFlags := 0x411 }
/-- [B -/
def k19 : Class := { plain "[B" (some 0) with kind := .array 18 .byte, interfaces := #[17, 2], accessFlags := 1041 }

/-- the primitive char -/
def k20 : Class := { plain "char" none with kind := .primitive 'C', accessFlags := 0x411 }
/-- [C -/
def k21 : Class := { plain "[C" (some 0) with kind := .array 20 .char, interfaces := #[17, 2], accessFlags := 1041 }

/-- the primitive int -/
def k22 : Class := { plain "int" none with kind := .primitive 'I', accessFlags := 0x411 }
/-- [I -/
def k23 : Class := { plain "[I" (some 0) with kind := .array 22 .int, interfaces := #[17, 2], accessFlags := 1041 }

def heap : Heap := #[{ cls := 7, slots := #[.long 0, .int 1, .null, .int 0, .null, .int 0, .int 0], vm := .statics 7 },
  { cls := 11, slots := #[.ref 4, .null, .null, .null], vm := .statics 11 },
  { cls := 12, slots := #[.int 0, .int 8, .int 0, .int 1], vm := .statics 12 },
  { cls := 14, slots := #[.null, .null, .null], vm := .statics 14 },
  { cls := 11, slots := #[.null, .int 0, .int 0], vm := .none }]
def classes : Array Class := #[k0, k1, k2, k3, k4, k5, k6, k7, k8, k9, k10, k11, k12, k13, k14, k15, k16, k17, k18, k19, k20, k21, k22, k23]
def interned : List (Array UInt16 × Addr) := []
def slotsUsed : Nat := 21
def theMethod : MethodId := ⟨1, 1⟩
def args0 : Array Value := #[.int 1, .int 2, .int 3, .int 4]
def aboutOver (below : List Frame) : State where
  vm := { classes := classes, interned := interned.toArray }
  heap := heap
  slotsUsed := slotsUsed
  threads := #[{ frames := .invoking theMethod args0 :: below }]
def below0 : List Frame := [.native { method := ⟨0, 0⟩, args := #[] }]
def about1 : State := aboutOver below0
def p0 : Program := .bare "" "" ""
def e0 : Env := launch0.env 0 0 0
theorem w_frames : about1.frames = Frame.invoking theMethod args0 :: below0 := rfl
set_option maxRecDepth 65536 in
theorem w_args : argsFit about1.vm theMethod args0 = true := by decide +kernel
set_option maxRecDepth 65536 in
theorem w_heap : heapFits about1 = true := by decide +kernel
set_option maxRecDepth 65536 in
theorem w_runnable : about1.curStatus? = some .runnable := by decide +kernel
set_option maxRecDepth 65536 in
theorem w_alone : about1.alone = true := by decide +kernel
set_option maxRecDepth 65536 in
theorem w_named : about1.methodNamed? x = some theMethod := by decide +kernel
set_option maxRecDepth 65536 in
theorem w_hears : about1.hears theMethod below0 = true := by decide +kernel
set_option maxRecDepth 65536 in
theorem w_ripe : about1.ripe theMethod args0 below0 = true := by decide +kernel
theorem w_running : about1.status = .running := rfl
set_option maxRecDepth 65536 in
theorem w_room : about1.hasRoom e0.platform room_1 = true :=
  launch0.hasRoom_least _ room_1 (by decide +kernel) (by decide +kernel) (by decide +kernel) (by decide +kernel) (by decide +kernel) (by decide +kernel)
theorem allAtoms_all (ts : List Jvm.Cond) (a : Array Jvm.Value) (st : Jvm.State) : (allAtoms ts).before a st = ts.all (fun c => c.before a st) := by
  induction ts with
  | nil => rfl
  | cons c t ih =>
    show (Jvm.Cond.and c (allAtoms t)).before a st = _
    rw [Jvm.Cond.before_and, ih, List.all_cons]
def words1 : List Jvm.Cond := Jvm.Cond.code x code maxLocals ret :: tables_1
/-- a 'code' word, met by the world's own term for the bytes: nothing is compared byte by byte -/
theorem code_word {y : MethodName} {bytes : ByteArray} {mx : Nat} {rt : Option FieldType} {a : Array Value} {s : State} {m : MethodId} {meth : Method} {c : Code} (h1 : s.methodNamed? y = some m) (h2 : s.vm.method? m = some meth) (h3 : meth.code = some c) (h4 : c.code = bytes)
    (h5 : (c.maxLocals == mx && c.exceptionTable.isEmpty && decide (c.maxStack ≤ mostOperands) && decide (meth.sig.returnType = rt) && !meth.locks && decide (parseMethodDescriptor y.desc = some meth.sig)) = true) : (Jvm.Cond.code y bytes mx rt).before a s = true := by
  simp only [Bool.and_eq_true, beq_iff_eq, Bool.not_eq_true', decide_eq_true_eq] at h5
  obtain ⟨⟨⟨⟨⟨g1, g2⟩, g3⟩, g4⟩, g5⟩, g6⟩ := h5
  simp [Cond.before, Cond.holds, Cond.value, h1, h2, h3, h4, g1, g2, g3, g4, g5, g6]
def isCode : Jvm.Cond → Bool
  | .code _ _ _ _ => true
  | _ => false
theorem all_split {L : List Jvm.Cond} {P : Jvm.Cond → Bool} (h1 : L.all (fun c => isCode c || P c) = true) (h2 : ∀ c ∈ L.filter isCode, P c = true) : L.all P = true := by
  refine List.all_eq_true.mpr fun c hc => ?_
  have h := List.all_eq_true.mp h1 c hc
  rcases Bool.eq_false_or_eq_true (isCode c) with hi | hi
  · exact h2 c (List.mem_filter.mpr ⟨hc, hi⟩)
  · simpa [hi] using h
set_option maxRecDepth 65536 in
theorem w_c0 : (Jvm.Cond.code x code maxLocals ret).before args0 about1 = true := code_word (m := ⟨1, 1⟩) (meth := k1m1) (c := k1c1) (by decide +kernel) rfl rfl rfl (by decide +kernel)
set_option maxRecDepth 65536 in
theorem w_c1 : (Jvm.Cond.code ({ cls := "com/example/holdfast/holdfast/sasl/Gs2HeaderWithoutChannelBindingPinLaw", name := "nz", desc := "(I)C" } : Jvm.MethodName) method_3_code (1 : Nat) (Option.some Jvm.ClassFile.FieldType.char)).before args0 about1 = true := code_word (m := ⟨1, 2⟩) (meth := k1m2) (c := k1c2) (by decide +kernel) rfl rfl rfl (by decide +kernel)
set_option maxRecDepth 65536 in
theorem w_c2 : (Jvm.Cond.code ({ cls := "java/lang/String", name := "<init>", desc := "([C)V" } : Jvm.MethodName) jdk_42_method_3_code (2 : Nat) (Option.none : Option Jvm.ClassFile.FieldType)).before args0 about1 = true := code_word (m := ⟨7, 1⟩) (meth := k7m1) (c := k7c1) (by decide +kernel) rfl rfl rfl (by decide +kernel)
set_option maxRecDepth 65536 in
theorem w_c3 : (Jvm.Cond.code ({ cls := "java/lang/String", name := "<init>", desc := "([CIILjava/lang/Void;)V" } : Jvm.MethodName) jdk_42_method_149_code (6 : Nat) (Option.none : Option Jvm.ClassFile.FieldType)).before args0 about1 = true := code_word (m := ⟨7, 7⟩) (meth := k7m7) (c := k7c7) (by decide +kernel) rfl rfl rfl (by decide +kernel)
set_option maxRecDepth 65536 in
theorem w_c4 : (Jvm.Cond.code ({ cls := "java/lang/Object", name := "<init>", desc := "()V" } : Jvm.MethodName) object_method_1_code (1 : Nat) (Option.none : Option Jvm.ClassFile.FieldType)).before args0 about1 = true := code_word (m := ⟨0, 0⟩) (meth := k0m0) (c := k0c0) (by decide +kernel) rfl rfl rfl (by decide +kernel)
set_option maxRecDepth 65536 in
theorem w_c5 : (Jvm.Cond.code ({ cls := "com/example/holdfast/holdfast/sasl/Gs2Header", name := "withoutChannelBinding", desc := "(Ljava/lang/String;)Lcom/example/holdfast/holdfast/sasl/Gs2Header;" } : Jvm.MethodName) prog_47_method_4_code (2 : Nat) (Option.some (Jvm.ClassFile.FieldType.object "com/example/holdfast/holdfast/sasl/Gs2Header"))).before args0 about1 = true := code_word (m := ⟨9, 1⟩) (meth := k9m1) (c := k9c1) (by decide +kernel) rfl rfl rfl (by decide +kernel)
set_option maxRecDepth 65536 in
theorem w_c6 : (Jvm.Cond.code ({ cls := "java/lang/String", name := "isEmpty", desc := "()Z" } : Jvm.MethodName) jdk_42_method_55_code (1 : Nat) (Option.some Jvm.ClassFile.FieldType.boolean)).before args0 about1 = true := code_word (m := ⟨7, 3⟩) (meth := k7m3) (c := k7c3) (by decide +kernel) rfl rfl rfl (by decide +kernel)
set_option maxRecDepth 65536 in
theorem w_c7 : (Jvm.Cond.code ({ cls := "com/example/holdfast/holdfast/sasl/Gs2Header", name := "<init>", desc := "(Lcom/example/holdfast/holdfast/sasl/Gs2Header$ChannelBinding;Ljava/lang/String;Ljava/lang/String;)V" } : Jvm.MethodName) prog_47_method_1_code (4 : Nat) (Option.none : Option Jvm.ClassFile.FieldType)).before args0 about1 = true := code_word (m := ⟨9, 0⟩) (meth := k9m0) (c := k9c0) (by decide +kernel) rfl rfl rfl (by decide +kernel)
set_option maxRecDepth 65536 in
theorem w_c8 : (Jvm.Cond.code ({ cls := "java/lang/Record", name := "<init>", desc := "()V" } : Jvm.MethodName) jdk_30_method_1_code (1 : Nat) (Option.none : Option Jvm.ClassFile.FieldType)).before args0 about1 = true := code_word (m := ⟨8, 0⟩) (meth := k8m0) (c := k8c0) (by decide +kernel) rfl rfl rfl (by decide +kernel)
set_option maxRecDepth 65536 in
theorem w_c9 : (Jvm.Cond.code ({ cls := "com/example/holdfast/holdfast/sasl/Gs2Header", name := "channelBinding", desc := "()Lcom/example/holdfast/holdfast/sasl/Gs2Header$ChannelBinding;" } : Jvm.MethodName) prog_47_method_13_code (1 : Nat) (Option.some (Jvm.ClassFile.FieldType.object "com/example/holdfast/holdfast/sasl/Gs2Header$ChannelBinding"))).before args0 about1 = true := code_word (m := ⟨9, 2⟩) (meth := k9m2) (c := k9c2) (by decide +kernel) rfl rfl rfl (by decide +kernel)
set_option maxRecDepth 65536 in
theorem w_c10 : (Jvm.Cond.code ({ cls := "com/example/holdfast/holdfast/sasl/Gs2Header", name := "channelBindingType", desc := "()Ljava/lang/String;" } : Jvm.MethodName) prog_47_method_14_code (1 : Nat) (Option.some (Jvm.ClassFile.FieldType.object "java/lang/String"))).before args0 about1 = true := code_word (m := ⟨9, 3⟩) (meth := k9m3) (c := k9c3) (by decide +kernel) rfl rfl rfl (by decide +kernel)
set_option maxRecDepth 65536 in
theorem w_c11 : (Jvm.Cond.code ({ cls := "com/example/holdfast/holdfast/sasl/Gs2Header", name := "authorizationId", desc := "()Ljava/lang/String;" } : Jvm.MethodName) prog_47_method_15_code (1 : Nat) (Option.some (Jvm.ClassFile.FieldType.object "java/lang/String"))).before args0 about1 = true := code_word (m := ⟨9, 4⟩) (meth := k9m4) (c := k9c4) (by decide +kernel) rfl rfl rfl (by decide +kernel)
set_option maxRecDepth 65536 in
theorem w_c12 : (Jvm.Cond.code ({ cls := "java/lang/StringUTF16", name := "compress", desc := "([CII)[B" } : Jvm.MethodName) jdk_52_method_16_code (6 : Nat) (Option.some (Jvm.ClassFile.FieldType.array Jvm.ClassFile.FieldType.byte))).before args0 about1 = true := code_word (m := ⟨12, 8⟩) (meth := k12m8) (c := k12c8) (by decide +kernel) rfl rfl rfl (by decide +kernel)
set_option maxRecDepth 65536 in
theorem w_c13 : (Jvm.Cond.code ({ cls := "java/lang/StringUTF16", name := "compress", desc := "([CI[BII)I" } : Jvm.MethodName) jdk_52_method_21_code (7 : Nat) (Option.some Jvm.ClassFile.FieldType.int)).before args0 about1 = true := code_word (m := ⟨12, 9⟩) (meth := k12m9) (c := k12c9) (by decide +kernel) rfl rfl rfl (by decide +kernel)
set_option maxRecDepth 65536 in
theorem w_c14 : (Jvm.Cond.code ({ cls := "java/lang/StringUTF16", name := "toBytes", desc := "([CII)[B" } : Jvm.MethodName) jdk_52_method_14_code (5 : Nat) (Option.some (Jvm.ClassFile.FieldType.array Jvm.ClassFile.FieldType.byte))).before args0 about1 = true := code_word (m := ⟨12, 6⟩) (meth := k12m6) (c := k12c6) (by decide +kernel) rfl rfl rfl (by decide +kernel)
set_option maxRecDepth 65536 in
theorem w_c15 : (Jvm.Cond.code ({ cls := "java/lang/StringUTF16", name := "newBytesFor", desc := "(I)[B" } : Jvm.MethodName) jdk_52_method_2_code (1 : Nat) (Option.some (Jvm.ClassFile.FieldType.array Jvm.ClassFile.FieldType.byte))).before args0 about1 = true := code_word (m := ⟨12, 1⟩) (meth := k12m1) (c := k12c1) (by decide +kernel) rfl rfl rfl (by decide +kernel)
set_option maxRecDepth 65536 in
theorem w_c16 : (Jvm.Cond.code ({ cls := "java/lang/StringUTF16", name := "newBytesLength", desc := "(I)I" } : Jvm.MethodName) jdk_52_method_3_code (1 : Nat) (Option.some Jvm.ClassFile.FieldType.int)).before args0 about1 = true := code_word (m := ⟨12, 2⟩) (meth := k12m2) (c := k12c2) (by decide +kernel) rfl rfl rfl (by decide +kernel)
set_option maxRecDepth 65536 in
theorem w_c17 : (Jvm.Cond.code ({ cls := "java/lang/StringUTF16", name := "putChar", desc := "([BII)V" } : Jvm.MethodName) jdk_52_method_4_code (3 : Nat) (Option.none : Option Jvm.ClassFile.FieldType)).before args0 about1 = true := code_word (m := ⟨12, 3⟩) (meth := k12m3) (c := k12c3) (by decide +kernel) rfl rfl rfl (by decide +kernel)
set_option maxRecDepth 65536 in
theorem w_c18 : (Jvm.Cond.code ({ cls := "java/lang/StringUTF16", name := "getChar", desc := "([BI)C" } : Jvm.MethodName) jdk_52_method_5_code (2 : Nat) (Option.some Jvm.ClassFile.FieldType.char)).before args0 about1 = true := code_word (m := ⟨12, 4⟩) (meth := k12m4) (c := k12c4) (by decide +kernel) rfl rfl rfl (by decide +kernel)
set_option maxRecDepth 65536 in
theorem w_c19 : (Jvm.Cond.code ({ cls := "java/lang/StringUTF16", name := "coderFromArrayLen", desc := "([BI)B" } : Jvm.MethodName) jdk_52_method_15_code (2 : Nat) (Option.some Jvm.ClassFile.FieldType.byte)).before args0 about1 = true := code_word (m := ⟨12, 7⟩) (meth := k12m7) (c := k12c7) (by decide +kernel) rfl rfl rfl (by decide +kernel)
set_option maxRecDepth 65536 in
theorem w_c20 : (Jvm.Cond.code ({ cls := "java/lang/String", name := "indexOf", desc := "(I)I" } : Jvm.MethodName) jdk_42_method_79_code (2 : Nat) (Option.some Jvm.ClassFile.FieldType.int)).before args0 about1 = true := code_word (m := ⟨7, 5⟩) (meth := k7m5) (c := k7c5) (by decide +kernel) rfl rfl rfl (by decide +kernel)
set_option maxRecDepth 65536 in
theorem w_c21 : (Jvm.Cond.code ({ cls := "java/lang/String", name := "indexOf", desc := "(II)I" } : Jvm.MethodName) jdk_42_method_80_code (3 : Nat) (Option.some Jvm.ClassFile.FieldType.int)).before args0 about1 = true := code_word (m := ⟨7, 6⟩) (meth := k7m6) (c := k7c6) (by decide +kernel) rfl rfl rfl (by decide +kernel)
set_option maxRecDepth 65536 in
theorem w_c22 : (Jvm.Cond.code ({ cls := "java/lang/String", name := "isLatin1", desc := "()Z" } : Jvm.MethodName) jdk_42_method_154_code (1 : Nat) (Option.some Jvm.ClassFile.FieldType.boolean)).before args0 about1 = true := code_word (m := ⟨7, 9⟩) (meth := k7m9) (c := k7c9) (by decide +kernel) rfl rfl rfl (by decide +kernel)
set_option maxRecDepth 65536 in
theorem w_c23 : (Jvm.Cond.code ({ cls := "java/lang/String", name := "length", desc := "()I" } : Jvm.MethodName) jdk_42_method_54_code (1 : Nat) (Option.some Jvm.ClassFile.FieldType.int)).before args0 about1 = true := code_word (m := ⟨7, 2⟩) (meth := k7m2) (c := k7c2) (by decide +kernel) rfl rfl rfl (by decide +kernel)
set_option maxRecDepth 65536 in
theorem w_c24 : (Jvm.Cond.code ({ cls := "java/lang/String", name := "coder", desc := "()B" } : Jvm.MethodName) jdk_42_method_152_code (1 : Nat) (Option.some Jvm.ClassFile.FieldType.byte)).before args0 about1 = true := code_word (m := ⟨7, 8⟩) (meth := k7m8) (c := k7c8) (by decide +kernel) rfl rfl rfl (by decide +kernel)
set_option maxRecDepth 65536 in
theorem w_c25 : (Jvm.Cond.code ({ cls := "java/lang/StringUTF16", name := "indexOf", desc := "([BIII)I" } : Jvm.MethodName) jdk_52_method_40_code (4 : Nat) (Option.some Jvm.ClassFile.FieldType.int)).before args0 about1 = true := code_word (m := ⟨12, 10⟩) (meth := k12m10) (c := k12c10) (by decide +kernel) rfl rfl rfl (by decide +kernel)
set_option maxRecDepth 65536 in
theorem w_c26 : (Jvm.Cond.code ({ cls := "java/lang/Math", name := "max", desc := "(II)I" } : Jvm.MethodName) jdk_29_method_65_code (2 : Nat) (Option.some Jvm.ClassFile.FieldType.int)).before args0 about1 = true := code_word (m := ⟨13, 1⟩) (meth := k13m1) (c := k13c1) (by decide +kernel) rfl rfl rfl (by decide +kernel)
set_option maxRecDepth 65536 in
theorem w_c27 : (Jvm.Cond.code ({ cls := "java/lang/Math", name := "min", desc := "(II)I" } : Jvm.MethodName) jdk_29_method_69_code (2 : Nat) (Option.some Jvm.ClassFile.FieldType.int)).before args0 about1 = true := code_word (m := ⟨13, 2⟩) (meth := k13m2) (c := k13c2) (by decide +kernel) rfl rfl rfl (by decide +kernel)
set_option maxRecDepth 65536 in
theorem w_c28 : (Jvm.Cond.code ({ cls := "java/lang/StringUTF16", name := "indexOfChar", desc := "([BIII)I" } : Jvm.MethodName) jdk_52_method_47_code (4 : Nat) (Option.some Jvm.ClassFile.FieldType.int)).before args0 about1 = true := code_word (m := ⟨12, 11⟩) (meth := k12m11) (c := k12c11) (by decide +kernel) rfl rfl rfl (by decide +kernel)
set_option maxRecDepth 65536 in
theorem w_c29 : (Jvm.Cond.code ({ cls := "java/lang/StringUTF16", name := "checkBoundsBeginEnd", desc := "(II[B)V" } : Jvm.MethodName) jdk_52_method_93_code (3 : Nat) (Option.none : Option Jvm.ClassFile.FieldType)).before args0 about1 = true := code_word (m := ⟨12, 13⟩) (meth := k12m13) (c := k12c13) (by decide +kernel) rfl rfl rfl (by decide +kernel)
set_option maxRecDepth 65536 in
theorem w_c30 : (Jvm.Cond.code ({ cls := "java/lang/StringUTF16", name := "length", desc := "([B)I" } : Jvm.MethodName) jdk_52_method_6_code (1 : Nat) (Option.some Jvm.ClassFile.FieldType.int)).before args0 about1 = true := code_word (m := ⟨12, 5⟩) (meth := k12m5) (c := k12c5) (by decide +kernel) rfl rfl rfl (by decide +kernel)
set_option maxRecDepth 65536 in
theorem w_c31 : (Jvm.Cond.code ({ cls := "java/lang/String", name := "checkBoundsBeginEnd", desc := "(III)V" } : Jvm.MethodName) jdk_42_method_158_code (3 : Nat) (Option.none : Option Jvm.ClassFile.FieldType)).before args0 about1 = true := code_word (m := ⟨7, 10⟩) (meth := k7m10) (c := k7c10) (by decide +kernel) rfl rfl rfl (by decide +kernel)
set_option maxRecDepth 65536 in
theorem w_c32 : (Jvm.Cond.code ({ cls := "jdk/internal/util/Preconditions", name := "checkFromToIndex", desc := "(IIILjava/util/function/BiFunction;)I" } : Jvm.MethodName) jdk_41_method_12_code (4 : Nat) (Option.some Jvm.ClassFile.FieldType.int)).before args0 about1 = true := code_word (m := ⟨14, 1⟩) (meth := k14m1) (c := k14c1) (by decide +kernel) rfl rfl rfl (by decide +kernel)
set_option maxRecDepth 65536 in
theorem w_c33 : (Jvm.Cond.code ({ cls := "java/lang/StringUTF16", name := "indexOfCharUnsafe", desc := "([BIII)I" } : Jvm.MethodName) jdk_52_method_48_code (5 : Nat) (Option.some Jvm.ClassFile.FieldType.int)).before args0 about1 = true := code_word (m := ⟨12, 12⟩) (meth := k12m12) (c := k12c12) (by decide +kernel) rfl rfl rfl (by decide +kernel)
set_option maxRecDepth 65536 in
theorem w_c34 : (Jvm.Cond.code ({ cls := "java/lang/String", name := "equals", desc := "(Ljava/lang/Object;)Z" } : Jvm.MethodName) jdk_42_method_66_code (3 : Nat) (Option.some Jvm.ClassFile.FieldType.boolean)).before args0 about1 = true := code_word (m := ⟨7, 4⟩) (meth := k7m4) (c := k7c4) (by decide +kernel) rfl rfl rfl (by decide +kernel)
set_option maxRecDepth 65536 in
theorem w_c35 : (Jvm.Cond.code ({ cls := "java/lang/StringLatin1", name := "indexOf", desc := "([BIII)I" } : Jvm.MethodName) jdk_43_method_22_code (4 : Nat) (Option.some Jvm.ClassFile.FieldType.int)).before args0 about1 = true := code_word (m := ⟨15, 2⟩) (meth := k15m2) (c := k15c2) (by decide +kernel) rfl rfl rfl (by decide +kernel)
set_option maxRecDepth 65536 in
theorem w_c36 : (Jvm.Cond.code ({ cls := "java/lang/StringLatin1", name := "canEncode", desc := "(I)Z" } : Jvm.MethodName) jdk_43_method_4_code (1 : Nat) (Option.some Jvm.ClassFile.FieldType.boolean)).before args0 about1 = true := code_word (m := ⟨15, 1⟩) (meth := k15m1) (c := k15c1) (by decide +kernel) rfl rfl rfl (by decide +kernel)
set_option maxRecDepth 65536 in
theorem w_c37 : (Jvm.Cond.code ({ cls := "java/lang/StringLatin1", name := "indexOfChar", desc := "([BIII)I" } : Jvm.MethodName) jdk_43_method_23_code (6 : Nat) (Option.some Jvm.ClassFile.FieldType.int)).before args0 about1 = true := code_word (m := ⟨15, 3⟩) (meth := k15m3) (c := k15c3) (by decide +kernel) rfl rfl rfl (by decide +kernel)
def codes1 : List Jvm.Cond := [Jvm.Cond.code x code maxLocals ret, Jvm.Cond.code ({ cls := "com/example/holdfast/holdfast/sasl/Gs2HeaderWithoutChannelBindingPinLaw", name := "nz", desc := "(I)C" } : Jvm.MethodName) method_3_code (1 : Nat) (Option.some Jvm.ClassFile.FieldType.char), Jvm.Cond.code ({ cls := "java/lang/String", name := "<init>", desc := "([C)V" } : Jvm.MethodName) jdk_42_method_3_code (2 : Nat) (Option.none : Option Jvm.ClassFile.FieldType), Jvm.Cond.code ({ cls := "java/lang/String", name := "<init>", desc := "([CIILjava/lang/Void;)V" } : Jvm.MethodName) jdk_42_method_149_code (6 : Nat) (Option.none : Option Jvm.ClassFile.FieldType), Jvm.Cond.code ({ cls := "java/lang/Object", name := "<init>", desc := "()V" } : Jvm.MethodName) object_method_1_code (1 : Nat) (Option.none : Option Jvm.ClassFile.FieldType), Jvm.Cond.code ({ cls := "com/example/holdfast/holdfast/sasl/Gs2Header", name := "withoutChannelBinding", desc := "(Ljava/lang/String;)Lcom/example/holdfast/holdfast/sasl/Gs2Header;" } : Jvm.MethodName) prog_47_method_4_code (2 : Nat) (Option.some (Jvm.ClassFile.FieldType.object "com/example/holdfast/holdfast/sasl/Gs2Header")), Jvm.Cond.code ({ cls := "java/lang/String", name := "isEmpty", desc := "()Z" } : Jvm.MethodName) jdk_42_method_55_code (1 : Nat) (Option.some Jvm.ClassFile.FieldType.boolean), Jvm.Cond.code ({ cls := "com/example/holdfast/holdfast/sasl/Gs2Header", name := "<init>", desc := "(Lcom/example/holdfast/holdfast/sasl/Gs2Header$ChannelBinding;Ljava/lang/String;Ljava/lang/String;)V" } : Jvm.MethodName) prog_47_method_1_code (4 : Nat) (Option.none : Option Jvm.ClassFile.FieldType), Jvm.Cond.code ({ cls := "java/lang/Record", name := "<init>", desc := "()V" } : Jvm.MethodName) jdk_30_method_1_code (1 : Nat) (Option.none : Option Jvm.ClassFile.FieldType), Jvm.Cond.code ({ cls := "com/example/holdfast/holdfast/sasl/Gs2Header", name := "channelBinding", desc := "()Lcom/example/holdfast/holdfast/sasl/Gs2Header$ChannelBinding;" } : Jvm.MethodName) prog_47_method_13_code (1 : Nat) (Option.some (Jvm.ClassFile.FieldType.object "com/example/holdfast/holdfast/sasl/Gs2Header$ChannelBinding")), Jvm.Cond.code ({ cls := "com/example/holdfast/holdfast/sasl/Gs2Header", name := "channelBindingType", desc := "()Ljava/lang/String;" } : Jvm.MethodName) prog_47_method_14_code (1 : Nat) (Option.some (Jvm.ClassFile.FieldType.object "java/lang/String")), Jvm.Cond.code ({ cls := "com/example/holdfast/holdfast/sasl/Gs2Header", name := "authorizationId", desc := "()Ljava/lang/String;" } : Jvm.MethodName) prog_47_method_15_code (1 : Nat) (Option.some (Jvm.ClassFile.FieldType.object "java/lang/String")), Jvm.Cond.code ({ cls := "java/lang/StringUTF16", name := "compress", desc := "([CII)[B" } : Jvm.MethodName) jdk_52_method_16_code (6 : Nat) (Option.some (Jvm.ClassFile.FieldType.array Jvm.ClassFile.FieldType.byte)), Jvm.Cond.code ({ cls := "java/lang/StringUTF16", name := "compress", desc := "([CI[BII)I" } : Jvm.MethodName) jdk_52_method_21_code (7 : Nat) (Option.some Jvm.ClassFile.FieldType.int), Jvm.Cond.code ({ cls := "java/lang/StringUTF16", name := "toBytes", desc := "([CII)[B" } : Jvm.MethodName) jdk_52_method_14_code (5 : Nat) (Option.some (Jvm.ClassFile.FieldType.array Jvm.ClassFile.FieldType.byte)), Jvm.Cond.code ({ cls := "java/lang/StringUTF16", name := "newBytesFor", desc := "(I)[B" } : Jvm.MethodName) jdk_52_method_2_code (1 : Nat) (Option.some (Jvm.ClassFile.FieldType.array Jvm.ClassFile.FieldType.byte)), Jvm.Cond.code ({ cls := "java/lang/StringUTF16", name := "newBytesLength", desc := "(I)I" } : Jvm.MethodName) jdk_52_method_3_code (1 : Nat) (Option.some Jvm.ClassFile.FieldType.int), Jvm.Cond.code ({ cls := "java/lang/StringUTF16", name := "putChar", desc := "([BII)V" } : Jvm.MethodName) jdk_52_method_4_code (3 : Nat) (Option.none : Option Jvm.ClassFile.FieldType), Jvm.Cond.code ({ cls := "java/lang/StringUTF16", name := "getChar", desc := "([BI)C" } : Jvm.MethodName) jdk_52_method_5_code (2 : Nat) (Option.some Jvm.ClassFile.FieldType.char), Jvm.Cond.code ({ cls := "java/lang/StringUTF16", name := "coderFromArrayLen", desc := "([BI)B" } : Jvm.MethodName) jdk_52_method_15_code (2 : Nat) (Option.some Jvm.ClassFile.FieldType.byte), Jvm.Cond.code ({ cls := "java/lang/String", name := "indexOf", desc := "(I)I" } : Jvm.MethodName) jdk_42_method_79_code (2 : Nat) (Option.some Jvm.ClassFile.FieldType.int), Jvm.Cond.code ({ cls := "java/lang/String", name := "indexOf", desc := "(II)I" } : Jvm.MethodName) jdk_42_method_80_code (3 : Nat) (Option.some Jvm.ClassFile.FieldType.int), Jvm.Cond.code ({ cls := "java/lang/String", name := "isLatin1", desc := "()Z" } : Jvm.MethodName) jdk_42_method_154_code (1 : Nat) (Option.some Jvm.ClassFile.FieldType.boolean), Jvm.Cond.code ({ cls := "java/lang/String", name := "length", desc := "()I" } : Jvm.MethodName) jdk_42_method_54_code (1 : Nat) (Option.some Jvm.ClassFile.FieldType.int), Jvm.Cond.code ({ cls := "java/lang/String", name := "coder", desc := "()B" } : Jvm.MethodName) jdk_42_method_152_code (1 : Nat) (Option.some Jvm.ClassFile.FieldType.byte), Jvm.Cond.code ({ cls := "java/lang/StringUTF16", name := "indexOf", desc := "([BIII)I" } : Jvm.MethodName) jdk_52_method_40_code (4 : Nat) (Option.some Jvm.ClassFile.FieldType.int), Jvm.Cond.code ({ cls := "java/lang/Math", name := "max", desc := "(II)I" } : Jvm.MethodName) jdk_29_method_65_code (2 : Nat) (Option.some Jvm.ClassFile.FieldType.int), Jvm.Cond.code ({ cls := "java/lang/Math", name := "min", desc := "(II)I" } : Jvm.MethodName) jdk_29_method_69_code (2 : Nat) (Option.some Jvm.ClassFile.FieldType.int), Jvm.Cond.code ({ cls := "java/lang/StringUTF16", name := "indexOfChar", desc := "([BIII)I" } : Jvm.MethodName) jdk_52_method_47_code (4 : Nat) (Option.some Jvm.ClassFile.FieldType.int), Jvm.Cond.code ({ cls := "java/lang/StringUTF16", name := "checkBoundsBeginEnd", desc := "(II[B)V" } : Jvm.MethodName) jdk_52_method_93_code (3 : Nat) (Option.none : Option Jvm.ClassFile.FieldType), Jvm.Cond.code ({ cls := "java/lang/StringUTF16", name := "length", desc := "([B)I" } : Jvm.MethodName) jdk_52_method_6_code (1 : Nat) (Option.some Jvm.ClassFile.FieldType.int), Jvm.Cond.code ({ cls := "java/lang/String", name := "checkBoundsBeginEnd", desc := "(III)V" } : Jvm.MethodName) jdk_42_method_158_code (3 : Nat) (Option.none : Option Jvm.ClassFile.FieldType), Jvm.Cond.code ({ cls := "jdk/internal/util/Preconditions", name := "checkFromToIndex", desc := "(IIILjava/util/function/BiFunction;)I" } : Jvm.MethodName) jdk_41_method_12_code (4 : Nat) (Option.some Jvm.ClassFile.FieldType.int), Jvm.Cond.code ({ cls := "java/lang/StringUTF16", name := "indexOfCharUnsafe", desc := "([BIII)I" } : Jvm.MethodName) jdk_52_method_48_code (5 : Nat) (Option.some Jvm.ClassFile.FieldType.int), Jvm.Cond.code ({ cls := "java/lang/String", name := "equals", desc := "(Ljava/lang/Object;)Z" } : Jvm.MethodName) jdk_42_method_66_code (3 : Nat) (Option.some Jvm.ClassFile.FieldType.boolean), Jvm.Cond.code ({ cls := "java/lang/StringLatin1", name := "indexOf", desc := "([BIII)I" } : Jvm.MethodName) jdk_43_method_22_code (4 : Nat) (Option.some Jvm.ClassFile.FieldType.int), Jvm.Cond.code ({ cls := "java/lang/StringLatin1", name := "canEncode", desc := "(I)Z" } : Jvm.MethodName) jdk_43_method_4_code (1 : Nat) (Option.some Jvm.ClassFile.FieldType.boolean), Jvm.Cond.code ({ cls := "java/lang/StringLatin1", name := "indexOfChar", desc := "([BIII)I" } : Jvm.MethodName) jdk_43_method_23_code (6 : Nat) (Option.some Jvm.ClassFile.FieldType.int)]
set_option maxRecDepth 65536 in
theorem codes_eq : words1.filter isCode = codes1 := rfl
theorem w_codes : ∀ c ∈ words1.filter isCode, c.before args0 about1 = true := by
  rw [codes_eq]
  intro c hc
  simp only [codes1, List.mem_cons, List.not_mem_nil, or_false] at hc
  rcases hc with rfl | rfl | rfl | rfl | rfl | rfl | rfl | rfl | rfl | rfl | rfl | rfl | rfl | rfl | rfl | rfl | rfl | rfl | rfl | rfl | rfl | rfl | rfl | rfl | rfl | rfl | rfl | rfl | rfl | rfl | rfl | rfl | rfl | rfl | rfl | rfl | rfl | rfl
  · exact w_c0
  · exact w_c1
  · exact w_c2
  · exact w_c3
  · exact w_c4
  · exact w_c5
  · exact w_c6
  · exact w_c7
  · exact w_c8
  · exact w_c9
  · exact w_c10
  · exact w_c11
  · exact w_c12
  · exact w_c13
  · exact w_c14
  · exact w_c15
  · exact w_c16
  · exact w_c17
  · exact w_c18
  · exact w_c19
  · exact w_c20
  · exact w_c21
  · exact w_c22
  · exact w_c23
  · exact w_c24
  · exact w_c25
  · exact w_c26
  · exact w_c27
  · exact w_c28
  · exact w_c29
  · exact w_c30
  · exact w_c31
  · exact w_c32
  · exact w_c33
  · exact w_c34
  · exact w_c35
  · exact w_c36
  · exact w_c37
set_option maxRecDepth 65536 in
theorem w_t1 : (words1.take 24).all (fun c => isCode c || c.before args0 about1) = true := by decide +kernel
set_option maxRecDepth 65536 in
theorem w_t2 : ((words1.drop 24).take 24).all (fun c => isCode c || c.before args0 about1) = true := by decide +kernel
set_option maxRecDepth 65536 in
theorem w_t3 : (((words1.drop 24).drop 24).take 24).all (fun c => isCode c || c.before args0 about1) = true := by decide +kernel
set_option maxRecDepth 65536 in
theorem w_t4 : ((((words1.drop 24).drop 24).drop 24).take 24).all (fun c => isCode c || c.before args0 about1) = true := by decide +kernel
set_option maxRecDepth 65536 in
theorem w_t5 : (((((words1.drop 24).drop 24).drop 24).drop 24).take 24).all (fun c => isCode c || c.before args0 about1) = true := by decide +kernel
set_option maxRecDepth 65536 in
theorem w_t6 : ((((((words1.drop 24).drop 24).drop 24).drop 24).drop 24).take 24).all (fun c => isCode c || c.before args0 about1) = true := by decide +kernel
set_option maxRecDepth 65536 in
theorem w_t7 : (((((((words1.drop 24).drop 24).drop 24).drop 24).drop 24).drop 24).take 24).all (fun c => isCode c || c.before args0 about1) = true := by decide +kernel
set_option maxRecDepth 65536 in
theorem w_t8 : (((((((words1.drop 24).drop 24).drop 24).drop 24).drop 24).drop 24).drop 24).all (fun c => isCode c || c.before args0 about1) = true := by decide +kernel
theorem w_tables : (allAtoms (Jvm.Cond.code x code maxLocals ret :: tables_1)).before args0 about1 = true := by
  rw [allAtoms_all]
  show words1.all (fun c => c.before args0 about1) = true
  refine all_split ?_ w_codes
  rw [← List.take_append_drop 24 words1, List.all_append, w_t1, ← List.take_append_drop 24 (words1.drop 24), List.all_append, w_t2, ← List.take_append_drop 24 ((words1.drop 24).drop 24), List.all_append, w_t3, ← List.take_append_drop 24 (((words1.drop 24).drop 24).drop 24), List.all_append, w_t4, ← List.take_append_drop 24 ((((words1.drop 24).drop 24).drop 24).drop 24), List.all_append, w_t5, ← List.take_append_drop 24 (((((words1.drop 24).drop 24).drop 24).drop 24).drop 24), List.all_append, w_t6, ← List.take_append_drop 24 ((((((words1.drop 24).drop 24).drop 24).drop 24).drop 24).drop 24), List.all_append, w_t7, w_t8]
  rfl
set_option maxRecDepth 65536 in
theorem w_rest : rest_1_c.before args0 about1 = true := by decide +kernel
set_option maxRecDepth 65536 in
theorem w_case : (Jvm.Cond.and given_1 narrow_1).before args0 about1 = true := by decide +kernel
set_option maxRecDepth 65536 in
theorem w_consts : constsHeld consts_1 about1 := Jvm.Lit.constsHeldB_iff.mp (by decide +kernel)
theorem w_applies : (headSpec (Jvm.Cond.code x code maxLocals ret :: tables_1) room_1).applies x e0.platform about1 = true :=
  (Spec.applies_iff w_frames).mpr ⟨w_running, w_runnable, w_alone, w_named, w_hears, w_ripe, w_room, w_tables⟩
theorem atStart : AtStart classFile x code maxLocals ret World_1 tables_1 room_1 Calls_1 rest_1 Pre_1 launch0 p0 e0 about1 theMethod args0 below0 :=
  ⟨lists_1, trivial, launch0.admits_env _ _ _, launch0.least_env, fairChoices_fair.cas, fairChoices_fair.clock, w_frames, w_args, w_heap, w_applies, ⟨w_consts, trivial⟩, w_rest, w_case⟩
end start1
theorem witness_1 : WitnessClaimed_1 := ⟨start1.p0, start1.e0, start1.about1, start1.theMethod, start1.args0, start1.below0, start1.atStart⟩
end Jvm.Pilot.@@N@@
