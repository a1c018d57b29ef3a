import JvmDerived
import JvmDerived.Pilot.@@N@@Statement
import JvmDerived.Pilot.@@N@@Code
set_option linter.unusedVariables false
set_option linter.unusedSimpArgs false
namespace Jvm.Pilot.@@N@@
open Jvm Jvm.ClassFile Sem Op Lib Jvm.Free Jvm.Stand Jvm.LawKit Jvm.RoadKit Bundle Jvm.Free.SB Jvm.Free.SBG Jvm.Pilot.@@N@@.Jvm.D
abbrev Kx : Type := Program × Env × State × MethodId × Array Value × List Frame × Method × Code
def Inv (Z : State) (ws : List Addr) (h0 : Heap) (S : List Addr) (h : Heap) : Prop :=
  Ext Z.heap h ∧ Keep h0 h ws ∧ ∀ x ∈ S, x < h.size ∧ Z.heap.size ≤ x ∧ (x ∈ ws ∨ h0.size ≤ x)
def Cx (Z : State) (a0 : Array Value) (y : MethodName) (by0 : ByteArray) (ml : Nat) (rt : Option FieldType) : Kx → Prop
  | (p, _, s, m, _, _, meth, c) => p.tables.exec = Jvm.exec ∧ c.code = by0 ∧ c.maxLocals = ml ∧ s.vm.findClass y.cls = some m.cls ∧ meth.name = y.name ∧ meth.sig.returnType = rt ∧ meth.locks = false ∧ Z.Warmed39 s.vm
theorem fr_snoc {k : Nat} {L : List Loc} (N : Fr k L) {a : Addr} {i : Nat} (q : k ≤ a) : Fr k (L ++ [⟨a, i⟩]) := fun y hy => by
  rcases List.mem_append.mp hy with hy | hy
  · exact N y hy
  · rw [List.mem_singleton.mp hy]; exact q
theorem hq {Z : State} {a0 : Array Value} {ts : List Jvm.Cond} (hw : ∀ d ∈ ts, d.before a0 Z = true) (i : Nat) {d : Jvm.Cond} (q : ts[i]? = some d) : d.before a0 Z = true := hw _ (List.mem_of_getElem? q)
theorem nble {a b : Nat} (h : Nat.ble a b = true) : a ≤ b := Nat.le_of_ble_eq_true h
theorem mi {S : List Addr} (i : Nat) {a : Addr} (q : S[i]? = some a) : a ∈ S := List.mem_of_getElem? q
section InvLaws
variable {Z : State} {ws ws' S bs : List Addr} {h0 h h' : Heap} {a : Addr} {i : Nat} {v : Value}
theorem Inv.new (I : Inv Z ws h0 S h) (E : Ext h h') (hl : h.size < h'.size) : Inv Z ws h0 (h.size :: S) h' := by
  refine ⟨⟨Nat.le_trans I.1.1 E.1, fun a c q => E.2 a c (I.1.2 a c q)⟩, I.2.1.ext E, fun x hx => ?_⟩
  rcases List.mem_cons.mp hx with rfl | hx
  · exact ⟨hl, I.1.1, Or.inr I.2.1.1⟩
  · exact ⟨Nat.lt_of_lt_of_le (I.2.2 x hx).1 E.1, (I.2.2 x hx).2⟩
theorem Inv.ext (I : Inv Z ws h0 S h) (E : Ext h h') : Inv Z ws h0 S h' :=
  ⟨⟨Nat.le_trans I.1.1 E.1, fun a c q => E.2 a c (I.1.2 a c q)⟩, I.2.1.ext E, fun x hx => ⟨Nat.lt_of_lt_of_le (I.2.2 x hx).1 E.1, (I.2.2 x hx).2⟩⟩
theorem Inv.wr (I : Inv Z ws h0 S h) (W : Wr h h' a i v) (ha : a ∈ S) : Inv Z ws h0 S h' :=
  ⟨(Old.wr ⟨rfl, I.1⟩ W (I.2.2 a ha).2.1).2, I.2.1.wr W (I.2.2 a ha).2.2, fun x hx => ⟨W.size.symm ▸ (I.2.2 x hx).1, (I.2.2 x hx).2⟩⟩
theorem Inv.keep (I : Inv Z ws h0 S h) (K : Keep h h' ws') (hs : ∀ x ∈ ws', x ∈ S) : Inv Z ws h0 S h' :=
  ⟨(Old.keep ⟨rfl, I.1⟩ K (fun x hx => (I.2.2 x (hs x hx)).2.1)).2, I.2.1.trans K (fun x hx => (I.2.2 x (hs x hx)).2.2), fun x hx => ⟨Nat.lt_of_lt_of_le (I.2.2 x hx).1 K.1, (I.2.2 x hx).2⟩⟩
theorem Inv.add (I : Inv Z ws h0 S h) (I' : Inv Z ws h0 S h') (hb : ∀ b ∈ bs, h.size ≤ b ∧ b < h'.size) : Inv Z ws h0 (bs ++ S) h' :=
  ⟨I'.1, I'.2.1, fun x hx => (List.mem_append.mp hx).elim (fun q => ⟨(hb x q).2, Nat.le_trans I.1.1 (hb x q).1, Or.inr (Nat.le_trans I.2.1.1 (hb x q).1)⟩) (fun q => I'.2.2 x q)⟩
theorem Inv.drop (I : Inv Z ws h0 S h) {S' : List Addr} (hs : ∀ x ∈ S', x ∈ S) : Inv Z ws h0 S' h := ⟨I.1, I.2.1, fun x hx => I.2.2 x (hs x hx)⟩
end InvLaws
theorem decl_of {Z : State} {a0 : Array Value} {y : MethodName} {b : ByteArray} {ml : Nat} {rt : Option FieldType} (wi : (Cond.instanceMethod y).before a0 Z = true) (wc : (Cond.code y b ml rt).before a0 Z = true) : (Cond.declares y).before a0 Z = true := by
  obtain ⟨mk, meth, h1, h2, h3, h4⟩ := Cond.instanceMethod_spec wi
  obtain ⟨m2, c, q1, -, -, -, -, -, -, hsig⟩ := Cond.code_spec h1 wc
  cases h2.symm.trans q1
  simp [Cond.before, Cond.holds, Cond.value, h1, h2, h3, hsig]
theorem nf_cls {s : State} {a0 : Array Value} {y y' y0 : MethodName} {C : String} (w : (Cond.selects C y0 y').before a0 s = true) (hc : y'.cls = y.cls) : NotFace s y := fun r0 h0 => by
  obtain ⟨c2, r2, m2, q1, q2, q3, q4, kP, hkP, hkPi⟩ := Cond.selects_spec w
  have e1 := findClass_of_methodNamed h0
  have e2 := findClass_of_methodNamed q3
  rw [hc] at e2
  have e3 : r0.cls = m2.cls := Option.some.inj (e1.symm.trans e2)
  exact ⟨kP, by rw [e3]; exact hkP, hkPi⟩
theorem same_of {Z : State} {a0 : Array Value} {y : MethodName} (wi : (Cond.instanceMethod y).before a0 Z = true) (nf : NotFace Z y) (hx : y.cls ≠ "java/lang/invoke/MethodHandle" ∧ y.cls ≠ "java/lang/invoke/VarHandle") : (Cond.sameMethod y.cls y.cls y.name y.desc).before a0 Z = true := by
  obtain ⟨mk, meth, h1, h2, h3, h4⟩ := Cond.instanceMethod_spec wi
  have hf := State.methodFound?_of_named h1 hx
  have hc := findClass_of_methodNamed h1
  obtain ⟨k, hk, hi⟩ := nf mk h1
  have h1' : Z.methodNamed? ⟨y.cls, y.name, y.desc⟩ = some mk := h1
  simp [Cond.before, Cond.holds, Cond.value, hc, hf, h1', hk, hi]
theorem ext_refl (h : Heap) : Ext h h := ⟨Nat.le_refl _, fun _ _ q => q⟩
theorem mems0 {S : List Addr} : ∀ x ∈ ([] : List Addr), x ∈ S := fun _ q => nomatch q
theorem memsS {x : Addr} {L S : List Addr} (q : x ∈ S) (r : ∀ z ∈ L, z ∈ S) : ∀ z ∈ x :: L, z ∈ S := fun z hz => by
  rcases List.mem_cons.mp hz with rfl | hz
  · exact q
  · exact r z hz
theorem fresh0 {n n' : Nat} : ∀ b ∈ ([] : List Addr), n ≤ b ∧ b < n' := fun _ q => nomatch q
theorem freshS {n n' : Nat} {b : Addr} {L : List Addr} (q : n ≤ b ∧ b < n') (r : ∀ z ∈ L, n ≤ z ∧ z < n') : ∀ z ∈ b :: L, n ≤ z ∧ z < n' := fun z hz => by
  rcases List.mem_cons.mp hz with rfl | hz
  · exact q
  · exact r z hz
/-- the contract of a body that interns nothing -/
def Ct (l : Launch) (Z : State) (y : MethodName) (by0 : ByteArray) (ml : Nat) (rt : Option FieldType) (rm : Room) (as : Array Value) (h0 : Heap) (ws : List Addr) (Q : Option Value → Heap → Prop) : Prop :=
  Ext Z.heap h0 → (∀ x ∈ ws, x < h0.size ∧ Z.heap.size ≤ x) → ∀ tw : List Jvm.Cond, MetFree l y (head1 (Jvm.Cond.code y by0 ml rt :: tw) rm) (fun a U => a = as ∧ Z.Warmed39 U.vm ∧ U.heap = h0) (fun _ _ _ _ _ => True)
    (fun _ U o U' => ∃ v L, o = .returned v ∧ (Keep h0 U'.heap ws ∧ Q v U'.heap ∧ Fr Z.heap.size L) ∧ FrameEnd U o U' L rm.cells rm.slots)
/-- what a call of z costs and gives: fr frames, lo words, cc cells, ss slots -/
def Py (l : Launch) (Z : State) (z : MethodName) (fr lo cc ss : Nat) (as : Array Value) (h : Heap) (ws : List Addr) (Q : Option Value → Heap → Prop) : Prop :=
  Ext Z.heap h → (∀ x ∈ ws, x < h.size ∧ Z.heap.size ≤ x) → ∀ (p : Program) (e : Env) (R : Room) (below : List Frame) (s : State) (args : Array Value) (len W : Nat), Z.Warmed39 s.vm → fr ≤ R.frames → W + lo ≤ R.locals →
    Back l R p e below s args z len W (fun A a => a = as ∧ A.U.heap = h ∧ A.cells + cc ≤ R.cells ∧ A.slots + ss ≤ R.slots) (fun A _ v B => ∃ L, (Keep h B.U.heap ws ∧ Q v B.U.heap ∧ Fr Z.heap.size L) ∧ B.locs = A.locs ++ L ∧ B.cells = A.cells + cc ∧ B.slots = A.slots + ss)
theorem Ct.py {l : Launch} {Z : State} {a0 : Array Value} {y : MethodName} {by0 : ByteArray} {ml : Nat} {rt : Option FieldType} {rm : Room} {as : Array Value} {h0 : Heap} {ws : List Addr} {Q : Option Value → Heap → Prop} (hM : Ct l Z y by0 ml rt rm as h0 ws Q) (wc : (Cond.code y by0 ml rt).before a0 Z = true) (wz : (Cond.initialized y.cls).before a0 Z = true) : Py l Z y (rm.frames + 1) (ml + 11 + rm.locals) rm.cells rm.slots as h0 ws Q :=
  fun hO hws p e R below s args len W hZ hf hl => backOf (W := W) (Q := fun v hp L => Keep h0 hp ws ∧ Q v hp ∧ Fr Z.heap.size L) (hM hO hws []) hZ wc wz hf (by rw [Nat.add_assoc]; exact hl)
def Go (l : Launch) (R : Room) (Z : State) (ws : List Addr) (h0 : Heap) (Q : Option Value → Heap → Prop) (κ : Kx) (S : List Addr) (h : Heap) (pc : Nat) (Ls : Array Slot) (st : List Value) (ce sl : Nat) : Prop := match κ with
  | (p, e, s, m, args, below, meth, c) => ∀ T locs, Stand p l e R s m args below meth c T locs ce sl → Fr Z.heap.size locs → T.heap = h → Inv Z ws h0 S h →
    ∃ s₂ o, Steps p.tables e below (T.setTop (mkF m pc Ls st)) s₂ ∧ s₂.status = .running ∧ Ended s₂ below o ∧ ∃ v L, o = .returned v ∧ (Keep h0 s₂.heap ws ∧ Q v s₂.heap ∧ Fr Z.heap.size L) ∧ FrameEnd s o s₂ L R.cells R.slots
theorem Ct.mk {l : Launch} {Z : State} {a0 : Array Value} {y : MethodName} {by0 : ByteArray} {ml : Nat} {rt : Option FieldType} {rm : Room} {as : Array Value} {h0 : Heap} {ws : List Addr} {Q : Option Value → Heap → Prop} {Ls : Array Slot} (hpl : plainFor y = true) (hef : ∀ m, entryFrame m as ml = mkF m 0 Ls [])
    (k : ∀ κ, Cx Z a0 y by0 ml rt κ → Go l rm Z ws h0 Q κ ws h0 0 Ls [] 0 0) : Ct l Z y by0 ml rt rm as h0 ws Q := by
  intro hO hws tw
  refine MetFree.of_bodySF hpl hisR ?_
  intro p e s m args below meth c s₁ Bd hml0 hP hK
  obtain ⟨rfl, hZ, hh⟩ := hP
  have X0 : Stand p l e rm s m args below meth c s₁ [] 0 0 := Stand.of_body Bd
  have e0 : s₁.heap = h0 := by rw [← hh, Bd.state]; rfl
  obtain ⟨s₂, o, hs, r⟩ := k (p, e, s, m, args, below, meth, c) ⟨Bd.exec, Bd.bytes, hml0, findClass_of_methodNamed Bd.named, (name_of_methodNamed Bd.named Bd.method).1, Bd.returns, BodyLoose.notSynchronized Bd, hZ⟩ s₁ [] X0 (Fr.nil _) e0
    ⟨hO, Keep.refl _ _, fun x hx => ⟨(hws x hx).1, (hws x hx).2, Or.inl hx⟩⟩
  exact ⟨s₂, o, castTop (hef m) hs, r⟩
section StepsN
variable {Z : State} {a0 : Array Value} {y : MethodName} {by0 : ByteArray} {ml : Nat} {rt : Option FieldType} {l : Launch} {R : Room} {ws : List Addr} {h0 : Heap} {Q : Option Value → Heap → Prop} {κ : Kx} {S : List Addr} {h : Heap} {pc : Nat} {Ls : Array Slot} {st : List Value} {ce sl : Nat}
theorem go_iloadN (C : Cx Z a0 y by0 ml rt κ) (pc' : Nat) {j : Fin 4} {v : Int32} (hd : decode by0 pc = .ok (.iload_n j, 1)) (hpc : pc + 1 = pc') (hl : Ls[j.val]? = some (.val (.int v))) (k : Go l R Z ws h0 Q κ S h pc' Ls (.int v :: st) ce sl) : Go l R Z ws h0 Q κ S h pc Ls st ce sl := by
  subst hpc
  obtain ⟨p, e, s, m, args, below, meth, c⟩ := κ
  intro T locs X N eT I
  obtain ⟨hx, hby, hml, hown, hnm, hret, hlk, hZ⟩ := C
  obtain ⟨s₂, o, hs, r⟩ := k T _ X N eT I
  exact ⟨s₂, o, XS.iloadN X.here hx rfl (hb hby hd) hl hs, r⟩
theorem go_iload (C : Cx Z a0 y by0 ml rt κ) (pc' : Nat) {j : Nat} {v : Int32} (hd : decode by0 pc = .ok (.iload j, 2)) (hpc : pc + 2 = pc') (hl : Ls[j]? = some (.val (.int v))) (k : Go l R Z ws h0 Q κ S h pc' Ls (.int v :: st) ce sl) : Go l R Z ws h0 Q κ S h pc Ls st ce sl := by
  subst hpc
  obtain ⟨p, e, s, m, args, below, meth, c⟩ := κ
  intro T locs X N eT I
  obtain ⟨hx, hby, hml, hown, hnm, hret, hlk, hZ⟩ := C
  obtain ⟨s₂, o, hs, r⟩ := k T _ X N eT I
  exact ⟨s₂, o, XS.iload X.here hx rfl (hb hby hd) hl hs, r⟩
theorem go_aloadN (C : Cx Z a0 y by0 ml rt κ) (pc' : Nat) {j : Fin 4} {v : Value} (hd : decode by0 pc = .ok (.aload_n j, 1)) (hpc : pc + 1 = pc') (hl : Ls[j.val]? = some (.val v)) (hv : v.isRef = true) (k : Go l R Z ws h0 Q κ S h pc' Ls (v :: st) ce sl) : Go l R Z ws h0 Q κ S h pc Ls st ce sl := by
  subst hpc
  obtain ⟨p, e, s, m, args, below, meth, c⟩ := κ
  intro T locs X N eT I
  obtain ⟨hx, hby, hml, hown, hnm, hret, hlk, hZ⟩ := C
  obtain ⟨s₂, o, hs, r⟩ := k T _ X N eT I
  exact ⟨s₂, o, XS.aloadN X.here hx rfl (hb hby hd) hl hv hs, r⟩
theorem go_aload (C : Cx Z a0 y by0 ml rt κ) (pc' : Nat) {j : Nat} {v : Value} (hd : decode by0 pc = .ok (.aload j, 2)) (hpc : pc + 2 = pc') (hl : Ls[j]? = some (.val v)) (hv : v.isRef = true) (k : Go l R Z ws h0 Q κ S h pc' Ls (v :: st) ce sl) : Go l R Z ws h0 Q κ S h pc Ls st ce sl := by
  subst hpc
  obtain ⟨p, e, s, m, args, below, meth, c⟩ := κ
  intro T locs X N eT I
  obtain ⟨hx, hby, hml, hown, hnm, hret, hlk, hZ⟩ := C
  obtain ⟨s₂, o, hs, r⟩ := k T _ X N eT I
  exact ⟨s₂, o, XS.aload X.here hx rfl (hb hby hd) hl hv hs, r⟩
theorem go_iconst (C : Cx Z a0 y by0 ml rt κ) (pc' : Nat) {i : Int} (v : Int32) (hd : decode by0 pc = .ok (.iconst i, 1)) (hpc : pc + 1 = pc') (hv : Int32.ofInt i = v) (k : Go l R Z ws h0 Q κ S h pc' Ls (.int v :: st) ce sl) : Go l R Z ws h0 Q κ S h pc Ls st ce sl := by
  subst hpc
  obtain ⟨p, e, s, m, args, below, meth, c⟩ := κ
  intro T locs X N eT I
  obtain ⟨hx, hby, hml, hown, hnm, hret, hlk, hZ⟩ := C
  obtain ⟨s₂, o, hs, r⟩ := k T _ X N eT I
  exact ⟨s₂, o, XT.iconstV X.here hx rfl v (hb hby hd) hv hs, r⟩
theorem go_bipush (C : Cx Z a0 y by0 ml rt κ) (pc' : Nat) {i : Int} (v : Int32) (hd : decode by0 pc = .ok (.bipush i, 2)) (hpc : pc + 2 = pc') (hv : (Int8.ofInt i).toInt32 = v) (k : Go l R Z ws h0 Q κ S h pc' Ls (.int v :: st) ce sl) : Go l R Z ws h0 Q κ S h pc Ls st ce sl := by
  subst hpc
  obtain ⟨p, e, s, m, args, below, meth, c⟩ := κ
  intro T locs X N eT I
  obtain ⟨hx, hby, hml, hown, hnm, hret, hlk, hZ⟩ := C
  obtain ⟨s₂, o, hs, r⟩ := k T _ X N eT I
  exact ⟨s₂, o, XT.bipushV X.here hx rfl v (hb hby hd) hv hs, r⟩
theorem go_sipush (C : Cx Z a0 y by0 ml rt κ) (pc' : Nat) {i : Int} (v : Int32) (hd : decode by0 pc = .ok (.sipush i, 3)) (hpc : pc + 3 = pc') (hv : (Int16.ofInt i).toInt32 = v) (k : Go l R Z ws h0 Q κ S h pc' Ls (.int v :: st) ce sl) : Go l R Z ws h0 Q κ S h pc Ls st ce sl := by
  subst hpc
  obtain ⟨p, e, s, m, args, below, meth, c⟩ := κ
  intro T locs X N eT I
  obtain ⟨hx, hby, hml, hown, hnm, hret, hlk, hZ⟩ := C
  obtain ⟨s₂, o, hs, r⟩ := k T _ X N eT I
  exact ⟨s₂, o, XT.sipushV X.here hx rfl v (hb hby hd) hv hs, r⟩
theorem go_aconstNull (C : Cx Z a0 y by0 ml rt κ) (pc' : Nat)  (hd : decode by0 pc = .ok (.aconst_null, 1)) (hpc : pc + 1 = pc')  (k : Go l R Z ws h0 Q κ S h pc' Ls (.null :: st) ce sl) : Go l R Z ws h0 Q κ S h pc Ls st ce sl := by
  subst hpc
  obtain ⟨p, e, s, m, args, below, meth, c⟩ := κ
  intro T locs X N eT I
  obtain ⟨hx, hby, hml, hown, hnm, hret, hlk, hZ⟩ := C
  obtain ⟨s₂, o, hs, r⟩ := k T _ X N eT I
  exact ⟨s₂, o, XS.aconstNull X.here hx rfl (hb hby hd) hs, r⟩
theorem go_isub (C : Cx Z a0 y by0 ml rt κ) (pc' : Nat) {x z : Int32} (v : Int32) (hd : decode by0 pc = .ok (.isub, 1)) (hpc : pc + 1 = pc') (hv : x - z = v) (k : Go l R Z ws h0 Q κ S h pc' Ls (.int v :: st) ce sl) : Go l R Z ws h0 Q κ S h pc Ls (.int z :: .int x :: st) ce sl := by
  subst hpc
  subst hv
  obtain ⟨p, e, s, m, args, below, meth, c⟩ := κ
  intro T locs X N eT I
  obtain ⟨hx, hby, hml, hown, hnm, hret, hlk, hZ⟩ := C
  obtain ⟨s₂, o, hs, r⟩ := k T _ X N eT I
  exact ⟨s₂, o, XS.isub X.here hx rfl (hb hby hd) rfl hs, r⟩
theorem go_iand (C : Cx Z a0 y by0 ml rt κ) (pc' : Nat) {x z : Int32} (v : Int32) (hd : decode by0 pc = .ok (.iand, 1)) (hpc : pc + 1 = pc') (hv : x &&& z = v) (k : Go l R Z ws h0 Q κ S h pc' Ls (.int v :: st) ce sl) : Go l R Z ws h0 Q κ S h pc Ls (.int z :: .int x :: st) ce sl := by
  subst hpc
  subst hv
  obtain ⟨p, e, s, m, args, below, meth, c⟩ := κ
  intro T locs X N eT I
  obtain ⟨hx, hby, hml, hown, hnm, hret, hlk, hZ⟩ := C
  obtain ⟨s₂, o, hs, r⟩ := k T _ X N eT I
  exact ⟨s₂, o, XS.iand X.here hx rfl (hb hby hd) rfl hs, r⟩
theorem go_ior (C : Cx Z a0 y by0 ml rt κ) (pc' : Nat) {x z : Int32} (v : Int32) (hd : decode by0 pc = .ok (.ior, 1)) (hpc : pc + 1 = pc') (hv : x ||| z = v) (k : Go l R Z ws h0 Q κ S h pc' Ls (.int v :: st) ce sl) : Go l R Z ws h0 Q κ S h pc Ls (.int z :: .int x :: st) ce sl := by
  subst hpc
  subst hv
  obtain ⟨p, e, s, m, args, below, meth, c⟩ := κ
  intro T locs X N eT I
  obtain ⟨hx, hby, hml, hown, hnm, hret, hlk, hZ⟩ := C
  obtain ⟨s₂, o, hs, r⟩ := k T _ X N eT I
  exact ⟨s₂, o, XT.ior X.here hx rfl (hb hby hd) rfl hs, r⟩
theorem go_ishl (C : Cx Z a0 y by0 ml rt κ) (pc' : Nat) {x z : Int32} (v : Int32) (hd : decode by0 pc = .ok (.ishl, 1)) (hpc : pc + 1 = pc') (hv : x <<< (z &&& 31) = v) (k : Go l R Z ws h0 Q κ S h pc' Ls (.int v :: st) ce sl) : Go l R Z ws h0 Q κ S h pc Ls (.int z :: .int x :: st) ce sl := by
  subst hpc
  subst hv
  obtain ⟨p, e, s, m, args, below, meth, c⟩ := κ
  intro T locs X N eT I
  obtain ⟨hx, hby, hml, hown, hnm, hret, hlk, hZ⟩ := C
  obtain ⟨s₂, o, hs, r⟩ := k T _ X N eT I
  exact ⟨s₂, o, XT.ishl X.here hx rfl (hb hby hd) rfl hs, r⟩
theorem go_ishr (C : Cx Z a0 y by0 ml rt κ) (pc' : Nat) {x z : Int32} (v : Int32) (hd : decode by0 pc = .ok (.ishr, 1)) (hpc : pc + 1 = pc') (hv : x >>> (z &&& 31) = v) (k : Go l R Z ws h0 Q κ S h pc' Ls (.int v :: st) ce sl) : Go l R Z ws h0 Q κ S h pc Ls (.int z :: .int x :: st) ce sl := by
  subst hpc
  subst hv
  obtain ⟨p, e, s, m, args, below, meth, c⟩ := κ
  intro T locs X N eT I
  obtain ⟨hx, hby, hml, hown, hnm, hret, hlk, hZ⟩ := C
  obtain ⟨s₂, o, hs, r⟩ := k T _ X N eT I
  exact ⟨s₂, o, XT.ishr X.here hx rfl (hb hby hd) rfl hs, r⟩
theorem go_iushr (C : Cx Z a0 y by0 ml rt κ) (pc' : Nat) {x z : Int32} (v : Int32) (hd : decode by0 pc = .ok (.iushr, 1)) (hpc : pc + 1 = pc') (hv : XT.ushr x z = v) (k : Go l R Z ws h0 Q κ S h pc' Ls (.int v :: st) ce sl) : Go l R Z ws h0 Q κ S h pc Ls (.int z :: .int x :: st) ce sl := by
  subst hpc
  subst hv
  obtain ⟨p, e, s, m, args, below, meth, c⟩ := κ
  intro T locs X N eT I
  obtain ⟨hx, hby, hml, hown, hnm, hret, hlk, hZ⟩ := C
  obtain ⟨s₂, o, hs, r⟩ := k T _ X N eT I
  exact ⟨s₂, o, XT.iushr X.here hx rfl (hb hby hd) rfl hs, r⟩
theorem go_i2b (C : Cx Z a0 y by0 ml rt κ) (pc' : Nat) {x : Int32} (v : Int32) (hd : decode by0 pc = .ok (.i2b, 1)) (hpc : pc + 1 = pc') (hv : x.toInt8.toInt32 = v) (k : Go l R Z ws h0 Q κ S h pc' Ls (.int v :: st) ce sl) : Go l R Z ws h0 Q κ S h pc Ls (.int x :: st) ce sl := by
  subst hpc
  subst hv
  obtain ⟨p, e, s, m, args, below, meth, c⟩ := κ
  intro T locs X N eT I
  obtain ⟨hx, hby, hml, hown, hnm, hret, hlk, hZ⟩ := C
  obtain ⟨s₂, o, hs, r⟩ := k T _ X N eT I
  exact ⟨s₂, o, XT.i2b X.here hx rfl (hb hby hd) rfl hs, r⟩
theorem go_i2c (C : Cx Z a0 y by0 ml rt κ) (pc' : Nat) {x : Int32} (v : Int32) (hd : decode by0 pc = .ok (.i2c, 1)) (hpc : pc + 1 = pc') (hv : x.toUInt32.toUInt16.toUInt32.toInt32 = v) (k : Go l R Z ws h0 Q κ S h pc' Ls (.int v :: st) ce sl) : Go l R Z ws h0 Q κ S h pc Ls (.int x :: st) ce sl := by
  subst hpc
  subst hv
  obtain ⟨p, e, s, m, args, below, meth, c⟩ := κ
  intro T locs X N eT I
  obtain ⟨hx, hby, hml, hown, hnm, hret, hlk, hZ⟩ := C
  obtain ⟨s₂, o, hs, r⟩ := k T _ X N eT I
  exact ⟨s₂, o, XT.i2c X.here hx rfl (hb hby hd) rfl hs, r⟩
theorem go_dup (C : Cx Z a0 y by0 ml rt κ) (pc' : Nat) {x : Value} (hd : decode by0 pc = .ok (.dup, 1)) (hpc : pc + 1 = pc') (hc : x.category = 1) (k : Go l R Z ws h0 Q κ S h pc' Ls (x :: x :: st) ce sl) : Go l R Z ws h0 Q κ S h pc Ls (x :: st) ce sl := by
  subst hpc
  obtain ⟨p, e, s, m, args, below, meth, c⟩ := κ
  intro T locs X N eT I
  obtain ⟨hx, hby, hml, hown, hnm, hret, hlk, hZ⟩ := C
  obtain ⟨s₂, o, hs, r⟩ := k T _ X N eT I
  exact ⟨s₂, o, XS.dup X.here hx rfl (hb hby hd) rfl hc hs, r⟩
theorem go_istoreN (C : Cx Z a0 y by0 ml rt κ) (pc' : Nat) {j : Fin 4} {x : Int32} {Ls' : Array Slot} (hd : decode by0 pc = .ok (.istore_n j, 1)) (hpc : pc + 1 = pc') (hl : storeLocals Ls j.val (.int x) = some Ls') (k : Go l R Z ws h0 Q κ S h pc' Ls' st ce sl) : Go l R Z ws h0 Q κ S h pc Ls (.int x :: st) ce sl := by
  subst hpc
  obtain ⟨p, e, s, m, args, below, meth, c⟩ := κ
  intro T locs X N eT I
  obtain ⟨hx, hby, hml, hown, hnm, hret, hlk, hZ⟩ := C
  obtain ⟨s₂, o, hs, r⟩ := k T _ X N eT I
  exact ⟨s₂, o, XS.istoreN X.here hx rfl (hb hby hd) rfl hl hs, r⟩
theorem go_istore (C : Cx Z a0 y by0 ml rt κ) (pc' : Nat) {j : Nat} {x : Int32} {Ls' : Array Slot} (hd : decode by0 pc = .ok (.istore j, 2)) (hpc : pc + 2 = pc') (hl : storeLocals Ls j (.int x) = some Ls') (k : Go l R Z ws h0 Q κ S h pc' Ls' st ce sl) : Go l R Z ws h0 Q κ S h pc Ls (.int x :: st) ce sl := by
  subst hpc
  obtain ⟨p, e, s, m, args, below, meth, c⟩ := κ
  intro T locs X N eT I
  obtain ⟨hx, hby, hml, hown, hnm, hret, hlk, hZ⟩ := C
  obtain ⟨s₂, o, hs, r⟩ := k T _ X N eT I
  exact ⟨s₂, o, XS.istore X.here hx rfl (hb hby hd) rfl hl hs, r⟩
theorem go_astoreN (C : Cx Z a0 y by0 ml rt κ) (pc' : Nat) {j : Fin 4} {x : Value} {Ls' : Array Slot} (hd : decode by0 pc = .ok (.astore_n j, 1)) (hpc : pc + 1 = pc') (hv : x.isRef = true) (hl : storeLocals Ls j.val x = some Ls') (k : Go l R Z ws h0 Q κ S h pc' Ls' st ce sl) : Go l R Z ws h0 Q κ S h pc Ls (x :: st) ce sl := by
  subst hpc
  obtain ⟨p, e, s, m, args, below, meth, c⟩ := κ
  intro T locs X N eT I
  obtain ⟨hx, hby, hml, hown, hnm, hret, hlk, hZ⟩ := C
  obtain ⟨s₂, o, hs, r⟩ := k T _ X N eT I
  exact ⟨s₂, o, XS.astoreN X.here hx rfl (hb hby hd) rfl hv hl hs, r⟩
theorem go_astore (C : Cx Z a0 y by0 ml rt κ) (pc' : Nat) {j : Nat} {x : Value} {Ls' : Array Slot} (hd : decode by0 pc = .ok (.astore j, 2)) (hpc : pc + 2 = pc') (hv : x.isRef = true) (hl : storeLocals Ls j x = some Ls') (k : Go l R Z ws h0 Q κ S h pc' Ls' st ce sl) : Go l R Z ws h0 Q κ S h pc Ls (x :: st) ce sl := by
  subst hpc
  obtain ⟨p, e, s, m, args, below, meth, c⟩ := κ
  intro T locs X N eT I
  obtain ⟨hx, hby, hml, hown, hnm, hret, hlk, hZ⟩ := C
  obtain ⟨s₂, o, hs, r⟩ := k T _ X N eT I
  exact ⟨s₂, o, XS.astore X.here hx rfl (hb hby hd) rfl hv hl hs, r⟩
theorem go_iinc (C : Cx Z a0 y by0 ml rt κ) (pc' : Nat) {j : Nat} {i : Int} {x : Int32} {Ls' : Array Slot} (v : Int32) (hd : decode by0 pc = .ok (.iinc j i, 3)) (hpc : pc + 3 = pc') (hv : Int32.ofInt i = v) (hg : Ls[j]? = some (.val (.int x))) (hl : storeLocals Ls j (.int (x + v)) = some Ls') (k : Go l R Z ws h0 Q κ S h pc' Ls' st ce sl) : Go l R Z ws h0 Q κ S h pc Ls st ce sl := by
  subst hpc
  obtain ⟨p, e, s, m, args, below, meth, c⟩ := κ
  intro T locs X N eT I
  obtain ⟨hx, hby, hml, hown, hnm, hret, hlk, hZ⟩ := C
  obtain ⟨s₂, o, hs, r⟩ := k T _ X N eT I
  exact ⟨s₂, o, XT.iincV X.here hx rfl v (hb hby hd) hv hg hl hs, r⟩
theorem go_ifN (C : Cx Z a0 y by0 ml rt κ) (pc' : Nat) {o : Int} {cd : ClassFile.Cond} {x : Int32} (hd : decode by0 pc = .ok (.ifCond cd o, 3)) (hpc : pc + 3 = pc') (hc : if_icmp.holds cd x 0 = false) (k : Go l R Z ws h0 Q κ S h pc' Ls st ce sl) : Go l R Z ws h0 Q κ S h pc Ls (.int x :: st) ce sl := by
  subst hpc
  obtain ⟨p, e, s, m, args, below, meth, c⟩ := κ
  intro T locs X N eT I
  obtain ⟨hx, hby, hml, hown, hnm, hret, hlk, hZ⟩ := C
  obtain ⟨s₂, o, hs, r⟩ := k T _ X N eT I
  exact ⟨s₂, o, XS.ifNo X.here hx rfl (hb hby hd) rfl ((if0 _ _).trans hc) hs, r⟩
theorem go_icmpN (C : Cx Z a0 y by0 ml rt κ) (pc' : Nat) {o : Int} {cd : ClassFile.Cond} {x z : Int32} (hd : decode by0 pc = .ok (.if_icmp cd o, 3)) (hpc : pc + 3 = pc') (hc : if_icmp.holds cd x z = false) (k : Go l R Z ws h0 Q κ S h pc' Ls st ce sl) : Go l R Z ws h0 Q κ S h pc Ls (.int z :: .int x :: st) ce sl := by
  subst hpc
  obtain ⟨p, e, s, m, args, below, meth, c⟩ := κ
  intro T locs X N eT I
  obtain ⟨hx, hby, hml, hown, hnm, hret, hlk, hZ⟩ := C
  obtain ⟨s₂, o, hs, r⟩ := k T _ X N eT I
  exact ⟨s₂, o, XS.icmpNo X.here hx rfl (hb hby hd) rfl hc hs, r⟩
theorem go_ifnonnullN (C : Cx Z a0 y by0 ml rt κ) (pc' : Nat) {o : Int} (hd : decode by0 pc = .ok (.ifnonnull o, 3)) (hpc : pc + 3 = pc')  (k : Go l R Z ws h0 Q κ S h pc' Ls st ce sl) : Go l R Z ws h0 Q κ S h pc Ls (.null :: st) ce sl := by
  subst hpc
  obtain ⟨p, e, s, m, args, below, meth, c⟩ := κ
  intro T locs X N eT I
  obtain ⟨hx, hby, hml, hown, hnm, hret, hlk, hZ⟩ := C
  obtain ⟨s₂, o, hs, r⟩ := k T _ X N eT I
  exact ⟨s₂, o, XT.ifnonnullNo X.here hx rfl (hb hby hd) rfl hs, r⟩
theorem go_ldcInt (C : Cx Z a0 y by0 ml rt κ) (pc' : Nat) {ix : Nat} {v : Int32} (hd : decode by0 pc = .ok (.ldc ix, 2)) (hpc : pc + 2 = pc') (w : (Cond.constant y.cls ix v).before a0 Z = true) (k : Go l R Z ws h0 Q κ S h pc' Ls (.int v :: st) ce sl) : Go l R Z ws h0 Q κ S h pc Ls st ce sl := by
  subst hpc
  obtain ⟨p, e, s, m, args, below, meth, c⟩ := κ
  intro T locs X N eT I
  obtain ⟨hx, hby, hml, hown, hnm, hret, hlk, hZ⟩ := C
  obtain ⟨s₂, o, hs, r⟩ := k T _ X N eT I
  exact ⟨s₂, o, X.ldcInt hx hown (mvT hZ w) (g := mkF m pc Ls st) rfl (hb hby hd) _ hs, r⟩
theorem go_caload (C : Cx Z a0 y by0 ml rt κ) (pc' : Nat) {a : Addr} {kc : ClassId} {n j : Int32} {vs : List Value} {d v : Value} (hd : decode by0 pc = .ok (.caload, 1)) (hpc : pc + 1 = pc') (F : Arv Z h a kc .char n vs d) (hj : ¬ j < 0 ∧ j < n) (hv : vs.getD j.toNatClampNeg d = v) (k : Go l R Z ws h0 Q κ S h pc' Ls (v :: st) ce sl) : Go l R Z ws h0 Q κ S h pc Ls (.int j :: .ref a :: st) ce sl := by
  subst hpc
  obtain ⟨p, e, s, m, args, below, meth, c⟩ := κ
  intro T locs X N eT I
  obtain ⟨hx, hby, hml, hown, hnm, hret, hlk, hZ⟩ := C
  obtain ⟨s₂, o, hs, r⟩ := k T _ X N eT I
  obtain ⟨_, A, q1, S1, q3, H, G⟩ := F
  exact ⟨s₂, o, X.caload hx (j := j) (by rw [eT]; exact A.1) (State.isArrayOf_alike hZ.alike A.2.1) A.2.2 (inb_of S1 hj) (H.at (inb_of S1 hj) hv) (g := mkF m pc Ls (.int j :: .ref a :: st)) rfl rfl (hb hby hd) _ hs, r⟩
theorem go_baload (C : Cx Z a0 y by0 ml rt κ) (pc' : Nat) {a : Addr} {kc : ClassId} {n j : Int32} {vs : List Value} {d v : Value} (hd : decode by0 pc = .ok (.baload, 1)) (hpc : pc + 1 = pc') (F : Arv Z h a kc .byte n vs d) (hj : ¬ j < 0 ∧ j < n) (hv : vs.getD j.toNatClampNeg d = v) (k : Go l R Z ws h0 Q κ S h pc' Ls (v :: st) ce sl) : Go l R Z ws h0 Q κ S h pc Ls (.int j :: .ref a :: st) ce sl := by
  subst hpc
  obtain ⟨p, e, s, m, args, below, meth, c⟩ := κ
  intro T locs X N eT I
  obtain ⟨hx, hby, hml, hown, hnm, hret, hlk, hZ⟩ := C
  obtain ⟨s₂, o, hs, r⟩ := k T _ X N eT I
  obtain ⟨_, A, q1, S1, q3, H, G⟩ := F
  exact ⟨s₂, o, X.baloadBytes hx (j := j) (by rw [eT]; exact A.1) (State.isArrayOf_alike hZ.alike A.2.1) A.2.2 (inb_of S1 hj) (H.at (inb_of S1 hj) hv) (g := mkF m pc Ls (.int j :: .ref a :: st)) rfl rfl (hb hby hd) _ hs, r⟩
theorem go_aaload (C : Cx Z a0 y by0 ml rt κ) (pc' : Nat) {a : Addr} {kc : ClassId} {ty : FieldType} {n j : Int32} {vs : List Value} {d v : Value} (hd : decode by0 pc = .ok (.aaload, 1)) (hpc : pc + 1 = pc') (F : Arv Z h a kc ty n vs d) (ht : ty.isReference = true) (hj : ¬ j < 0 ∧ j < n) (hv : vs.getD j.toNatClampNeg d = v) (k : Go l R Z ws h0 Q κ S h pc' Ls (v :: st) ce sl) : Go l R Z ws h0 Q κ S h pc Ls (.int j :: .ref a :: st) ce sl := by
  subst hpc
  obtain ⟨p, e, s, m, args, below, meth, c⟩ := κ
  intro T locs X N eT I
  obtain ⟨hx, hby, hml, hown, hnm, hret, hlk, hZ⟩ := C
  obtain ⟨s₂, o, hs, r⟩ := k T _ X N eT I
  obtain ⟨_, A, q1, S1, q3, H, G⟩ := F
  exact ⟨s₂, o, X.aaload hx (j := j) (by rw [eT]; exact A.1) (State.isArrayOf_alike hZ.alike A.2.1) ht A.2.2 (inb_of S1 hj) (H.at (inb_of S1 hj) hv) (g := mkF m pc Ls (.int j :: .ref a :: st)) rfl rfl (hb hby hd) _ hs, r⟩
theorem go_arraylength (C : Cx Z a0 y by0 ml rt κ) (pc' : Nat) {a : Addr} {kc : ClassId} {ty : FieldType} {n : Int32} {vs : List Value} {d : Value} (hd : decode by0 pc = .ok (.arraylength, 1)) (hpc : pc + 1 = pc') (F : Arv Z h a kc ty n vs d) (k : Go l R Z ws h0 Q κ S h pc' Ls (.int n :: st) ce sl) : Go l R Z ws h0 Q κ S h pc Ls (.ref a :: st) ce sl := by
  subst hpc
  obtain ⟨p, e, s, m, args, below, meth, c⟩ := κ
  intro T locs X N eT I
  obtain ⟨hx, hby, hml, hown, hnm, hret, hlk, hZ⟩ := C
  obtain ⟨s₂, o, hs, r⟩ := k T _ X N eT I
  obtain ⟨cl, A, q1, S1, q3, H, G⟩ := F
  rw [← len_of S1 q3] at hs
  exact ⟨s₂, o, X.arraylength hx (by rw [eT]; exact A.1) (State.isArrayOf_alike hZ.alike A.2.1) (g := mkF m pc Ls (.ref a :: st)) rfl rfl (hb hby hd) _ hs, r⟩
theorem go_goto (C : Cx Z a0 y by0 ml rt κ) {o : Int} {pc' : Nat} (hd : decode by0 pc = .ok (.goto o, 3))  (ho : 0 ≤ (pc : Int) + o) (hp : ((pc : Int) + o).toNat = pc') (k : Go l R Z ws h0 Q κ S h pc' Ls st ce sl) : Go l R Z ws h0 Q κ S h pc Ls st ce sl := by
  obtain ⟨p, e, s, m, args, below, meth, c⟩ := κ
  intro T locs X N eT I
  obtain ⟨hx, hby, hml, hown, hnm, hret, hlk, hZ⟩ := C
  obtain ⟨s₂, o, hs, r⟩ := k T _ X N eT I
  exact ⟨s₂, o, XS.goto X.here hx rfl (pc0 := pc) rfl (hb hby hd) ho hp hs, r⟩
theorem go_ifY (C : Cx Z a0 y by0 ml rt κ) {o : Int} {cd : ClassFile.Cond} {x : Int32} {pc' : Nat} (hd : decode by0 pc = .ok (.ifCond cd o, 3)) (hc : if_icmp.holds cd x 0 = true) (ho : 0 ≤ (pc : Int) + o) (hp : ((pc : Int) + o).toNat = pc') (k : Go l R Z ws h0 Q κ S h pc' Ls st ce sl) : Go l R Z ws h0 Q κ S h pc Ls (.int x :: st) ce sl := by
  obtain ⟨p, e, s, m, args, below, meth, c⟩ := κ
  intro T locs X N eT I
  obtain ⟨hx, hby, hml, hown, hnm, hret, hlk, hZ⟩ := C
  obtain ⟨s₂, o, hs, r⟩ := k T _ X N eT I
  exact ⟨s₂, o, XS.ifYes X.here hx rfl (pc0 := pc) rfl (hb hby hd) rfl ((if0 _ _).trans hc) ho hp hs, r⟩
theorem go_icmpY (C : Cx Z a0 y by0 ml rt κ) {o : Int} {cd : ClassFile.Cond} {x z : Int32} {pc' : Nat} (hd : decode by0 pc = .ok (.if_icmp cd o, 3)) (hc : if_icmp.holds cd x z = true) (ho : 0 ≤ (pc : Int) + o) (hp : ((pc : Int) + o).toNat = pc') (k : Go l R Z ws h0 Q κ S h pc' Ls st ce sl) : Go l R Z ws h0 Q κ S h pc Ls (.int z :: .int x :: st) ce sl := by
  obtain ⟨p, e, s, m, args, below, meth, c⟩ := κ
  intro T locs X N eT I
  obtain ⟨hx, hby, hml, hown, hnm, hret, hlk, hZ⟩ := C
  obtain ⟨s₂, o, hs, r⟩ := k T _ X N eT I
  exact ⟨s₂, o, XS.icmpYes X.here hx rfl (pc0 := pc) rfl (hb hby hd) rfl hc ho hp hs, r⟩
theorem go_ifnullY (C : Cx Z a0 y by0 ml rt κ) {o : Int} {pc' : Nat} (hd : decode by0 pc = .ok (.ifnull o, 3))  (ho : 0 ≤ (pc : Int) + o) (hp : ((pc : Int) + o).toNat = pc') (k : Go l R Z ws h0 Q κ S h pc' Ls st ce sl) : Go l R Z ws h0 Q κ S h pc Ls (.null :: st) ce sl := by
  obtain ⟨p, e, s, m, args, below, meth, c⟩ := κ
  intro T locs X N eT I
  obtain ⟨hx, hby, hml, hown, hnm, hret, hlk, hZ⟩ := C
  obtain ⟨s₂, o, hs, r⟩ := k T _ X N eT I
  exact ⟨s₂, o, XS.ifnullYes X.here hx rfl (pc0 := pc) rfl (hb hby hd) rfl ho hp hs, r⟩
theorem go_ifnonnullY (C : Cx Z a0 y by0 ml rt κ) {o : Int} {b : Addr} {pc' : Nat} (hd : decode by0 pc = .ok (.ifnonnull o, 3))  (ho : 0 ≤ (pc : Int) + o) (hp : ((pc : Int) + o).toNat = pc') (k : Go l R Z ws h0 Q κ S h pc' Ls st ce sl) : Go l R Z ws h0 Q κ S h pc Ls (.ref b :: st) ce sl := by
  obtain ⟨p, e, s, m, args, below, meth, c⟩ := κ
  intro T locs X N eT I
  obtain ⟨hx, hby, hml, hown, hnm, hret, hlk, hZ⟩ := C
  obtain ⟨s₂, o, hs, r⟩ := k T _ X N eT I
  exact ⟨s₂, o, XT.ifnonnullYes X.here hx rfl (pc0 := pc) rfl (hb hby hd) rfl ho hp hs, r⟩
theorem go_acmp (C : Cx Z a0 y by0 ml rt κ) {o : Int} {cd : ACond} {x z : Value} {b : Bool} {pc' : Nat} (hd : decode by0 pc = .ok (.if_acmp cd o, 3)) (h1 : x.isRef = true) (h2 : z.isRef = true) (hq : decide (x = z) = b) (ho : 0 ≤ (pc : Int) + o) (hp : pc' = if acV cd b = true then ((pc : Int) + o).toNat else pc + 3) (k : Go l R Z ws h0 Q κ S h pc' Ls st ce sl) : Go l R Z ws h0 Q κ S h pc Ls (z :: x :: st) ce sl := by
  obtain ⟨p, e, s, m, args, below, meth, c⟩ := κ
  intro T locs X N eT I
  obtain ⟨hx, hby, hml, hown, hnm, hret, hlk, hZ⟩ := C
  obtain ⟨s₂, o, hs, r⟩ := k T _ X N eT I
  exact ⟨s₂, o, Jvm.RoadKit.acmp (g := mkF m pc Ls (z :: x :: st)) X hx rfl h1 h2 (pc0 := pc) rfl (hb hby hd) rfl hq ho hp hs, r⟩
theorem go_getF (C : Cx Z a0 y by0 ml rt κ) (pc' : Nat) {ix : Nat} {R0 O n d : String} {a : Addr} {v : Value} (hd : decode by0 pc = .ok (.getfield ix, 3)) (hpc : pc + 3 = pc') (w : (Cond.fieldLink y.cls ix R0 n d).before a0 Z = true) (via : Via Z R0 O n d) (F : Fld Z h a O n d v) (k : Go l R Z ws h0 Q κ S h pc' Ls (v :: st) ce sl) : Go l R Z ws h0 Q κ S h pc Ls (.ref a :: st) ce sl := by
  subst hpc
  obtain ⟨p, e, s, m, args, below, meth, c⟩ := κ
  intro T locs X N eT I
  obtain ⟨hx, hby, hml, hown, hnm, hret, hlk, hZ⟩ := C
  obtain ⟨T', X', e', st'⟩ := getF X hx hZ hown (host := "") (Or.inl w) via eT F (g := mkF m pc Ls (.ref a :: st)) rfl rfl (hb hby hd)
  obtain ⟨s₂, o, hs, r⟩ := k T' _ X' N e' I
  exact ⟨s₂, o, st' _ hs, r⟩
theorem go_getS (C : Cx Z a0 y by0 ml rt κ) (pc' : Nat) {ix : Nat} {O n d : String} {v : Value} (hd : decode by0 pc = .ok (.getstatic ix, 3)) (hpc : pc + 3 = pc') (w : (Cond.fieldLink y.cls ix O n d).before a0 Z = true) (F : Sta Z Z.heap O n d v) (k : Go l R Z ws h0 Q κ S h pc' Ls (v :: st) ce sl) : Go l R Z ws h0 Q κ S h pc Ls st ce sl := by
  subst hpc
  obtain ⟨p, e, s, m, args, below, meth, c⟩ := κ
  intro T locs X N eT I
  obtain ⟨hx, hby, hml, hown, hnm, hret, hlk, hZ⟩ := C
  obtain ⟨T', X', e', st'⟩ := getS2 X hx hZ hown (host := "") (Or.inl w) Via.refl eT (F.ext I.1) (g := mkF m pc Ls st) rfl (hb hby hd)
  obtain ⟨s₂, o, hs, r⟩ := k T' _ X' N e' I
  exact ⟨s₂, o, st' _ hs, r⟩
theorem go_initO (C : Cx Z a0 y by0 ml rt κ) (pc' : Nat) {ix : Nat} {a : Addr} {W : Nat} (hd : decode by0 pc = .ok (.invokespecial ix, 3)) (hpc : pc + 3 = pc') (w1 : (Cond.methodLink y.cls ix Lib.objectInit).before a0 Z = true) (w2 : (Cond.instanceMethod Lib.objectInit).before a0 Z = true) (w3 : (Cond.code Lib.objectInit ⟨#[0xb1]⟩ 1 none).before a0 Z = true) (hls : Ls.size = ml) (hf : 1 ≤ R.frames) (hW : (st.map fun v => v.category).sum ≤ W) (hlo : W + 12 ≤ R.locals) (k : Go l R Z ws h0 Q κ S h pc' Ls st ce sl) : Go l R Z ws h0 Q κ S h pc Ls (.ref a :: st) ce sl := by
  subst hpc
  obtain ⟨p, e, s, m, args, below, meth, c⟩ := κ
  intro T locs X N eT I
  obtain ⟨hx, hby, hml, hown, hnm, hret, hlk, hZ⟩ := C
  obtain ⟨T', X', e', st'⟩ := initO X hx hZ hown w1 w2 w3 eT (g := mkF m pc Ls (.ref a :: st)) rfl (hls.trans hml.symm) rfl (hb hby hd) hf (W := W) (by show 2 * 0 + _ ≤ _; rw [Nat.mul_zero, Nat.zero_add]; exact hW) hlo
  obtain ⟨s₂, o, hs, r⟩ := k T' _ X' N e' I
  exact ⟨s₂, o, st' _ hs, r⟩
theorem go_putF (C : Cx Z a0 y by0 ml rt κ) (pc' : Nat) {ix kk : Nat} {R0 O n d Cn : String} {ty : FieldType} {a : Addr} {v old : Value} (hd : decode by0 pc = .ok (.putfield ix, 3)) (hpc : pc + 3 = pc') (w : (Cond.fieldLink y.cls ix R0 n d).before a0 Z = true) (via : Via Z R0 O n d) (F : Fld Z h a O n d old) (E : Exa Z h a Cn) (L : (Cond.lays Cn O n d).before a0 Z = true ∨ ((Cond.laysFinal Cn O n d).before a0 Z = true ∧ y.cls = O ∧ y.name = "<init>")) (wi : (Cond.instantiable Cn kk).before a0 Z = true) (hty : parseFieldDescriptor d = some ty) (hn : narrow ty v = v) (hf : fits ty v = true) (ha : a ∈ S) (k : ∀ h', Wr h h' a (RoadKit.slotOf Z O n d) v → Go l R Z ws h0 Q κ S h' pc' Ls st ce sl) : Go l R Z ws h0 Q κ S h pc Ls (v :: .ref a :: st) ce sl := by
  subst hpc
  obtain ⟨p, e, s, m, args, below, meth, c⟩ := κ
  intro T locs X N eT I
  obtain ⟨hx, hby, hml, hown, hnm, hret, hlk, hZ⟩ := C
  obtain ⟨T', h', X', e', W, st'⟩ := putF X hx hZ hown (host := "") (Or.inl w) via eT F E (L.imp id fun q => ⟨q.1, q.2.1, hnm.trans q.2.2⟩) wi hty hn hf (g := mkF m pc Ls (v :: .ref a :: st)) rfl rfl (hb hby hd)
  obtain ⟨s₂, o, hs, r⟩ := (k h' W) T' _ X' (fr_snoc N (I.2.2 _ ha).2.1) e' (I.wr W ha)
  exact ⟨s₂, o, st' _ hs, r⟩
theorem go_putFN (C : Cx Z a0 y by0 ml rt κ) (pc' : Nat) {ix kk : Nat} {R0 O n d Cn : String} {ty : FieldType} {a : Addr} {v v' old : Value} (hd : decode by0 pc = .ok (.putfield ix, 3)) (hpc : pc + 3 = pc') (w : (Cond.fieldLink y.cls ix R0 n d).before a0 Z = true) (via : Via Z R0 O n d) (F : Fld Z h a O n d old) (E : Exa Z h a Cn) (L : (Cond.lays Cn O n d).before a0 Z = true ∨ ((Cond.laysFinal Cn O n d).before a0 Z = true ∧ y.cls = O ∧ y.name = "<init>")) (wi : (Cond.instantiable Cn kk).before a0 Z = true) (hty : parseFieldDescriptor d = some ty) (hn : narrow ty v = v') (hf : fits ty v' = true) (ha : a ∈ S) (k : ∀ h', Wr h h' a (RoadKit.slotOf Z O n d) v' → Go l R Z ws h0 Q κ S h' pc' Ls st ce sl) : Go l R Z ws h0 Q κ S h pc Ls (v :: .ref a :: st) ce sl := by
  subst hpc
  obtain ⟨p, e, s, m, args, below, meth, c⟩ := κ
  intro T locs X N eT I
  obtain ⟨hx, hby, hml, hown, hnm, hret, hlk, hZ⟩ := C
  obtain ⟨T', h', X', e', W, st'⟩ := putFN X hx hZ hown w via eT F E (L.imp id fun q => ⟨q.1, q.2.1, hnm.trans q.2.2⟩) wi hty hn hf (g := mkF m pc Ls (v :: .ref a :: st)) rfl rfl (hb hby hd)
  obtain ⟨s₂, o, hs, r⟩ := (k h' W) T' _ X' (fr_snoc N (I.2.2 _ ha).2.1) e' (I.wr W ha)
  exact ⟨s₂, o, st' _ hs, r⟩
theorem go_newP (C : Cx Z a0 y by0 ml rt κ) (pc' ce' sl' : Nat) {aty : ArrayType} {ty : FieldType} {n : Int32} {cap : Nat} (hd : decode by0 pc = .ok (.newarray aty, 2)) (hce : ce + 1 = ce') (hsl' : sl + cap = sl') (hpc : pc + 2 = pc') (hty : newarray.typeOf aty = ty) (w : (Cond.arrayClass ty).before a0 Z = true) (hn : ¬ n < 0) (hcap : n.toNatClampNeg ≤ cap) (hbig : cap * 8 ≤ 536870912) (hc : ce + 1 ≤ R.cells) (hsl : sl + cap ≤ R.slots) (k : ∀ (a : Addr) h' kc, a = h.size → Ext h h' → Arv Z h' a kc ty n (List.replicate n.toNatClampNeg (defaultValue ty)) (defaultValue ty) → Go l R Z ws h0 Q κ (a :: S) h' pc' Ls (.ref a :: st) ce' sl') : Go l R Z ws h0 Q κ S h pc Ls (.int n :: st) ce sl := by
  subst hpc hce hsl'
  subst hty
  obtain ⟨p, e, s, m, args, below, meth, c⟩ := κ
  intro T locs X N eT I
  obtain ⟨hx, hby, hml, hown, hnm, hret, hlk, hZ⟩ := C
  obtain ⟨T', h', kc, X', e', E, A, st'⟩ := newP X hx hZ w eT (g := mkF m pc Ls (.int n :: st)) rfl (hb hby hd) rfl hn hcap hbig hc hsl
  have V := (Arv.new A hn).pad (vs' := List.replicate n.toNatClampNeg (defaultValue (newarray.typeOf aty))) (pad_rep [] (defaultValue (newarray.typeOf aty)) n.toNatClampNeg)
  obtain ⟨s₂, o, hs, r⟩ := (k _ h' kc rfl E V) T' _ X' N e' (I.new E A.lt)
  exact ⟨s₂, o, st' _ hs, r⟩
theorem go_newR (C : Cx Z a0 y by0 ml rt κ) (pc' ce' sl' : Nat) {ix : Nat} {Cn : String} {n : Int32} {cap : Nat} (hd : decode by0 pc = .ok (.anewarray ix, 3)) (hce : ce + 1 = ce') (hsl' : sl + cap = sl') (hpc : pc + 3 = pc') (w1 : (Cond.classLink y.cls ix Cn).before a0 Z = true) (w2 : (Cond.arrayOver (.object Cn)).before a0 Z = true) (hn : ¬ n < 0) (hcap : n.toNatClampNeg ≤ cap) (hbig : cap * 8 ≤ 536870912) (hc : ce + 1 ≤ R.cells) (hsl : sl + cap ≤ R.slots) (k : ∀ (a : Addr) h' kc, a = h.size → Ext h h' → Arv Z h' a kc (.object Cn) n (List.replicate n.toNatClampNeg .null) .null → Ovr Z kc Cn → Go l R Z ws h0 Q κ (a :: S) h' pc' Ls (.ref a :: st) ce' sl') : Go l R Z ws h0 Q κ S h pc Ls (.int n :: st) ce sl := by
  subst hpc hce hsl'
  obtain ⟨p, e, s, m, args, below, meth, c⟩ := κ
  intro T locs X N eT I
  obtain ⟨hx, hby, hml, hown, hnm, hret, hlk, hZ⟩ := C
  obtain ⟨T', h', kc, X', e', E, A, OV, st'⟩ := newR X hx hZ hown w1 w2 eT (g := mkF m pc Ls (.int n :: st)) rfl (hb hby hd) rfl hn hcap hbig hc hsl
  have V := (Arv.new A hn).pad (vs' := List.replicate n.toNatClampNeg .null) (pad_rep [] .null n.toNatClampNeg)
  obtain ⟨s₂, o, hs, r⟩ := (k _ h' kc rfl E V OV) T' _ X' N e' (I.new E A.lt)
  exact ⟨s₂, o, st' _ hs, r⟩
theorem go_castore (C : Cx Z a0 y by0 ml rt κ) (pc' : Nat) {a : Addr} {kc : ClassId} {n j x : Int32} {vs : List Value} {d : Value} (i : Nat) {v : Int32} (hv : nar .char x = v) (hd : decode by0 pc = .ok (.castore, 1)) (hpc : pc + 1 = pc') (F : Arv Z h a kc .char n vs d) (hj : ¬ j < 0 ∧ j < n) (hi : j.toNatClampNeg = i) (hl : i < vs.length) (ha : a ∈ S) (k : ∀ h', Wr h h' a j.toNatClampNeg (.int v) → Arv Z h' a kc .char n (vs.set i (.int v)) d → Go l R Z ws h0 Q κ S h' pc' Ls st ce sl) : Go l R Z ws h0 Q κ S h pc Ls (.int x :: .int j :: .ref a :: st) ce sl := by
  subst hv hpc
  obtain ⟨p, e, s, m, args, below, meth, c⟩ := κ
  intro T locs X N eT I
  obtain ⟨hx, hby, hml, hown, hnm, hret, hlk, hZ⟩ := C
  obtain ⟨cl, A, q1, S1, q3, H, G⟩ := F
  obtain ⟨T', h', X', e', W, st'⟩ := stC X hx hZ eT A (inb_of S1 hj) (g := mkF m pc Ls (.int x :: .int j :: .ref a :: st)) rfl rfl (hb hby hd)
  have V := Arv.set A q1 S1 q3 H G (fits_nar_char _) W i hi hl
  obtain ⟨s₂, o, hs, r⟩ := (k h' W V) T' _ X' (fr_snoc N (I.2.2 _ ha).2.1) e' (I.wr W ha)
  exact ⟨s₂, o, st' _ hs, r⟩
theorem go_bastore (C : Cx Z a0 y by0 ml rt κ) (pc' : Nat) {a : Addr} {kc : ClassId} {n j x : Int32} {vs : List Value} {d : Value} (i : Nat) {v : Int32} (hv : nar .byte x = v) (hd : decode by0 pc = .ok (.bastore, 1)) (hpc : pc + 1 = pc') (F : Arv Z h a kc .byte n vs d) (hj : ¬ j < 0 ∧ j < n) (hi : j.toNatClampNeg = i) (hl : i < vs.length) (ha : a ∈ S) (k : ∀ h', Wr h h' a j.toNatClampNeg (.int v) → Arv Z h' a kc .byte n (vs.set i (.int v)) d → Go l R Z ws h0 Q κ S h' pc' Ls st ce sl) : Go l R Z ws h0 Q κ S h pc Ls (.int x :: .int j :: .ref a :: st) ce sl := by
  subst hv hpc
  obtain ⟨p, e, s, m, args, below, meth, c⟩ := κ
  intro T locs X N eT I
  obtain ⟨hx, hby, hml, hown, hnm, hret, hlk, hZ⟩ := C
  obtain ⟨cl, A, q1, S1, q3, H, G⟩ := F
  obtain ⟨T', h', X', e', W, st'⟩ := stB X hx hZ eT A (inb_of S1 hj) (g := mkF m pc Ls (.int x :: .int j :: .ref a :: st)) rfl rfl (hb hby hd)
  have V := Arv.set A q1 S1 q3 H G (fits_nar_byte _) W i hi hl
  obtain ⟨s₂, o, hs, r⟩ := (k h' W V) T' _ X' (fr_snoc N (I.2.2 _ ha).2.1) e' (I.wr W ha)
  exact ⟨s₂, o, st' _ hs, r⟩
theorem go_old (k : Ext Z.heap h → h0.size ≤ h.size → Go l R Z ws h0 Q κ S h pc Ls st ce sl) : Go l R Z ws h0 Q κ S h pc Ls st ce sl := by
  obtain ⟨p, e, s, m, args, below, meth, c⟩ := κ
  intro T locs X N eT I
  exact k I.1 I.2.1.1 T locs X N eT I
theorem go_ret (C : Cx Z a0 y by0 ml rt κ) (hd : decode by0 pc = .ok (.return_, 1)) (hrt : rt = none) (hc : ce ≤ R.cells) (hsl : sl ≤ R.slots) (hq : Q none h) : Go l R Z ws h0 Q κ S h pc Ls [] ce sl := by
  obtain ⟨p, e, s, m, args, below, meth, c⟩ := κ
  intro T locs X N eT I
  obtain ⟨hx, hby, hml, hown, hnm, hret, hlk, hZ⟩ := C
  obtain ⟨fs, hr, hrun, hended, hW, hsame⟩ := X.leave (v := none) (fun _ => rfl) hlk
  have hq' : Keep h0 (T.setFrames fs).heap ws ∧ Q (none) (T.setFrames fs).heap := by
    show Keep h0 T.heap ws ∧ Q _ T.heap
    rw [eT]; exact ⟨I.2.1, hq⟩
  exact ⟨_, _, X.returnOut hx (hret.trans hrt) (hb hby hd) hr, hrun, hended, _, _, rfl, ⟨hq'.1, hq'.2, N⟩, ⟨_, rfl⟩, hW, hsame.mono hc hsl⟩
theorem go_retN (C : Cx Z a0 y by0 ml rt κ) {t : FieldType} {x z : Int32} (hd : decode by0 pc = .ok (.ireturn, 1)) (hrt : rt = some t) (ht : t = .boolean ∨ t = .byte ∨ t = .char ∨ t = .short) (hz : nar t x = z) (hc : ce ≤ R.cells) (hsl : sl ≤ R.slots) (hq : Q (some (.int z)) h) : Go l R Z ws h0 Q κ S h pc Ls (.int x :: st) ce sl := by
  subst hz
  obtain ⟨p, e, s, m, args, below, meth, c⟩ := κ
  intro T locs X N eT I
  obtain ⟨hx, hby, hml, hown, hnm, hret, hlk, hZ⟩ := C
  obtain ⟨fs, hr, hrun, hended, hW, hsame⟩ := X.leave (v := some (.int (nar t x))) (fun q => by rw [hret, hrt] at q; cases q) hlk
  have hq' : Keep h0 (T.setFrames fs).heap ws ∧ Q (some (.int (nar t x))) (T.setFrames fs).heap := by
    show Keep h0 T.heap ws ∧ Q _ T.heap
    rw [eT]; exact ⟨I.2.1, hq⟩
  exact ⟨_, _, retN X hx (hret.trans hrt) ht (hb hby hd) hr, hrun, hended, _, _, rfl, ⟨hq'.1, hq'.2, N⟩, ⟨_, rfl⟩, hW, hsame.mono hc hsl⟩
theorem go_retI (C : Cx Z a0 y by0 ml rt κ) {x : Int32} (hd : decode by0 pc = .ok (.ireturn, 1)) (hrt : rt = some .int) (hc : ce ≤ R.cells) (hsl : sl ≤ R.slots) (hq : Q (some (.int x)) h) : Go l R Z ws h0 Q κ S h pc Ls (.int x :: st) ce sl := by
  obtain ⟨p, e, s, m, args, below, meth, c⟩ := κ
  intro T locs X N eT I
  obtain ⟨hx, hby, hml, hown, hnm, hret, hlk, hZ⟩ := C
  obtain ⟨fs, hr, hrun, hended, hW, hsame⟩ := X.leave (v := some (.int x)) (fun q => by rw [hret, hrt] at q; cases q) hlk
  have hq' : Keep h0 (T.setFrames fs).heap ws ∧ Q (some (.int x)) (T.setFrames fs).heap := by
    show Keep h0 T.heap ws ∧ Q _ T.heap
    rw [eT]; exact ⟨I.2.1, hq⟩
  exact ⟨_, _, retOut X hx (hret.trans hrt) rfl (Or.inl ⟨rfl, Or.inl rfl, _, rfl⟩) (hb hby hd) hr, hrun, hended, _, _, rfl, ⟨hq'.1, hq'.2, N⟩, ⟨_, rfl⟩, hW, hsame.mono hc hsl⟩
theorem go_retA (C : Cx Z a0 y by0 ml rt κ) {v : Value} {t : FieldType} (hd : decode by0 pc = .ok (.areturn, 1)) (hrt : rt = some t) (ht : t.isReference = true) (hv : v.isRef = true) (hc : ce ≤ R.cells) (hsl : sl ≤ R.slots) (hq : Q (some v) h) : Go l R Z ws h0 Q κ S h pc Ls (v :: st) ce sl := by
  obtain ⟨p, e, s, m, args, below, meth, c⟩ := κ
  intro T locs X N eT I
  obtain ⟨hx, hby, hml, hown, hnm, hret, hlk, hZ⟩ := C
  obtain ⟨fs, hr, hrun, hended, hW, hsame⟩ := X.leave (v := some v) (fun q => by rw [hret, hrt] at q; cases q) hlk
  have hq' : Keep h0 (T.setFrames fs).heap ws ∧ Q (some v) (T.setFrames fs).heap := by
    show Keep h0 T.heap ws ∧ Q _ T.heap
    rw [eT]; exact ⟨I.2.1, hq⟩
  have hn : narrow t v = v := by cases t <;> first | (cases ht; done) | (cases v <;> first | rfl | cases hv)
  exact ⟨_, _, retOut X hx (hret.trans hrt) hn (Or.inr (Or.inr (Or.inr (Or.inr ⟨rfl, ht, hv⟩)))) (hb hby hd) hr, hrun, hended, _, _, rfl, ⟨hq'.1, hq'.2, N⟩, ⟨_, rfl⟩, hW, hsame.mono hc hsl⟩
theorem go_callS (C : Cx Z a0 y by0 ml rt κ) {z : MethodName} {fr lo cc ss : Nat} {ws' : List Addr} {Qz : Option Value → Heap → Prop} {ps : List FieldType} {rr : Option FieldType} {argsL : List Value} {ix W : Nat} (hd : decode by0 pc = .ok (.invokestatic ix, 3)) {bz : ByteArray} {mlz : Nat} {rtz : Option FieldType} (w1 : (Cond.methodLink y.cls ix z).before a0 Z = true) (w2 : (Cond.static z).before a0 Z = true) (wz : (Cond.initialized z.cls).before a0 Z = true) (wc : (Cond.code z bz mlz rtz).before a0 Z = true) (hy : z.cls ≠ "java/lang/invoke/MethodHandle" ∧ z.cls ≠ "java/lang/invoke/VarHandle") (hps : parseMethodDescriptor z.desc = some ⟨ps, rr⟩) (hM : Py l Z z fr lo cc ss argsL.toArray h ws' Qz) (hlen : argsL.length = ps.length) (hf : fr ≤ R.frames) (hW : (st.map fun v => v.category).sum ≤ W) (hlo : W + lo ≤ R.locals) (hls : Ls.size = ml) (hc : ce + cc ≤ R.cells) (hsl : sl + ss ≤ R.slots) (hws : ∀ x ∈ ws', x ∈ S) (k : ∀ v h', Keep h h' ws' → Qz v h' → ∃ bs, (∀ b ∈ bs, h.size ≤ b ∧ b < h'.size) ∧ Go l R Z ws h0 Q κ (bs ++ S) h' (pc + 3) Ls (v.toList ++ st) (ce + cc) (sl + ss)) : Go l R Z ws h0 Q κ S h pc Ls (argsL.reverse ++ st) ce sl := by
  obtain ⟨p, e, s, m, args, below, meth, c⟩ := κ
  intro T locs X N eT I
  obtain ⟨hx, hby, hml, hown, hnm, hret, hlk, hZ⟩ := C
  have hO := fun x hx => (⟨(I.2.2 x (hws x hx)).1, (I.2.2 x (hws x hx)).2.1⟩ : x < h.size ∧ Z.heap.size ≤ x)
  have hB := hM I.1 hO p e R below s args 3 W hZ hf hlo
  obtain ⟨v, _, ⟨T', L', k', n'⟩, -, X', ⟨Lc, hQ, l', y', z'⟩, st'⟩ := Jvm.LawKit.callS X hx hown (mvT hZ w1) (mvT hZ w2) (mvT hZ wz) (mvT hZ wc) hy hB (g := mkF m pc Ls (argsL.reverse ++ st)) rfl (hls.trans hml.symm) (argsL := argsL) (rest := st) (lenOf hps hlen) rfl (by show 2 * 0 + _ ≤ _; rw [Nat.mul_zero, Nat.zero_add]; exact hW) (hb hby hd) (fun _ _ => ⟨rfl, eT, hc, hsl⟩)
  dsimp only [Pt.U, Pt.locs, Pt.cells, Pt.slots] at X' l' y' z' st' hQ
  subst l' y' z'
  obtain ⟨K, hQ, N'⟩ := hQ
  have NN := Fr.app N N'
  obtain ⟨bs, hbs, kk⟩ := k v T'.heap K hQ
  obtain ⟨s₂, o, hs, r⟩ := kk T' _ X' NN rfl (I.add (I.keep K hws) hbs)
  exact ⟨s₂, o, st' _ hs, r⟩
theorem go_callI (C : Cx Z a0 y by0 ml rt κ) {z : MethodName} {fr lo cc ss : Nat} {ws' : List Addr} {Qz : Option Value → Heap → Prop} {ps : List FieldType} {rr : Option FieldType} {argsL : List Value} {ix W : Nat} {a : Addr} (hd : decode by0 pc = .ok (.invokespecial ix, 3)) {bz : ByteArray} {mlz : Nat} (hin : z.name = "<init>") (w1 : (Cond.methodLink y.cls ix z).before a0 Z = true) (w2 : (Cond.instanceMethod z).before a0 Z = true) (wc : (Cond.code z bz mlz none).before a0 Z = true) (hy : z.cls ≠ "java/lang/invoke/MethodHandle" ∧ z.cls ≠ "java/lang/invoke/VarHandle") (hps : parseMethodDescriptor z.desc = some ⟨ps, rr⟩) (hM : Py l Z z fr lo cc ss (.ref a :: argsL).toArray h ws' Qz) (hlen : argsL.length = ps.length) (hf : fr ≤ R.frames) (hW : (st.map fun v => v.category).sum ≤ W) (hlo : W + lo ≤ R.locals) (hls : Ls.size = ml) (hc : ce + cc ≤ R.cells) (hsl : sl + ss ≤ R.slots) (hws : ∀ x ∈ ws', x ∈ S) (k : ∀ v h', Keep h h' ws' → Qz v h' → ∃ bs, (∀ b ∈ bs, h.size ≤ b ∧ b < h'.size) ∧ Go l R Z ws h0 Q κ (bs ++ S) h' (pc + 3) Ls (v.toList ++ st) (ce + cc) (sl + ss)) : Go l R Z ws h0 Q κ S h pc Ls (argsL.reverse ++ .ref a :: st) ce sl := by
  obtain ⟨p, e, s, m, args, below, meth, c⟩ := κ
  intro T locs X N eT I
  obtain ⟨hx, hby, hml, hown, hnm, hret, hlk, hZ⟩ := C
  have hO := fun x hx => (⟨(I.2.2 x (hws x hx)).1, (I.2.2 x (hws x hx)).2.1⟩ : x < h.size ∧ Z.heap.size ≤ x)
  have hB := hM I.1 hO p e R below s args 3 W hZ hf hlo
  obtain ⟨v, _, ⟨T', L', k', n'⟩, -, X', ⟨Lc, hQ, l', y', z'⟩, st'⟩ := X.specialBack hx hin hown (mvT hZ w1) (mvT hZ w2) (mvT hZ wc) hy hB (g := mkF m pc Ls (argsL.reverse ++ Value.ref a :: st)) rfl (hls.trans hml.symm) (Steps.refl _) (a := a) (argsL := argsL) (rest := st) (lenOf hps hlen) rfl (by show 2 * 0 + _ ≤ _; rw [Nat.mul_zero, Nat.zero_add]; exact hW) (hb hby hd) (fun _ _ => ⟨rfl, eT, hc, hsl⟩)
  dsimp only [Pt.U, Pt.locs, Pt.cells, Pt.slots] at X' l' y' z' st' hQ
  subst l' y' z'
  obtain ⟨K, hQ, N'⟩ := hQ
  have NN := Fr.app N N'
  obtain ⟨bs, hbs, kk⟩ := k v T'.heap K hQ
  obtain ⟨s₂, o, hs, r⟩ := kk T' _ X' NN rfl (I.add (I.keep K hws) hbs)
  exact ⟨s₂, o, st'.trans hs, r⟩
theorem go_callV (C : Cx Z a0 y by0 ml rt κ) {z : MethodName} {fr lo cc ss : Nat} {ws' : List Addr} {Qz : Option Value → Heap → Prop} {ps : List FieldType} {rr : Option FieldType} {argsL : List Value} {ix W : Nat} {a : Addr} (hd : decode by0 pc = .ok (.invokevirtual ix, 3)) {y1 : MethodName} {Cn : String} (w1 : (Cond.methodLink y.cls ix y1).before a0 Z = true) (w2 : (Cond.declares y1).before a0 Z = true) (nf : ∀ (s : State), Z.Warmed39 s.vm → NotFace s y1) (w3 : (Cond.selects Cn y1 z).before a0 Z = true) (w4 : (Cond.instanceMethod z).before a0 Z = true) (EX : Exa Z h a Cn) (hy : y1.cls ≠ "java/lang/invoke/MethodHandle" ∧ y1.cls ≠ "java/lang/invoke/VarHandle") (hps : parseMethodDescriptor y1.desc = some ⟨ps, rr⟩) (hM : Py l Z z fr lo cc ss (.ref a :: argsL).toArray h ws' Qz) (hlen : argsL.length = ps.length) (hf : fr ≤ R.frames) (hW : (st.map fun v => v.category).sum ≤ W) (hlo : W + lo ≤ R.locals) (hls : Ls.size = ml) (hc : ce + cc ≤ R.cells) (hsl : sl + ss ≤ R.slots) (hws : ∀ x ∈ ws', x ∈ S) (k : ∀ v h', Keep h h' ws' → Qz v h' → ∃ bs, (∀ b ∈ bs, h.size ≤ b ∧ b < h'.size) ∧ Go l R Z ws h0 Q κ (bs ++ S) h' (pc + 3) Ls (v.toList ++ st) (ce + cc) (sl + ss)) : Go l R Z ws h0 Q κ S h pc Ls (argsL.reverse ++ .ref a :: st) ce sl := by
  obtain ⟨p, e, s, m, args, below, meth, c⟩ := κ
  intro T locs X N eT I
  obtain ⟨hx, hby, hml, hown, hnm, hret, hlk, hZ⟩ := C
  have hO := fun x hx => (⟨(I.2.2 x (hws x hx)).1, (I.2.2 x (hws x hx)).2.1⟩ : x < h.size ∧ Z.heap.size ≤ x)
  have hB := hM I.1 hO p e R below s args 3 W hZ hf hlo
  obtain ⟨v, _, ⟨T', L', k', n'⟩, -, X', ⟨Lc, hQ, l', y', z'⟩, st'⟩ := (let ⟨cq, kq, qa, qb, qc⟩ := isOf hZ eT EX; X.virtualBack hx hown (mvT hZ w1) (mvT hZ w2) (nf _ hZ) (mvT hZ w3) (mvT hZ w4) hy hB qa qc (g := mkF m pc Ls (argsL.reverse ++ Value.ref a :: st)) rfl (hls.trans hml.symm) (Steps.refl _) (argsL := argsL) (rest := st) (lenOf hps hlen) rfl (by show 2 * 0 + _ ≤ _; rw [Nat.mul_zero, Nat.zero_add]; exact hW) (hb hby hd) (fun _ _ => ⟨rfl, eT, hc, hsl⟩))
  dsimp only [Pt.U, Pt.locs, Pt.cells, Pt.slots] at X' l' y' z' st' hQ
  subst l' y' z'
  obtain ⟨K, hQ, N'⟩ := hQ
  have NN := Fr.app N N'
  obtain ⟨bs, hbs, kk⟩ := k v T'.heap K hQ
  obtain ⟨s₂, o, hs, r⟩ := kk T' _ X' NN rfl (I.add (I.keep K hws) hbs)
  exact ⟨s₂, o, st'.trans hs, r⟩
theorem go_callU (C : Cx Z a0 y by0 ml rt κ) {z : MethodName} {fr lo cc ss : Nat} {ws' : List Addr} {Qz : Option Value → Heap → Prop} {ps : List FieldType} {rr : Option FieldType} {argsL : List Value} {ix W : Nat} {a : Addr} (hd : decode by0 pc = .ok (.invokevirtual ix, 3)) {y1 : MethodName} {Cn owner : String} (w1 : (Cond.methodLink y.cls ix y1).before a0 Z = true) (w5 : (Cond.sameMethod y1.cls owner y1.name y1.desc).before a0 Z = true) (w2 : (Cond.declares ⟨owner, y1.name, y1.desc⟩).before a0 Z = true) (ho : owner ≠ "java/lang/invoke/MethodHandle" ∧ owner ≠ "java/lang/invoke/VarHandle") (w3 : (Cond.selects Cn y1 z).before a0 Z = true) (w4 : (Cond.instanceMethod z).before a0 Z = true) (EX : Exa Z h a Cn) (hy : y1.cls ≠ "java/lang/invoke/MethodHandle" ∧ y1.cls ≠ "java/lang/invoke/VarHandle") (hps : parseMethodDescriptor y1.desc = some ⟨ps, rr⟩) (hM : Py l Z z fr lo cc ss (.ref a :: argsL).toArray h ws' Qz) (hlen : argsL.length = ps.length) (hf : fr ≤ R.frames) (hW : (st.map fun v => v.category).sum ≤ W) (hlo : W + lo ≤ R.locals) (hls : Ls.size = ml) (hc : ce + cc ≤ R.cells) (hsl : sl + ss ≤ R.slots) (hws : ∀ x ∈ ws', x ∈ S) (k : ∀ v h', Keep h h' ws' → Qz v h' → ∃ bs, (∀ b ∈ bs, h.size ≤ b ∧ b < h'.size) ∧ Go l R Z ws h0 Q κ (bs ++ S) h' (pc + 3) Ls (v.toList ++ st) (ce + cc) (sl + ss)) : Go l R Z ws h0 Q κ S h pc Ls (argsL.reverse ++ .ref a :: st) ce sl := by
  obtain ⟨p, e, s, m, args, below, meth, c⟩ := κ
  intro T locs X N eT I
  obtain ⟨hx, hby, hml, hown, hnm, hret, hlk, hZ⟩ := C
  have hO := fun x hx => (⟨(I.2.2 x (hws x hx)).1, (I.2.2 x (hws x hx)).2.1⟩ : x < h.size ∧ Z.heap.size ≤ x)
  have hB := hM I.1 hO p e R below s args 3 W hZ hf hlo
  obtain ⟨v, _, ⟨T', L', k', n'⟩, -, X', ⟨Lc, hQ, l', y', z'⟩, st'⟩ := (let ⟨cq, kq, qa, qb, qc⟩ := isOf hZ eT EX; X.virtualBackUp hx hown (mvT hZ w1) (mvT hZ w5) (mvT hZ w2) ho (mvT hZ w3) (mvT hZ w4) hB qa qc (g := mkF m pc Ls (argsL.reverse ++ Value.ref a :: st)) rfl (hls.trans hml.symm) (Steps.refl _) (argsL := argsL) (rest := st) (lenOf hps hlen) rfl (by show 2 * 0 + _ ≤ _; rw [Nat.mul_zero, Nat.zero_add]; exact hW) (hb hby hd) (fun _ _ => ⟨rfl, eT, hc, hsl⟩))
  dsimp only [Pt.U, Pt.locs, Pt.cells, Pt.slots] at X' l' y' z' st' hQ
  subst l' y' z'
  obtain ⟨K, hQ, N'⟩ := hQ
  have NN := Fr.app N N'
  obtain ⟨bs, hbs, kk⟩ := k v T'.heap K hQ
  obtain ⟨s₂, o, hs, r⟩ := kk T' _ X' NN rfl (I.add (I.keep K hws) hbs)
  exact ⟨s₂, o, st'.trans hs, r⟩
end StepsN
def IW (Z : State) (EL : List (String × Nat)) (own : String) (s : State) (m : MethodId) (h0 : Heap) (S : List Addr) (h : Heap) (vm0 : Vm) (k0 : Nat) : Prop :=
  s.Since vm0 k0 ∧ k0 ≤ h.size ∧ Z.Warmed39 vm0 ∧ vm0.findClass own = some m.cls ∧ CHr Z EL s.vm h0 vm0 h ∧ ∀ x ∈ S, Safe Z EL vm0 h x
section IWLaws
variable {Z s : State} {EL : List (String × Nat)} {own : String} {m : MethodId} {ws' S bs : List Addr} {h0 h h' : Heap} {a : Addr} {i : Nat} {v : Value} {vm0 : Vm} {k0 : Nat}
theorem IW.ext (J : IW Z EL own s m h0 S h vm0 k0) (E : Ext h h') : IW Z EL own s m h0 S h' vm0 k0 :=
  ⟨J.1, Nat.le_trans J.2.1 E.1, J.2.2.1, J.2.2.2.1, J.2.2.2.2.1.trans (CHr.ext E J.2.2.2.2.1.1), fun x hx => Safe.ext E J.2.2.2.2.1.1 (J.2.2.2.2.2 x hx)⟩
theorem IW.new (J : IW Z EL own s m h0 S h vm0 k0) (E : Ext h h') : IW Z EL own s m h0 (h.size :: S) h' vm0 k0 :=
  ⟨J.1, Nat.le_trans J.2.1 E.1, J.2.2.1, J.2.2.2.1, J.2.2.2.2.1.trans (CHr.ext E J.2.2.2.2.1.1), fun x hx => by
    rcases List.mem_cons.mp hx with rfl | hx
    · exact Safe.ext E J.2.2.2.2.1.1 (Safe.new (Nat.le_refl _))
    · exact Safe.ext E J.2.2.2.2.1.1 (J.2.2.2.2.2 x hx)⟩
theorem IW.wr (J : IW Z EL own s m h0 S h vm0 k0) (W : Wr h h' a i v) (ha : a ∈ S) : IW Z EL own s m h0 S h' vm0 k0 :=
  ⟨J.1, Nat.le_trans J.2.1 (Nat.le_of_eq W.size.symm), J.2.2.1, J.2.2.2.1, J.2.2.2.2.1.trans (CHr.wr W (J.2.2.2.2.2 a ha) J.2.2.2.2.1.1), fun x hx => Safe.wr W (J.2.2.2.2.2 a ha) J.2.2.2.2.1.1 (J.2.2.2.2.2 x hx)⟩
theorem IW.keep (J : IW Z EL own s m h0 S h vm0 k0) (K : Keep h h' ws') (hs : ∀ x ∈ ws', x ∈ S) : IW Z EL own s m h0 S h' vm0 k0 :=
  ⟨J.1, Nat.le_trans J.2.1 K.1, J.2.2.1, J.2.2.2.1, J.2.2.2.2.1.trans (CHr.keep K (fun x hx => J.2.2.2.2.2 x (hs x hx)) J.2.2.2.2.1.1), fun x hx => Safe.keep K (fun x hx => J.2.2.2.2.2 x (hs x hx)) J.2.2.2.2.1.1 (J.2.2.2.2.2 x hx)⟩
theorem IW.add (J : IW Z EL own s m h0 S h vm0 k0) (K : Keep h h' ws') (hs : ∀ x ∈ ws', x ∈ S) (hb : ∀ b ∈ bs, h.size ≤ b ∧ b < h'.size) : IW Z EL own s m h0 (bs ++ S) h' vm0 k0 :=
  have J' := J.keep K hs
  ⟨J'.1, J'.2.1, J'.2.2.1, J'.2.2.2.1, J'.2.2.2.2.1, fun x hx => (List.mem_append.mp hx).elim (fun q => Safe.keep K (fun x hx => J.2.2.2.2.2 x (hs x hx)) J.2.2.2.2.1.1 (Safe.new (hb x q).1)) (fun q => J'.2.2.2.2.2 x q)⟩
end IWLaws
def GoW (l : Launch) (R : Room) (Z : State) (EL : List (String × Nat)) (own : String) (ws : List Addr) (h0 : Heap) (Q : Option Value → Heap → Prop) (κ : Kx) (S : List Addr) (h : Heap) (pc : Nat) (Ls : Array Slot) (st : List Value) (ce sl : Nat) : Prop := match κ with
  | (p, e, s, m, args, below, meth, c) => ∀ vm0 k0 T locs, Stand p l e R (s.setVm vm0) m args below meth c T locs ce sl → Fr Z.heap.size locs → T.heap = h → Inv Z ws h0 S h → IW Z EL own s m h0 S h vm0 k0 →
    ∃ s₂ o, Steps p.tables e below (T.setTop (mkF m pc Ls st)) s₂ ∧ s₂.status = .running ∧ Ended s₂ below o ∧ ∃ v L, o = .returned v ∧ (Keep h0 s₂.heap ws ∧ Q v s₂.heap ∧ Fr Z.heap.size L) ∧ CHr Z EL s.vm h0 s₂.vm s₂.heap ∧ ReturnedEndW s o s₂ L R.cells R.slots
/-- the contract of a body that may intern -/
def CtW (l : Launch) (Z : State) (EL : List (String × Nat)) (y : MethodName) (by0 : ByteArray) (ml : Nat) (rt : Option FieldType) (rm : Room) (as : Array Value) (h0 : Heap) (ws : List Addr) (Q : Option Value → Heap → Prop) : Prop :=
  Ext Z.heap h0 → (∀ x ∈ ws, x < h0.size ∧ Z.heap.size ≤ x) → ∀ tw : List Jvm.Cond, MetFree l y (head1 (Jvm.Cond.code y by0 ml rt :: tw) rm) (fun a U => a = as ∧ Z.Warmed39 U.vm ∧ U.heap = h0 ∧ CHv Z EL U.vm h0 ∧ ∀ x ∈ ws, Safe Z EL U.vm h0 x) (fun _ _ _ _ _ => True)
    (fun _ U o U' => ∃ v L, o = .returned v ∧ (Keep h0 U'.heap ws ∧ Q v U'.heap ∧ Fr Z.heap.size L) ∧ CHr Z EL U.vm h0 U'.vm U'.heap ∧ ReturnedEndW U o U' L rm.cells rm.slots)
theorem CtW.mk {l : Launch} {Z : State} {EL : List (String × Nat)} {a0 : Array Value} {y : MethodName} {by0 : ByteArray} {ml : Nat} {rt : Option FieldType} {rm : Room} {as : Array Value} {h0 : Heap} {ws : List Addr} {Q : Option Value → Heap → Prop} {Ls : Array Slot} (hpl : plainFor y = true) (hef : ∀ m, entryFrame m as ml = mkF m 0 Ls [])
    (k : ∀ κ, Cx Z a0 y by0 ml rt κ → GoW l rm Z EL y.cls ws h0 Q κ ws h0 0 Ls [] 0 0) : CtW l Z EL y by0 ml rt rm as h0 ws Q := by
  intro hO hws tw
  refine MetFree.of_bodySF hpl hisR ?_
  intro p e s m args below meth c s₁ Bd hml0 hP hK
  obtain ⟨rfl, hZ, hh, hCH, hSf⟩ := hP
  have X0 : Stand p l e rm s m args below meth c s₁ [] 0 0 := Stand.of_body Bd
  have e0 : s₁.heap = h0 := by rw [← hh, Bd.state]; rfl
  have hown := findClass_of_methodNamed Bd.named
  obtain ⟨s₂, o, hs, r⟩ := k (p, e, s, m, args, below, meth, c) ⟨Bd.exec, Bd.bytes, hml0, hown, (name_of_methodNamed Bd.named Bd.method).1, Bd.returns, BodyLoose.notSynchronized Bd, hZ⟩ s.vm 0 s₁ [] X0 (Fr.nil _) e0
    ⟨hO, Keep.refl _ _, fun x hx => ⟨(hws x hx).1, (hws x hx).2, Or.inl hx⟩⟩ ⟨(State.WarmedH.refl s).since 0, Nat.zero_le _, hZ, hown, CHr.refl hCH, hSf⟩
  exact ⟨s₂, o, castTop (hef m) hs, r⟩
/-- what a call of a body costs that may intern -/
def PyW (l : Launch) (Z : State) (EL : List (String × Nat)) (a0 : Array Value) (z : MethodName) (fr lo cc ss : Nat) (as : Array Value) (h : Heap) (ws : List Addr) (Q : Option Value → Heap → Prop) : Prop :=
  Ext Z.heap h → (∀ x ∈ ws, x < h.size ∧ Z.heap.size ≤ x) → EW Z a0 EL → ∀ (p : Program) (e : Env) (R : Room) (below : List Frame) (s : State) (vm0 : Vm) (args : Array Value) (len W : Nat), Z.Warmed39 vm0 → fr ≤ R.frames → W + lo ≤ R.locals → CHv Z EL vm0 h → (∀ x ∈ ws, Safe Z EL vm0 h x) →
    BackS l R p e below (s.setVm vm0) args z len W (fun A a => a = as ∧ A.U.heap = h ∧ A.cells + cc ≤ R.cells ∧ A.slots + ss ≤ R.slots)
      (fun A _ v B => ∃ L, (Keep h B.U.heap ws ∧ Q v B.U.heap ∧ Fr Z.heap.size L) ∧ B.locs = A.locs ++ L ∧ B.cells = A.cells + cc ∧ B.slots = A.slots + ss ∧ CHr Z EL vm0 h B.U.vm B.U.heap)
theorem CtW.py {l : Launch} {Z : State} {a0 : Array Value} {EL : List (String × Nat)} {h : Heap} {ws : List Addr} {y : MethodName} {by0 : ByteArray} {ml : Nat} {rt : Option FieldType} {rm : Room} {as : Array Value} {Q : Option Value → Heap → Prop}
    (hM : CtW l Z EL y by0 ml rt rm as h ws Q) (wc : (Cond.code y by0 ml rt).before a0 Z = true) (wz : (Cond.initialized y.cls).before a0 Z = true) : PyW l Z EL a0 y (rm.frames + 1) (ml + 11 + rm.locals) rm.cells rm.slots as h ws Q :=
  fun hO hws hEL p e R below s vm0 args len W hZ hf hl H hSf =>
  BackS.of_freeW (bytes := by0) (maxL := ml) (ret := rt) (E := fun _ first o t L k n => k = rm.cells ∧ n = rm.slots ∧ (∃ v, o = .returned v ∧ (Keep h t.heap ws ∧ Q v t.heap ∧ Fr Z.heap.size L)) ∧ CHr Z EL first.vm h t.vm t.heap) (hM hO hws []) hf (by rw [Nat.add_assoc]; exact hl)
    (fun m meth c A a Y hp => by
      have hU : Z.Warmed39 A.U.vm := wtrans (s := s.setVm vm0) hZ Y.warmed
      refine ⟨?_, mv hU wc, mv hU wz, hp.2.2.1, hp.2.2.2⟩
      show (Cond.and _ .tt).before a A.U = true
      rw [Cond.before_and, mv hU wc]; rfl)
    (fun m meth c A a g mk Y hp => by
      have q := CHv.at Y hZ hEL H
      exact ⟨hp.1, wtrans (s := s.setVm vm0) hZ Y.warmed, hp.2.1, q.1, fun x hx => q.safe (hws x hx).1 (hSf x hx)⟩)
    (fun _ _ _ _ _ _ _ _ _ => trivial)
    (fun _ _ _ _ q => by obtain ⟨v, L, h1, h2, h3, h4⟩ := q; exact ⟨L, _, _, h4, rfl, rfl, ⟨v, h1, h2⟩, h3⟩)
    (fun m meth c A a g mk v t L k n Y hp _ _ q => by
      obtain ⟨e1, e2, ⟨v', e3, e4⟩, e5⟩ := q
      cases e3; subst e1 e2
      exact ⟨L, e4, rfl, rfl, rfl, (CHv.at Y hZ hEL H).trans e5⟩)
section StepsW
variable {Z : State} {a0 : Array Value} {y : MethodName} {by0 : ByteArray} {ml : Nat} {rt : Option FieldType} {l : Launch} {R : Room} {ws : List Addr} {h0 : Heap} {Q : Option Value → Heap → Prop} {κ : Kx} {S : List Addr} {h : Heap} {pc : Nat} {Ls : Array Slot} {st : List Value} {ce sl : Nat} {EL : List (String × Nat)}
theorem gw_iloadN (C : Cx Z a0 y by0 ml rt κ) (pc' : Nat) {j : Fin 4} {v : Int32} (hd : decode by0 pc = .ok (.iload_n j, 1)) (hpc : pc + 1 = pc') (hl : Ls[j.val]? = some (.val (.int v))) (k : GoW l R Z EL y.cls ws h0 Q κ S h pc' Ls (.int v :: st) ce sl) : GoW l R Z EL y.cls ws h0 Q κ S h pc Ls st ce sl := by
  subst hpc
  obtain ⟨p, e, s, m, args, below, meth, c⟩ := κ
  intro vm0 k0 T locs X N eT I J
  obtain ⟨hx, hby, hml, -, hnm, hret, hlk, -⟩ := C
  have hZ : Z.Warmed39 (s.setVm vm0).vm := J.2.2.1
  have hown : (s.setVm vm0).vm.findClass y.cls = some m.cls := J.2.2.2.1
  obtain ⟨s₂, o, hs, r⟩ := k vm0 k0 T _ X N eT I J
  exact ⟨s₂, o, XS.iloadN X.here hx rfl (hb hby hd) hl hs, r⟩
theorem gw_iload (C : Cx Z a0 y by0 ml rt κ) (pc' : Nat) {j : Nat} {v : Int32} (hd : decode by0 pc = .ok (.iload j, 2)) (hpc : pc + 2 = pc') (hl : Ls[j]? = some (.val (.int v))) (k : GoW l R Z EL y.cls ws h0 Q κ S h pc' Ls (.int v :: st) ce sl) : GoW l R Z EL y.cls ws h0 Q κ S h pc Ls st ce sl := by
  subst hpc
  obtain ⟨p, e, s, m, args, below, meth, c⟩ := κ
  intro vm0 k0 T locs X N eT I J
  obtain ⟨hx, hby, hml, -, hnm, hret, hlk, -⟩ := C
  have hZ : Z.Warmed39 (s.setVm vm0).vm := J.2.2.1
  have hown : (s.setVm vm0).vm.findClass y.cls = some m.cls := J.2.2.2.1
  obtain ⟨s₂, o, hs, r⟩ := k vm0 k0 T _ X N eT I J
  exact ⟨s₂, o, XS.iload X.here hx rfl (hb hby hd) hl hs, r⟩
theorem gw_aloadN (C : Cx Z a0 y by0 ml rt κ) (pc' : Nat) {j : Fin 4} {v : Value} (hd : decode by0 pc = .ok (.aload_n j, 1)) (hpc : pc + 1 = pc') (hl : Ls[j.val]? = some (.val v)) (hv : v.isRef = true) (k : GoW l R Z EL y.cls ws h0 Q κ S h pc' Ls (v :: st) ce sl) : GoW l R Z EL y.cls ws h0 Q κ S h pc Ls st ce sl := by
  subst hpc
  obtain ⟨p, e, s, m, args, below, meth, c⟩ := κ
  intro vm0 k0 T locs X N eT I J
  obtain ⟨hx, hby, hml, -, hnm, hret, hlk, -⟩ := C
  have hZ : Z.Warmed39 (s.setVm vm0).vm := J.2.2.1
  have hown : (s.setVm vm0).vm.findClass y.cls = some m.cls := J.2.2.2.1
  obtain ⟨s₂, o, hs, r⟩ := k vm0 k0 T _ X N eT I J
  exact ⟨s₂, o, XS.aloadN X.here hx rfl (hb hby hd) hl hv hs, r⟩
theorem gw_aload (C : Cx Z a0 y by0 ml rt κ) (pc' : Nat) {j : Nat} {v : Value} (hd : decode by0 pc = .ok (.aload j, 2)) (hpc : pc + 2 = pc') (hl : Ls[j]? = some (.val v)) (hv : v.isRef = true) (k : GoW l R Z EL y.cls ws h0 Q κ S h pc' Ls (v :: st) ce sl) : GoW l R Z EL y.cls ws h0 Q κ S h pc Ls st ce sl := by
  subst hpc
  obtain ⟨p, e, s, m, args, below, meth, c⟩ := κ
  intro vm0 k0 T locs X N eT I J
  obtain ⟨hx, hby, hml, -, hnm, hret, hlk, -⟩ := C
  have hZ : Z.Warmed39 (s.setVm vm0).vm := J.2.2.1
  have hown : (s.setVm vm0).vm.findClass y.cls = some m.cls := J.2.2.2.1
  obtain ⟨s₂, o, hs, r⟩ := k vm0 k0 T _ X N eT I J
  exact ⟨s₂, o, XS.aload X.here hx rfl (hb hby hd) hl hv hs, r⟩
theorem gw_iconst (C : Cx Z a0 y by0 ml rt κ) (pc' : Nat) {i : Int} (v : Int32) (hd : decode by0 pc = .ok (.iconst i, 1)) (hpc : pc + 1 = pc') (hv : Int32.ofInt i = v) (k : GoW l R Z EL y.cls ws h0 Q κ S h pc' Ls (.int v :: st) ce sl) : GoW l R Z EL y.cls ws h0 Q κ S h pc Ls st ce sl := by
  subst hpc
  obtain ⟨p, e, s, m, args, below, meth, c⟩ := κ
  intro vm0 k0 T locs X N eT I J
  obtain ⟨hx, hby, hml, -, hnm, hret, hlk, -⟩ := C
  have hZ : Z.Warmed39 (s.setVm vm0).vm := J.2.2.1
  have hown : (s.setVm vm0).vm.findClass y.cls = some m.cls := J.2.2.2.1
  obtain ⟨s₂, o, hs, r⟩ := k vm0 k0 T _ X N eT I J
  exact ⟨s₂, o, XT.iconstV X.here hx rfl v (hb hby hd) hv hs, r⟩
theorem gw_aconstNull (C : Cx Z a0 y by0 ml rt κ) (pc' : Nat)  (hd : decode by0 pc = .ok (.aconst_null, 1)) (hpc : pc + 1 = pc')  (k : GoW l R Z EL y.cls ws h0 Q κ S h pc' Ls (.null :: st) ce sl) : GoW l R Z EL y.cls ws h0 Q κ S h pc Ls st ce sl := by
  subst hpc
  obtain ⟨p, e, s, m, args, below, meth, c⟩ := κ
  intro vm0 k0 T locs X N eT I J
  obtain ⟨hx, hby, hml, -, hnm, hret, hlk, -⟩ := C
  have hZ : Z.Warmed39 (s.setVm vm0).vm := J.2.2.1
  have hown : (s.setVm vm0).vm.findClass y.cls = some m.cls := J.2.2.2.1
  obtain ⟨s₂, o, hs, r⟩ := k vm0 k0 T _ X N eT I J
  exact ⟨s₂, o, XS.aconstNull X.here hx rfl (hb hby hd) hs, r⟩
theorem gw_iand (C : Cx Z a0 y by0 ml rt κ) (pc' : Nat) {x z : Int32} (v : Int32) (hd : decode by0 pc = .ok (.iand, 1)) (hpc : pc + 1 = pc') (hv : x &&& z = v) (k : GoW l R Z EL y.cls ws h0 Q κ S h pc' Ls (.int v :: st) ce sl) : GoW l R Z EL y.cls ws h0 Q κ S h pc Ls (.int z :: .int x :: st) ce sl := by
  subst hpc
  subst hv
  obtain ⟨p, e, s, m, args, below, meth, c⟩ := κ
  intro vm0 k0 T locs X N eT I J
  obtain ⟨hx, hby, hml, -, hnm, hret, hlk, -⟩ := C
  have hZ : Z.Warmed39 (s.setVm vm0).vm := J.2.2.1
  have hown : (s.setVm vm0).vm.findClass y.cls = some m.cls := J.2.2.2.1
  obtain ⟨s₂, o, hs, r⟩ := k vm0 k0 T _ X N eT I J
  exact ⟨s₂, o, XS.iand X.here hx rfl (hb hby hd) rfl hs, r⟩
theorem gw_i2c (C : Cx Z a0 y by0 ml rt κ) (pc' : Nat) {x : Int32} (v : Int32) (hd : decode by0 pc = .ok (.i2c, 1)) (hpc : pc + 1 = pc') (hv : x.toUInt32.toUInt16.toUInt32.toInt32 = v) (k : GoW l R Z EL y.cls ws h0 Q κ S h pc' Ls (.int v :: st) ce sl) : GoW l R Z EL y.cls ws h0 Q κ S h pc Ls (.int x :: st) ce sl := by
  subst hpc
  subst hv
  obtain ⟨p, e, s, m, args, below, meth, c⟩ := κ
  intro vm0 k0 T locs X N eT I J
  obtain ⟨hx, hby, hml, -, hnm, hret, hlk, -⟩ := C
  have hZ : Z.Warmed39 (s.setVm vm0).vm := J.2.2.1
  have hown : (s.setVm vm0).vm.findClass y.cls = some m.cls := J.2.2.2.1
  obtain ⟨s₂, o, hs, r⟩ := k vm0 k0 T _ X N eT I J
  exact ⟨s₂, o, XT.i2c X.here hx rfl (hb hby hd) rfl hs, r⟩
theorem gw_dup (C : Cx Z a0 y by0 ml rt κ) (pc' : Nat) {x : Value} (hd : decode by0 pc = .ok (.dup, 1)) (hpc : pc + 1 = pc') (hc : x.category = 1) (k : GoW l R Z EL y.cls ws h0 Q κ S h pc' Ls (x :: x :: st) ce sl) : GoW l R Z EL y.cls ws h0 Q κ S h pc Ls (x :: st) ce sl := by
  subst hpc
  obtain ⟨p, e, s, m, args, below, meth, c⟩ := κ
  intro vm0 k0 T locs X N eT I J
  obtain ⟨hx, hby, hml, -, hnm, hret, hlk, -⟩ := C
  have hZ : Z.Warmed39 (s.setVm vm0).vm := J.2.2.1
  have hown : (s.setVm vm0).vm.findClass y.cls = some m.cls := J.2.2.2.1
  obtain ⟨s₂, o, hs, r⟩ := k vm0 k0 T _ X N eT I J
  exact ⟨s₂, o, XS.dup X.here hx rfl (hb hby hd) rfl hc hs, r⟩
theorem gw_pop (C : Cx Z a0 y by0 ml rt κ) (pc' : Nat) {x : Value} (hd : decode by0 pc = .ok (.pop, 1)) (hpc : pc + 1 = pc') (hc : x.category = 1) (k : GoW l R Z EL y.cls ws h0 Q κ S h pc' Ls st ce sl) : GoW l R Z EL y.cls ws h0 Q κ S h pc Ls (x :: st) ce sl := by
  subst hpc
  obtain ⟨p, e, s, m, args, below, meth, c⟩ := κ
  intro vm0 k0 T locs X N eT I J
  obtain ⟨hx, hby, hml, -, hnm, hret, hlk, -⟩ := C
  have hZ : Z.Warmed39 (s.setVm vm0).vm := J.2.2.1
  have hown : (s.setVm vm0).vm.findClass y.cls = some m.cls := J.2.2.2.1
  obtain ⟨s₂, o, hs, r⟩ := k vm0 k0 T _ X N eT I J
  exact ⟨s₂, o, XT.pop X.here hx rfl (hb hby hd) rfl hc hs, r⟩
theorem gw_istore (C : Cx Z a0 y by0 ml rt κ) (pc' : Nat) {j : Nat} {x : Int32} {Ls' : Array Slot} (hd : decode by0 pc = .ok (.istore j, 2)) (hpc : pc + 2 = pc') (hl : storeLocals Ls j (.int x) = some Ls') (k : GoW l R Z EL y.cls ws h0 Q κ S h pc' Ls' st ce sl) : GoW l R Z EL y.cls ws h0 Q κ S h pc Ls (.int x :: st) ce sl := by
  subst hpc
  obtain ⟨p, e, s, m, args, below, meth, c⟩ := κ
  intro vm0 k0 T locs X N eT I J
  obtain ⟨hx, hby, hml, -, hnm, hret, hlk, -⟩ := C
  have hZ : Z.Warmed39 (s.setVm vm0).vm := J.2.2.1
  have hown : (s.setVm vm0).vm.findClass y.cls = some m.cls := J.2.2.2.1
  obtain ⟨s₂, o, hs, r⟩ := k vm0 k0 T _ X N eT I J
  exact ⟨s₂, o, XS.istore X.here hx rfl (hb hby hd) rfl hl hs, r⟩
theorem gw_astore (C : Cx Z a0 y by0 ml rt κ) (pc' : Nat) {j : Nat} {x : Value} {Ls' : Array Slot} (hd : decode by0 pc = .ok (.astore j, 2)) (hpc : pc + 2 = pc') (hv : x.isRef = true) (hl : storeLocals Ls j x = some Ls') (k : GoW l R Z EL y.cls ws h0 Q κ S h pc' Ls' st ce sl) : GoW l R Z EL y.cls ws h0 Q κ S h pc Ls (x :: st) ce sl := by
  subst hpc
  obtain ⟨p, e, s, m, args, below, meth, c⟩ := κ
  intro vm0 k0 T locs X N eT I J
  obtain ⟨hx, hby, hml, -, hnm, hret, hlk, -⟩ := C
  have hZ : Z.Warmed39 (s.setVm vm0).vm := J.2.2.1
  have hown : (s.setVm vm0).vm.findClass y.cls = some m.cls := J.2.2.2.1
  obtain ⟨s₂, o, hs, r⟩ := k vm0 k0 T _ X N eT I J
  exact ⟨s₂, o, XS.astore X.here hx rfl (hb hby hd) rfl hv hl hs, r⟩
theorem gw_ifN (C : Cx Z a0 y by0 ml rt κ) (pc' : Nat) {o : Int} {cd : ClassFile.Cond} {x : Int32} (hd : decode by0 pc = .ok (.ifCond cd o, 3)) (hpc : pc + 3 = pc') (hc : if_icmp.holds cd x 0 = false) (k : GoW l R Z EL y.cls ws h0 Q κ S h pc' Ls st ce sl) : GoW l R Z EL y.cls ws h0 Q κ S h pc Ls (.int x :: st) ce sl := by
  subst hpc
  obtain ⟨p, e, s, m, args, below, meth, c⟩ := κ
  intro vm0 k0 T locs X N eT I J
  obtain ⟨hx, hby, hml, -, hnm, hret, hlk, -⟩ := C
  have hZ : Z.Warmed39 (s.setVm vm0).vm := J.2.2.1
  have hown : (s.setVm vm0).vm.findClass y.cls = some m.cls := J.2.2.2.1
  obtain ⟨s₂, o, hs, r⟩ := k vm0 k0 T _ X N eT I J
  exact ⟨s₂, o, XS.ifNo X.here hx rfl (hb hby hd) rfl ((if0 _ _).trans hc) hs, r⟩
theorem gw_icmpN (C : Cx Z a0 y by0 ml rt κ) (pc' : Nat) {o : Int} {cd : ClassFile.Cond} {x z : Int32} (hd : decode by0 pc = .ok (.if_icmp cd o, 3)) (hpc : pc + 3 = pc') (hc : if_icmp.holds cd x z = false) (k : GoW l R Z EL y.cls ws h0 Q κ S h pc' Ls st ce sl) : GoW l R Z EL y.cls ws h0 Q κ S h pc Ls (.int z :: .int x :: st) ce sl := by
  subst hpc
  obtain ⟨p, e, s, m, args, below, meth, c⟩ := κ
  intro vm0 k0 T locs X N eT I J
  obtain ⟨hx, hby, hml, -, hnm, hret, hlk, -⟩ := C
  have hZ : Z.Warmed39 (s.setVm vm0).vm := J.2.2.1
  have hown : (s.setVm vm0).vm.findClass y.cls = some m.cls := J.2.2.2.1
  obtain ⟨s₂, o, hs, r⟩ := k vm0 k0 T _ X N eT I J
  exact ⟨s₂, o, XS.icmpNo X.here hx rfl (hb hby hd) rfl hc hs, r⟩
theorem gw_ifnullN (C : Cx Z a0 y by0 ml rt κ) (pc' : Nat) {o : Int} {b : Addr} (hd : decode by0 pc = .ok (.ifnull o, 3)) (hpc : pc + 3 = pc')  (k : GoW l R Z EL y.cls ws h0 Q κ S h pc' Ls st ce sl) : GoW l R Z EL y.cls ws h0 Q κ S h pc Ls (.ref b :: st) ce sl := by
  subst hpc
  obtain ⟨p, e, s, m, args, below, meth, c⟩ := κ
  intro vm0 k0 T locs X N eT I J
  obtain ⟨hx, hby, hml, -, hnm, hret, hlk, -⟩ := C
  have hZ : Z.Warmed39 (s.setVm vm0).vm := J.2.2.1
  have hown : (s.setVm vm0).vm.findClass y.cls = some m.cls := J.2.2.2.1
  obtain ⟨s₂, o, hs, r⟩ := k vm0 k0 T _ X N eT I J
  exact ⟨s₂, o, XS.ifnullNo X.here hx rfl (hb hby hd) rfl hs, r⟩
theorem gw_ldcInt (C : Cx Z a0 y by0 ml rt κ) (pc' : Nat) {ix : Nat} {v : Int32} (hd : decode by0 pc = .ok (.ldc ix, 2)) (hpc : pc + 2 = pc') (w : (Cond.constant y.cls ix v).before a0 Z = true) (k : GoW l R Z EL y.cls ws h0 Q κ S h pc' Ls (.int v :: st) ce sl) : GoW l R Z EL y.cls ws h0 Q κ S h pc Ls st ce sl := by
  subst hpc
  obtain ⟨p, e, s, m, args, below, meth, c⟩ := κ
  intro vm0 k0 T locs X N eT I J
  obtain ⟨hx, hby, hml, -, hnm, hret, hlk, -⟩ := C
  have hZ : Z.Warmed39 (s.setVm vm0).vm := J.2.2.1
  have hown : (s.setVm vm0).vm.findClass y.cls = some m.cls := J.2.2.2.1
  obtain ⟨s₂, o, hs, r⟩ := k vm0 k0 T _ X N eT I J
  exact ⟨s₂, o, X.ldcInt hx hown (mvT hZ w) (g := mkF m pc Ls st) rfl (hb hby hd) _ hs, r⟩
theorem gw_arraylength (C : Cx Z a0 y by0 ml rt κ) (pc' : Nat) {a : Addr} {kc : ClassId} {ty : FieldType} {n : Int32} {vs : List Value} {d : Value} (hd : decode by0 pc = .ok (.arraylength, 1)) (hpc : pc + 1 = pc') (F : Arv Z h a kc ty n vs d) (k : GoW l R Z EL y.cls ws h0 Q κ S h pc' Ls (.int n :: st) ce sl) : GoW l R Z EL y.cls ws h0 Q κ S h pc Ls (.ref a :: st) ce sl := by
  subst hpc
  obtain ⟨p, e, s, m, args, below, meth, c⟩ := κ
  intro vm0 k0 T locs X N eT I J
  obtain ⟨hx, hby, hml, -, hnm, hret, hlk, -⟩ := C
  have hZ : Z.Warmed39 (s.setVm vm0).vm := J.2.2.1
  have hown : (s.setVm vm0).vm.findClass y.cls = some m.cls := J.2.2.2.1
  obtain ⟨s₂, o, hs, r⟩ := k vm0 k0 T _ X N eT I J
  obtain ⟨cl, A, q1, S1, q3, H, G⟩ := F
  rw [← len_of S1 q3] at hs
  exact ⟨s₂, o, X.arraylength hx (by rw [eT]; exact A.1) (State.isArrayOf_alike hZ.alike A.2.1) (g := mkF m pc Ls (.ref a :: st)) rfl rfl (hb hby hd) _ hs, r⟩
theorem gw_goto (C : Cx Z a0 y by0 ml rt κ) {o : Int} {pc' : Nat} (hd : decode by0 pc = .ok (.goto o, 3))  (ho : 0 ≤ (pc : Int) + o) (hp : ((pc : Int) + o).toNat = pc') (k : GoW l R Z EL y.cls ws h0 Q κ S h pc' Ls st ce sl) : GoW l R Z EL y.cls ws h0 Q κ S h pc Ls st ce sl := by
  obtain ⟨p, e, s, m, args, below, meth, c⟩ := κ
  intro vm0 k0 T locs X N eT I J
  obtain ⟨hx, hby, hml, -, hnm, hret, hlk, -⟩ := C
  have hZ : Z.Warmed39 (s.setVm vm0).vm := J.2.2.1
  have hown : (s.setVm vm0).vm.findClass y.cls = some m.cls := J.2.2.2.1
  obtain ⟨s₂, o, hs, r⟩ := k vm0 k0 T _ X N eT I J
  exact ⟨s₂, o, XS.goto X.here hx rfl (pc0 := pc) rfl (hb hby hd) ho hp hs, r⟩
theorem gw_getF (C : Cx Z a0 y by0 ml rt κ) (pc' : Nat) {ix : Nat} {R0 O n d : String} {a : Addr} {v : Value} (hd : decode by0 pc = .ok (.getfield ix, 3)) (hpc : pc + 3 = pc') (w : (Cond.fieldLink y.cls ix R0 n d).before a0 Z = true) (via : Via Z R0 O n d) (F : Fld Z h a O n d v) (k : GoW l R Z EL y.cls ws h0 Q κ S h pc' Ls (v :: st) ce sl) : GoW l R Z EL y.cls ws h0 Q κ S h pc Ls (.ref a :: st) ce sl := by
  subst hpc
  obtain ⟨p, e, s, m, args, below, meth, c⟩ := κ
  intro vm0 k0 T locs X N eT I J
  obtain ⟨hx, hby, hml, -, hnm, hret, hlk, -⟩ := C
  have hZ : Z.Warmed39 (s.setVm vm0).vm := J.2.2.1
  have hown : (s.setVm vm0).vm.findClass y.cls = some m.cls := J.2.2.2.1
  obtain ⟨T', X', e', st'⟩ := getF X hx hZ hown (host := "") (Or.inl w) via eT F (g := mkF m pc Ls (.ref a :: st)) rfl rfl (hb hby hd)
  obtain ⟨s₂, o, hs, r⟩ := k vm0 k0 T' _ X' N e' I J
  exact ⟨s₂, o, st' _ hs, r⟩
theorem gw_getS (C : Cx Z a0 y by0 ml rt κ) (pc' : Nat) {ix : Nat} {O n d : String} {v : Value} (hd : decode by0 pc = .ok (.getstatic ix, 3)) (hpc : pc + 3 = pc') (w : (Cond.fieldLink y.cls ix O n d).before a0 Z = true) (F : Sta Z Z.heap O n d v) (k : GoW l R Z EL y.cls ws h0 Q κ S h pc' Ls (v :: st) ce sl) : GoW l R Z EL y.cls ws h0 Q κ S h pc Ls st ce sl := by
  subst hpc
  obtain ⟨p, e, s, m, args, below, meth, c⟩ := κ
  intro vm0 k0 T locs X N eT I J
  obtain ⟨hx, hby, hml, -, hnm, hret, hlk, -⟩ := C
  have hZ : Z.Warmed39 (s.setVm vm0).vm := J.2.2.1
  have hown : (s.setVm vm0).vm.findClass y.cls = some m.cls := J.2.2.2.1
  obtain ⟨T', X', e', st'⟩ := getS2 X hx hZ hown (host := "") (Or.inl w) Via.refl eT (F.ext I.1) (g := mkF m pc Ls st) rfl (hb hby hd)
  obtain ⟨s₂, o, hs, r⟩ := k vm0 k0 T' _ X' N e' I J
  exact ⟨s₂, o, st' _ hs, r⟩
theorem gw_initO (C : Cx Z a0 y by0 ml rt κ) (pc' : Nat) {ix : Nat} {a : Addr} {W : Nat} (hd : decode by0 pc = .ok (.invokespecial ix, 3)) (hpc : pc + 3 = pc') (w1 : (Cond.methodLink y.cls ix Lib.objectInit).before a0 Z = true) (w2 : (Cond.instanceMethod Lib.objectInit).before a0 Z = true) (w3 : (Cond.code Lib.objectInit ⟨#[0xb1]⟩ 1 none).before a0 Z = true) (hls : Ls.size = ml) (hf : 1 ≤ R.frames) (hW : (st.map fun v => v.category).sum ≤ W) (hlo : W + 12 ≤ R.locals) (k : GoW l R Z EL y.cls ws h0 Q κ S h pc' Ls st ce sl) : GoW l R Z EL y.cls ws h0 Q κ S h pc Ls (.ref a :: st) ce sl := by
  subst hpc
  obtain ⟨p, e, s, m, args, below, meth, c⟩ := κ
  intro vm0 k0 T locs X N eT I J
  obtain ⟨hx, hby, hml, -, hnm, hret, hlk, -⟩ := C
  have hZ : Z.Warmed39 (s.setVm vm0).vm := J.2.2.1
  have hown : (s.setVm vm0).vm.findClass y.cls = some m.cls := J.2.2.2.1
  obtain ⟨T', X', e', st'⟩ := initO X hx hZ hown w1 w2 w3 eT (g := mkF m pc Ls (.ref a :: st)) rfl (hls.trans hml.symm) rfl (hb hby hd) hf (W := W) (by show 2 * 0 + _ ≤ _; rw [Nat.mul_zero, Nat.zero_add]; exact hW) hlo
  obtain ⟨s₂, o, hs, r⟩ := k vm0 k0 T' _ X' N e' I J
  exact ⟨s₂, o, st' _ hs, r⟩
theorem gw_putF (C : Cx Z a0 y by0 ml rt κ) (pc' : Nat) {ix kk : Nat} {R0 O n d Cn : String} {ty : FieldType} {a : Addr} {v old : Value} (hd : decode by0 pc = .ok (.putfield ix, 3)) (hpc : pc + 3 = pc') (w : (Cond.fieldLink y.cls ix R0 n d).before a0 Z = true) (via : Via Z R0 O n d) (F : Fld Z h a O n d old) (E : Exa Z h a Cn) (L : (Cond.lays Cn O n d).before a0 Z = true ∨ ((Cond.laysFinal Cn O n d).before a0 Z = true ∧ y.cls = O ∧ y.name = "<init>")) (wi : (Cond.instantiable Cn kk).before a0 Z = true) (hty : parseFieldDescriptor d = some ty) (hn : narrow ty v = v) (hf : fits ty v = true) (ha : a ∈ S) (k : ∀ h', Wr h h' a (RoadKit.slotOf Z O n d) v → GoW l R Z EL y.cls ws h0 Q κ S h' pc' Ls st ce sl) : GoW l R Z EL y.cls ws h0 Q κ S h pc Ls (v :: .ref a :: st) ce sl := by
  subst hpc
  obtain ⟨p, e, s, m, args, below, meth, c⟩ := κ
  intro vm0 k0 T locs X N eT I J
  obtain ⟨hx, hby, hml, -, hnm, hret, hlk, -⟩ := C
  have hZ : Z.Warmed39 (s.setVm vm0).vm := J.2.2.1
  have hown : (s.setVm vm0).vm.findClass y.cls = some m.cls := J.2.2.2.1
  obtain ⟨T', h', X', e', W, st'⟩ := putF X hx hZ hown (host := "") (Or.inl w) via eT F E (L.imp id fun q => ⟨q.1, q.2.1, hnm.trans q.2.2⟩) wi hty hn hf (g := mkF m pc Ls (v :: .ref a :: st)) rfl rfl (hb hby hd)
  obtain ⟨s₂, o, hs, r⟩ := (k h' W) vm0 k0 T' _ X' (fr_snoc N (I.2.2 _ ha).2.1) e' (I.wr W ha) (J.wr W ha)
  exact ⟨s₂, o, st' _ hs, r⟩
theorem gw_putFN (C : Cx Z a0 y by0 ml rt κ) (pc' : Nat) {ix kk : Nat} {R0 O n d Cn : String} {ty : FieldType} {a : Addr} {v v' old : Value} (hd : decode by0 pc = .ok (.putfield ix, 3)) (hpc : pc + 3 = pc') (w : (Cond.fieldLink y.cls ix R0 n d).before a0 Z = true) (via : Via Z R0 O n d) (F : Fld Z h a O n d old) (E : Exa Z h a Cn) (L : (Cond.lays Cn O n d).before a0 Z = true ∨ ((Cond.laysFinal Cn O n d).before a0 Z = true ∧ y.cls = O ∧ y.name = "<init>")) (wi : (Cond.instantiable Cn kk).before a0 Z = true) (hty : parseFieldDescriptor d = some ty) (hn : narrow ty v = v') (hf : fits ty v' = true) (ha : a ∈ S) (k : ∀ h', Wr h h' a (RoadKit.slotOf Z O n d) v' → GoW l R Z EL y.cls ws h0 Q κ S h' pc' Ls st ce sl) : GoW l R Z EL y.cls ws h0 Q κ S h pc Ls (v :: .ref a :: st) ce sl := by
  subst hpc
  obtain ⟨p, e, s, m, args, below, meth, c⟩ := κ
  intro vm0 k0 T locs X N eT I J
  obtain ⟨hx, hby, hml, -, hnm, hret, hlk, -⟩ := C
  have hZ : Z.Warmed39 (s.setVm vm0).vm := J.2.2.1
  have hown : (s.setVm vm0).vm.findClass y.cls = some m.cls := J.2.2.2.1
  obtain ⟨T', h', X', e', W, st'⟩ := putFN X hx hZ hown w via eT F E (L.imp id fun q => ⟨q.1, q.2.1, hnm.trans q.2.2⟩) wi hty hn hf (g := mkF m pc Ls (v :: .ref a :: st)) rfl rfl (hb hby hd)
  obtain ⟨s₂, o, hs, r⟩ := (k h' W) vm0 k0 T' _ X' (fr_snoc N (I.2.2 _ ha).2.1) e' (I.wr W ha) (J.wr W ha)
  exact ⟨s₂, o, st' _ hs, r⟩
theorem gw_new (C : Cx Z a0 y by0 ml rt κ) (pc' ce' sl' : Nat) {ix n : Nat} {Cn : String} (hd : decode by0 pc = .ok (.new ix, 3)) (hce : ce + 1 = ce') (hsl' : sl + n = sl') (hpc : pc + 3 = pc') (w : (Cond.classLink y.cls ix Cn).before a0 Z = true) (wi : (Cond.instantiable Cn n).before a0 Z = true) (wz : (Cond.initialized Cn).before a0 Z = true) (hc : ce + 1 ≤ R.cells) (hsl : sl + n ≤ R.slots) (k : ∀ (a : Addr) h', a = h.size → Ext h h' → Exa Z h' a Cn → (∀ {O nm d : String} {ty : FieldType}, Laid Z a0 Cn O nm d → parseFieldDescriptor d = some ty → Fld Z h' a O nm d (defaultValue ty)) → GoW l R Z EL y.cls ws h0 Q κ (a :: S) h' pc' Ls (.ref a :: st) ce' sl') : GoW l R Z EL y.cls ws h0 Q κ S h pc Ls st ce sl := by
  subst hpc hce hsl'
  obtain ⟨p, e, s, m, args, below, meth, c⟩ := κ
  intro vm0 k0 T locs X N eT I J
  obtain ⟨hx, hby, hml, -, hnm, hret, hlk, -⟩ := C
  have hZ : Z.Warmed39 (s.setVm vm0).vm := J.2.2.1
  have hown : (s.setVm vm0).vm.findClass y.cls = some m.cls := J.2.2.2.1
  obtain ⟨T', h', X', e', E, A, D, -, st'⟩ := newO X hx hZ hown w wi wz eT (g := mkF m pc Ls st) rfl (hb hby hd) hc hsl
  obtain ⟨s₂, o, hs, r⟩ := (k _ h' rfl E A @D) vm0 k0 T' _ X' N e' (I.new E A.lt) (J.new E)
  exact ⟨s₂, o, st' _ hs, r⟩
theorem gw_ret (C : Cx Z a0 y by0 ml rt κ) (hEL : EW Z a0 EL) (hd : decode by0 pc = .ok (.return_, 1)) (hrt : rt = none) (hc : ce ≤ R.cells) (hsl : sl ≤ R.slots) (hq : Q none h) : GoW l R Z EL y.cls ws h0 Q κ S h pc Ls [] ce sl := by
  obtain ⟨p, e, s, m, args, below, meth, c⟩ := κ
  intro vm0 k0 T locs X N eT I J
  obtain ⟨hx, hby, hml, -, hnm, hret, hlk, -⟩ := C
  have hZ : Z.Warmed39 (s.setVm vm0).vm := J.2.2.1
  have hown : (s.setVm vm0).vm.findClass y.cls = some m.cls := J.2.2.2.1
  obtain ⟨fs, hr, hrun, hended, hEnd⟩ := X.leaveW J.1 (by rw [eT]; exact J.2.1) (v := none) (fun _ => rfl) hlk
  have hq' : Keep h0 (T.setFrames fs).heap ws ∧ Q (none) (T.setFrames fs).heap := by
    show Keep h0 T.heap ws ∧ Q _ T.heap
    rw [eT]; exact ⟨I.2.1, hq⟩
  have hch : CHr Z EL s.vm h0 (T.setFrames fs).vm (T.setFrames fs).heap := by
    show CHr Z EL s.vm h0 T.vm T.heap
    rw [eT]; exact J.2.2.2.2.1.trans (CHv.at X J.2.2.1 hEL J.2.2.2.2.1.1)
  exact ⟨_, _, X.returnOut hx (hret.trans hrt) (hb hby hd) hr, hrun, hended, _, _, rfl, ⟨hq'.1, hq'.2, N⟩, hch, hEnd.1, hEnd.2.1, hEnd.2.2.1, hEnd.2.2.2.mono hc hsl⟩
theorem gw_retN (C : Cx Z a0 y by0 ml rt κ) (hEL : EW Z a0 EL) {t : FieldType} {x z : Int32} (hd : decode by0 pc = .ok (.ireturn, 1)) (hrt : rt = some t) (ht : t = .boolean ∨ t = .byte ∨ t = .char ∨ t = .short) (hz : nar t x = z) (hc : ce ≤ R.cells) (hsl : sl ≤ R.slots) (hq : Q (some (.int z)) h) : GoW l R Z EL y.cls ws h0 Q κ S h pc Ls (.int x :: st) ce sl := by
  subst hz
  obtain ⟨p, e, s, m, args, below, meth, c⟩ := κ
  intro vm0 k0 T locs X N eT I J
  obtain ⟨hx, hby, hml, -, hnm, hret, hlk, -⟩ := C
  have hZ : Z.Warmed39 (s.setVm vm0).vm := J.2.2.1
  have hown : (s.setVm vm0).vm.findClass y.cls = some m.cls := J.2.2.2.1
  obtain ⟨fs, hr, hrun, hended, hEnd⟩ := X.leaveW J.1 (by rw [eT]; exact J.2.1) (v := some (.int (nar t x))) (fun q => by rw [hret, hrt] at q; cases q) hlk
  have hq' : Keep h0 (T.setFrames fs).heap ws ∧ Q (some (.int (nar t x))) (T.setFrames fs).heap := by
    show Keep h0 T.heap ws ∧ Q _ T.heap
    rw [eT]; exact ⟨I.2.1, hq⟩
  have hch : CHr Z EL s.vm h0 (T.setFrames fs).vm (T.setFrames fs).heap := by
    show CHr Z EL s.vm h0 T.vm T.heap
    rw [eT]; exact J.2.2.2.2.1.trans (CHv.at X J.2.2.1 hEL J.2.2.2.2.1.1)
  exact ⟨_, _, retN X hx (hret.trans hrt) ht (hb hby hd) hr, hrun, hended, _, _, rfl, ⟨hq'.1, hq'.2, N⟩, hch, hEnd.1, hEnd.2.1, hEnd.2.2.1, hEnd.2.2.2.mono hc hsl⟩
theorem gw_retA (C : Cx Z a0 y by0 ml rt κ) (hEL : EW Z a0 EL) {v : Value} {t : FieldType} (hd : decode by0 pc = .ok (.areturn, 1)) (hrt : rt = some t) (ht : t.isReference = true) (hv : v.isRef = true) (hc : ce ≤ R.cells) (hsl : sl ≤ R.slots) (hq : Q (some v) h) : GoW l R Z EL y.cls ws h0 Q κ S h pc Ls (v :: st) ce sl := by
  obtain ⟨p, e, s, m, args, below, meth, c⟩ := κ
  intro vm0 k0 T locs X N eT I J
  obtain ⟨hx, hby, hml, -, hnm, hret, hlk, -⟩ := C
  have hZ : Z.Warmed39 (s.setVm vm0).vm := J.2.2.1
  have hown : (s.setVm vm0).vm.findClass y.cls = some m.cls := J.2.2.2.1
  obtain ⟨fs, hr, hrun, hended, hEnd⟩ := X.leaveW J.1 (by rw [eT]; exact J.2.1) (v := some v) (fun q => by rw [hret, hrt] at q; cases q) hlk
  have hq' : Keep h0 (T.setFrames fs).heap ws ∧ Q (some v) (T.setFrames fs).heap := by
    show Keep h0 T.heap ws ∧ Q _ T.heap
    rw [eT]; exact ⟨I.2.1, hq⟩
  have hch : CHr Z EL s.vm h0 (T.setFrames fs).vm (T.setFrames fs).heap := by
    show CHr Z EL s.vm h0 T.vm T.heap
    rw [eT]; exact J.2.2.2.2.1.trans (CHv.at X J.2.2.1 hEL J.2.2.2.2.1.1)
  have hn : narrow t v = v := by cases t <;> first | (cases ht; done) | (cases v <;> first | rfl | cases hv)
  exact ⟨_, _, retOut X hx (hret.trans hrt) hn (Or.inr (Or.inr (Or.inr (Or.inr ⟨rfl, ht, hv⟩)))) (hb hby hd) hr, hrun, hended, _, _, rfl, ⟨hq'.1, hq'.2, N⟩, hch, hEnd.1, hEnd.2.1, hEnd.2.2.1, hEnd.2.2.2.mono hc hsl⟩
theorem gw_callS (C : Cx Z a0 y by0 ml rt κ) {z : MethodName} {fr lo cc ss : Nat} {ws' : List Addr} {Qz : Option Value → Heap → Prop} {ps : List FieldType} {rr : Option FieldType} {argsL : List Value} {ix W : Nat} (hd : decode by0 pc = .ok (.invokestatic ix, 3)) {bz : ByteArray} {mlz : Nat} {rtz : Option FieldType} (w1 : (Cond.methodLink y.cls ix z).before a0 Z = true) (w2 : (Cond.static z).before a0 Z = true) (wz : (Cond.initialized z.cls).before a0 Z = true) (wc : (Cond.code z bz mlz rtz).before a0 Z = true) (hy : z.cls ≠ "java/lang/invoke/MethodHandle" ∧ z.cls ≠ "java/lang/invoke/VarHandle") (hps : parseMethodDescriptor z.desc = some ⟨ps, rr⟩) (hM : Py l Z z fr lo cc ss argsL.toArray h ws' Qz) (hlen : argsL.length = ps.length) (hf : fr ≤ R.frames) (hW : (st.map fun v => v.category).sum ≤ W) (hlo : W + lo ≤ R.locals) (hls : Ls.size = ml) (hc : ce + cc ≤ R.cells) (hsl : sl + ss ≤ R.slots) (hws : ∀ x ∈ ws', x ∈ S) (k : ∀ v h', Keep h h' ws' → Qz v h' → ∃ bs, (∀ b ∈ bs, h.size ≤ b ∧ b < h'.size) ∧ GoW l R Z EL y.cls ws h0 Q κ (bs ++ S) h' (pc + 3) Ls (v.toList ++ st) (ce + cc) (sl + ss)) : GoW l R Z EL y.cls ws h0 Q κ S h pc Ls (argsL.reverse ++ st) ce sl := by
  obtain ⟨p, e, s, m, args, below, meth, c⟩ := κ
  intro vm0 k0 T locs X N eT I J
  obtain ⟨hx, hby, hml, -, hnm, hret, hlk, -⟩ := C
  have hZ : Z.Warmed39 (s.setVm vm0).vm := J.2.2.1
  have hown : (s.setVm vm0).vm.findClass y.cls = some m.cls := J.2.2.2.1
  have hO := fun x hx => (⟨(I.2.2 x (hws x hx)).1, (I.2.2 x (hws x hx)).2.1⟩ : x < h.size ∧ Z.heap.size ≤ x)
  have hB := hM I.1 hO p e R below (s.setVm vm0) args 3 W hZ hf hlo
  obtain ⟨v, _, ⟨T', L', k', n'⟩, -, X', ⟨Lc, hQ, l', y', z'⟩, st'⟩ := Jvm.LawKit.callS X hx hown (mvT hZ w1) (mvT hZ w2) (mvT hZ wz) (mvT hZ wc) hy hB (g := mkF m pc Ls (argsL.reverse ++ st)) rfl (hls.trans hml.symm) (argsL := argsL) (rest := st) (lenOf hps hlen) rfl (by show 2 * 0 + _ ≤ _; rw [Nat.mul_zero, Nat.zero_add]; exact hW) (hb hby hd) (fun _ _ => ⟨rfl, eT, hc, hsl⟩)
  dsimp only [Pt.U, Pt.locs, Pt.cells, Pt.slots] at X' l' y' z' st' hQ
  subst l' y' z'
  obtain ⟨K, hQ, N'⟩ := hQ
  have NN := Fr.app N N'
  obtain ⟨bs, hbs, kk⟩ := k v T'.heap K hQ
  obtain ⟨s₂, o, hs, r⟩ := kk vm0 k0 T' _ X' NN rfl (I.add (I.keep K hws) hbs) (J.add K hws hbs)
  exact ⟨s₂, o, st' _ hs, r⟩
theorem gw_callI (C : Cx Z a0 y by0 ml rt κ) {z : MethodName} {fr lo cc ss : Nat} {ws' : List Addr} {Qz : Option Value → Heap → Prop} {ps : List FieldType} {rr : Option FieldType} {argsL : List Value} {ix W : Nat} {a : Addr} (hd : decode by0 pc = .ok (.invokespecial ix, 3)) {bz : ByteArray} {mlz : Nat} (hin : z.name = "<init>") (w1 : (Cond.methodLink y.cls ix z).before a0 Z = true) (w2 : (Cond.instanceMethod z).before a0 Z = true) (wc : (Cond.code z bz mlz none).before a0 Z = true) (hy : z.cls ≠ "java/lang/invoke/MethodHandle" ∧ z.cls ≠ "java/lang/invoke/VarHandle") (hps : parseMethodDescriptor z.desc = some ⟨ps, rr⟩) (hM : Py l Z z fr lo cc ss (.ref a :: argsL).toArray h ws' Qz) (hlen : argsL.length = ps.length) (hf : fr ≤ R.frames) (hW : (st.map fun v => v.category).sum ≤ W) (hlo : W + lo ≤ R.locals) (hls : Ls.size = ml) (hc : ce + cc ≤ R.cells) (hsl : sl + ss ≤ R.slots) (hws : ∀ x ∈ ws', x ∈ S) (k : ∀ v h', Keep h h' ws' → Qz v h' → ∃ bs, (∀ b ∈ bs, h.size ≤ b ∧ b < h'.size) ∧ GoW l R Z EL y.cls ws h0 Q κ (bs ++ S) h' (pc + 3) Ls (v.toList ++ st) (ce + cc) (sl + ss)) : GoW l R Z EL y.cls ws h0 Q κ S h pc Ls (argsL.reverse ++ .ref a :: st) ce sl := by
  obtain ⟨p, e, s, m, args, below, meth, c⟩ := κ
  intro vm0 k0 T locs X N eT I J
  obtain ⟨hx, hby, hml, -, hnm, hret, hlk, -⟩ := C
  have hZ : Z.Warmed39 (s.setVm vm0).vm := J.2.2.1
  have hown : (s.setVm vm0).vm.findClass y.cls = some m.cls := J.2.2.2.1
  have hO := fun x hx => (⟨(I.2.2 x (hws x hx)).1, (I.2.2 x (hws x hx)).2.1⟩ : x < h.size ∧ Z.heap.size ≤ x)
  have hB := hM I.1 hO p e R below (s.setVm vm0) args 3 W hZ hf hlo
  obtain ⟨v, _, ⟨T', L', k', n'⟩, -, X', ⟨Lc, hQ, l', y', z'⟩, st'⟩ := X.specialBack hx hin hown (mvT hZ w1) (mvT hZ w2) (mvT hZ wc) hy hB (g := mkF m pc Ls (argsL.reverse ++ Value.ref a :: st)) rfl (hls.trans hml.symm) (Steps.refl _) (a := a) (argsL := argsL) (rest := st) (lenOf hps hlen) rfl (by show 2 * 0 + _ ≤ _; rw [Nat.mul_zero, Nat.zero_add]; exact hW) (hb hby hd) (fun _ _ => ⟨rfl, eT, hc, hsl⟩)
  dsimp only [Pt.U, Pt.locs, Pt.cells, Pt.slots] at X' l' y' z' st' hQ
  subst l' y' z'
  obtain ⟨K, hQ, N'⟩ := hQ
  have NN := Fr.app N N'
  obtain ⟨bs, hbs, kk⟩ := k v T'.heap K hQ
  obtain ⟨s₂, o, hs, r⟩ := kk vm0 k0 T' _ X' NN rfl (I.add (I.keep K hws) hbs) (J.add K hws hbs)
  exact ⟨s₂, o, st'.trans hs, r⟩
theorem gw_callV (C : Cx Z a0 y by0 ml rt κ) {z : MethodName} {fr lo cc ss : Nat} {ws' : List Addr} {Qz : Option Value → Heap → Prop} {ps : List FieldType} {rr : Option FieldType} {argsL : List Value} {ix W : Nat} {a : Addr} (hd : decode by0 pc = .ok (.invokevirtual ix, 3)) {y1 : MethodName} {Cn : String} (w1 : (Cond.methodLink y.cls ix y1).before a0 Z = true) (w2 : (Cond.declares y1).before a0 Z = true) (nf : ∀ (s : State), Z.Warmed39 s.vm → NotFace s y1) (w3 : (Cond.selects Cn y1 z).before a0 Z = true) (w4 : (Cond.instanceMethod z).before a0 Z = true) (EX : Exa Z h a Cn) (hy : y1.cls ≠ "java/lang/invoke/MethodHandle" ∧ y1.cls ≠ "java/lang/invoke/VarHandle") (hps : parseMethodDescriptor y1.desc = some ⟨ps, rr⟩) (hM : Py l Z z fr lo cc ss (.ref a :: argsL).toArray h ws' Qz) (hlen : argsL.length = ps.length) (hf : fr ≤ R.frames) (hW : (st.map fun v => v.category).sum ≤ W) (hlo : W + lo ≤ R.locals) (hls : Ls.size = ml) (hc : ce + cc ≤ R.cells) (hsl : sl + ss ≤ R.slots) (hws : ∀ x ∈ ws', x ∈ S) (k : ∀ v h', Keep h h' ws' → Qz v h' → ∃ bs, (∀ b ∈ bs, h.size ≤ b ∧ b < h'.size) ∧ GoW l R Z EL y.cls ws h0 Q κ (bs ++ S) h' (pc + 3) Ls (v.toList ++ st) (ce + cc) (sl + ss)) : GoW l R Z EL y.cls ws h0 Q κ S h pc Ls (argsL.reverse ++ .ref a :: st) ce sl := by
  obtain ⟨p, e, s, m, args, below, meth, c⟩ := κ
  intro vm0 k0 T locs X N eT I J
  obtain ⟨hx, hby, hml, -, hnm, hret, hlk, -⟩ := C
  have hZ : Z.Warmed39 (s.setVm vm0).vm := J.2.2.1
  have hown : (s.setVm vm0).vm.findClass y.cls = some m.cls := J.2.2.2.1
  have hO := fun x hx => (⟨(I.2.2 x (hws x hx)).1, (I.2.2 x (hws x hx)).2.1⟩ : x < h.size ∧ Z.heap.size ≤ x)
  have hB := hM I.1 hO p e R below (s.setVm vm0) args 3 W hZ hf hlo
  obtain ⟨v, _, ⟨T', L', k', n'⟩, -, X', ⟨Lc, hQ, l', y', z'⟩, st'⟩ := (let ⟨cq, kq, qa, qb, qc⟩ := isOf hZ eT EX; X.virtualBack hx hown (mvT hZ w1) (mvT hZ w2) (nf _ hZ) (mvT hZ w3) (mvT hZ w4) hy hB qa qc (g := mkF m pc Ls (argsL.reverse ++ Value.ref a :: st)) rfl (hls.trans hml.symm) (Steps.refl _) (argsL := argsL) (rest := st) (lenOf hps hlen) rfl (by show 2 * 0 + _ ≤ _; rw [Nat.mul_zero, Nat.zero_add]; exact hW) (hb hby hd) (fun _ _ => ⟨rfl, eT, hc, hsl⟩))
  dsimp only [Pt.U, Pt.locs, Pt.cells, Pt.slots] at X' l' y' z' st' hQ
  subst l' y' z'
  obtain ⟨K, hQ, N'⟩ := hQ
  have NN := Fr.app N N'
  obtain ⟨bs, hbs, kk⟩ := k v T'.heap K hQ
  obtain ⟨s₂, o, hs, r⟩ := kk vm0 k0 T' _ X' NN rfl (I.add (I.keep K hws) hbs) (J.add K hws hbs)
  exact ⟨s₂, o, st'.trans hs, r⟩
theorem gw_callSW (C : Cx Z a0 y by0 ml rt κ) (hEL : EW Z a0 EL) {z : MethodName} {fr lo cc ss : Nat} {ws' : List Addr} {Qz : Option Value → Heap → Prop} {ps : List FieldType} {rr : Option FieldType} {argsL : List Value} {ix W : Nat} (hd : decode by0 pc = .ok (.invokestatic ix, 3)) {bz : ByteArray} {mlz : Nat} {rtz : Option FieldType} (w1 : (Cond.methodLink y.cls ix z).before a0 Z = true) (w2 : (Cond.static z).before a0 Z = true) (wz : (Cond.initialized z.cls).before a0 Z = true) (wc : (Cond.code z bz mlz rtz).before a0 Z = true) (hy : z.cls ≠ "java/lang/invoke/MethodHandle" ∧ z.cls ≠ "java/lang/invoke/VarHandle") (hps : parseMethodDescriptor z.desc = some ⟨ps, rr⟩) (hM : PyW l Z EL a0 z fr lo cc ss argsL.toArray h ws' Qz) (hlen : argsL.length = ps.length) (hf : fr ≤ R.frames) (hW : (st.map fun v => v.category).sum ≤ W) (hlo : W + lo ≤ R.locals) (hls : Ls.size = ml) (hc : ce + cc ≤ R.cells) (hsl : sl + ss ≤ R.slots) (hws : ∀ x ∈ ws', x ∈ S) (k : ∀ v h', Keep h h' ws' → Qz v h' → GoW l R Z EL y.cls ws h0 Q κ S h' (pc + 3) Ls (v.toList ++ st) (ce + cc) (sl + ss)) : GoW l R Z EL y.cls ws h0 Q κ S h pc Ls (argsL.reverse ++ st) ce sl := by
  obtain ⟨p, e, s, m, args, below, meth, c⟩ := κ
  intro vm0 k0 T locs X N eT I J
  obtain ⟨hx, hby, hml, -, hnm, hret, hlk, -⟩ := C
  have hZ : Z.Warmed39 (s.setVm vm0).vm := J.2.2.1
  have hown : (s.setVm vm0).vm.findClass y.cls = some m.cls := J.2.2.2.1
  have hO := fun x hx => (⟨(I.2.2 x (hws x hx)).1, (I.2.2 x (hws x hx)).2.1⟩ : x < h.size ∧ Z.heap.size ≤ x)
  have hB := hM I.1 hO hEL p e R below s vm0 args 3 W J.2.2.1 hf hlo J.2.2.2.2.1.1 (fun x hx => J.2.2.2.2.2 x (hws x hx))
  obtain ⟨v, _, ⟨T', L', k', n'⟩, -, X', hS', hg', ⟨Lc, hQ, l', y', z', hch'⟩, st'⟩ := callSS X hx hown (mvT hZ w1) (mvT hZ w2) (mvT hZ wz) (mvT hZ wc) hy hB (g := mkF m pc Ls (argsL.reverse ++ st)) rfl (hls.trans hml.symm) (argsL := argsL) (rest := st) (lenOf hps hlen) rfl (by show 2 * 0 + _ ≤ _; rw [Nat.mul_zero, Nat.zero_add]; exact hW) (hb hby hd) (fun _ _ => ⟨rfl, eT, hc, hsl⟩)
  dsimp only [Pt.U, Pt.locs, Pt.cells, Pt.slots] at X' l' y' z' st' hQ hS' hg' hch'
  subst l' y' z'
  obtain ⟨K, hQ, N'⟩ := hQ
  have NN := Fr.app N N'
  obtain ⟨X2, hS2, hZ2, hown2⟩ := rebS J.1 (by rw [eT]; exact J.2.1 : k0 ≤ T.heap.size) X' hS' hg' hZ hown
  obtain ⟨s₂, o, hs, r⟩ := k v T'.heap K hQ _ _ T' _ X2 NN rfl (I.keep K hws) ⟨hS2, Nat.le_refl _, hZ2, hown2, J.2.2.2.2.1.trans hch', fun x hx => hch'.safe (I.2.2 x hx).1 (J.2.2.2.2.2 x hx)⟩
  exact ⟨s₂, o, st'.trans hs, r⟩
theorem gw_callIW (C : Cx Z a0 y by0 ml rt κ) (hEL : EW Z a0 EL) {z : MethodName} {fr lo cc ss : Nat} {ws' : List Addr} {Qz : Option Value → Heap → Prop} {ps : List FieldType} {rr : Option FieldType} {argsL : List Value} {ix W : Nat} {a : Addr} (hd : decode by0 pc = .ok (.invokespecial ix, 3)) {bz : ByteArray} {mlz : Nat} (hin : z.name = "<init>") (w1 : (Cond.methodLink y.cls ix z).before a0 Z = true) (w2 : (Cond.instanceMethod z).before a0 Z = true) (wc : (Cond.code z bz mlz none).before a0 Z = true) (hy : z.cls ≠ "java/lang/invoke/MethodHandle" ∧ z.cls ≠ "java/lang/invoke/VarHandle") (hps : parseMethodDescriptor z.desc = some ⟨ps, rr⟩) (hM : PyW l Z EL a0 z fr lo cc ss (.ref a :: argsL).toArray h ws' Qz) (hlen : argsL.length = ps.length) (hf : fr ≤ R.frames) (hW : (st.map fun v => v.category).sum ≤ W) (hlo : W + lo ≤ R.locals) (hls : Ls.size = ml) (hc : ce + cc ≤ R.cells) (hsl : sl + ss ≤ R.slots) (hws : ∀ x ∈ ws', x ∈ S) (k : ∀ v h', Keep h h' ws' → Qz v h' → GoW l R Z EL y.cls ws h0 Q κ S h' (pc + 3) Ls (v.toList ++ st) (ce + cc) (sl + ss)) : GoW l R Z EL y.cls ws h0 Q κ S h pc Ls (argsL.reverse ++ .ref a :: st) ce sl := by
  obtain ⟨p, e, s, m, args, below, meth, c⟩ := κ
  intro vm0 k0 T locs X N eT I J
  obtain ⟨hx, hby, hml, -, hnm, hret, hlk, -⟩ := C
  have hZ : Z.Warmed39 (s.setVm vm0).vm := J.2.2.1
  have hown : (s.setVm vm0).vm.findClass y.cls = some m.cls := J.2.2.2.1
  have hO := fun x hx => (⟨(I.2.2 x (hws x hx)).1, (I.2.2 x (hws x hx)).2.1⟩ : x < h.size ∧ Z.heap.size ≤ x)
  have hB := hM I.1 hO hEL p e R below s vm0 args 3 W J.2.2.1 hf hlo J.2.2.2.2.1.1 (fun x hx => J.2.2.2.2.2 x (hws x hx))
  obtain ⟨v, _, ⟨T', L', k', n'⟩, -, X', hS', hg', ⟨Lc, hQ, l', y', z', hch'⟩, st'⟩ := X.specialBackS hx hin hown (mvT hZ w1) (mvT hZ w2) (mvT hZ wc) hy hB (g := mkF m pc Ls (argsL.reverse ++ Value.ref a :: st)) rfl (hls.trans hml.symm) (Steps.refl _) (a := a) (argsL := argsL) (rest := st) (lenOf hps hlen) rfl (by show 2 * 0 + _ ≤ _; rw [Nat.mul_zero, Nat.zero_add]; exact hW) (hb hby hd) (fun _ _ => ⟨rfl, eT, hc, hsl⟩)
  dsimp only [Pt.U, Pt.locs, Pt.cells, Pt.slots] at X' l' y' z' st' hQ hS' hg' hch'
  subst l' y' z'
  obtain ⟨K, hQ, N'⟩ := hQ
  have NN := Fr.app N N'
  obtain ⟨X2, hS2, hZ2, hown2⟩ := rebS J.1 (by rw [eT]; exact J.2.1 : k0 ≤ T.heap.size) X' hS' hg' hZ hown
  obtain ⟨s₂, o, hs, r⟩ := k v T'.heap K hQ _ _ T' _ X2 NN rfl (I.keep K hws) ⟨hS2, Nat.le_refl _, hZ2, hown2, J.2.2.2.2.1.trans hch', fun x hx => hch'.safe (I.2.2 x hx).1 (J.2.2.2.2.2 x hx)⟩
  exact ⟨s₂, o, st'.trans hs, r⟩
theorem gw_ldcS (C : Cx Z a0 y by0 ml rt κ) (hEL : EW Z a0 EL) (pc' ce' sl' : Nat) {ix n : Nat} {text : String} {vs : List Value} {zn : Int32} (hd : decode by0 pc = .ok (.ldc ix, 2)) (hce : ce + 2 = ce') (hsl' : sl + (n + 4) = sl') (hpc : pc + 2 = pc') (w : (Cond.stringLink y.cls ix text).before a0 Z = true) (wS : ∀ a ∈ Bundle.stringAtoms, a.before a0 Z = true) (hmem : (y.cls, ix) ∈ EL) (ht : (∀ c ∈ text.toList, c.toNat < 256) ∧ text.toList.map (fun c => Value.int (Jvm.Lit.byteI c.toNat.toUInt16)) = vs) (hz : ¬ zn < 0) (hl : zn.toNatClampNeg = vs.length) (hn : 4 * text.toList.length ≤ n) (hbig : n ≤ 536870912) (hc : ce + 2 ≤ R.cells) (hsl : sl + (n + 4) ≤ R.slots) (k : ∀ (a b : Addr) kc h', Ext h h' → Exa Z h' a "java/lang/String" → Fld Z h' a "java/lang/String" "coder" "B" (.int 0) → Fld Z h' a "java/lang/String" "value" "[B" (.ref b) → Arv Z h' b kc .byte zn vs (.int 0) → (∀ x ∈ S, x ≠ a ∧ x ≠ b) → GoW l R Z EL y.cls ws h0 Q κ S h' pc' Ls (.ref a :: st) ce' sl') : GoW l R Z EL y.cls ws h0 Q κ S h pc Ls st ce sl := by
  subst hpc hce hsl'
  obtain ⟨p, e, s, m, args, below, meth, c⟩ := κ
  intro vm0 k0 T locs X N eT I J
  obtain ⟨hx, hby, hml, -, hnm, hret, hlk, -⟩ := C
  have hZ : Z.Warmed39 (s.setVm vm0).vm := J.2.2.1
  have hown : (s.setVm vm0).vm.findClass y.cls = some m.cls := J.2.2.2.1
  obtain ⟨a, T', h', k1, b, kc, X', e', E, hS', hk', hZ', hown', q1, q2, q3, q4, -, -, hch', -, hsf, st'⟩ := ldcCH X hx J.2.2.1 J.2.2.2.1 w wS eT J.1 J.2.1 hEL hmem J.2.2.2.2.1.1 ht hz hl (g := mkF m pc Ls st) rfl (hb hby hd) hn hbig hc hsl
  have hs2 : ∀ x ∈ S, Safe Z EL T'.vm h' x := fun x hx => hch'.safe (I.2.2 x hx).1 (J.2.2.2.2.2 x hx)
  obtain ⟨s₂, o, hs, r⟩ := k a b kc h' E q1 q2 q3 q4 (fun x hx => hsf x (hs2 x hx)) _ _ T' _ X' N e' (I.ext E) ⟨hS', hk', hZ', hown', J.2.2.2.2.1.trans hch', hs2⟩
  exact ⟨s₂, o, st' _ hs, r⟩
end StepsW

theorem sto_arv {Z : State} {h : Heap} {a b : Addr} {kc : ClassId} {ty : FieldType} {n : Int32} {vs : List Value} {d : Value} {C : String} (F : Arv Z h a kc ty n vs d) (O : Ovr Z kc C) (I : Ins Z h b C true) : Sto Z h a (.ref b) := by
  obtain ⟨c, A, q, -⟩ := F
  exact Sto.ofV A q O I
theorem and_small (x m : Int32) (hm : 0 ≤ m.toInt) : ¬ (x &&& m) < 0 ∧ ¬ m < (x &&& m) := by
  have h := c_and x m hm
  constructor
  · rw [Int32.lt_iff_toInt_lt]; have e : (0 : Int32).toInt = 0 := rfl; omega
  · rw [Int32.lt_iff_toInt_lt]; omega
/-- a char: 0 to 65535 -/
def Chr (c : Int32) : Prop := ¬ c < 0 ∧ ¬ (65535 : Int32) < c
theorem Chr.nar {c : Int32} (h : Chr c) : nar .char c = c := by
  have e := c_i2c c
  have r := h
  unfold Chr at r
  rw [Int32.lt_iff_toInt_lt, Int32.lt_iff_toInt_lt] at r
  have e0 : (0 : Int32).toInt = 0 := rfl
  have e1 : (65535 : Int32).toInt = 65535 := rfl
  have q := rng32 c
  show c.toUInt32.toUInt16.toUInt32.toInt32 = c
  rw [← Int32.toInt_inj]
  omega
theorem Chr.i2c {c : Int32} (h : Chr c) : c.toUInt32.toUInt16.toUInt32.toInt32 = c := h.nar
theorem Chr.lat {c : Int32} (h0 : ¬ c < 0) (h1 : ¬ (255 : Int32) < c) : Chr c := ⟨h0, fun q => h1 (by rw [Int32.lt_iff_toInt_lt] at q ⊢; have e1 : (65535 : Int32).toInt = 65535 := rfl; have e2 : (255 : Int32).toInt = 255 := rfl; omega)⟩
theorem chr_and255 (x : Int32) : Chr (x &&& 255) := Chr.lat (and_small x 255 (by decide)).1 (and_small x 255 (by decide)).2
def lo8 (c : Int32) : Int32 := c.toInt8.toInt32
def hi8 (c : Int32) : Int32 := (c >>> ((8 : Int32) &&& 31)).toInt8.toInt32
theorem nar_byte (c : Int32) : nar .byte (c.toInt8.toInt32) = c.toInt8.toInt32 := by show c.toInt8.toInt32.toInt8.toInt32 = _; simp
theorem nar_lo8 (c : Int32) : nar .byte (lo8 c) = lo8 c := nar_byte c
theorem nar_hi8 (c : Int32) : nar .byte (hi8 c) = hi8 c := nar_byte _
theorem shr_0 (c : Int32) : c >>> ((0 : Int32) &&& 31) = c := by
  have h := c_ishr c 0 0 (by decide)
  rw [← Int32.toInt_inj, h]; simp
theorem lo8_and (c : Int32) : (lo8 c &&& 255).toInt = c.toInt % 256 := by
  have h := c_mask (lo8 c) 255 8 (by decide) (by decide)
  have q := c_i2b c
  have e : (lo8 c).toInt = c.toInt8.toInt32.toInt := rfl
  rw [h, e]
  have e2 : ((2 ^ 8 : Nat) : Int) = 256 := rfl
  rw [e2]; omega
theorem hi8_and {c : Int32} (hc : Chr c) : (hi8 c &&& 255).toInt = c.toInt / 256 := by
  have h := c_mask (hi8 c) 255 8 (by decide) (by decide)
  have q := c_i2b (c >>> ((8 : Int32) &&& 31))
  have s := c_ishr c 8 8 (by decide)
  have e : (hi8 c).toInt = (c >>> ((8 : Int32) &&& 31)).toInt8.toInt32.toInt := rfl
  obtain ⟨r1, r2⟩ := hc
  rw [Int32.lt_iff_toInt_lt] at r1 r2
  have e0 : (0 : Int32).toInt = 0 := rfl
  have e1 : (65535 : Int32).toInt = 65535 := rfl
  have e2 : ((2 ^ 8 : Nat) : Int) = 256 := rfl
  rw [h, e, e2]
  rw [e2] at s
  omega
theorem lo8_mask {c : Int32} (h0 : ¬ c < 0) (h1 : ¬ (255 : Int32) < c) : lo8 c &&& 255 = c := by
  have h := lo8_and c
  rw [Int32.lt_iff_toInt_lt] at h0 h1
  have e0 : (0 : Int32).toInt = 0 := rfl
  have e1 : (255 : Int32).toInt = 255 := rfl
  rw [← Int32.toInt_inj, h]; omega
theorem get16 {c : Int32} (hc : Chr c) : (((lo8 c &&& 255) <<< ((0 : Int32) &&& 31)) ||| ((hi8 c &&& 255) <<< ((8 : Int32) &&& 31))).toUInt32.toUInt16.toUInt32.toInt32 = c := by
  have a1 := lo8_and c
  have a2 := hi8_and hc
  have s1 := c_ishl (lo8 c &&& 255) 0 0 (by decide)
  have s2 := c_ishl (hi8 c &&& 255) 8 8 (by decide)
  have e8 : ((2 ^ 8 : Nat) : Int) = 256 := rfl
  have e00 : ((2 ^ 0 : Nat) : Int) = 1 := rfl
  rw [e00] at s1
  rw [e8] at s2
  have o := c_or' ((lo8 c &&& 255) <<< ((0 : Int32) &&& 31)) ((hi8 c &&& 255) <<< ((8 : Int32) &&& 31)) 8 (by decide) 256 rfl
  have z := c_i2c (((lo8 c &&& 255) <<< ((0 : Int32) &&& 31)) ||| ((hi8 c &&& 255) <<< ((8 : Int32) &&& 31)))
  obtain ⟨r1, r2⟩ := hc
  rw [Int32.lt_iff_toInt_lt] at r1 r2
  have e0 : (0 : Int32).toInt = 0 := rfl
  have e1 : (65535 : Int32).toInt = 65535 := rfl
  have t1 := rng32 ((lo8 c &&& 255) <<< ((0 : Int32) &&& 31))
  have t2 := rng32 ((hi8 c &&& 255) <<< ((8 : Int32) &&& 31))
  have t3 := rng32 (((lo8 c &&& 255) <<< ((0 : Int32) &&& 31)) ||| ((hi8 c &&& 255) <<< ((8 : Int32) &&& 31)))
  rw [← Int32.toInt_inj]
  have o' := o (by omega) (by omega) (by omega)
  omega
theorem wS {Z : State} {a0 : Array Value} (hw : ∀ d ∈ tables_1, d.before a0 Z = true) : ∀ a ∈ Bundle.stringAtoms, a.before a0 Z = true := fun d hd => hw d ((by decide +kernel : ∀ d ∈ Bundle.stringAtoms, d ∈ tables_1) d hd)
theorem and3 (x : Int32) : (x &&& (3 : Int32)) = 0 ∨ (x &&& (3 : Int32)) = 1 ∨ (x &&& (3 : Int32)) = 2 ∨ (x &&& (3 : Int32)) = 3 := by
  have h := c_and x (3 : Int32) (by decide)
  simp only [← Int32.toInt_inj]
  have e0 : (0 : Int32).toInt = 0 := rfl
  have e1 : (1 : Int32).toInt = 1 := rfl
  have e2 : (2 : Int32).toInt = 2 := rfl
  have e3 : (3 : Int32).toInt = 3 := rfl
  omega
theorem chr_mask (x : Int32) : Chr (x &&& (65535 : Int32)) := and_small x 65535 (by decide)

def Amb (Z : State) (a0 : Array Value) (cS : Int32) (g0 : Addr) (g1 : Addr) (g2 : Addr) (g3 : Addr) : Prop := EW Z a0 consts_1 ∧ Sta Z Z.heap "java/lang/String" "COMPACT_STRINGS" "Z" (.int cS) ∧ ¬ (cS = 0) ∧ Sta Z Z.heap "java/lang/StringUTF16" "$assertionsDisabled" "Z" (.int 1) ∧ Sta Z Z.heap "java/lang/StringUTF16" "HI_BYTE_SHIFT" "I" (.int 0) ∧ Sta Z Z.heap "java/lang/StringUTF16" "LO_BYTE_SHIFT" "I" (.int 8) ∧ Sta Z Z.heap "com/example/hook3/hook3/Interceptor" "STAGES" "I" (.int 4) ∧ Sta Z Z.heap "com/example/hook3/hook3/Stage" "ENTER" "Lcom/example/hook3/hook3/Stage;" (.ref g0) ∧ Exa Z Z.heap g0 "com/example/hook3/hook3/Stage" ∧ Fld Z Z.heap g0 "java/lang/Enum" "ordinal" "I" (.int 0) ∧ Sta Z Z.heap "com/example/hook3/hook3/Stage" "LEAVE" "Lcom/example/hook3/hook3/Stage;" (.ref g1) ∧ Exa Z Z.heap g1 "com/example/hook3/hook3/Stage" ∧ Fld Z Z.heap g1 "java/lang/Enum" "ordinal" "I" (.int 1) ∧ Sta Z Z.heap "com/example/hook3/hook3/Stage" "ERROR" "Lcom/example/hook3/hook3/Stage;" (.ref g2) ∧ Exa Z Z.heap g2 "com/example/hook3/hook3/Stage" ∧ Fld Z Z.heap g2 "java/lang/Enum" "ordinal" "I" (.int 2) ∧ Sta Z Z.heap "com/example/hook3/hook3/Stage" "FINAL" "Lcom/example/hook3/hook3/Stage;" (.ref g3) ∧ Exa Z Z.heap g3 "com/example/hook3/hook3/Stage" ∧ Fld Z Z.heap g3 "java/lang/Enum" "ordinal" "I" (.int 3)
abbrev HW (a0 : Array Value) (Z : State) : Prop := ∀ d ∈ tables_1, d.before a0 Z = true
set_option maxRecDepth 65536
set_option maxHeartbeats 40000000
theorem d21_0 : decode jdk_52_method_4_code 0 = .ok (.getstatic 44, 3) := by decide +kernel
theorem d21_3 : decode jdk_52_method_4_code 3 = .ok (.ifCond .ne 25, 3) := by decide +kernel
theorem d21_28 : decode jdk_52_method_4_code 28 = .ok (.iload_n 1, 1) := by decide +kernel
theorem d21_29 : decode jdk_52_method_4_code 29 = .ok (.iconst 1, 1) := by decide +kernel
theorem d21_30 : decode jdk_52_method_4_code 30 = .ok (.ishl, 1) := by decide +kernel
theorem d21_31 : decode jdk_52_method_4_code 31 = .ok (.istore_n 1, 1) := by decide +kernel
theorem d21_32 : decode jdk_52_method_4_code 32 = .ok (.aload_n 0, 1) := by decide +kernel
theorem d21_33 : decode jdk_52_method_4_code 33 = .ok (.iload_n 1, 1) := by decide +kernel
theorem d21_34 : decode jdk_52_method_4_code 34 = .ok (.iinc 1 1, 3) := by decide +kernel
theorem d21_37 : decode jdk_52_method_4_code 37 = .ok (.iload_n 2, 1) := by decide +kernel
theorem d21_38 : decode jdk_52_method_4_code 38 = .ok (.getstatic 59, 3) := by decide +kernel
theorem d21_41 : decode jdk_52_method_4_code 41 = .ok (.ishr, 1) := by decide +kernel
theorem d21_42 : decode jdk_52_method_4_code 42 = .ok (.i2b, 1) := by decide +kernel
theorem d21_43 : decode jdk_52_method_4_code 43 = .ok (.bastore, 1) := by decide +kernel
theorem d21_44 : decode jdk_52_method_4_code 44 = .ok (.aload_n 0, 1) := by decide +kernel
theorem d21_45 : decode jdk_52_method_4_code 45 = .ok (.iload_n 1, 1) := by decide +kernel
theorem d21_46 : decode jdk_52_method_4_code 46 = .ok (.iload_n 2, 1) := by decide +kernel
theorem d21_47 : decode jdk_52_method_4_code 47 = .ok (.getstatic 63, 3) := by decide +kernel
theorem d21_50 : decode jdk_52_method_4_code 50 = .ok (.ishr, 1) := by decide +kernel
theorem d21_51 : decode jdk_52_method_4_code 51 = .ok (.i2b, 1) := by decide +kernel
theorem d21_52 : decode jdk_52_method_4_code 52 = .ok (.bastore, 1) := by decide +kernel
theorem d21_53 : decode jdk_52_method_4_code 53 = .ok (.return_, 1) := by decide +kernel
theorem pn_java_lang_StringUTF16 : plainName "java/lang/StringUTF16" = true := by first | (simp [plainName, overriddenIn]; done) | decide +kernel
theorem d22_0 : decode jdk_52_method_5_code 0 = .ok (.getstatic 44, 3) := by decide +kernel
theorem d22_3 : decode jdk_52_method_5_code 3 = .ok (.ifCond .ne 25, 3) := by decide +kernel
theorem d22_28 : decode jdk_52_method_5_code 28 = .ok (.iload_n 1, 1) := by decide +kernel
theorem d22_29 : decode jdk_52_method_5_code 29 = .ok (.iconst 1, 1) := by decide +kernel
theorem d22_30 : decode jdk_52_method_5_code 30 = .ok (.ishl, 1) := by decide +kernel
theorem d22_31 : decode jdk_52_method_5_code 31 = .ok (.istore_n 1, 1) := by decide +kernel
theorem d22_32 : decode jdk_52_method_5_code 32 = .ok (.aload_n 0, 1) := by decide +kernel
theorem d22_33 : decode jdk_52_method_5_code 33 = .ok (.iload_n 1, 1) := by decide +kernel
theorem d22_34 : decode jdk_52_method_5_code 34 = .ok (.iinc 1 1, 3) := by decide +kernel
theorem d22_37 : decode jdk_52_method_5_code 37 = .ok (.baload, 1) := by decide +kernel
theorem d22_38 : decode jdk_52_method_5_code 38 = .ok (.sipush 255, 3) := by decide +kernel
theorem d22_41 : decode jdk_52_method_5_code 41 = .ok (.iand, 1) := by decide +kernel
theorem d22_42 : decode jdk_52_method_5_code 42 = .ok (.getstatic 59, 3) := by decide +kernel
theorem d22_45 : decode jdk_52_method_5_code 45 = .ok (.ishl, 1) := by decide +kernel
theorem d22_46 : decode jdk_52_method_5_code 46 = .ok (.aload_n 0, 1) := by decide +kernel
theorem d22_47 : decode jdk_52_method_5_code 47 = .ok (.iload_n 1, 1) := by decide +kernel
theorem d22_48 : decode jdk_52_method_5_code 48 = .ok (.baload, 1) := by decide +kernel
theorem d22_49 : decode jdk_52_method_5_code 49 = .ok (.sipush 255, 3) := by decide +kernel
theorem d22_52 : decode jdk_52_method_5_code 52 = .ok (.iand, 1) := by decide +kernel
theorem d22_53 : decode jdk_52_method_5_code 53 = .ok (.getstatic 63, 3) := by decide +kernel
theorem d22_56 : decode jdk_52_method_5_code 56 = .ok (.ishl, 1) := by decide +kernel
theorem d22_57 : decode jdk_52_method_5_code 57 = .ok (.ior, 1) := by decide +kernel
theorem d22_58 : decode jdk_52_method_5_code 58 = .ok (.i2c, 1) := by decide +kernel
theorem d22_59 : decode jdk_52_method_5_code 59 = .ok (.ireturn, 1) := by decide +kernel
theorem d20_0 : decode jdk_52_method_3_code 0 = .ok (.iload_n 0, 1) := by decide +kernel
theorem d20_1 : decode jdk_52_method_3_code 1 = .ok (.ifCond .ge 11, 3) := by decide +kernel
theorem d20_12 : decode jdk_52_method_3_code 12 = .ok (.iload_n 0, 1) := by decide +kernel
theorem d20_13 : decode jdk_52_method_3_code 13 = .ok (.ldc 20, 2) := by decide +kernel
theorem d20_15 : decode jdk_52_method_3_code 15 = .ok (.if_icmp .lt 40, 3) := by decide +kernel
theorem d20_55 : decode jdk_52_method_3_code 55 = .ok (.iload_n 0, 1) := by decide +kernel
theorem d20_56 : decode jdk_52_method_3_code 56 = .ok (.iconst 1, 1) := by decide +kernel
theorem d20_57 : decode jdk_52_method_3_code 57 = .ok (.ishl, 1) := by decide +kernel
theorem d20_58 : decode jdk_52_method_3_code 58 = .ok (.ireturn, 1) := by decide +kernel
theorem d19_0 : decode jdk_52_method_2_code 0 = .ok (.iload_n 0, 1) := by decide +kernel
theorem d19_1 : decode jdk_52_method_2_code 1 = .ok (.invokestatic 11, 3) := by decide +kernel
theorem pd__I_I : parseMethodDescriptor "(I)I" = some ⟨[.int], some .int⟩ := by decide +kernel
theorem d19_4 : decode jdk_52_method_2_code 4 = .ok (.newarray .byte, 2) := by decide +kernel
theorem d19_6 : decode jdk_52_method_2_code 6 = .ok (.areturn, 1) := by decide +kernel
theorem d18_0 : decode jdk_52_method_14_code 0 = .ok (.iload_n 2, 1) := by decide +kernel
theorem d18_1 : decode jdk_52_method_14_code 1 = .ok (.invokestatic 107, 3) := by decide +kernel
theorem pd__I__B : parseMethodDescriptor "(I)[B" = some ⟨[.int], some (.array .byte)⟩ := by decide +kernel
theorem d18_4 : decode jdk_52_method_14_code 4 = .ok (.astore_n 3, 1) := by decide +kernel
theorem d18_5 : decode jdk_52_method_14_code 5 = .ok (.iconst 0, 1) := by decide +kernel
theorem d18_6 : decode jdk_52_method_14_code 6 = .ok (.istore 4, 2) := by decide +kernel
theorem d18_8 : decode jdk_52_method_14_code 8 = .ok (.iload 4, 2) := by decide +kernel
theorem d18_10 : decode jdk_52_method_14_code 10 = .ok (.iload_n 2, 1) := by decide +kernel
theorem d18_11 : decode jdk_52_method_14_code 11 = .ok (.if_icmp .ge 21, 3) := by decide +kernel
theorem d18_14 : decode jdk_52_method_14_code 14 = .ok (.aload_n 3, 1) := by decide +kernel
theorem d18_15 : decode jdk_52_method_14_code 15 = .ok (.iload 4, 2) := by decide +kernel
theorem d18_17 : decode jdk_52_method_14_code 17 = .ok (.aload_n 0, 1) := by decide +kernel
theorem d18_18 : decode jdk_52_method_14_code 18 = .ok (.iload_n 1, 1) := by decide +kernel
theorem d18_19 : decode jdk_52_method_14_code 19 = .ok (.caload, 1) := by decide +kernel
theorem d18_20 : decode jdk_52_method_14_code 20 = .ok (.invokestatic 111, 3) := by decide +kernel
theorem pd___BII_V : parseMethodDescriptor "([BII)V" = some ⟨[(.array .byte), .int, .int], none⟩ := by decide +kernel
theorem d18_23 : decode jdk_52_method_14_code 23 = .ok (.iinc 1 1, 3) := by decide +kernel
theorem d18_26 : decode jdk_52_method_14_code 26 = .ok (.iinc 4 1, 3) := by decide +kernel
theorem d18_29 : decode jdk_52_method_14_code 29 = .ok (.goto (-21), 3) := by decide +kernel
theorem d18_32 : decode jdk_52_method_14_code 32 = .ok (.aload_n 3, 1) := by decide +kernel
theorem d18_33 : decode jdk_52_method_14_code 33 = .ok (.areturn, 1) := by decide +kernel
theorem d16_0 : decode jdk_52_method_21_code 0 = .ok (.iconst 0, 1) := by decide +kernel
theorem d16_1 : decode jdk_52_method_21_code 1 = .ok (.istore 5, 2) := by decide +kernel
theorem d16_3 : decode jdk_52_method_21_code 3 = .ok (.iload 5, 2) := by decide +kernel
theorem d16_5 : decode jdk_52_method_21_code 5 = .ok (.iload 4, 2) := by decide +kernel
theorem d16_7 : decode jdk_52_method_21_code 7 = .ok (.if_icmp .ge 37, 3) := by decide +kernel
theorem d16_10 : decode jdk_52_method_21_code 10 = .ok (.aload_n 0, 1) := by decide +kernel
theorem d16_11 : decode jdk_52_method_21_code 11 = .ok (.iload_n 1, 1) := by decide +kernel
theorem d16_12 : decode jdk_52_method_21_code 12 = .ok (.caload, 1) := by decide +kernel
theorem d16_13 : decode jdk_52_method_21_code 13 = .ok (.istore 6, 2) := by decide +kernel
theorem d16_15 : decode jdk_52_method_21_code 15 = .ok (.iload 6, 2) := by decide +kernel
theorem d16_17 : decode jdk_52_method_21_code 17 = .ok (.sipush 255, 3) := by decide +kernel
theorem d16_20 : decode jdk_52_method_21_code 20 = .ok (.if_icmp .le 6, 3) := by decide +kernel
theorem d16_23 : decode jdk_52_method_21_code 23 = .ok (.iload 5, 2) := by decide +kernel
theorem d16_25 : decode jdk_52_method_21_code 25 = .ok (.ireturn, 1) := by decide +kernel
theorem d16_26 : decode jdk_52_method_21_code 26 = .ok (.aload_n 2, 1) := by decide +kernel
theorem d16_27 : decode jdk_52_method_21_code 27 = .ok (.iload_n 3, 1) := by decide +kernel
theorem d16_28 : decode jdk_52_method_21_code 28 = .ok (.iload 6, 2) := by decide +kernel
theorem d16_30 : decode jdk_52_method_21_code 30 = .ok (.i2b, 1) := by decide +kernel
theorem d16_31 : decode jdk_52_method_21_code 31 = .ok (.bastore, 1) := by decide +kernel
theorem d16_32 : decode jdk_52_method_21_code 32 = .ok (.iinc 1 1, 3) := by decide +kernel
theorem d16_35 : decode jdk_52_method_21_code 35 = .ok (.iinc 3 1, 3) := by decide +kernel
theorem d16_38 : decode jdk_52_method_21_code 38 = .ok (.iinc 5 1, 3) := by decide +kernel
theorem d16_41 : decode jdk_52_method_21_code 41 = .ok (.goto (-38), 3) := by decide +kernel
theorem d16_44 : decode jdk_52_method_21_code 44 = .ok (.iload 4, 2) := by decide +kernel
theorem d16_46 : decode jdk_52_method_21_code 46 = .ok (.ireturn, 1) := by decide +kernel
theorem d15_0 : decode jdk_52_method_16_code 0 = .ok (.iload_n 2, 1) := by decide +kernel
theorem d15_1 : decode jdk_52_method_16_code 1 = .ok (.newarray .byte, 2) := by decide +kernel
theorem d15_3 : decode jdk_52_method_16_code 3 = .ok (.astore_n 3, 1) := by decide +kernel
theorem d15_4 : decode jdk_52_method_16_code 4 = .ok (.aload_n 0, 1) := by decide +kernel
theorem d15_5 : decode jdk_52_method_16_code 5 = .ok (.iload_n 1, 1) := by decide +kernel
theorem d15_6 : decode jdk_52_method_16_code 6 = .ok (.aload_n 3, 1) := by decide +kernel
theorem d15_7 : decode jdk_52_method_16_code 7 = .ok (.iconst 0, 1) := by decide +kernel
theorem d15_8 : decode jdk_52_method_16_code 8 = .ok (.iload_n 2, 1) := by decide +kernel
theorem d15_9 : decode jdk_52_method_16_code 9 = .ok (.invokestatic 115, 3) := by decide +kernel
theorem pd___CI_BII_I : parseMethodDescriptor "([CI[BII)I" = some ⟨[(.array .char), .int, (.array .byte), .int, .int], some .int⟩ := by decide +kernel
theorem d15_12 : decode jdk_52_method_16_code 12 = .ok (.istore 4, 2) := by decide +kernel
theorem d15_14 : decode jdk_52_method_16_code 14 = .ok (.iload 4, 2) := by decide +kernel
theorem d15_16 : decode jdk_52_method_16_code 16 = .ok (.iload_n 2, 1) := by decide +kernel
theorem d15_17 : decode jdk_52_method_16_code 17 = .ok (.if_icmp .eq 40, 3) := by decide +kernel
theorem d15_57 : decode jdk_52_method_16_code 57 = .ok (.aload_n 3, 1) := by decide +kernel
theorem d15_58 : decode jdk_52_method_16_code 58 = .ok (.areturn, 1) := by decide +kernel
theorem d15_20 : decode jdk_52_method_16_code 20 = .ok (.aload_n 0, 1) := by decide +kernel
theorem d15_21 : decode jdk_52_method_16_code 21 = .ok (.iload_n 1, 1) := by decide +kernel
theorem d15_22 : decode jdk_52_method_16_code 22 = .ok (.iload_n 2, 1) := by decide +kernel
theorem d15_23 : decode jdk_52_method_16_code 23 = .ok (.invokestatic 119, 3) := by decide +kernel
theorem pd___CII__B : parseMethodDescriptor "([CII)[B" = some ⟨[(.array .char), .int, .int], some (.array .byte)⟩ := by decide +kernel
theorem d15_26 : decode jdk_52_method_16_code 26 = .ok (.astore 5, 2) := by decide +kernel
theorem d15_28 : decode jdk_52_method_16_code 28 = .ok (.aload 5, 2) := by decide +kernel
theorem d15_30 : decode jdk_52_method_16_code 30 = .ok (.iload 4, 2) := by decide +kernel
theorem d15_32 : decode jdk_52_method_16_code 32 = .ok (.invokestatic 71, 3) := by decide +kernel
theorem pd___BI_C : parseMethodDescriptor "([BI)C" = some ⟨[(.array .byte), .int], some .char⟩ := by decide +kernel
theorem d15_35 : decode jdk_52_method_16_code 35 = .ok (.sipush 255, 3) := by decide +kernel
theorem d15_38 : decode jdk_52_method_16_code 38 = .ok (.if_icmp .gt 16, 3) := by decide +kernel
theorem d15_54 : decode jdk_52_method_16_code 54 = .ok (.aload 5, 2) := by decide +kernel
theorem d15_56 : decode jdk_52_method_16_code 56 = .ok (.areturn, 1) := by decide +kernel
theorem d17_0 : decode jdk_52_method_15_code 0 = .ok (.iload_n 1, 1) := by decide +kernel
theorem d17_1 : decode jdk_52_method_15_code 1 = .ok (.aload_n 0, 1) := by decide +kernel
theorem d17_2 : decode jdk_52_method_15_code 2 = .ok (.arraylength, 1) := by decide +kernel
theorem d17_3 : decode jdk_52_method_15_code 3 = .ok (.isub, 1) := by decide +kernel
theorem d17_4 : decode jdk_52_method_15_code 4 = .ok (.bipush 31, 2) := by decide +kernel
theorem d17_6 : decode jdk_52_method_15_code 6 = .ok (.iushr, 1) := by decide +kernel
theorem d17_7 : decode jdk_52_method_15_code 7 = .ok (.i2b, 1) := by decide +kernel
theorem d17_8 : decode jdk_52_method_15_code 8 = .ok (.ireturn, 1) := by decide +kernel
theorem d3_0 : decode jdk_42_method_149_code 0 = .ok (.aload_n 0, 1) := by decide +kernel
theorem d3_1 : decode jdk_42_method_149_code 1 = .ok (.invokespecial 1, 3) := by decide +kernel
theorem d3_4 : decode jdk_42_method_149_code 4 = .ok (.iload_n 3, 1) := by decide +kernel
theorem d3_5 : decode jdk_42_method_149_code 5 = .ok (.ifCond .ne 22, 3) := by decide +kernel
theorem d3_27 : decode jdk_42_method_149_code 27 = .ok (.getstatic 38, 3) := by decide +kernel
theorem d3_30 : decode jdk_42_method_149_code 30 = .ok (.ifCond .eq 28, 3) := by decide +kernel
theorem d3_33 : decode jdk_42_method_149_code 33 = .ok (.aload_n 1, 1) := by decide +kernel
theorem d3_34 : decode jdk_42_method_149_code 34 = .ok (.iload_n 2, 1) := by decide +kernel
theorem d3_35 : decode jdk_42_method_149_code 35 = .ok (.iload_n 3, 1) := by decide +kernel
theorem d3_36 : decode jdk_42_method_149_code 36 = .ok (.invokestatic 177, 3) := by decide +kernel
theorem d3_39 : decode jdk_42_method_149_code 39 = .ok (.astore 5, 2) := by decide +kernel
theorem d3_41 : decode jdk_42_method_149_code 41 = .ok (.aload_n 0, 1) := by decide +kernel
theorem d3_42 : decode jdk_42_method_149_code 42 = .ok (.aload 5, 2) := by decide +kernel
theorem d3_44 : decode jdk_42_method_149_code 44 = .ok (.iload_n 3, 1) := by decide +kernel
theorem d3_45 : decode jdk_42_method_149_code 45 = .ok (.invokestatic 47, 3) := by decide +kernel
theorem pd___BI_B : parseMethodDescriptor "([BI)B" = some ⟨[(.array .byte), .int], some .byte⟩ := by decide +kernel
theorem d3_48 : decode jdk_42_method_149_code 48 = .ok (.putfield 15, 3) := by decide +kernel
theorem d3_51 : decode jdk_42_method_149_code 51 = .ok (.aload_n 0, 1) := by decide +kernel
theorem d3_52 : decode jdk_42_method_149_code 52 = .ok (.aload 5, 2) := by decide +kernel
theorem d3_54 : decode jdk_42_method_149_code 54 = .ok (.putfield 9, 3) := by decide +kernel
theorem d3_57 : decode jdk_42_method_149_code 57 = .ok (.return_, 1) := by decide +kernel
theorem pn_java_lang_String : plainName "java/lang/String" = true := by first | (simp [plainName, overriddenIn]; done) | decide +kernel
theorem d2_0 : decode jdk_42_method_3_code 0 = .ok (.aload_n 0, 1) := by decide +kernel
theorem d2_1 : decode jdk_42_method_3_code 1 = .ok (.aload_n 1, 1) := by decide +kernel
theorem d2_2 : decode jdk_42_method_3_code 2 = .ok (.iconst 0, 1) := by decide +kernel
theorem d2_3 : decode jdk_42_method_3_code 3 = .ok (.aload_n 1, 1) := by decide +kernel
theorem d2_4 : decode jdk_42_method_3_code 4 = .ok (.arraylength, 1) := by decide +kernel
theorem d2_5 : decode jdk_42_method_3_code 5 = .ok (.aconst_null, 1) := by decide +kernel
theorem d2_6 : decode jdk_42_method_3_code 6 = .ok (.invokespecial 27, 3) := by decide +kernel
theorem pd___CIILjava_lang_Void__V : parseMethodDescriptor "([CIILjava/lang/Void;)V" = some ⟨[(.array .char), .int, .int, (.object "java/lang/Void")], none⟩ := by decide +kernel
theorem d2_9 : decode jdk_42_method_3_code 9 = .ok (.return_, 1) := by decide +kernel
theorem d3_8 : decode jdk_42_method_149_code 8 = .ok (.aload_n 0, 1) := by decide +kernel
theorem d3_9 : decode jdk_42_method_149_code 9 = .ok (.ldc 7, 2) := by decide +kernel
theorem d3_11 : decode jdk_42_method_149_code 11 = .ok (.getfield 9, 3) := by decide +kernel
theorem d3_14 : decode jdk_42_method_149_code 14 = .ok (.putfield 9, 3) := by decide +kernel
theorem d3_17 : decode jdk_42_method_149_code 17 = .ok (.aload_n 0, 1) := by decide +kernel
theorem d3_18 : decode jdk_42_method_149_code 18 = .ok (.ldc 7, 2) := by decide +kernel
theorem d3_20 : decode jdk_42_method_149_code 20 = .ok (.getfield 15, 3) := by decide +kernel
theorem d3_23 : decode jdk_42_method_149_code 23 = .ok (.putfield 15, 3) := by decide +kernel
theorem d3_26 : decode jdk_42_method_149_code 26 = .ok (.return_, 1) := by decide +kernel
theorem d1_0 : decode method_2_code 0 = .ok (.iload_n 0, 1) := by decide +kernel
theorem d1_1 : decode method_2_code 1 = .ok (.ifCond .ne 11, 3) := by decide +kernel
theorem d1_4 : decode method_2_code 4 = .ok (.iconst 0, 1) := by decide +kernel
theorem d1_5 : decode method_2_code 5 = .ok (.newarray .char, 2) := by decide +kernel
theorem d1_7 : decode method_2_code 7 = .ok (.astore 4, 2) := by decide +kernel
theorem d1_9 : decode method_2_code 9 = .ok (.goto 58, 3) := by decide +kernel
theorem d1_67 : decode method_2_code 67 = .ok (.aload 4, 2) := by decide +kernel
theorem d1_69 : decode method_2_code 69 = .ok (.areturn, 1) := by decide +kernel
theorem pn_com_example_hook3_hook3_InterceptorNamedPinLaw : plainName "com/example/hook3/hook3/InterceptorNamedPinLaw" = true := by first | (simp [plainName, overriddenIn]; done) | decide +kernel
theorem d1_12 : decode method_2_code 12 = .ok (.iload_n 0, 1) := by decide +kernel
theorem d1_13 : decode method_2_code 13 = .ok (.iconst 1, 1) := by decide +kernel
theorem d1_14 : decode method_2_code 14 = .ok (.if_icmp .ne 15, 3) := by decide +kernel
theorem d1_17 : decode method_2_code 17 = .ok (.iconst 1, 1) := by decide +kernel
theorem d1_18 : decode method_2_code 18 = .ok (.newarray .char, 2) := by decide +kernel
theorem d1_20 : decode method_2_code 20 = .ok (.dup, 1) := by decide +kernel
theorem d1_21 : decode method_2_code 21 = .ok (.iconst 0, 1) := by decide +kernel
theorem d1_22 : decode method_2_code 22 = .ok (.iload_n 1, 1) := by decide +kernel
theorem d1_23 : decode method_2_code 23 = .ok (.castore, 1) := by decide +kernel
theorem d1_24 : decode method_2_code 24 = .ok (.astore 4, 2) := by decide +kernel
theorem d1_26 : decode method_2_code 26 = .ok (.goto 41, 3) := by decide +kernel
theorem d1_29 : decode method_2_code 29 = .ok (.iload_n 0, 1) := by decide +kernel
theorem d1_30 : decode method_2_code 30 = .ok (.iconst 2, 1) := by decide +kernel
theorem d1_31 : decode method_2_code 31 = .ok (.if_icmp .ne 19, 3) := by decide +kernel
theorem d1_34 : decode method_2_code 34 = .ok (.iconst 2, 1) := by decide +kernel
theorem d1_35 : decode method_2_code 35 = .ok (.newarray .char, 2) := by decide +kernel
theorem d1_37 : decode method_2_code 37 = .ok (.dup, 1) := by decide +kernel
theorem d1_38 : decode method_2_code 38 = .ok (.iconst 0, 1) := by decide +kernel
theorem d1_39 : decode method_2_code 39 = .ok (.iload_n 1, 1) := by decide +kernel
theorem d1_40 : decode method_2_code 40 = .ok (.castore, 1) := by decide +kernel
theorem d1_41 : decode method_2_code 41 = .ok (.dup, 1) := by decide +kernel
theorem d1_42 : decode method_2_code 42 = .ok (.iconst 1, 1) := by decide +kernel
theorem d1_43 : decode method_2_code 43 = .ok (.iload_n 2, 1) := by decide +kernel
theorem d1_44 : decode method_2_code 44 = .ok (.castore, 1) := by decide +kernel
theorem d1_45 : decode method_2_code 45 = .ok (.astore 4, 2) := by decide +kernel
theorem d1_47 : decode method_2_code 47 = .ok (.goto 20, 3) := by decide +kernel
theorem d1_50 : decode method_2_code 50 = .ok (.iconst 3, 1) := by decide +kernel
theorem d1_51 : decode method_2_code 51 = .ok (.newarray .char, 2) := by decide +kernel
theorem d1_53 : decode method_2_code 53 = .ok (.dup, 1) := by decide +kernel
theorem d1_54 : decode method_2_code 54 = .ok (.iconst 0, 1) := by decide +kernel
theorem d1_55 : decode method_2_code 55 = .ok (.iload_n 1, 1) := by decide +kernel
theorem d1_56 : decode method_2_code 56 = .ok (.castore, 1) := by decide +kernel
theorem d1_57 : decode method_2_code 57 = .ok (.dup, 1) := by decide +kernel
theorem d1_58 : decode method_2_code 58 = .ok (.iconst 1, 1) := by decide +kernel
theorem d1_59 : decode method_2_code 59 = .ok (.iload_n 2, 1) := by decide +kernel
theorem d1_60 : decode method_2_code 60 = .ok (.castore, 1) := by decide +kernel
theorem d1_61 : decode method_2_code 61 = .ok (.dup, 1) := by decide +kernel
theorem d1_62 : decode method_2_code 62 = .ok (.iconst 2, 1) := by decide +kernel
theorem d1_63 : decode method_2_code 63 = .ok (.iload_n 3, 1) := by decide +kernel
theorem d1_64 : decode method_2_code 64 = .ok (.castore, 1) := by decide +kernel
theorem d1_65 : decode method_2_code 65 = .ok (.astore 4, 2) := by decide +kernel
theorem d6_0 : decode jdk_31_method_11_code 0 = .ok (.aload_n 0, 1) := by decide +kernel
theorem d6_1 : decode jdk_31_method_11_code 1 = .ok (.ifnonnull 12, 3) := by decide +kernel
theorem d6_13 : decode jdk_31_method_11_code 13 = .ok (.aload_n 0, 1) := by decide +kernel
theorem d6_14 : decode jdk_31_method_11_code 14 = .ok (.areturn, 1) := by decide +kernel
theorem pn_java_util_Objects : plainName "java/util/Objects" = true := by first | (simp [plainName, overriddenIn]; done) | decide +kernel
theorem d7_0 : decode prog_5_method_24_code 0 = .ok (.getstatic 93, 3) := by decide +kernel
theorem d7_3 : decode prog_5_method_24_code 3 = .ok (.anewarray 37, 3) := by decide +kernel
theorem d7_6 : decode prog_5_method_24_code 6 = .ok (.areturn, 1) := by decide +kernel
theorem pn_com_example_hook3_hook3_Interceptor : plainName "com/example/hook3/hook3/Interceptor" = true := by first | (simp [plainName, overriddenIn]; done) | decide +kernel
theorem d8_0 : decode prog_5_method_1_code 0 = .ok (.aload_n 0, 1) := by decide +kernel
theorem d8_1 : decode prog_5_method_1_code 1 = .ok (.invokespecial 1, 3) := by decide +kernel
theorem d8_4 : decode prog_5_method_1_code 4 = .ok (.aload_n 0, 1) := by decide +kernel
theorem d8_5 : decode prog_5_method_1_code 5 = .ok (.aload_n 1, 1) := by decide +kernel
theorem d8_6 : decode prog_5_method_1_code 6 = .ok (.putfield 7, 3) := by decide +kernel
theorem d8_9 : decode prog_5_method_1_code 9 = .ok (.aload_n 0, 1) := by decide +kernel
theorem d8_10 : decode prog_5_method_1_code 10 = .ok (.aload_n 2, 1) := by decide +kernel
theorem d8_11 : decode prog_5_method_1_code 11 = .ok (.putfield 13, 3) := by decide +kernel
theorem d8_14 : decode prog_5_method_1_code 14 = .ok (.aload_n 0, 1) := by decide +kernel
theorem d8_15 : decode prog_5_method_1_code 15 = .ok (.aload_n 3, 1) := by decide +kernel
theorem d8_16 : decode prog_5_method_1_code 16 = .ok (.putfield 17, 3) := by decide +kernel
theorem d8_19 : decode prog_5_method_1_code 19 = .ok (.return_, 1) := by decide +kernel
theorem d5_0 : decode prog_5_method_2_code 0 = .ok (.aload_n 0, 1) := by decide +kernel
theorem d5_1 : decode prog_5_method_2_code 1 = .ok (.ldc 20, 2) := by decide +kernel
theorem d5_3 : decode prog_5_method_2_code 3 = .ok (.invokestatic 21, 3) := by decide +kernel
theorem pd__Ljava_lang_Object_Ljava_lang_String__Ljava_lang_Object_ : parseMethodDescriptor "(Ljava/lang/Object;Ljava/lang/String;)Ljava/lang/Object;" = some ⟨[(.object "java/lang/Object"), (.object "java/lang/String")], some (.object "java/lang/Object")⟩ := by decide +kernel
theorem d5_6 : decode prog_5_method_2_code 6 = .ok (.pop, 1) := by decide +kernel
theorem d5_7 : decode prog_5_method_2_code 7 = .ok (.new 8, 3) := by decide +kernel
theorem d5_10 : decode prog_5_method_2_code 10 = .ok (.dup, 1) := by decide +kernel
theorem d5_11 : decode prog_5_method_2_code 11 = .ok (.aload_n 0, 1) := by decide +kernel
theorem d5_12 : decode prog_5_method_2_code 12 = .ok (.invokestatic 27, 3) := by decide +kernel
theorem pd____Ljava_util_function_Function_ : parseMethodDescriptor "()[Ljava/util/function/Function;" = some ⟨[], some (.array (.object "java/util/function/Function"))⟩ := by decide +kernel
theorem d5_15 : decode prog_5_method_2_code 15 = .ok (.invokestatic 27, 3) := by decide +kernel
theorem d5_18 : decode prog_5_method_2_code 18 = .ok (.invokespecial 31, 3) := by decide +kernel
theorem pd__Ljava_lang_String__Ljava_util_function_Function__Ljava_util_function_Function__V : parseMethodDescriptor "(Ljava/lang/String;[Ljava/util/function/Function;[Ljava/util/function/Function;)V" = some ⟨[(.object "java/lang/String"), (.array (.object "java/util/function/Function")), (.array (.object "java/util/function/Function"))], none⟩ := by decide +kernel
theorem d5_21 : decode prog_5_method_2_code 21 = .ok (.areturn, 1) := by decide +kernel
theorem d9_0 : decode prog_5_method_16_code 0 = .ok (.aload_n 0, 1) := by decide +kernel
theorem d9_1 : decode prog_5_method_16_code 1 = .ok (.getfield 7, 3) := by decide +kernel
theorem d9_4 : decode prog_5_method_16_code 4 = .ok (.areturn, 1) := by decide +kernel
theorem d11_0 : decode jdk_42_method_152_code 0 = .ok (.getstatic 38, 3) := by decide +kernel
theorem d11_3 : decode jdk_42_method_152_code 3 = .ok (.ifCond .eq 10, 3) := by decide +kernel
theorem d11_6 : decode jdk_42_method_152_code 6 = .ok (.aload_n 0, 1) := by decide +kernel
theorem d11_7 : decode jdk_42_method_152_code 7 = .ok (.getfield 15, 3) := by decide +kernel
theorem d11_10 : decode jdk_42_method_152_code 10 = .ok (.goto 4, 3) := by decide +kernel
theorem d11_14 : decode jdk_42_method_152_code 14 = .ok (.ireturn, 1) := by decide +kernel
theorem d10_0 : decode jdk_42_method_54_code 0 = .ok (.aload_n 0, 1) := by decide +kernel
theorem d10_1 : decode jdk_42_method_54_code 1 = .ok (.getfield 9, 3) := by decide +kernel
theorem d10_4 : decode jdk_42_method_54_code 4 = .ok (.arraylength, 1) := by decide +kernel
theorem d10_5 : decode jdk_42_method_54_code 5 = .ok (.aload_n 0, 1) := by decide +kernel
theorem d10_6 : decode jdk_42_method_54_code 6 = .ok (.invokevirtual 335, 3) := by decide +kernel
theorem pd___B : parseMethodDescriptor "()B" = some ⟨[], some .byte⟩ := by decide +kernel
theorem d10_9 : decode jdk_42_method_54_code 9 = .ok (.ishr, 1) := by decide +kernel
theorem d10_10 : decode jdk_42_method_54_code 10 = .ok (.ireturn, 1) := by decide +kernel
theorem d12_0 : decode jdk_42_method_66_code 0 = .ok (.aload_n 0, 1) := by decide +kernel
theorem d12_1 : decode jdk_42_method_66_code 1 = .ok (.aload_n 1, 1) := by decide +kernel
theorem d12_2 : decode jdk_42_method_66_code 2 = .ok (.if_acmp .ne 5, 3) := by decide +kernel
theorem d12_5 : decode jdk_42_method_66_code 5 = .ok (.iconst 1, 1) := by decide +kernel
theorem d12_6 : decode jdk_42_method_66_code 6 = .ok (.ireturn, 1) := by decide +kernel
theorem d14_0 : decode jdk_37_method_2_code 0 = .ok (.aload_n 0, 1) := by decide +kernel
theorem d14_1 : decode jdk_37_method_2_code 1 = .ok (.getfield 7, 3) := by decide +kernel
theorem d14_4 : decode jdk_37_method_2_code 4 = .ok (.ireturn, 1) := by decide +kernel
theorem pn_java_lang_Enum : plainName "java/lang/Enum" = true := by first | (simp [plainName, overriddenIn]; done) | decide +kernel
theorem d13_0 : decode prog_5_method_19_code 0 = .ok (.aload_n 0, 1) := by decide +kernel
theorem d13_1 : decode prog_5_method_19_code 1 = .ok (.getfield 13, 3) := by decide +kernel
theorem d13_4 : decode prog_5_method_19_code 4 = .ok (.aload_n 1, 1) := by decide +kernel
theorem d13_5 : decode prog_5_method_19_code 5 = .ok (.invokevirtual 74, 3) := by decide +kernel
theorem pd___I : parseMethodDescriptor "()I" = some ⟨[], some .int⟩ := by decide +kernel
theorem d13_8 : decode prog_5_method_19_code 8 = .ok (.aaload, 1) := by decide +kernel
theorem d13_9 : decode prog_5_method_19_code 9 = .ok (.ifnonnull 15, 3) := by decide +kernel
theorem d13_12 : decode prog_5_method_19_code 12 = .ok (.aload_n 0, 1) := by decide +kernel
theorem d13_13 : decode prog_5_method_19_code 13 = .ok (.getfield 17, 3) := by decide +kernel
theorem d13_16 : decode prog_5_method_19_code 16 = .ok (.aload_n 1, 1) := by decide +kernel
theorem d13_17 : decode prog_5_method_19_code 17 = .ok (.invokevirtual 74, 3) := by decide +kernel
theorem d13_20 : decode prog_5_method_19_code 20 = .ok (.aaload, 1) := by decide +kernel
theorem d13_21 : decode prog_5_method_19_code 21 = .ok (.ifnull 7, 3) := by decide +kernel
theorem d13_28 : decode prog_5_method_19_code 28 = .ok (.iconst 0, 1) := by decide +kernel
theorem d13_29 : decode prog_5_method_19_code 29 = .ok (.ireturn, 1) := by decide +kernel
theorem pd__ICCC__C : parseMethodDescriptor "(ICCC)[C" = some ⟨[.int, .char, .char, .char], some (.array .char)⟩ := by decide +kernel
theorem pd___C_V : parseMethodDescriptor "([C)V" = some ⟨[(.array .char)], none⟩ := by decide +kernel
theorem pd__Ljava_lang_String__Lcom_example_hook3_hook3_Interceptor_ : parseMethodDescriptor "(Ljava/lang/String;)Lcom/example/hook3/hook3/Interceptor;" = some ⟨[(.object "java/lang/String")], some (.object "com/example/hook3/hook3/Interceptor")⟩ := by decide +kernel
theorem pd___Ljava_lang_String_ : parseMethodDescriptor "()Ljava/lang/String;" = some ⟨[], some (.object "java/lang/String")⟩ := by decide +kernel
theorem pd__Ljava_lang_Object__Z : parseMethodDescriptor "(Ljava/lang/Object;)Z" = some ⟨[(.object "java/lang/Object")], some .boolean⟩ := by decide +kernel
theorem pd__Lcom_example_hook3_hook3_Stage__Z : parseMethodDescriptor "(Lcom/example/hook3/hook3/Stage;)Z" = some ⟨[(.object "com/example/hook3/hook3/Stage")], some .boolean⟩ := by decide +kernel
theorem ct_put1_0 (l : Launch) (Z : State) (a0 : Array Value) (hw : HW a0 Z) {cS : Int32} {g0 : Addr} {g1 : Addr} {g2 : Addr} {g3 : Addr} (am : Amb Z a0 cS g0 g1 g2 g3) {t : Addr} {kB : ClassId} {c0 : Int32} {h0 : Heap} (p0 : Arv Z h0 t kB .byte (2 : Int32) [(.int 0), (.int 0)] (.int 0)) :
    Py l Z (⟨"java/lang/StringUTF16", "putChar", "([BII)V"⟩ : MethodName) 1 14 0 0 #[(.ref t), (.int 0), (.int c0)] h0 [t] (fun rv h' => rv = none ∧ Arv Z h' t kB .byte (2 : Int32) [(.int (lo8 c0)), (.int (hi8 c0))] (.int 0)) := by
  refine Ct.py (by0 := jdk_52_method_4_code) (ml := 3) (rt := none) (rm := ({ frames := 0, cells := 0, slots := 0, locals := 0 } : Room)) ?_ (hq hw 121 rfl) (hq hw 101 rfl)
  refine Ct.mk (a0 := a0) (Ls := #[.val (.ref t), .val (.int 0), .val (.int c0)]) (plainFor_of_name pn_java_lang_StringUTF16) (fun m => by first | (simp [entryFrame, mkF, argsToLocals, Value.category]; done) | rfl) ?_
  intro κ C
  show Go l _ Z _ _ _ κ [t] h0 0 #[.val (.ref t), .val (.int 0), .val (.int c0)] [] 0 0
  refine go_getS C 3 d21_0 rfl (hq hw 122 rfl) am.2.2.2.1 ?_
  refine go_ifY C (pc' := 28) d21_3 (feq ((by decide) : ¬ ((1 : Int32) = (0 : Int32)))).2 (by decide) (by decide) ?_
  refine go_iloadN C 29 d21_28 rfl rfl ?_
  refine go_iconst C 30 (1 : Int32) d21_29 rfl (by decide) ?_
  refine go_ishl C 31 (0 : Int32) d21_30 rfl (by decide) ?_
  refine go_istoreN C 32 (Ls' := #[.val (.ref t), .val (.int 0), .val (.int c0)]) d21_31 rfl rfl ?_
  refine go_aloadN C 33 d21_32 rfl rfl rfl ?_
  refine go_iloadN C 34 d21_33 rfl rfl ?_
  refine go_iinc C 37 (Ls' := #[.val (.ref t), .val (.int 1), .val (.int c0)]) (1 : Int32) d21_34 rfl (by decide) rfl rfl ?_
  refine go_iloadN C 38 d21_37 rfl rfl ?_
  refine go_getS C 41 d21_38 rfl (hq hw 123 rfl) am.2.2.2.2.1 ?_
  refine go_ishr C 42 c0 d21_41 rfl (shr_0 _) ?_
  refine go_i2b C 43 (lo8 c0) d21_42 rfl rfl ?_
  refine go_bastore C 44 0 (v := (lo8 c0)) (nar_lo8 _) d21_43 rfl p0 (by decide) rfl (nble rfl) (mi 0 rfl) ?_
  intro h1 W2 x3
  have x4 : Arv Z h1 t kB .byte (2 : Int32) [(.int (lo8 c0)), (.int 0)] (.int 0) := x3
  refine go_aloadN C 45 d21_44 rfl rfl rfl ?_
  refine go_iloadN C 46 d21_45 rfl rfl ?_
  refine go_iloadN C 47 d21_46 rfl rfl ?_
  refine go_getS C 50 d21_47 rfl (hq hw 124 rfl) am.2.2.2.2.2.1 ?_
  refine go_ishr C 51 (c0 >>> ((8 : Int32) &&& 31)) d21_50 rfl rfl ?_
  refine go_i2b C 52 (hi8 c0) d21_51 rfl rfl ?_
  refine go_bastore C 53 1 (v := (hi8 c0)) (nar_hi8 _) d21_52 rfl x4 (by decide) rfl (nble rfl) (mi 0 rfl) ?_
  intro h5 W6 x7
  have x8 : Arv Z h5 t kB .byte (2 : Int32) [(.int (lo8 c0)), (.int (hi8 c0))] (.int 0) := x7
  refine go_ret C d21_53 rfl (by decide) (by decide) ?_
  exact ⟨rfl, x8⟩
theorem ct_get1_0 (l : Launch) (Z : State) (a0 : Array Value) (hw : HW a0 Z) {cS : Int32} {g0 : Addr} {g1 : Addr} {g2 : Addr} {g3 : Addr} (am : Amb Z a0 cS g0 g1 g2 g3) {t : Addr} {kB : ClassId} {c0 : Int32} {h0 : Heap} (p0 : Arv Z h0 t kB .byte (2 : Int32) [(.int (lo8 c0)), (.int (hi8 c0))] (.int 0)) (r0 : Chr c0) :
    Py l Z (⟨"java/lang/StringUTF16", "getChar", "([BI)C"⟩ : MethodName) 1 13 0 0 #[(.ref t), (.int 0)] h0 [] (fun rv h' => rv = some (.int c0) ∧ h' = h0) := by
  refine Ct.py (by0 := jdk_52_method_5_code) (ml := 2) (rt := (some .char)) (rm := ({ frames := 0, cells := 0, slots := 0, locals := 0 } : Room)) ?_ (hq hw 127 rfl) (hq hw 101 rfl)
  refine Ct.mk (a0 := a0) (Ls := #[.val (.ref t), .val (.int 0)]) (plainFor_of_name pn_java_lang_StringUTF16) (fun m => by first | (simp [entryFrame, mkF, argsToLocals, Value.category]; done) | rfl) ?_
  intro κ C
  show Go l _ Z _ _ _ κ [] h0 0 #[.val (.ref t), .val (.int 0)] [] 0 0
  refine go_getS C 3 d22_0 rfl (hq hw 122 rfl) am.2.2.2.1 ?_
  refine go_ifY C (pc' := 28) d22_3 (feq ((by decide) : ¬ ((1 : Int32) = (0 : Int32)))).2 (by decide) (by decide) ?_
  refine go_iloadN C 29 d22_28 rfl rfl ?_
  refine go_iconst C 30 (1 : Int32) d22_29 rfl (by decide) ?_
  refine go_ishl C 31 (0 : Int32) d22_30 rfl (by decide) ?_
  refine go_istoreN C 32 (Ls' := #[.val (.ref t), .val (.int 0)]) d22_31 rfl rfl ?_
  refine go_aloadN C 33 d22_32 rfl rfl rfl ?_
  refine go_iloadN C 34 d22_33 rfl rfl ?_
  refine go_iinc C 37 (Ls' := #[.val (.ref t), .val (.int 1)]) (1 : Int32) d22_34 rfl (by decide) rfl rfl ?_
  refine go_baload C 38 (v := (.int (lo8 c0))) d22_37 rfl p0 (by decide) rfl ?_
  refine go_sipush C 41 (255 : Int32) d22_38 rfl (by decide) ?_
  refine go_iand C 42 ((lo8 c0) &&& (255 : Int32)) d22_41 rfl rfl ?_
  refine go_getS C 45 d22_42 rfl (hq hw 123 rfl) am.2.2.2.2.1 ?_
  refine go_ishl C 46 (((lo8 c0) &&& (255 : Int32)) <<< ((0 : Int32) &&& 31)) d22_45 rfl rfl ?_
  refine go_aloadN C 47 d22_46 rfl rfl rfl ?_
  refine go_iloadN C 48 d22_47 rfl rfl ?_
  refine go_baload C 49 (v := (.int (hi8 c0))) d22_48 rfl p0 (by decide) rfl ?_
  refine go_sipush C 52 (255 : Int32) d22_49 rfl (by decide) ?_
  refine go_iand C 53 ((hi8 c0) &&& (255 : Int32)) d22_52 rfl rfl ?_
  refine go_getS C 56 d22_53 rfl (hq hw 124 rfl) am.2.2.2.2.2.1 ?_
  refine go_ishl C 57 (((hi8 c0) &&& (255 : Int32)) <<< ((8 : Int32) &&& 31)) d22_56 rfl rfl ?_
  refine go_ior C 58 ((((lo8 c0) &&& (255 : Int32)) <<< ((0 : Int32) &&& 31)) ||| (((hi8 c0) &&& (255 : Int32)) <<< ((8 : Int32) &&& 31))) d22_57 rfl rfl ?_
  refine go_i2c C 59 c0 d22_58 rfl (get16 r0) ?_
  refine go_retN C (t := .char) (z := c0) d22_59 rfl (by decide) r0.nar (by decide) (by decide) ?_
  exact ⟨rfl, rfl⟩
theorem ct_nbl1 (l : Launch) (Z : State) (a0 : Array Value) (hw : HW a0 Z) {cS : Int32} {g0 : Addr} {g1 : Addr} {g2 : Addr} {g3 : Addr} (am : Amb Z a0 cS g0 g1 g2 g3) {h0 : Heap} :
    Py l Z (⟨"java/lang/StringUTF16", "newBytesLength", "(I)I"⟩ : MethodName) 1 12 0 0 #[(.int 1)] h0 [] (fun rv h' => rv = some (.int 2) ∧ h' = h0) := by
  refine Ct.py (by0 := jdk_52_method_3_code) (ml := 1) (rt := (some .int)) (rm := ({ frames := 0, cells := 0, slots := 0, locals := 0 } : Room)) ?_ (hq hw 117 rfl) (hq hw 101 rfl)
  refine Ct.mk (a0 := a0) (Ls := #[.val (.int 1)]) (plainFor_of_name pn_java_lang_StringUTF16) (fun m => by first | (simp [entryFrame, mkF, argsToLocals, Value.category]; done) | rfl) ?_
  intro κ C
  show Go l _ Z _ _ _ κ [] h0 0 #[.val (.int 1)] [] 0 0
  refine go_iloadN C 1 d20_0 rfl rfl ?_
  refine go_ifY C (pc' := 12) d20_1 (flt ((by decide) : ¬ ((1 : Int32) < (0 : Int32)))).2.1 (by decide) (by decide) ?_
  refine go_iloadN C 13 d20_12 rfl rfl ?_
  refine go_ldcInt C 15 (v := (1073741823 : Int32)) d20_13 rfl (hq hw 118 rfl) ?_
  refine go_icmpY C (pc' := 55) d20_15 (tlt ((by decide) : (1 : Int32) < (1073741823 : Int32))).1 (by decide) (by decide) ?_
  refine go_iloadN C 56 d20_55 rfl rfl ?_
  refine go_iconst C 57 (1 : Int32) d20_56 rfl (by decide) ?_
  refine go_ishl C 58 (2 : Int32) d20_57 rfl (by decide) ?_
  refine go_retI C d20_58 rfl (by decide) (by decide) ?_
  exact ⟨rfl, rfl⟩
theorem ct_nbf1 (l : Launch) (Z : State) (a0 : Array Value) (hw : HW a0 Z) {cS : Int32} {g0 : Addr} {g1 : Addr} {g2 : Addr} {g3 : Addr} (am : Amb Z a0 cS g0 g1 g2 g3) {h0 : Heap} :
    Py l Z (⟨"java/lang/StringUTF16", "newBytesFor", "(I)[B"⟩ : MethodName) 2 24 1 2 #[(.int 1)] h0 [] (fun rv h' => ∃ (t : Addr) (kB : ClassId), rv = some (.ref t) ∧ Arv Z h' t kB .byte (2 : Int32) [(.int 0), (.int 0)] (.int 0) ∧ (h0.size ≤ t)) := by
  refine Ct.py (by0 := jdk_52_method_2_code) (ml := 1) (rt := (some (.array .byte))) (rm := ({ frames := 1, cells := 1, slots := 2, locals := 12 } : Room)) ?_ (hq hw 114 rfl) (hq hw 101 rfl)
  refine Ct.mk (a0 := a0) (Ls := #[.val (.int 1)]) (plainFor_of_name pn_java_lang_StringUTF16) (fun m => by first | (simp [entryFrame, mkF, argsToLocals, Value.category]; done) | rfl) ?_
  intro κ C
  show Go l _ Z _ _ _ κ [] h0 0 #[.val (.int 1)] [] 0 0
  refine go_iloadN C 1 d19_0 rfl rfl ?_
  refine go_callS C (argsL := [(.int 1)]) (W := 0) d19_1 (hq hw 115 rfl) (hq hw 116 rfl) (hq hw 101 rfl) (hq hw 117 rfl) (by decide) pd__I_I (ct_nbl1 l Z a0 hw am) rfl (by decide) (Nat.le_of_eq rfl) (by decide) rfl (by decide) (by decide) mems0 ?_
  intro v1 h2 K3 q4
  obtain ⟨rfl, rfl⟩ := q4
  refine ⟨[], fresh0, ?_⟩
  show Go l _ Z _ _ _ κ _ _ 4 _ [(.int 2)] 0 0
  refine go_newP C 6 1 2 (ty := .byte) (cap := 2) d19_4 rfl rfl rfl rfl (hq hw 20 rfl) (by decide) (by decide) (by decide) (by decide) (by decide) ?_
  intro b5 h6 k7 g8 E9 V10
  have x11 : Arv Z h6 b5 k7 .byte (2 : Int32) [(.int 0), (.int 0)] (.int 0) := V10
  refine go_retA C (v := (.ref b5)) d19_6 rfl rfl rfl (by decide) (by decide) ?_
  exact ⟨b5, k7, rfl, x11, (Nat.le_of_eq g8.symm)⟩
theorem ct_tob1 (l : Launch) (Z : State) (a0 : Array Value) (hw : HW a0 Z) {cS : Int32} {g0 : Addr} {g1 : Addr} {g2 : Addr} {g3 : Addr} (am : Amb Z a0 cS g0 g1 g2 g3) {b : Addr} {kC : ClassId} {c0 : Int32} {h0 : Heap} (p0 : Arv Z h0 b kC .char (1 : Int32) [(.int c0)] (.int 0)) :
    Py l Z (⟨"java/lang/StringUTF16", "toBytes", "([CII)[B"⟩ : MethodName) 3 40 1 2 #[(.ref b), (.int 0), (.int 1)] h0 [] (fun rv h' => ∃ (t : Addr) (kB : ClassId), rv = some (.ref t) ∧ Arv Z h' t kB .byte (2 : Int32) [(.int (lo8 c0)), (.int (hi8 c0))] (.int 0) ∧ (h0.size ≤ t)) := by
  refine Ct.py (by0 := jdk_52_method_14_code) (ml := 5) (rt := (some (.array .byte))) (rm := ({ frames := 2, cells := 1, slots := 2, locals := 24 } : Room)) ?_ (hq hw 111 rfl) (hq hw 101 rfl)
  refine Ct.mk (a0 := a0) (Ls := #[.val (.ref b), .val (.int 0), .val (.int 1), .unset, .unset]) (plainFor_of_name pn_java_lang_StringUTF16) (fun m => by first | (simp [entryFrame, mkF, argsToLocals, Value.category]; done) | rfl) ?_
  intro κ C
  show Go l _ Z _ _ _ κ [] h0 0 #[.val (.ref b), .val (.int 0), .val (.int 1), .unset, .unset] [] 0 0
  refine go_iloadN C 1 d18_0 rfl rfl ?_
  refine go_callS C (argsL := [(.int 1)]) (W := 0) d18_1 (hq hw 112 rfl) (hq hw 113 rfl) (hq hw 101 rfl) (hq hw 114 rfl) (by decide) pd__I__B (ct_nbf1 l Z a0 hw am) rfl (by decide) (Nat.le_of_eq rfl) (by decide) rfl (by decide) (by decide) mems0 ?_
  intro v1 h2 K3 q4
  obtain ⟨t5, kB6, rfl, x7, x8⟩ := q4
  refine ⟨[t5], (freshS ⟨x8, (x7).lt⟩ fresh0), ?_⟩
  show Go l _ Z _ _ _ κ [t5] _ 4 _ [(.ref t5)] 1 2
  refine go_astoreN C 5 (Ls' := #[.val (.ref b), .val (.int 0), .val (.int 1), .val (.ref t5), .unset]) d18_4 rfl rfl rfl ?_
  refine go_iconst C 6 (0 : Int32) d18_5 rfl (by decide) ?_
  refine go_istore C 8 (Ls' := #[.val (.ref b), .val (.int 0), .val (.int 1), .val (.ref t5), .val (.int 0)]) d18_6 rfl rfl ?_
  refine go_iload C 10 d18_8 rfl rfl ?_
  refine go_iloadN C 11 d18_10 rfl rfl ?_
  refine go_icmpN C 14 d18_11 rfl (tlt ((by decide) : (0 : Int32) < (1 : Int32))).2.1 ?_
  refine go_aloadN C 15 d18_14 rfl rfl rfl ?_
  refine go_iload C 17 d18_15 rfl rfl ?_
  refine go_aloadN C 18 d18_17 rfl rfl rfl ?_
  refine go_iloadN C 19 d18_18 rfl rfl ?_
  have x9 := (p0.keep K3 nin0)
  refine go_caload C 20 (v := (.int c0)) d18_19 rfl x9 (by decide) rfl ?_
  refine go_callS C (argsL := [(.ref t5), (.int 0), (.int c0)]) (W := 0) d18_20 (hq hw 119 rfl) (hq hw 120 rfl) (hq hw 101 rfl) (hq hw 121 rfl) (by decide) pd___BII_V (ct_put1_0 l Z a0 hw am (t := t5) (kB := kB6) (c0 := c0) x7) rfl (by decide) (Nat.le_of_eq rfl) (by decide) rfl (by decide) (by decide) (memsS (mi 0 rfl) mems0) ?_
  intro v10 h11 K12 q13
  obtain ⟨rfl, x14⟩ := q13
  refine ⟨[], fresh0, ?_⟩
  show Go l _ Z _ _ _ κ _ _ 23 _ [] 1 2
  refine go_iinc C 26 (Ls' := #[.val (.ref b), .val (.int 1), .val (.int 1), .val (.ref t5), .val (.int 0)]) (1 : Int32) d18_23 rfl (by decide) rfl rfl ?_
  refine go_iinc C 29 (Ls' := #[.val (.ref b), .val (.int 1), .val (.int 1), .val (.ref t5), .val (.int 1)]) (1 : Int32) d18_26 rfl (by decide) rfl rfl ?_
  refine go_goto C (pc' := 8) d18_29 (by decide) (by decide) ?_
  refine go_iload C 10 d18_8 rfl rfl ?_
  refine go_iloadN C 11 d18_10 rfl rfl ?_
  refine go_icmpY C (pc' := 32) d18_11 (flt ((by decide) : ¬ ((1 : Int32) < (1 : Int32)))).2.1 (by decide) (by decide) ?_
  refine go_aloadN C 33 d18_32 rfl rfl rfl ?_
  refine go_retA C (v := (.ref t5)) d18_33 rfl rfl rfl (by decide) (by decide) ?_
  exact ⟨t5, kB6, rfl, x14, x8⟩
theorem ct_cmp1 (l : Launch) (Z : State) (a0 : Array Value) (hw : HW a0 Z) {cS : Int32} {g0 : Addr} {g1 : Addr} {g2 : Addr} {g3 : Addr} (am : Amb Z a0 cS g0 g1 g2 g3) {b : Addr} {t : Addr} {kC : ClassId} {kB : ClassId} {c0 : Int32} {h0 : Heap} (p0 : Arv Z h0 b kC .char (1 : Int32) [(.int c0)] (.int 0)) (p1 : Arv Z h0 t kB .byte (1 : Int32) [(.int 0)] (.int 0)) (hbt : b ≠ t) :
    Py l Z (⟨"java/lang/StringUTF16", "compress", "([CI[BII)I"⟩ : MethodName) 1 18 0 0 #[(.ref b), (.int 0), (.ref t), (.int 0), (.int 1)] h0 [t] (fun rv h' => (rv = some (.int 1) ∧ Arv Z h' t kB .byte (1 : Int32) [(.int (lo8 c0))] (.int 0) ∧ (¬ (255 : Int32) < c0)) ∨ (∃ (vs : List Value), rv = some (.int 0) ∧ Arv Z h' t kB .byte (1 : Int32) vs (.int 0) ∧ ((255 : Int32) < c0))) := by
  refine Ct.py (by0 := jdk_52_method_21_code) (ml := 7) (rt := (some .int)) (rm := ({ frames := 0, cells := 0, slots := 0, locals := 0 } : Room)) ?_ (hq hw 105 rfl) (hq hw 101 rfl)
  refine Ct.mk (a0 := a0) (Ls := #[.val (.ref b), .val (.int 0), .val (.ref t), .val (.int 0), .val (.int 1), .unset, .unset]) (plainFor_of_name pn_java_lang_StringUTF16) (fun m => by first | (simp [entryFrame, mkF, argsToLocals, Value.category]; done) | rfl) ?_
  intro κ C
  show Go l _ Z _ _ _ κ [t] h0 0 #[.val (.ref b), .val (.int 0), .val (.ref t), .val (.int 0), .val (.int 1), .unset, .unset] [] 0 0
  refine go_iconst C 1 (0 : Int32) d16_0 rfl (by decide) ?_
  refine go_istore C 3 (Ls' := #[.val (.ref b), .val (.int 0), .val (.ref t), .val (.int 0), .val (.int 1), .val (.int 0), .unset]) d16_1 rfl rfl ?_
  refine go_iload C 5 d16_3 rfl rfl ?_
  refine go_iload C 7 d16_5 rfl rfl ?_
  refine go_icmpN C 10 d16_7 rfl (tlt ((by decide) : (0 : Int32) < (1 : Int32))).2.1 ?_
  refine go_aloadN C 11 d16_10 rfl rfl rfl ?_
  refine go_iloadN C 12 d16_11 rfl rfl ?_
  refine go_caload C 13 (v := (.int c0)) d16_12 rfl p0 (by decide) rfl ?_
  refine go_istore C 15 (Ls' := #[.val (.ref b), .val (.int 0), .val (.ref t), .val (.int 0), .val (.int 1), .val (.int 0), .val (.int c0)]) d16_13 rfl rfl ?_
  refine go_iload C 17 d16_15 rfl rfl ?_
  refine go_sipush C 20 (255 : Int32) d16_17 rfl (by decide) ?_
  by_cases q0 : (255 : Int32) < c0
  · skip
    refine go_icmpN C 23 d16_20 rfl (tlt q0).2.2.2 ?_
    refine go_iload C 25 d16_23 rfl rfl ?_
    refine go_retI C d16_25 rfl (by decide) (by decide) ?_
    exact Or.inr (⟨[(.int 0)], rfl, p1, q0⟩)
  · skip
    refine go_icmpY C (pc' := 26) d16_20 (flt q0).2.2.2 (by decide) (by decide) ?_
    refine go_aloadN C 27 d16_26 rfl rfl rfl ?_
    refine go_iloadN C 28 d16_27 rfl rfl ?_
    refine go_iload C 30 d16_28 rfl rfl ?_
    refine go_i2b C 31 (lo8 c0) d16_30 rfl rfl ?_
    refine go_bastore C 32 0 (v := (lo8 c0)) (nar_lo8 _) d16_31 rfl p1 (by decide) rfl (nble rfl) (mi 0 rfl) ?_
    intro h1 W2 x3
    have x4 : Arv Z h1 t kB .byte (1 : Int32) [(.int (lo8 c0))] (.int 0) := x3
    refine go_iinc C 35 (Ls' := #[.val (.ref b), .val (.int 1), .val (.ref t), .val (.int 0), .val (.int 1), .val (.int 0), .val (.int c0)]) (1 : Int32) d16_32 rfl (by decide) rfl rfl ?_
    refine go_iinc C 38 (Ls' := #[.val (.ref b), .val (.int 1), .val (.ref t), .val (.int 1), .val (.int 1), .val (.int 0), .val (.int c0)]) (1 : Int32) d16_35 rfl (by decide) rfl rfl ?_
    refine go_iinc C 41 (Ls' := #[.val (.ref b), .val (.int 1), .val (.ref t), .val (.int 1), .val (.int 1), .val (.int 1), .val (.int c0)]) (1 : Int32) d16_38 rfl (by decide) rfl rfl ?_
    refine go_goto C (pc' := 3) d16_41 (by decide) (by decide) ?_
    refine go_iload C 5 d16_3 rfl rfl ?_
    refine go_iload C 7 d16_5 rfl rfl ?_
    refine go_icmpY C (pc' := 44) d16_7 (flt ((by decide) : ¬ ((1 : Int32) < (1 : Int32)))).2.1 (by decide) (by decide) ?_
    refine go_iload C 46 d16_44 rfl rfl ?_
    refine go_retI C d16_46 rfl (by decide) (by decide) ?_
    exact Or.inl ⟨rfl, x4, q0⟩
theorem ct_cmpA1 (l : Launch) (Z : State) (a0 : Array Value) (hw : HW a0 Z) {cS : Int32} {g0 : Addr} {g1 : Addr} {g2 : Addr} {g3 : Addr} (am : Amb Z a0 cS g0 g1 g2 g3) {b : Addr} {kC : ClassId} {c0 : Int32} {h0 : Heap} (p0 : Arv Z h0 b kC .char (1 : Int32) [(.int c0)] (.int 0)) (r0 : Chr c0) :
    Py l Z (⟨"java/lang/StringUTF16", "compress", "([CII)[B"⟩ : MethodName) 4 57 2 3 #[(.ref b), (.int 0), (.int 1)] h0 [] (fun rv h' => (∃ (t : Addr) (kB : ClassId), rv = some (.ref t) ∧ Arv Z h' t kB .byte (1 : Int32) [(.int (lo8 c0))] (.int 0) ∧ (h0.size ≤ t) ∧ (¬ (255 : Int32) < c0)) ∨ (∃ (t : Addr) (kB : ClassId), rv = some (.ref t) ∧ Arv Z h' t kB .byte (2 : Int32) [(.int (lo8 c0)), (.int (hi8 c0))] (.int 0) ∧ (h0.size ≤ t) ∧ ((255 : Int32) < c0))) := by
  refine Ct.py (by0 := jdk_52_method_16_code) (ml := 6) (rt := (some (.array .byte))) (rm := ({ frames := 3, cells := 2, slots := 3, locals := 40 } : Room)) ?_ (hq hw 102 rfl) (hq hw 101 rfl)
  refine Ct.mk (a0 := a0) (Ls := #[.val (.ref b), .val (.int 0), .val (.int 1), .unset, .unset, .unset]) (plainFor_of_name pn_java_lang_StringUTF16) (fun m => by first | (simp [entryFrame, mkF, argsToLocals, Value.category]; done) | rfl) ?_
  intro κ C
  show Go l _ Z _ _ _ κ [] h0 0 #[.val (.ref b), .val (.int 0), .val (.int 1), .unset, .unset, .unset] [] 0 0
  refine go_iloadN C 1 d15_0 rfl rfl ?_
  refine go_newP C 3 1 1 (ty := .byte) (cap := 1) d15_1 rfl rfl rfl rfl (hq hw 20 rfl) (by decide) (by decide) (by decide) (by decide) (by decide) ?_
  intro b1 h2 k3 g4 E5 V6
  have x7 : Arv Z h2 b1 k3 .byte (1 : Int32) [(.int 0)] (.int 0) := V6
  refine go_astoreN C 4 (Ls' := #[.val (.ref b), .val (.int 0), .val (.int 1), .val (.ref b1), .unset, .unset]) d15_3 rfl rfl rfl ?_
  refine go_aloadN C 5 d15_4 rfl rfl rfl ?_
  refine go_iloadN C 6 d15_5 rfl rfl ?_
  refine go_aloadN C 7 d15_6 rfl rfl rfl ?_
  refine go_iconst C 8 (0 : Int32) d15_7 rfl (by decide) ?_
  refine go_iloadN C 9 d15_8 rfl rfl ?_
  have x8 := (p0.ext E5)
  refine go_callS C (argsL := [(.ref b), (.int 0), (.ref b1), (.int 0), (.int 1)]) (W := 0) d15_9 (hq hw 103 rfl) (hq hw 104 rfl) (hq hw 101 rfl) (hq hw 105 rfl) (by decide) pd___CI_BII_I (ct_cmp1 l Z a0 hw am (b := b) (t := b1) (kC := kC) (kB := k3) (c0 := c0) x8 x7 (Nat.ne_of_lt (Nat.lt_of_lt_of_le (p0).lt (Nat.le_of_eq g4.symm)))) rfl (by decide) (Nat.le_of_eq rfl) (by decide) rfl (by decide) (by decide) (memsS (mi 0 rfl) mems0) ?_
  intro v9 h10 K11 q12
  rcases q12 with ⟨rfl, x13, x14⟩ | ⟨vs15, rfl, x16, x17⟩
  · skip
    refine ⟨[], fresh0, ?_⟩
    show Go l _ Z _ _ _ κ _ _ 12 _ [(.int 1)] 1 1
    refine go_istore C 14 (Ls' := #[.val (.ref b), .val (.int 0), .val (.int 1), .val (.ref b1), .val (.int 1), .unset]) d15_12 rfl rfl ?_
    refine go_iload C 16 d15_14 rfl rfl ?_
    refine go_iloadN C 17 d15_16 rfl rfl ?_
    refine go_icmpY C (pc' := 57) d15_17 (teq ((by decide) : (1 : Int32) = (1 : Int32))).1 (by decide) (by decide) ?_
    refine go_aloadN C 58 d15_57 rfl rfl rfl ?_
    refine go_retA C (v := (.ref b1)) d15_58 rfl rfl rfl (by decide) (by decide) ?_
    exact Or.inl ⟨b1, k3, rfl, x13, (Nat.le_of_eq g4.symm), x14⟩
  · skip
    refine ⟨[], fresh0, ?_⟩
    show Go l _ Z _ _ _ κ _ _ 12 _ [(.int 0)] 1 1
    refine go_istore C 14 (Ls' := #[.val (.ref b), .val (.int 0), .val (.int 1), .val (.ref b1), .val (.int 0), .unset]) d15_12 rfl rfl ?_
    refine go_iload C 16 d15_14 rfl rfl ?_
    refine go_iloadN C 17 d15_16 rfl rfl ?_
    refine go_icmpN C 20 d15_17 rfl (feq ((by decide) : ¬ ((0 : Int32) = (1 : Int32)))).1 ?_
    refine go_aloadN C 21 d15_20 rfl rfl rfl ?_
    refine go_iloadN C 22 d15_21 rfl rfl ?_
    refine go_iloadN C 23 d15_22 rfl rfl ?_
    have x18 := (x8.keep K11 (ninS (Nat.ne_of_lt (Nat.lt_of_lt_of_le (p0).lt (Nat.le_of_eq g4.symm))) nin0))
    refine go_callS C (argsL := [(.ref b), (.int 0), (.int 1)]) (W := 0) d15_23 (hq hw 109 rfl) (hq hw 110 rfl) (hq hw 101 rfl) (hq hw 111 rfl) (by decide) pd___CII__B (ct_tob1 l Z a0 hw am (b := b) (kC := kC) (c0 := c0) x18) rfl (by decide) (Nat.le_of_eq rfl) (by decide) rfl (by decide) (by decide) mems0 ?_
    intro v19 h20 K21 q22
    obtain ⟨t23, kB24, rfl, x25, x26⟩ := q22
    refine ⟨[t23], (freshS ⟨x26, (x25).lt⟩ fresh0), ?_⟩
    show Go l _ Z _ _ _ κ [t23, b1] _ 26 _ [(.ref t23)] 2 3
    refine go_astore C 28 (Ls' := #[.val (.ref b), .val (.int 0), .val (.int 1), .val (.ref b1), .val (.int 0), .val (.ref t23)]) d15_26 rfl rfl rfl ?_
    refine go_aload C 30 d15_28 rfl rfl rfl ?_
    refine go_iload C 32 d15_30 rfl rfl ?_
    refine go_callS C (argsL := [(.ref t23), (.int 0)]) (W := 0) d15_32 (hq hw 125 rfl) (hq hw 126 rfl) (hq hw 101 rfl) (hq hw 127 rfl) (by decide) pd___BI_C (ct_get1_0 l Z a0 hw am (t := t23) (kB := kB24) (c0 := c0) x25 r0) rfl (by decide) (Nat.le_of_eq rfl) (by decide) rfl (by decide) (by decide) mems0 ?_
    intro v27 h28 K29 q30
    obtain ⟨rfl, rfl⟩ := q30
    refine ⟨[], fresh0, ?_⟩
    show Go l _ Z _ _ _ κ _ _ 35 _ [(.int c0)] 2 3
    refine go_sipush C 38 (255 : Int32) d15_35 rfl (by decide) ?_
    refine go_icmpY C (pc' := 54) d15_38 (tlt (x17 : (255 : Int32) < c0)).2.2.1 (by decide) (by decide) ?_
    refine go_aload C 56 d15_54 rfl rfl rfl ?_
    refine go_retA C (v := (.ref t23)) d15_56 rfl rfl rfl (by decide) (by decide) ?_
    exact Or.inr (⟨t23, kB24, rfl, x25, (Nat.le_trans E5.1 (Nat.le_trans K11.1 x26)), x17⟩)
theorem ct_coder1_1 (l : Launch) (Z : State) (a0 : Array Value) (hw : HW a0 Z) {cS : Int32} {g0 : Addr} {g1 : Addr} {g2 : Addr} {g3 : Addr} (am : Amb Z a0 cS g0 g1 g2 g3) {t : Addr} {kB : ClassId} {vs : List Value} {h0 : Heap} (p0 : Arv Z h0 t kB .byte (1 : Int32) vs (.int 0)) :
    Py l Z (⟨"java/lang/StringUTF16", "coderFromArrayLen", "([BI)B"⟩ : MethodName) 1 13 0 0 #[(.ref t), (.int 1)] h0 [] (fun rv h' => rv = some (.int 0) ∧ h' = h0) := by
  refine Ct.py (by0 := jdk_52_method_15_code) (ml := 2) (rt := (some .byte)) (rm := ({ frames := 0, cells := 0, slots := 0, locals := 0 } : Room)) ?_ (hq hw 108 rfl) (hq hw 101 rfl)
  refine Ct.mk (a0 := a0) (Ls := #[.val (.ref t), .val (.int 1)]) (plainFor_of_name pn_java_lang_StringUTF16) (fun m => by first | (simp [entryFrame, mkF, argsToLocals, Value.category]; done) | rfl) ?_
  intro κ C
  show Go l _ Z _ _ _ κ [] h0 0 #[.val (.ref t), .val (.int 1)] [] 0 0
  refine go_iloadN C 1 d17_0 rfl rfl ?_
  refine go_aloadN C 2 d17_1 rfl rfl rfl ?_
  refine go_arraylength C 3 d17_2 rfl p0 ?_
  refine go_isub C 4 (0 : Int32) d17_3 rfl (by decide) ?_
  refine go_bipush C 6 (31 : Int32) d17_4 rfl (by decide) ?_
  refine go_iushr C 7 (0 : Int32) d17_6 rfl (by decide) ?_
  refine go_i2b C 8 (0 : Int32) d17_7 rfl (by decide) ?_
  refine go_retN C (t := .byte) (z := (0 : Int32)) d17_8 rfl (by decide) (by decide) (by decide) (by decide) ?_
  exact ⟨rfl, rfl⟩
theorem ct_coder2_1 (l : Launch) (Z : State) (a0 : Array Value) (hw : HW a0 Z) {cS : Int32} {g0 : Addr} {g1 : Addr} {g2 : Addr} {g3 : Addr} (am : Amb Z a0 cS g0 g1 g2 g3) {t : Addr} {kB : ClassId} {vs : List Value} {h0 : Heap} (p0 : Arv Z h0 t kB .byte (2 : Int32) vs (.int 0)) :
    Py l Z (⟨"java/lang/StringUTF16", "coderFromArrayLen", "([BI)B"⟩ : MethodName) 1 13 0 0 #[(.ref t), (.int 1)] h0 [] (fun rv h' => rv = some (.int 1) ∧ h' = h0) := by
  refine Ct.py (by0 := jdk_52_method_15_code) (ml := 2) (rt := (some .byte)) (rm := ({ frames := 0, cells := 0, slots := 0, locals := 0 } : Room)) ?_ (hq hw 108 rfl) (hq hw 101 rfl)
  refine Ct.mk (a0 := a0) (Ls := #[.val (.ref t), .val (.int 1)]) (plainFor_of_name pn_java_lang_StringUTF16) (fun m => by first | (simp [entryFrame, mkF, argsToLocals, Value.category]; done) | rfl) ?_
  intro κ C
  show Go l _ Z _ _ _ κ [] h0 0 #[.val (.ref t), .val (.int 1)] [] 0 0
  refine go_iloadN C 1 d17_0 rfl rfl ?_
  refine go_aloadN C 2 d17_1 rfl rfl rfl ?_
  refine go_arraylength C 3 d17_2 rfl p0 ?_
  refine go_isub C 4 (-1 : Int32) d17_3 rfl (by decide) ?_
  refine go_bipush C 6 (31 : Int32) d17_4 rfl (by decide) ?_
  refine go_iushr C 7 (1 : Int32) d17_6 rfl (by decide) ?_
  refine go_i2b C 8 (1 : Int32) d17_7 rfl (by decide) ?_
  refine go_retN C (t := .byte) (z := (1 : Int32)) d17_8 rfl (by decide) (by decide) (by decide) (by decide) ?_
  exact ⟨rfl, rfl⟩
theorem ct_strV1 (l : Launch) (Z : State) (a0 : Array Value) (hw : HW a0 Z) {cS : Int32} {g0 : Addr} {g1 : Addr} {g2 : Addr} {g3 : Addr} (am : Amb Z a0 cS g0 g1 g2 g3) {a : Addr} {b : Addr} {kC : ClassId} {c0 : Int32} {h0 : Heap} (p0 : Exa Z h0 a "java/lang/String") (p1 : Fld Z h0 a "java/lang/String" "value" "[B" .null) (p2 : Fld Z h0 a "java/lang/String" "coder" "B" (.int 0)) (p3 : Arv Z h0 b kC .char (1 : Int32) [(.int c0)] (.int 0)) (r0 : Chr c0) :
    Py l Z (⟨"java/lang/String", "<init>", "([CIILjava/lang/Void;)V"⟩ : MethodName) 5 74 2 3 #[(.ref a), (.ref b), (.int 0), (.int 1), .null] h0 [a] (fun rv h' => (∃ (t : Addr) (kB : ClassId), rv = none ∧ Exa Z h' a "java/lang/String" ∧ Fld Z h' a "java/lang/String" "coder" "B" (.int 0) ∧ Fld Z h' a "java/lang/String" "value" "[B" (.ref t) ∧ Arv Z h' t kB .byte (1 : Int32) [(.int (lo8 c0))] (.int 0) ∧ (h0.size ≤ t) ∧ (¬ (255 : Int32) < c0)) ∨ (∃ (t : Addr) (kB : ClassId), rv = none ∧ Exa Z h' a "java/lang/String" ∧ Fld Z h' a "java/lang/String" "coder" "B" (.int 1) ∧ Fld Z h' a "java/lang/String" "value" "[B" (.ref t) ∧ Arv Z h' t kB .byte (2 : Int32) [(.int (lo8 c0)), (.int (hi8 c0))] (.int 0) ∧ (h0.size ≤ t) ∧ ((255 : Int32) < c0))) := by
  refine Ct.py (by0 := jdk_42_method_149_code) (ml := 6) (rt := none) (rm := ({ frames := 4, cells := 2, slots := 3, locals := 57 } : Room)) ?_ (hq hw 15 rfl) (hq hw 3 rfl)
  refine Ct.mk (a0 := a0) (Ls := #[.val (.ref a), .val (.ref b), .val (.int 0), .val (.int 1), .val .null, .unset]) (plainFor_of_name pn_java_lang_String) (fun m => by first | (simp [entryFrame, mkF, argsToLocals, Value.category]; done) | rfl) ?_
  intro κ C
  show Go l _ Z _ _ _ κ [a] h0 0 #[.val (.ref a), .val (.ref b), .val (.int 0), .val (.int 1), .val .null, .unset] [] 0 0
  refine go_aloadN C 1 d3_0 rfl rfl rfl ?_
  refine go_initO C 4 (W := 0) d3_1 rfl (hq hw 16 rfl) (hq hw 17 rfl) (hq hw 18 rfl) rfl (by decide) (Nat.le_of_eq rfl) (by decide) ?_
  refine go_iloadN C 5 d3_4 rfl rfl ?_
  refine go_ifY C (pc' := 27) d3_5 (feq ((by decide) : ¬ ((1 : Int32) = (0 : Int32)))).2 (by decide) (by decide) ?_
  refine go_getS C 30 d3_27 rfl (hq hw 70 rfl) am.2.1 ?_
  refine go_ifN C 33 d3_30 rfl (feq (am.2.2.1 : ¬ (cS = (0 : Int32)))).1 ?_
  refine go_aloadN C 34 d3_33 rfl rfl rfl ?_
  refine go_iloadN C 35 d3_34 rfl rfl ?_
  refine go_iloadN C 36 d3_35 rfl rfl ?_
  refine go_callS C (argsL := [(.ref b), (.int 0), (.int 1)]) (W := 0) d3_36 (hq hw 99 rfl) (hq hw 100 rfl) (hq hw 101 rfl) (hq hw 102 rfl) (by decide) pd___CII__B (ct_cmpA1 l Z a0 hw am (b := b) (kC := kC) (c0 := c0) p3 r0) rfl (by decide) (Nat.le_of_eq rfl) (by decide) rfl (by decide) (by decide) mems0 ?_
  intro v1 h2 K3 q4
  rcases q4 with ⟨t5, kB6, rfl, x7, x8, x9⟩ | ⟨t10, kB11, rfl, x12, x13, x14⟩
  · skip
    refine ⟨[t5], (freshS ⟨x8, (x7).lt⟩ fresh0), ?_⟩
    show Go l _ Z _ _ _ κ [t5, a] _ 39 _ [(.ref t5)] 2 3
    refine go_astore C 41 (Ls' := #[.val (.ref a), .val (.ref b), .val (.int 0), .val (.int 1), .val .null, .val (.ref t5)]) d3_39 rfl rfl rfl ?_
    refine go_aloadN C 42 d3_41 rfl rfl rfl ?_
    refine go_aload C 44 d3_42 rfl rfl rfl ?_
    refine go_iloadN C 45 d3_44 rfl rfl ?_
    refine go_callS C (argsL := [(.ref t5), (.int 1)]) (W := 1) d3_45 (hq hw 106 rfl) (hq hw 107 rfl) (hq hw 101 rfl) (hq hw 108 rfl) (by decide) pd___BI_B (ct_coder1_1 l Z a0 hw am (t := t5) (kB := kB6) (vs := [(.int (lo8 c0))]) x7) rfl (by decide) (Nat.le_of_eq rfl) (by decide) rfl (by decide) (by decide) mems0 ?_
    intro v15 h16 K17 q18
    obtain ⟨rfl, rfl⟩ := q18
    refine ⟨[], fresh0, ?_⟩
    show Go l _ Z _ _ _ κ _ _ 48 _ [(.int 0), (.ref a)] 2 3
    have x19 := (p2.keep K3 nin0)
    have x20 := (p0.keep K3)
    refine go_putFN C 51 (ty := .byte) (v' := .int 0) d3_48 rfl (hq hw 26 rfl) Via.refl x19 x20 (Or.inr ⟨(hq hw 22 rfl), rfl, rfl⟩) (hq hw 2 rfl) (by decide) rfl (by decide) (mi 1 rfl) ?_
    intro h21 W22
    have x23 : Fld Z h21 a "java/lang/String" "coder" "B" (.int 0) := Fld.same W22 x19
    refine go_aloadN C 52 d3_51 rfl rfl rfl ?_
    refine go_aload C 54 d3_52 rfl rfl rfl ?_
    have x24 := (Fld.other W22 (p1.keep K3 nin0) (Or.inr (slot_ne (Or.inr (hq hw 21 rfl)) (Or.inr (hq hw 22 rfl)) (by decide) (t := (.array .byte)) (t' := .byte) (by decide) (by decide))))
    have x25 := (Exa.wr W22 x20)
    refine go_putF C 57 (ty := (.array .byte)) d3_54 rfl (hq hw 25 rfl) Via.refl x24 x25 (Or.inr ⟨(hq hw 21 rfl), rfl, rfl⟩) (hq hw 2 rfl) (by decide) rfl rfl (mi 1 rfl) ?_
    intro h26 W27
    have x28 : Fld Z h26 a "java/lang/String" "value" "[B" (.ref t5) := Fld.same W27 x24
    refine go_ret C d3_57 rfl (by decide) (by decide) ?_
    have x29 := (Exa.wr W27 x25)
    have x30 := (Fld.other W27 x23 (Or.inr (slot_ne (Or.inr (hq hw 22 rfl)) (Or.inr (hq hw 21 rfl)) (by decide) (t := .byte) (t' := (.array .byte)) (by decide) (by decide))))
    have x31 := ((x7.other W22 (Ne.symm (Nat.ne_of_lt (Nat.lt_of_lt_of_le (p0).lt x8)))).other W27 (Ne.symm (Nat.ne_of_lt (Nat.lt_of_lt_of_le (p0).lt x8))))
    exact Or.inl ⟨t5, kB6, rfl, x29, x30, x28, x31, x8, x9⟩
  · skip
    refine ⟨[t10], (freshS ⟨x13, (x12).lt⟩ fresh0), ?_⟩
    show Go l _ Z _ _ _ κ [t10, a] _ 39 _ [(.ref t10)] 2 3
    refine go_astore C 41 (Ls' := #[.val (.ref a), .val (.ref b), .val (.int 0), .val (.int 1), .val .null, .val (.ref t10)]) d3_39 rfl rfl rfl ?_
    refine go_aloadN C 42 d3_41 rfl rfl rfl ?_
    refine go_aload C 44 d3_42 rfl rfl rfl ?_
    refine go_iloadN C 45 d3_44 rfl rfl ?_
    refine go_callS C (argsL := [(.ref t10), (.int 1)]) (W := 1) d3_45 (hq hw 106 rfl) (hq hw 107 rfl) (hq hw 101 rfl) (hq hw 108 rfl) (by decide) pd___BI_B (ct_coder2_1 l Z a0 hw am (t := t10) (kB := kB11) (vs := [(.int (lo8 c0)), (.int (hi8 c0))]) x12) rfl (by decide) (Nat.le_of_eq rfl) (by decide) rfl (by decide) (by decide) mems0 ?_
    intro v32 h33 K34 q35
    obtain ⟨rfl, rfl⟩ := q35
    refine ⟨[], fresh0, ?_⟩
    show Go l _ Z _ _ _ κ _ _ 48 _ [(.int 1), (.ref a)] 2 3
    have x36 := (p2.keep K3 nin0)
    have x37 := (p0.keep K3)
    refine go_putFN C 51 (ty := .byte) (v' := .int 1) d3_48 rfl (hq hw 26 rfl) Via.refl x36 x37 (Or.inr ⟨(hq hw 22 rfl), rfl, rfl⟩) (hq hw 2 rfl) (by decide) rfl (by decide) (mi 1 rfl) ?_
    intro h38 W39
    have x40 : Fld Z h38 a "java/lang/String" "coder" "B" (.int 1) := Fld.same W39 x36
    refine go_aloadN C 52 d3_51 rfl rfl rfl ?_
    refine go_aload C 54 d3_52 rfl rfl rfl ?_
    have x41 := (Fld.other W39 (p1.keep K3 nin0) (Or.inr (slot_ne (Or.inr (hq hw 21 rfl)) (Or.inr (hq hw 22 rfl)) (by decide) (t := (.array .byte)) (t' := .byte) (by decide) (by decide))))
    have x42 := (Exa.wr W39 x37)
    refine go_putF C 57 (ty := (.array .byte)) d3_54 rfl (hq hw 25 rfl) Via.refl x41 x42 (Or.inr ⟨(hq hw 21 rfl), rfl, rfl⟩) (hq hw 2 rfl) (by decide) rfl rfl (mi 1 rfl) ?_
    intro h43 W44
    have x45 : Fld Z h43 a "java/lang/String" "value" "[B" (.ref t10) := Fld.same W44 x41
    refine go_ret C d3_57 rfl (by decide) (by decide) ?_
    have x46 := (Exa.wr W44 x42)
    have x47 := (Fld.other W44 x40 (Or.inr (slot_ne (Or.inr (hq hw 22 rfl)) (Or.inr (hq hw 21 rfl)) (by decide) (t := .byte) (t' := (.array .byte)) (by decide) (by decide))))
    have x48 := ((x12.other W39 (Ne.symm (Nat.ne_of_lt (Nat.lt_of_lt_of_le (p0).lt x13)))).other W44 (Ne.symm (Nat.ne_of_lt (Nat.lt_of_lt_of_le (p0).lt x13))))
    exact Or.inr (⟨t10, kB11, rfl, x46, x47, x45, x48, x13, x14⟩)
theorem ct_str1 (l : Launch) (Z : State) (a0 : Array Value) (hw : HW a0 Z) {cS : Int32} {g0 : Addr} {g1 : Addr} {g2 : Addr} {g3 : Addr} (am : Amb Z a0 cS g0 g1 g2 g3) {a : Addr} {b : Addr} {kC : ClassId} {c0 : Int32} {h0 : Heap} (p0 : Exa Z h0 a "java/lang/String") (p1 : Fld Z h0 a "java/lang/String" "value" "[B" .null) (p2 : Fld Z h0 a "java/lang/String" "coder" "B" (.int 0)) (p3 : Arv Z h0 b kC .char (1 : Int32) [(.int c0)] (.int 0)) (r0 : Chr c0) :
    Py l Z (⟨"java/lang/String", "<init>", "([C)V"⟩ : MethodName) 6 87 2 3 #[(.ref a), (.ref b)] h0 [a] (fun rv h' => (∃ (t : Addr) (kB : ClassId), rv = none ∧ Exa Z h' a "java/lang/String" ∧ Fld Z h' a "java/lang/String" "coder" "B" (.int 0) ∧ Fld Z h' a "java/lang/String" "value" "[B" (.ref t) ∧ Arv Z h' t kB .byte (1 : Int32) [(.int (lo8 c0))] (.int 0) ∧ (h0.size ≤ t) ∧ (¬ (255 : Int32) < c0)) ∨ (∃ (t : Addr) (kB : ClassId), rv = none ∧ Exa Z h' a "java/lang/String" ∧ Fld Z h' a "java/lang/String" "coder" "B" (.int 1) ∧ Fld Z h' a "java/lang/String" "value" "[B" (.ref t) ∧ Arv Z h' t kB .byte (2 : Int32) [(.int (lo8 c0)), (.int (hi8 c0))] (.int 0) ∧ (h0.size ≤ t) ∧ ((255 : Int32) < c0))) := by
  refine Ct.py (by0 := jdk_42_method_3_code) (ml := 2) (rt := none) (rm := ({ frames := 5, cells := 2, slots := 3, locals := 74 } : Room)) ?_ (hq hw 11 rfl) (hq hw 3 rfl)
  refine Ct.mk (a0 := a0) (Ls := #[.val (.ref a), .val (.ref b)]) (plainFor_of_name pn_java_lang_String) (fun m => by first | (simp [entryFrame, mkF, argsToLocals, Value.category]; done) | rfl) ?_
  intro κ C
  show Go l _ Z _ _ _ κ [a] h0 0 #[.val (.ref a), .val (.ref b)] [] 0 0
  refine go_aloadN C 1 d2_0 rfl rfl rfl ?_
  refine go_aloadN C 2 d2_1 rfl rfl rfl ?_
  refine go_iconst C 3 (0 : Int32) d2_2 rfl (by decide) ?_
  refine go_aloadN C 4 d2_3 rfl rfl rfl ?_
  refine go_arraylength C 5 d2_4 rfl p3 ?_
  refine go_aconstNull C 6 d2_5 rfl ?_
  refine go_callI C (a := a) (argsL := [(.ref b), (.int 0), (.int 1), .null]) (W := 0) d2_6 rfl (hq hw 12 rfl) (hq hw 13 rfl) (hq hw 15 rfl) (by decide) pd___CIILjava_lang_Void__V (ct_strV1 l Z a0 hw am (a := a) (b := b) (kC := kC) (c0 := c0) p0 p1 p2 p3 r0) rfl (by decide) (Nat.le_of_eq rfl) (by decide) rfl (by decide) (by decide) (memsS (mi 0 rfl) mems0) ?_
  intro v1 h2 K3 q4
  rcases q4 with ⟨t5, kB6, rfl, x7, x8, x9, x10, x11, x12⟩ | ⟨t13, kB14, rfl, x15, x16, x17, x18, x19, x20⟩
  · skip
    refine ⟨[t5], (freshS ⟨x11, (x10).lt⟩ fresh0), ?_⟩
    show Go l _ Z _ _ _ κ [t5, a] _ 9 _ [] 2 3
    refine go_ret C d2_9 rfl (by decide) (by decide) ?_
    exact Or.inl ⟨t5, kB6, rfl, x7, x8, x9, x10, x11, x12⟩
  · skip
    refine ⟨[t13], (freshS ⟨x19, (x18).lt⟩ fresh0), ?_⟩
    show Go l _ Z _ _ _ κ [t13, a] _ 9 _ [] 2 3
    refine go_ret C d2_9 rfl (by decide) (by decide) ?_
    exact Or.inr (⟨t13, kB14, rfl, x15, x16, x17, x18, x19, x20⟩)
theorem ct_put2_0 (l : Launch) (Z : State) (a0 : Array Value) (hw : HW a0 Z) {cS : Int32} {g0 : Addr} {g1 : Addr} {g2 : Addr} {g3 : Addr} (am : Amb Z a0 cS g0 g1 g2 g3) {t : Addr} {kB : ClassId} {c0 : Int32} {h0 : Heap} (p0 : Arv Z h0 t kB .byte (4 : Int32) [(.int 0), (.int 0), (.int 0), (.int 0)] (.int 0)) :
    Py l Z (⟨"java/lang/StringUTF16", "putChar", "([BII)V"⟩ : MethodName) 1 14 0 0 #[(.ref t), (.int 0), (.int c0)] h0 [t] (fun rv h' => rv = none ∧ Arv Z h' t kB .byte (4 : Int32) [(.int (lo8 c0)), (.int (hi8 c0)), (.int 0), (.int 0)] (.int 0)) := by
  refine Ct.py (by0 := jdk_52_method_4_code) (ml := 3) (rt := none) (rm := ({ frames := 0, cells := 0, slots := 0, locals := 0 } : Room)) ?_ (hq hw 121 rfl) (hq hw 101 rfl)
  refine Ct.mk (a0 := a0) (Ls := #[.val (.ref t), .val (.int 0), .val (.int c0)]) (plainFor_of_name pn_java_lang_StringUTF16) (fun m => by first | (simp [entryFrame, mkF, argsToLocals, Value.category]; done) | rfl) ?_
  intro κ C
  show Go l _ Z _ _ _ κ [t] h0 0 #[.val (.ref t), .val (.int 0), .val (.int c0)] [] 0 0
  refine go_getS C 3 d21_0 rfl (hq hw 122 rfl) am.2.2.2.1 ?_
  refine go_ifY C (pc' := 28) d21_3 (feq ((by decide) : ¬ ((1 : Int32) = (0 : Int32)))).2 (by decide) (by decide) ?_
  refine go_iloadN C 29 d21_28 rfl rfl ?_
  refine go_iconst C 30 (1 : Int32) d21_29 rfl (by decide) ?_
  refine go_ishl C 31 (0 : Int32) d21_30 rfl (by decide) ?_
  refine go_istoreN C 32 (Ls' := #[.val (.ref t), .val (.int 0), .val (.int c0)]) d21_31 rfl rfl ?_
  refine go_aloadN C 33 d21_32 rfl rfl rfl ?_
  refine go_iloadN C 34 d21_33 rfl rfl ?_
  refine go_iinc C 37 (Ls' := #[.val (.ref t), .val (.int 1), .val (.int c0)]) (1 : Int32) d21_34 rfl (by decide) rfl rfl ?_
  refine go_iloadN C 38 d21_37 rfl rfl ?_
  refine go_getS C 41 d21_38 rfl (hq hw 123 rfl) am.2.2.2.2.1 ?_
  refine go_ishr C 42 c0 d21_41 rfl (shr_0 _) ?_
  refine go_i2b C 43 (lo8 c0) d21_42 rfl rfl ?_
  refine go_bastore C 44 0 (v := (lo8 c0)) (nar_lo8 _) d21_43 rfl p0 (by decide) rfl (nble rfl) (mi 0 rfl) ?_
  intro h1 W2 x3
  have x4 : Arv Z h1 t kB .byte (4 : Int32) [(.int (lo8 c0)), (.int 0), (.int 0), (.int 0)] (.int 0) := x3
  refine go_aloadN C 45 d21_44 rfl rfl rfl ?_
  refine go_iloadN C 46 d21_45 rfl rfl ?_
  refine go_iloadN C 47 d21_46 rfl rfl ?_
  refine go_getS C 50 d21_47 rfl (hq hw 124 rfl) am.2.2.2.2.2.1 ?_
  refine go_ishr C 51 (c0 >>> ((8 : Int32) &&& 31)) d21_50 rfl rfl ?_
  refine go_i2b C 52 (hi8 c0) d21_51 rfl rfl ?_
  refine go_bastore C 53 1 (v := (hi8 c0)) (nar_hi8 _) d21_52 rfl x4 (by decide) rfl (nble rfl) (mi 0 rfl) ?_
  intro h5 W6 x7
  have x8 : Arv Z h5 t kB .byte (4 : Int32) [(.int (lo8 c0)), (.int (hi8 c0)), (.int 0), (.int 0)] (.int 0) := x7
  refine go_ret C d21_53 rfl (by decide) (by decide) ?_
  exact ⟨rfl, x8⟩
theorem ct_get2_0 (l : Launch) (Z : State) (a0 : Array Value) (hw : HW a0 Z) {cS : Int32} {g0 : Addr} {g1 : Addr} {g2 : Addr} {g3 : Addr} (am : Amb Z a0 cS g0 g1 g2 g3) {t : Addr} {kB : ClassId} {c0 : Int32} {c1 : Int32} {h0 : Heap} (p0 : Arv Z h0 t kB .byte (4 : Int32) [(.int (lo8 c0)), (.int (hi8 c0)), (.int (lo8 c1)), (.int (hi8 c1))] (.int 0)) (r0 : Chr c0) :
    Py l Z (⟨"java/lang/StringUTF16", "getChar", "([BI)C"⟩ : MethodName) 1 13 0 0 #[(.ref t), (.int 0)] h0 [] (fun rv h' => rv = some (.int c0) ∧ h' = h0) := by
  refine Ct.py (by0 := jdk_52_method_5_code) (ml := 2) (rt := (some .char)) (rm := ({ frames := 0, cells := 0, slots := 0, locals := 0 } : Room)) ?_ (hq hw 127 rfl) (hq hw 101 rfl)
  refine Ct.mk (a0 := a0) (Ls := #[.val (.ref t), .val (.int 0)]) (plainFor_of_name pn_java_lang_StringUTF16) (fun m => by first | (simp [entryFrame, mkF, argsToLocals, Value.category]; done) | rfl) ?_
  intro κ C
  show Go l _ Z _ _ _ κ [] h0 0 #[.val (.ref t), .val (.int 0)] [] 0 0
  refine go_getS C 3 d22_0 rfl (hq hw 122 rfl) am.2.2.2.1 ?_
  refine go_ifY C (pc' := 28) d22_3 (feq ((by decide) : ¬ ((1 : Int32) = (0 : Int32)))).2 (by decide) (by decide) ?_
  refine go_iloadN C 29 d22_28 rfl rfl ?_
  refine go_iconst C 30 (1 : Int32) d22_29 rfl (by decide) ?_
  refine go_ishl C 31 (0 : Int32) d22_30 rfl (by decide) ?_
  refine go_istoreN C 32 (Ls' := #[.val (.ref t), .val (.int 0)]) d22_31 rfl rfl ?_
  refine go_aloadN C 33 d22_32 rfl rfl rfl ?_
  refine go_iloadN C 34 d22_33 rfl rfl ?_
  refine go_iinc C 37 (Ls' := #[.val (.ref t), .val (.int 1)]) (1 : Int32) d22_34 rfl (by decide) rfl rfl ?_
  refine go_baload C 38 (v := (.int (lo8 c0))) d22_37 rfl p0 (by decide) rfl ?_
  refine go_sipush C 41 (255 : Int32) d22_38 rfl (by decide) ?_
  refine go_iand C 42 ((lo8 c0) &&& (255 : Int32)) d22_41 rfl rfl ?_
  refine go_getS C 45 d22_42 rfl (hq hw 123 rfl) am.2.2.2.2.1 ?_
  refine go_ishl C 46 (((lo8 c0) &&& (255 : Int32)) <<< ((0 : Int32) &&& 31)) d22_45 rfl rfl ?_
  refine go_aloadN C 47 d22_46 rfl rfl rfl ?_
  refine go_iloadN C 48 d22_47 rfl rfl ?_
  refine go_baload C 49 (v := (.int (hi8 c0))) d22_48 rfl p0 (by decide) rfl ?_
  refine go_sipush C 52 (255 : Int32) d22_49 rfl (by decide) ?_
  refine go_iand C 53 ((hi8 c0) &&& (255 : Int32)) d22_52 rfl rfl ?_
  refine go_getS C 56 d22_53 rfl (hq hw 124 rfl) am.2.2.2.2.2.1 ?_
  refine go_ishl C 57 (((hi8 c0) &&& (255 : Int32)) <<< ((8 : Int32) &&& 31)) d22_56 rfl rfl ?_
  refine go_ior C 58 ((((lo8 c0) &&& (255 : Int32)) <<< ((0 : Int32) &&& 31)) ||| (((hi8 c0) &&& (255 : Int32)) <<< ((8 : Int32) &&& 31))) d22_57 rfl rfl ?_
  refine go_i2c C 59 c0 d22_58 rfl (get16 r0) ?_
  refine go_retN C (t := .char) (z := c0) d22_59 rfl (by decide) r0.nar (by decide) (by decide) ?_
  exact ⟨rfl, rfl⟩
theorem ct_put2_1 (l : Launch) (Z : State) (a0 : Array Value) (hw : HW a0 Z) {cS : Int32} {g0 : Addr} {g1 : Addr} {g2 : Addr} {g3 : Addr} (am : Amb Z a0 cS g0 g1 g2 g3) {t : Addr} {kB : ClassId} {c0 : Int32} {c1 : Int32} {h0 : Heap} (p0 : Arv Z h0 t kB .byte (4 : Int32) [(.int (lo8 c0)), (.int (hi8 c0)), (.int 0), (.int 0)] (.int 0)) :
    Py l Z (⟨"java/lang/StringUTF16", "putChar", "([BII)V"⟩ : MethodName) 1 14 0 0 #[(.ref t), (.int 1), (.int c1)] h0 [t] (fun rv h' => rv = none ∧ Arv Z h' t kB .byte (4 : Int32) [(.int (lo8 c0)), (.int (hi8 c0)), (.int (lo8 c1)), (.int (hi8 c1))] (.int 0)) := by
  refine Ct.py (by0 := jdk_52_method_4_code) (ml := 3) (rt := none) (rm := ({ frames := 0, cells := 0, slots := 0, locals := 0 } : Room)) ?_ (hq hw 121 rfl) (hq hw 101 rfl)
  refine Ct.mk (a0 := a0) (Ls := #[.val (.ref t), .val (.int 1), .val (.int c1)]) (plainFor_of_name pn_java_lang_StringUTF16) (fun m => by first | (simp [entryFrame, mkF, argsToLocals, Value.category]; done) | rfl) ?_
  intro κ C
  show Go l _ Z _ _ _ κ [t] h0 0 #[.val (.ref t), .val (.int 1), .val (.int c1)] [] 0 0
  refine go_getS C 3 d21_0 rfl (hq hw 122 rfl) am.2.2.2.1 ?_
  refine go_ifY C (pc' := 28) d21_3 (feq ((by decide) : ¬ ((1 : Int32) = (0 : Int32)))).2 (by decide) (by decide) ?_
  refine go_iloadN C 29 d21_28 rfl rfl ?_
  refine go_iconst C 30 (1 : Int32) d21_29 rfl (by decide) ?_
  refine go_ishl C 31 (2 : Int32) d21_30 rfl (by decide) ?_
  refine go_istoreN C 32 (Ls' := #[.val (.ref t), .val (.int 2), .val (.int c1)]) d21_31 rfl rfl ?_
  refine go_aloadN C 33 d21_32 rfl rfl rfl ?_
  refine go_iloadN C 34 d21_33 rfl rfl ?_
  refine go_iinc C 37 (Ls' := #[.val (.ref t), .val (.int 3), .val (.int c1)]) (1 : Int32) d21_34 rfl (by decide) rfl rfl ?_
  refine go_iloadN C 38 d21_37 rfl rfl ?_
  refine go_getS C 41 d21_38 rfl (hq hw 123 rfl) am.2.2.2.2.1 ?_
  refine go_ishr C 42 c1 d21_41 rfl (shr_0 _) ?_
  refine go_i2b C 43 (lo8 c1) d21_42 rfl rfl ?_
  refine go_bastore C 44 2 (v := (lo8 c1)) (nar_lo8 _) d21_43 rfl p0 (by decide) rfl (nble rfl) (mi 0 rfl) ?_
  intro h1 W2 x3
  have x4 : Arv Z h1 t kB .byte (4 : Int32) [(.int (lo8 c0)), (.int (hi8 c0)), (.int (lo8 c1)), (.int 0)] (.int 0) := x3
  refine go_aloadN C 45 d21_44 rfl rfl rfl ?_
  refine go_iloadN C 46 d21_45 rfl rfl ?_
  refine go_iloadN C 47 d21_46 rfl rfl ?_
  refine go_getS C 50 d21_47 rfl (hq hw 124 rfl) am.2.2.2.2.2.1 ?_
  refine go_ishr C 51 (c1 >>> ((8 : Int32) &&& 31)) d21_50 rfl rfl ?_
  refine go_i2b C 52 (hi8 c1) d21_51 rfl rfl ?_
  refine go_bastore C 53 3 (v := (hi8 c1)) (nar_hi8 _) d21_52 rfl x4 (by decide) rfl (nble rfl) (mi 0 rfl) ?_
  intro h5 W6 x7
  have x8 : Arv Z h5 t kB .byte (4 : Int32) [(.int (lo8 c0)), (.int (hi8 c0)), (.int (lo8 c1)), (.int (hi8 c1))] (.int 0) := x7
  refine go_ret C d21_53 rfl (by decide) (by decide) ?_
  exact ⟨rfl, x8⟩
theorem ct_get2_1 (l : Launch) (Z : State) (a0 : Array Value) (hw : HW a0 Z) {cS : Int32} {g0 : Addr} {g1 : Addr} {g2 : Addr} {g3 : Addr} (am : Amb Z a0 cS g0 g1 g2 g3) {t : Addr} {kB : ClassId} {c0 : Int32} {c1 : Int32} {h0 : Heap} (p0 : Arv Z h0 t kB .byte (4 : Int32) [(.int (lo8 c0)), (.int (hi8 c0)), (.int (lo8 c1)), (.int (hi8 c1))] (.int 0)) (r1 : Chr c1) :
    Py l Z (⟨"java/lang/StringUTF16", "getChar", "([BI)C"⟩ : MethodName) 1 13 0 0 #[(.ref t), (.int 1)] h0 [] (fun rv h' => rv = some (.int c1) ∧ h' = h0) := by
  refine Ct.py (by0 := jdk_52_method_5_code) (ml := 2) (rt := (some .char)) (rm := ({ frames := 0, cells := 0, slots := 0, locals := 0 } : Room)) ?_ (hq hw 127 rfl) (hq hw 101 rfl)
  refine Ct.mk (a0 := a0) (Ls := #[.val (.ref t), .val (.int 1)]) (plainFor_of_name pn_java_lang_StringUTF16) (fun m => by first | (simp [entryFrame, mkF, argsToLocals, Value.category]; done) | rfl) ?_
  intro κ C
  show Go l _ Z _ _ _ κ [] h0 0 #[.val (.ref t), .val (.int 1)] [] 0 0
  refine go_getS C 3 d22_0 rfl (hq hw 122 rfl) am.2.2.2.1 ?_
  refine go_ifY C (pc' := 28) d22_3 (feq ((by decide) : ¬ ((1 : Int32) = (0 : Int32)))).2 (by decide) (by decide) ?_
  refine go_iloadN C 29 d22_28 rfl rfl ?_
  refine go_iconst C 30 (1 : Int32) d22_29 rfl (by decide) ?_
  refine go_ishl C 31 (2 : Int32) d22_30 rfl (by decide) ?_
  refine go_istoreN C 32 (Ls' := #[.val (.ref t), .val (.int 2)]) d22_31 rfl rfl ?_
  refine go_aloadN C 33 d22_32 rfl rfl rfl ?_
  refine go_iloadN C 34 d22_33 rfl rfl ?_
  refine go_iinc C 37 (Ls' := #[.val (.ref t), .val (.int 3)]) (1 : Int32) d22_34 rfl (by decide) rfl rfl ?_
  refine go_baload C 38 (v := (.int (lo8 c1))) d22_37 rfl p0 (by decide) rfl ?_
  refine go_sipush C 41 (255 : Int32) d22_38 rfl (by decide) ?_
  refine go_iand C 42 ((lo8 c1) &&& (255 : Int32)) d22_41 rfl rfl ?_
  refine go_getS C 45 d22_42 rfl (hq hw 123 rfl) am.2.2.2.2.1 ?_
  refine go_ishl C 46 (((lo8 c1) &&& (255 : Int32)) <<< ((0 : Int32) &&& 31)) d22_45 rfl rfl ?_
  refine go_aloadN C 47 d22_46 rfl rfl rfl ?_
  refine go_iloadN C 48 d22_47 rfl rfl ?_
  refine go_baload C 49 (v := (.int (hi8 c1))) d22_48 rfl p0 (by decide) rfl ?_
  refine go_sipush C 52 (255 : Int32) d22_49 rfl (by decide) ?_
  refine go_iand C 53 ((hi8 c1) &&& (255 : Int32)) d22_52 rfl rfl ?_
  refine go_getS C 56 d22_53 rfl (hq hw 124 rfl) am.2.2.2.2.2.1 ?_
  refine go_ishl C 57 (((hi8 c1) &&& (255 : Int32)) <<< ((8 : Int32) &&& 31)) d22_56 rfl rfl ?_
  refine go_ior C 58 ((((lo8 c1) &&& (255 : Int32)) <<< ((0 : Int32) &&& 31)) ||| (((hi8 c1) &&& (255 : Int32)) <<< ((8 : Int32) &&& 31))) d22_57 rfl rfl ?_
  refine go_i2c C 59 c1 d22_58 rfl (get16 r1) ?_
  refine go_retN C (t := .char) (z := c1) d22_59 rfl (by decide) r1.nar (by decide) (by decide) ?_
  exact ⟨rfl, rfl⟩
theorem ct_nbl2 (l : Launch) (Z : State) (a0 : Array Value) (hw : HW a0 Z) {cS : Int32} {g0 : Addr} {g1 : Addr} {g2 : Addr} {g3 : Addr} (am : Amb Z a0 cS g0 g1 g2 g3) {h0 : Heap} :
    Py l Z (⟨"java/lang/StringUTF16", "newBytesLength", "(I)I"⟩ : MethodName) 1 12 0 0 #[(.int 2)] h0 [] (fun rv h' => rv = some (.int 4) ∧ h' = h0) := by
  refine Ct.py (by0 := jdk_52_method_3_code) (ml := 1) (rt := (some .int)) (rm := ({ frames := 0, cells := 0, slots := 0, locals := 0 } : Room)) ?_ (hq hw 117 rfl) (hq hw 101 rfl)
  refine Ct.mk (a0 := a0) (Ls := #[.val (.int 2)]) (plainFor_of_name pn_java_lang_StringUTF16) (fun m => by first | (simp [entryFrame, mkF, argsToLocals, Value.category]; done) | rfl) ?_
  intro κ C
  show Go l _ Z _ _ _ κ [] h0 0 #[.val (.int 2)] [] 0 0
  refine go_iloadN C 1 d20_0 rfl rfl ?_
  refine go_ifY C (pc' := 12) d20_1 (flt ((by decide) : ¬ ((2 : Int32) < (0 : Int32)))).2.1 (by decide) (by decide) ?_
  refine go_iloadN C 13 d20_12 rfl rfl ?_
  refine go_ldcInt C 15 (v := (1073741823 : Int32)) d20_13 rfl (hq hw 118 rfl) ?_
  refine go_icmpY C (pc' := 55) d20_15 (tlt ((by decide) : (2 : Int32) < (1073741823 : Int32))).1 (by decide) (by decide) ?_
  refine go_iloadN C 56 d20_55 rfl rfl ?_
  refine go_iconst C 57 (1 : Int32) d20_56 rfl (by decide) ?_
  refine go_ishl C 58 (4 : Int32) d20_57 rfl (by decide) ?_
  refine go_retI C d20_58 rfl (by decide) (by decide) ?_
  exact ⟨rfl, rfl⟩
theorem ct_nbf2 (l : Launch) (Z : State) (a0 : Array Value) (hw : HW a0 Z) {cS : Int32} {g0 : Addr} {g1 : Addr} {g2 : Addr} {g3 : Addr} (am : Amb Z a0 cS g0 g1 g2 g3) {h0 : Heap} :
    Py l Z (⟨"java/lang/StringUTF16", "newBytesFor", "(I)[B"⟩ : MethodName) 2 24 1 4 #[(.int 2)] h0 [] (fun rv h' => ∃ (t : Addr) (kB : ClassId), rv = some (.ref t) ∧ Arv Z h' t kB .byte (4 : Int32) [(.int 0), (.int 0), (.int 0), (.int 0)] (.int 0) ∧ (h0.size ≤ t)) := by
  refine Ct.py (by0 := jdk_52_method_2_code) (ml := 1) (rt := (some (.array .byte))) (rm := ({ frames := 1, cells := 1, slots := 4, locals := 12 } : Room)) ?_ (hq hw 114 rfl) (hq hw 101 rfl)
  refine Ct.mk (a0 := a0) (Ls := #[.val (.int 2)]) (plainFor_of_name pn_java_lang_StringUTF16) (fun m => by first | (simp [entryFrame, mkF, argsToLocals, Value.category]; done) | rfl) ?_
  intro κ C
  show Go l _ Z _ _ _ κ [] h0 0 #[.val (.int 2)] [] 0 0
  refine go_iloadN C 1 d19_0 rfl rfl ?_
  refine go_callS C (argsL := [(.int 2)]) (W := 0) d19_1 (hq hw 115 rfl) (hq hw 116 rfl) (hq hw 101 rfl) (hq hw 117 rfl) (by decide) pd__I_I (ct_nbl2 l Z a0 hw am) rfl (by decide) (Nat.le_of_eq rfl) (by decide) rfl (by decide) (by decide) mems0 ?_
  intro v1 h2 K3 q4
  obtain ⟨rfl, rfl⟩ := q4
  refine ⟨[], fresh0, ?_⟩
  show Go l _ Z _ _ _ κ _ _ 4 _ [(.int 4)] 0 0
  refine go_newP C 6 1 4 (ty := .byte) (cap := 4) d19_4 rfl rfl rfl rfl (hq hw 20 rfl) (by decide) (by decide) (by decide) (by decide) (by decide) ?_
  intro b5 h6 k7 g8 E9 V10
  have x11 : Arv Z h6 b5 k7 .byte (4 : Int32) [(.int 0), (.int 0), (.int 0), (.int 0)] (.int 0) := V10
  refine go_retA C (v := (.ref b5)) d19_6 rfl rfl rfl (by decide) (by decide) ?_
  exact ⟨b5, k7, rfl, x11, (Nat.le_of_eq g8.symm)⟩
theorem ct_tob2 (l : Launch) (Z : State) (a0 : Array Value) (hw : HW a0 Z) {cS : Int32} {g0 : Addr} {g1 : Addr} {g2 : Addr} {g3 : Addr} (am : Amb Z a0 cS g0 g1 g2 g3) {b : Addr} {kC : ClassId} {c0 : Int32} {c1 : Int32} {h0 : Heap} (p0 : Arv Z h0 b kC .char (2 : Int32) [(.int c0), (.int c1)] (.int 0)) :
    Py l Z (⟨"java/lang/StringUTF16", "toBytes", "([CII)[B"⟩ : MethodName) 3 40 1 4 #[(.ref b), (.int 0), (.int 2)] h0 [] (fun rv h' => ∃ (t : Addr) (kB : ClassId), rv = some (.ref t) ∧ Arv Z h' t kB .byte (4 : Int32) [(.int (lo8 c0)), (.int (hi8 c0)), (.int (lo8 c1)), (.int (hi8 c1))] (.int 0) ∧ (h0.size ≤ t)) := by
  refine Ct.py (by0 := jdk_52_method_14_code) (ml := 5) (rt := (some (.array .byte))) (rm := ({ frames := 2, cells := 1, slots := 4, locals := 24 } : Room)) ?_ (hq hw 111 rfl) (hq hw 101 rfl)
  refine Ct.mk (a0 := a0) (Ls := #[.val (.ref b), .val (.int 0), .val (.int 2), .unset, .unset]) (plainFor_of_name pn_java_lang_StringUTF16) (fun m => by first | (simp [entryFrame, mkF, argsToLocals, Value.category]; done) | rfl) ?_
  intro κ C
  show Go l _ Z _ _ _ κ [] h0 0 #[.val (.ref b), .val (.int 0), .val (.int 2), .unset, .unset] [] 0 0
  refine go_iloadN C 1 d18_0 rfl rfl ?_
  refine go_callS C (argsL := [(.int 2)]) (W := 0) d18_1 (hq hw 112 rfl) (hq hw 113 rfl) (hq hw 101 rfl) (hq hw 114 rfl) (by decide) pd__I__B (ct_nbf2 l Z a0 hw am) rfl (by decide) (Nat.le_of_eq rfl) (by decide) rfl (by decide) (by decide) mems0 ?_
  intro v1 h2 K3 q4
  obtain ⟨t5, kB6, rfl, x7, x8⟩ := q4
  refine ⟨[t5], (freshS ⟨x8, (x7).lt⟩ fresh0), ?_⟩
  show Go l _ Z _ _ _ κ [t5] _ 4 _ [(.ref t5)] 1 4
  refine go_astoreN C 5 (Ls' := #[.val (.ref b), .val (.int 0), .val (.int 2), .val (.ref t5), .unset]) d18_4 rfl rfl rfl ?_
  refine go_iconst C 6 (0 : Int32) d18_5 rfl (by decide) ?_
  refine go_istore C 8 (Ls' := #[.val (.ref b), .val (.int 0), .val (.int 2), .val (.ref t5), .val (.int 0)]) d18_6 rfl rfl ?_
  refine go_iload C 10 d18_8 rfl rfl ?_
  refine go_iloadN C 11 d18_10 rfl rfl ?_
  refine go_icmpN C 14 d18_11 rfl (tlt ((by decide) : (0 : Int32) < (2 : Int32))).2.1 ?_
  refine go_aloadN C 15 d18_14 rfl rfl rfl ?_
  refine go_iload C 17 d18_15 rfl rfl ?_
  refine go_aloadN C 18 d18_17 rfl rfl rfl ?_
  refine go_iloadN C 19 d18_18 rfl rfl ?_
  have x9 := (p0.keep K3 nin0)
  refine go_caload C 20 (v := (.int c0)) d18_19 rfl x9 (by decide) rfl ?_
  refine go_callS C (argsL := [(.ref t5), (.int 0), (.int c0)]) (W := 0) d18_20 (hq hw 119 rfl) (hq hw 120 rfl) (hq hw 101 rfl) (hq hw 121 rfl) (by decide) pd___BII_V (ct_put2_0 l Z a0 hw am (t := t5) (kB := kB6) (c0 := c0) x7) rfl (by decide) (Nat.le_of_eq rfl) (by decide) rfl (by decide) (by decide) (memsS (mi 0 rfl) mems0) ?_
  intro v10 h11 K12 q13
  obtain ⟨rfl, x14⟩ := q13
  refine ⟨[], fresh0, ?_⟩
  show Go l _ Z _ _ _ κ _ _ 23 _ [] 1 4
  refine go_iinc C 26 (Ls' := #[.val (.ref b), .val (.int 1), .val (.int 2), .val (.ref t5), .val (.int 0)]) (1 : Int32) d18_23 rfl (by decide) rfl rfl ?_
  refine go_iinc C 29 (Ls' := #[.val (.ref b), .val (.int 1), .val (.int 2), .val (.ref t5), .val (.int 1)]) (1 : Int32) d18_26 rfl (by decide) rfl rfl ?_
  refine go_goto C (pc' := 8) d18_29 (by decide) (by decide) ?_
  refine go_iload C 10 d18_8 rfl rfl ?_
  refine go_iloadN C 11 d18_10 rfl rfl ?_
  refine go_icmpN C 14 d18_11 rfl (tlt ((by decide) : (1 : Int32) < (2 : Int32))).2.1 ?_
  refine go_aloadN C 15 d18_14 rfl rfl rfl ?_
  refine go_iload C 17 d18_15 rfl rfl ?_
  refine go_aloadN C 18 d18_17 rfl rfl rfl ?_
  refine go_iloadN C 19 d18_18 rfl rfl ?_
  have x15 := (x9.keep K12 (ninS (Nat.ne_of_lt (Nat.lt_of_lt_of_le (p0).lt x8)) nin0))
  refine go_caload C 20 (v := (.int c1)) d18_19 rfl x15 (by decide) rfl ?_
  refine go_callS C (argsL := [(.ref t5), (.int 1), (.int c1)]) (W := 0) d18_20 (hq hw 119 rfl) (hq hw 120 rfl) (hq hw 101 rfl) (hq hw 121 rfl) (by decide) pd___BII_V (ct_put2_1 l Z a0 hw am (t := t5) (kB := kB6) (c0 := c0) (c1 := c1) x14) rfl (by decide) (Nat.le_of_eq rfl) (by decide) rfl (by decide) (by decide) (memsS (mi 0 rfl) mems0) ?_
  intro v16 h17 K18 q19
  obtain ⟨rfl, x20⟩ := q19
  refine ⟨[], fresh0, ?_⟩
  show Go l _ Z _ _ _ κ _ _ 23 _ [] 1 4
  refine go_iinc C 26 (Ls' := #[.val (.ref b), .val (.int 2), .val (.int 2), .val (.ref t5), .val (.int 1)]) (1 : Int32) d18_23 rfl (by decide) rfl rfl ?_
  refine go_iinc C 29 (Ls' := #[.val (.ref b), .val (.int 2), .val (.int 2), .val (.ref t5), .val (.int 2)]) (1 : Int32) d18_26 rfl (by decide) rfl rfl ?_
  refine go_goto C (pc' := 8) d18_29 (by decide) (by decide) ?_
  refine go_iload C 10 d18_8 rfl rfl ?_
  refine go_iloadN C 11 d18_10 rfl rfl ?_
  refine go_icmpY C (pc' := 32) d18_11 (flt ((by decide) : ¬ ((2 : Int32) < (2 : Int32)))).2.1 (by decide) (by decide) ?_
  refine go_aloadN C 33 d18_32 rfl rfl rfl ?_
  refine go_retA C (v := (.ref t5)) d18_33 rfl rfl rfl (by decide) (by decide) ?_
  exact ⟨t5, kB6, rfl, x20, x8⟩
theorem ct_cmp2 (l : Launch) (Z : State) (a0 : Array Value) (hw : HW a0 Z) {cS : Int32} {g0 : Addr} {g1 : Addr} {g2 : Addr} {g3 : Addr} (am : Amb Z a0 cS g0 g1 g2 g3) {b : Addr} {t : Addr} {kC : ClassId} {kB : ClassId} {c0 : Int32} {c1 : Int32} {h0 : Heap} (p0 : Arv Z h0 b kC .char (2 : Int32) [(.int c0), (.int c1)] (.int 0)) (p1 : Arv Z h0 t kB .byte (2 : Int32) [(.int 0), (.int 0)] (.int 0)) (hbt : b ≠ t) :
    Py l Z (⟨"java/lang/StringUTF16", "compress", "([CI[BII)I"⟩ : MethodName) 1 18 0 0 #[(.ref b), (.int 0), (.ref t), (.int 0), (.int 2)] h0 [t] (fun rv h' => (rv = some (.int 2) ∧ Arv Z h' t kB .byte (2 : Int32) [(.int (lo8 c0)), (.int (lo8 c1))] (.int 0) ∧ (¬ (255 : Int32) < c0) ∧ (¬ (255 : Int32) < c1)) ∨ (∃ (vs : List Value), rv = some (.int 0) ∧ Arv Z h' t kB .byte (2 : Int32) vs (.int 0) ∧ ((255 : Int32) < c0)) ∨ (∃ (vs : List Value), rv = some (.int 1) ∧ Arv Z h' t kB .byte (2 : Int32) vs (.int 0) ∧ ((255 : Int32) < c1))) := by
  refine Ct.py (by0 := jdk_52_method_21_code) (ml := 7) (rt := (some .int)) (rm := ({ frames := 0, cells := 0, slots := 0, locals := 0 } : Room)) ?_ (hq hw 105 rfl) (hq hw 101 rfl)
  refine Ct.mk (a0 := a0) (Ls := #[.val (.ref b), .val (.int 0), .val (.ref t), .val (.int 0), .val (.int 2), .unset, .unset]) (plainFor_of_name pn_java_lang_StringUTF16) (fun m => by first | (simp [entryFrame, mkF, argsToLocals, Value.category]; done) | rfl) ?_
  intro κ C
  show Go l _ Z _ _ _ κ [t] h0 0 #[.val (.ref b), .val (.int 0), .val (.ref t), .val (.int 0), .val (.int 2), .unset, .unset] [] 0 0
  refine go_iconst C 1 (0 : Int32) d16_0 rfl (by decide) ?_
  refine go_istore C 3 (Ls' := #[.val (.ref b), .val (.int 0), .val (.ref t), .val (.int 0), .val (.int 2), .val (.int 0), .unset]) d16_1 rfl rfl ?_
  refine go_iload C 5 d16_3 rfl rfl ?_
  refine go_iload C 7 d16_5 rfl rfl ?_
  refine go_icmpN C 10 d16_7 rfl (tlt ((by decide) : (0 : Int32) < (2 : Int32))).2.1 ?_
  refine go_aloadN C 11 d16_10 rfl rfl rfl ?_
  refine go_iloadN C 12 d16_11 rfl rfl ?_
  refine go_caload C 13 (v := (.int c0)) d16_12 rfl p0 (by decide) rfl ?_
  refine go_istore C 15 (Ls' := #[.val (.ref b), .val (.int 0), .val (.ref t), .val (.int 0), .val (.int 2), .val (.int 0), .val (.int c0)]) d16_13 rfl rfl ?_
  refine go_iload C 17 d16_15 rfl rfl ?_
  refine go_sipush C 20 (255 : Int32) d16_17 rfl (by decide) ?_
  by_cases q0 : (255 : Int32) < c0
  · skip
    refine go_icmpN C 23 d16_20 rfl (tlt q0).2.2.2 ?_
    refine go_iload C 25 d16_23 rfl rfl ?_
    refine go_retI C d16_25 rfl (by decide) (by decide) ?_
    exact Or.inr (Or.inl ⟨[(.int 0), (.int 0)], rfl, p1, q0⟩)
  · skip
    refine go_icmpY C (pc' := 26) d16_20 (flt q0).2.2.2 (by decide) (by decide) ?_
    refine go_aloadN C 27 d16_26 rfl rfl rfl ?_
    refine go_iloadN C 28 d16_27 rfl rfl ?_
    refine go_iload C 30 d16_28 rfl rfl ?_
    refine go_i2b C 31 (lo8 c0) d16_30 rfl rfl ?_
    refine go_bastore C 32 0 (v := (lo8 c0)) (nar_lo8 _) d16_31 rfl p1 (by decide) rfl (nble rfl) (mi 0 rfl) ?_
    intro h1 W2 x3
    have x4 : Arv Z h1 t kB .byte (2 : Int32) [(.int (lo8 c0)), (.int 0)] (.int 0) := x3
    refine go_iinc C 35 (Ls' := #[.val (.ref b), .val (.int 1), .val (.ref t), .val (.int 0), .val (.int 2), .val (.int 0), .val (.int c0)]) (1 : Int32) d16_32 rfl (by decide) rfl rfl ?_
    refine go_iinc C 38 (Ls' := #[.val (.ref b), .val (.int 1), .val (.ref t), .val (.int 1), .val (.int 2), .val (.int 0), .val (.int c0)]) (1 : Int32) d16_35 rfl (by decide) rfl rfl ?_
    refine go_iinc C 41 (Ls' := #[.val (.ref b), .val (.int 1), .val (.ref t), .val (.int 1), .val (.int 2), .val (.int 1), .val (.int c0)]) (1 : Int32) d16_38 rfl (by decide) rfl rfl ?_
    refine go_goto C (pc' := 3) d16_41 (by decide) (by decide) ?_
    refine go_iload C 5 d16_3 rfl rfl ?_
    refine go_iload C 7 d16_5 rfl rfl ?_
    refine go_icmpN C 10 d16_7 rfl (tlt ((by decide) : (1 : Int32) < (2 : Int32))).2.1 ?_
    refine go_aloadN C 11 d16_10 rfl rfl rfl ?_
    refine go_iloadN C 12 d16_11 rfl rfl ?_
    have x5 := (p0.other W2 hbt)
    refine go_caload C 13 (v := (.int c1)) d16_12 rfl x5 (by decide) rfl ?_
    refine go_istore C 15 (Ls' := #[.val (.ref b), .val (.int 1), .val (.ref t), .val (.int 1), .val (.int 2), .val (.int 1), .val (.int c1)]) d16_13 rfl rfl ?_
    refine go_iload C 17 d16_15 rfl rfl ?_
    refine go_sipush C 20 (255 : Int32) d16_17 rfl (by decide) ?_
    by_cases q1 : (255 : Int32) < c1
    · skip
      refine go_icmpN C 23 d16_20 rfl (tlt q1).2.2.2 ?_
      refine go_iload C 25 d16_23 rfl rfl ?_
      refine go_retI C d16_25 rfl (by decide) (by decide) ?_
      exact Or.inr (Or.inr (⟨[(.int (lo8 c0)), (.int 0)], rfl, x4, q1⟩))
    · skip
      refine go_icmpY C (pc' := 26) d16_20 (flt q1).2.2.2 (by decide) (by decide) ?_
      refine go_aloadN C 27 d16_26 rfl rfl rfl ?_
      refine go_iloadN C 28 d16_27 rfl rfl ?_
      refine go_iload C 30 d16_28 rfl rfl ?_
      refine go_i2b C 31 (lo8 c1) d16_30 rfl rfl ?_
      refine go_bastore C 32 1 (v := (lo8 c1)) (nar_lo8 _) d16_31 rfl x4 (by decide) rfl (nble rfl) (mi 0 rfl) ?_
      intro h6 W7 x8
      have x9 : Arv Z h6 t kB .byte (2 : Int32) [(.int (lo8 c0)), (.int (lo8 c1))] (.int 0) := x8
      refine go_iinc C 35 (Ls' := #[.val (.ref b), .val (.int 2), .val (.ref t), .val (.int 1), .val (.int 2), .val (.int 1), .val (.int c1)]) (1 : Int32) d16_32 rfl (by decide) rfl rfl ?_
      refine go_iinc C 38 (Ls' := #[.val (.ref b), .val (.int 2), .val (.ref t), .val (.int 2), .val (.int 2), .val (.int 1), .val (.int c1)]) (1 : Int32) d16_35 rfl (by decide) rfl rfl ?_
      refine go_iinc C 41 (Ls' := #[.val (.ref b), .val (.int 2), .val (.ref t), .val (.int 2), .val (.int 2), .val (.int 2), .val (.int c1)]) (1 : Int32) d16_38 rfl (by decide) rfl rfl ?_
      refine go_goto C (pc' := 3) d16_41 (by decide) (by decide) ?_
      refine go_iload C 5 d16_3 rfl rfl ?_
      refine go_iload C 7 d16_5 rfl rfl ?_
      refine go_icmpY C (pc' := 44) d16_7 (flt ((by decide) : ¬ ((2 : Int32) < (2 : Int32)))).2.1 (by decide) (by decide) ?_
      refine go_iload C 46 d16_44 rfl rfl ?_
      refine go_retI C d16_46 rfl (by decide) (by decide) ?_
      exact Or.inl ⟨rfl, x9, q0, q1⟩
theorem ct_cmpA2 (l : Launch) (Z : State) (a0 : Array Value) (hw : HW a0 Z) {cS : Int32} {g0 : Addr} {g1 : Addr} {g2 : Addr} {g3 : Addr} (am : Amb Z a0 cS g0 g1 g2 g3) {b : Addr} {kC : ClassId} {c0 : Int32} {c1 : Int32} {h0 : Heap} (p0 : Arv Z h0 b kC .char (2 : Int32) [(.int c0), (.int c1)] (.int 0)) (r0 : Chr c0) (r1 : Chr c1) :
    Py l Z (⟨"java/lang/StringUTF16", "compress", "([CII)[B"⟩ : MethodName) 4 57 2 6 #[(.ref b), (.int 0), (.int 2)] h0 [] (fun rv h' => (∃ (t : Addr) (kB : ClassId), rv = some (.ref t) ∧ Arv Z h' t kB .byte (2 : Int32) [(.int (lo8 c0)), (.int (lo8 c1))] (.int 0) ∧ (h0.size ≤ t) ∧ (¬ (255 : Int32) < c0) ∧ (¬ (255 : Int32) < c1)) ∨ (∃ (t : Addr) (kB : ClassId), rv = some (.ref t) ∧ Arv Z h' t kB .byte (4 : Int32) [(.int (lo8 c0)), (.int (hi8 c0)), (.int (lo8 c1)), (.int (hi8 c1))] (.int 0) ∧ (h0.size ≤ t) ∧ ((255 : Int32) < c0 ∨ (255 : Int32) < c1))) := by
  refine Ct.py (by0 := jdk_52_method_16_code) (ml := 6) (rt := (some (.array .byte))) (rm := ({ frames := 3, cells := 2, slots := 6, locals := 40 } : Room)) ?_ (hq hw 102 rfl) (hq hw 101 rfl)
  refine Ct.mk (a0 := a0) (Ls := #[.val (.ref b), .val (.int 0), .val (.int 2), .unset, .unset, .unset]) (plainFor_of_name pn_java_lang_StringUTF16) (fun m => by first | (simp [entryFrame, mkF, argsToLocals, Value.category]; done) | rfl) ?_
  intro κ C
  show Go l _ Z _ _ _ κ [] h0 0 #[.val (.ref b), .val (.int 0), .val (.int 2), .unset, .unset, .unset] [] 0 0
  refine go_iloadN C 1 d15_0 rfl rfl ?_
  refine go_newP C 3 1 2 (ty := .byte) (cap := 2) d15_1 rfl rfl rfl rfl (hq hw 20 rfl) (by decide) (by decide) (by decide) (by decide) (by decide) ?_
  intro b1 h2 k3 g4 E5 V6
  have x7 : Arv Z h2 b1 k3 .byte (2 : Int32) [(.int 0), (.int 0)] (.int 0) := V6
  refine go_astoreN C 4 (Ls' := #[.val (.ref b), .val (.int 0), .val (.int 2), .val (.ref b1), .unset, .unset]) d15_3 rfl rfl rfl ?_
  refine go_aloadN C 5 d15_4 rfl rfl rfl ?_
  refine go_iloadN C 6 d15_5 rfl rfl ?_
  refine go_aloadN C 7 d15_6 rfl rfl rfl ?_
  refine go_iconst C 8 (0 : Int32) d15_7 rfl (by decide) ?_
  refine go_iloadN C 9 d15_8 rfl rfl ?_
  have x8 := (p0.ext E5)
  refine go_callS C (argsL := [(.ref b), (.int 0), (.ref b1), (.int 0), (.int 2)]) (W := 0) d15_9 (hq hw 103 rfl) (hq hw 104 rfl) (hq hw 101 rfl) (hq hw 105 rfl) (by decide) pd___CI_BII_I (ct_cmp2 l Z a0 hw am (b := b) (t := b1) (kC := kC) (kB := k3) (c0 := c0) (c1 := c1) x8 x7 (Nat.ne_of_lt (Nat.lt_of_lt_of_le (p0).lt (Nat.le_of_eq g4.symm)))) rfl (by decide) (Nat.le_of_eq rfl) (by decide) rfl (by decide) (by decide) (memsS (mi 0 rfl) mems0) ?_
  intro v9 h10 K11 q12
  rcases q12 with ⟨rfl, x13, x14, x15⟩ | ⟨vs16, rfl, x17, x18⟩ | ⟨vs19, rfl, x20, x21⟩
  · skip
    refine ⟨[], fresh0, ?_⟩
    show Go l _ Z _ _ _ κ _ _ 12 _ [(.int 2)] 1 2
    refine go_istore C 14 (Ls' := #[.val (.ref b), .val (.int 0), .val (.int 2), .val (.ref b1), .val (.int 2), .unset]) d15_12 rfl rfl ?_
    refine go_iload C 16 d15_14 rfl rfl ?_
    refine go_iloadN C 17 d15_16 rfl rfl ?_
    refine go_icmpY C (pc' := 57) d15_17 (teq ((by decide) : (2 : Int32) = (2 : Int32))).1 (by decide) (by decide) ?_
    refine go_aloadN C 58 d15_57 rfl rfl rfl ?_
    refine go_retA C (v := (.ref b1)) d15_58 rfl rfl rfl (by decide) (by decide) ?_
    exact Or.inl ⟨b1, k3, rfl, x13, (Nat.le_of_eq g4.symm), x14, x15⟩
  · skip
    refine ⟨[], fresh0, ?_⟩
    show Go l _ Z _ _ _ κ _ _ 12 _ [(.int 0)] 1 2
    refine go_istore C 14 (Ls' := #[.val (.ref b), .val (.int 0), .val (.int 2), .val (.ref b1), .val (.int 0), .unset]) d15_12 rfl rfl ?_
    refine go_iload C 16 d15_14 rfl rfl ?_
    refine go_iloadN C 17 d15_16 rfl rfl ?_
    refine go_icmpN C 20 d15_17 rfl (feq ((by decide) : ¬ ((0 : Int32) = (2 : Int32)))).1 ?_
    refine go_aloadN C 21 d15_20 rfl rfl rfl ?_
    refine go_iloadN C 22 d15_21 rfl rfl ?_
    refine go_iloadN C 23 d15_22 rfl rfl ?_
    have x22 := (x8.keep K11 (ninS (Nat.ne_of_lt (Nat.lt_of_lt_of_le (p0).lt (Nat.le_of_eq g4.symm))) nin0))
    refine go_callS C (argsL := [(.ref b), (.int 0), (.int 2)]) (W := 0) d15_23 (hq hw 109 rfl) (hq hw 110 rfl) (hq hw 101 rfl) (hq hw 111 rfl) (by decide) pd___CII__B (ct_tob2 l Z a0 hw am (b := b) (kC := kC) (c0 := c0) (c1 := c1) x22) rfl (by decide) (Nat.le_of_eq rfl) (by decide) rfl (by decide) (by decide) mems0 ?_
    intro v23 h24 K25 q26
    obtain ⟨t27, kB28, rfl, x29, x30⟩ := q26
    refine ⟨[t27], (freshS ⟨x30, (x29).lt⟩ fresh0), ?_⟩
    show Go l _ Z _ _ _ κ [t27, b1] _ 26 _ [(.ref t27)] 2 6
    refine go_astore C 28 (Ls' := #[.val (.ref b), .val (.int 0), .val (.int 2), .val (.ref b1), .val (.int 0), .val (.ref t27)]) d15_26 rfl rfl rfl ?_
    refine go_aload C 30 d15_28 rfl rfl rfl ?_
    refine go_iload C 32 d15_30 rfl rfl ?_
    refine go_callS C (argsL := [(.ref t27), (.int 0)]) (W := 0) d15_32 (hq hw 125 rfl) (hq hw 126 rfl) (hq hw 101 rfl) (hq hw 127 rfl) (by decide) pd___BI_C (ct_get2_0 l Z a0 hw am (t := t27) (kB := kB28) (c0 := c0) (c1 := c1) x29 r0) rfl (by decide) (Nat.le_of_eq rfl) (by decide) rfl (by decide) (by decide) mems0 ?_
    intro v31 h32 K33 q34
    obtain ⟨rfl, rfl⟩ := q34
    refine ⟨[], fresh0, ?_⟩
    show Go l _ Z _ _ _ κ _ _ 35 _ [(.int c0)] 2 6
    refine go_sipush C 38 (255 : Int32) d15_35 rfl (by decide) ?_
    refine go_icmpY C (pc' := 54) d15_38 (tlt (x18 : (255 : Int32) < c0)).2.2.1 (by decide) (by decide) ?_
    refine go_aload C 56 d15_54 rfl rfl rfl ?_
    refine go_retA C (v := (.ref t27)) d15_56 rfl rfl rfl (by decide) (by decide) ?_
    exact Or.inr (⟨t27, kB28, rfl, x29, (Nat.le_trans E5.1 (Nat.le_trans K11.1 x30)), (Or.inl x18)⟩)
  · skip
    refine ⟨[], fresh0, ?_⟩
    show Go l _ Z _ _ _ κ _ _ 12 _ [(.int 1)] 1 2
    refine go_istore C 14 (Ls' := #[.val (.ref b), .val (.int 0), .val (.int 2), .val (.ref b1), .val (.int 1), .unset]) d15_12 rfl rfl ?_
    refine go_iload C 16 d15_14 rfl rfl ?_
    refine go_iloadN C 17 d15_16 rfl rfl ?_
    refine go_icmpN C 20 d15_17 rfl (feq ((by decide) : ¬ ((1 : Int32) = (2 : Int32)))).1 ?_
    refine go_aloadN C 21 d15_20 rfl rfl rfl ?_
    refine go_iloadN C 22 d15_21 rfl rfl ?_
    refine go_iloadN C 23 d15_22 rfl rfl ?_
    have x35 := (x8.keep K11 (ninS (Nat.ne_of_lt (Nat.lt_of_lt_of_le (p0).lt (Nat.le_of_eq g4.symm))) nin0))
    refine go_callS C (argsL := [(.ref b), (.int 0), (.int 2)]) (W := 0) d15_23 (hq hw 109 rfl) (hq hw 110 rfl) (hq hw 101 rfl) (hq hw 111 rfl) (by decide) pd___CII__B (ct_tob2 l Z a0 hw am (b := b) (kC := kC) (c0 := c0) (c1 := c1) x35) rfl (by decide) (Nat.le_of_eq rfl) (by decide) rfl (by decide) (by decide) mems0 ?_
    intro v36 h37 K38 q39
    obtain ⟨t40, kB41, rfl, x42, x43⟩ := q39
    refine ⟨[t40], (freshS ⟨x43, (x42).lt⟩ fresh0), ?_⟩
    show Go l _ Z _ _ _ κ [t40, b1] _ 26 _ [(.ref t40)] 2 6
    refine go_astore C 28 (Ls' := #[.val (.ref b), .val (.int 0), .val (.int 2), .val (.ref b1), .val (.int 1), .val (.ref t40)]) d15_26 rfl rfl rfl ?_
    refine go_aload C 30 d15_28 rfl rfl rfl ?_
    refine go_iload C 32 d15_30 rfl rfl ?_
    refine go_callS C (argsL := [(.ref t40), (.int 1)]) (W := 0) d15_32 (hq hw 125 rfl) (hq hw 126 rfl) (hq hw 101 rfl) (hq hw 127 rfl) (by decide) pd___BI_C (ct_get2_1 l Z a0 hw am (t := t40) (kB := kB41) (c0 := c0) (c1 := c1) x42 r1) rfl (by decide) (Nat.le_of_eq rfl) (by decide) rfl (by decide) (by decide) mems0 ?_
    intro v44 h45 K46 q47
    obtain ⟨rfl, rfl⟩ := q47
    refine ⟨[], fresh0, ?_⟩
    show Go l _ Z _ _ _ κ _ _ 35 _ [(.int c1)] 2 6
    refine go_sipush C 38 (255 : Int32) d15_35 rfl (by decide) ?_
    refine go_icmpY C (pc' := 54) d15_38 (tlt (x21 : (255 : Int32) < c1)).2.2.1 (by decide) (by decide) ?_
    refine go_aload C 56 d15_54 rfl rfl rfl ?_
    refine go_retA C (v := (.ref t40)) d15_56 rfl rfl rfl (by decide) (by decide) ?_
    exact Or.inr (⟨t40, kB41, rfl, x42, (Nat.le_trans E5.1 (Nat.le_trans K11.1 x43)), (Or.inr x21)⟩)
theorem ct_coder2_2 (l : Launch) (Z : State) (a0 : Array Value) (hw : HW a0 Z) {cS : Int32} {g0 : Addr} {g1 : Addr} {g2 : Addr} {g3 : Addr} (am : Amb Z a0 cS g0 g1 g2 g3) {t : Addr} {kB : ClassId} {vs : List Value} {h0 : Heap} (p0 : Arv Z h0 t kB .byte (2 : Int32) vs (.int 0)) :
    Py l Z (⟨"java/lang/StringUTF16", "coderFromArrayLen", "([BI)B"⟩ : MethodName) 1 13 0 0 #[(.ref t), (.int 2)] h0 [] (fun rv h' => rv = some (.int 0) ∧ h' = h0) := by
  refine Ct.py (by0 := jdk_52_method_15_code) (ml := 2) (rt := (some .byte)) (rm := ({ frames := 0, cells := 0, slots := 0, locals := 0 } : Room)) ?_ (hq hw 108 rfl) (hq hw 101 rfl)
  refine Ct.mk (a0 := a0) (Ls := #[.val (.ref t), .val (.int 2)]) (plainFor_of_name pn_java_lang_StringUTF16) (fun m => by first | (simp [entryFrame, mkF, argsToLocals, Value.category]; done) | rfl) ?_
  intro κ C
  show Go l _ Z _ _ _ κ [] h0 0 #[.val (.ref t), .val (.int 2)] [] 0 0
  refine go_iloadN C 1 d17_0 rfl rfl ?_
  refine go_aloadN C 2 d17_1 rfl rfl rfl ?_
  refine go_arraylength C 3 d17_2 rfl p0 ?_
  refine go_isub C 4 (0 : Int32) d17_3 rfl (by decide) ?_
  refine go_bipush C 6 (31 : Int32) d17_4 rfl (by decide) ?_
  refine go_iushr C 7 (0 : Int32) d17_6 rfl (by decide) ?_
  refine go_i2b C 8 (0 : Int32) d17_7 rfl (by decide) ?_
  refine go_retN C (t := .byte) (z := (0 : Int32)) d17_8 rfl (by decide) (by decide) (by decide) (by decide) ?_
  exact ⟨rfl, rfl⟩
theorem ct_coder4_2 (l : Launch) (Z : State) (a0 : Array Value) (hw : HW a0 Z) {cS : Int32} {g0 : Addr} {g1 : Addr} {g2 : Addr} {g3 : Addr} (am : Amb Z a0 cS g0 g1 g2 g3) {t : Addr} {kB : ClassId} {vs : List Value} {h0 : Heap} (p0 : Arv Z h0 t kB .byte (4 : Int32) vs (.int 0)) :
    Py l Z (⟨"java/lang/StringUTF16", "coderFromArrayLen", "([BI)B"⟩ : MethodName) 1 13 0 0 #[(.ref t), (.int 2)] h0 [] (fun rv h' => rv = some (.int 1) ∧ h' = h0) := by
  refine Ct.py (by0 := jdk_52_method_15_code) (ml := 2) (rt := (some .byte)) (rm := ({ frames := 0, cells := 0, slots := 0, locals := 0 } : Room)) ?_ (hq hw 108 rfl) (hq hw 101 rfl)
  refine Ct.mk (a0 := a0) (Ls := #[.val (.ref t), .val (.int 2)]) (plainFor_of_name pn_java_lang_StringUTF16) (fun m => by first | (simp [entryFrame, mkF, argsToLocals, Value.category]; done) | rfl) ?_
  intro κ C
  show Go l _ Z _ _ _ κ [] h0 0 #[.val (.ref t), .val (.int 2)] [] 0 0
  refine go_iloadN C 1 d17_0 rfl rfl ?_
  refine go_aloadN C 2 d17_1 rfl rfl rfl ?_
  refine go_arraylength C 3 d17_2 rfl p0 ?_
  refine go_isub C 4 (-2 : Int32) d17_3 rfl (by decide) ?_
  refine go_bipush C 6 (31 : Int32) d17_4 rfl (by decide) ?_
  refine go_iushr C 7 (1 : Int32) d17_6 rfl (by decide) ?_
  refine go_i2b C 8 (1 : Int32) d17_7 rfl (by decide) ?_
  refine go_retN C (t := .byte) (z := (1 : Int32)) d17_8 rfl (by decide) (by decide) (by decide) (by decide) ?_
  exact ⟨rfl, rfl⟩
theorem ct_strV2 (l : Launch) (Z : State) (a0 : Array Value) (hw : HW a0 Z) {cS : Int32} {g0 : Addr} {g1 : Addr} {g2 : Addr} {g3 : Addr} (am : Amb Z a0 cS g0 g1 g2 g3) {a : Addr} {b : Addr} {kC : ClassId} {c0 : Int32} {c1 : Int32} {h0 : Heap} (p0 : Exa Z h0 a "java/lang/String") (p1 : Fld Z h0 a "java/lang/String" "value" "[B" .null) (p2 : Fld Z h0 a "java/lang/String" "coder" "B" (.int 0)) (p3 : Arv Z h0 b kC .char (2 : Int32) [(.int c0), (.int c1)] (.int 0)) (r0 : Chr c0) (r1 : Chr c1) :
    Py l Z (⟨"java/lang/String", "<init>", "([CIILjava/lang/Void;)V"⟩ : MethodName) 5 74 2 6 #[(.ref a), (.ref b), (.int 0), (.int 2), .null] h0 [a] (fun rv h' => (∃ (t : Addr) (kB : ClassId), rv = none ∧ Exa Z h' a "java/lang/String" ∧ Fld Z h' a "java/lang/String" "coder" "B" (.int 0) ∧ Fld Z h' a "java/lang/String" "value" "[B" (.ref t) ∧ Arv Z h' t kB .byte (2 : Int32) [(.int (lo8 c0)), (.int (lo8 c1))] (.int 0) ∧ (h0.size ≤ t) ∧ (¬ (255 : Int32) < c0) ∧ (¬ (255 : Int32) < c1)) ∨ (∃ (t : Addr) (kB : ClassId), rv = none ∧ Exa Z h' a "java/lang/String" ∧ Fld Z h' a "java/lang/String" "coder" "B" (.int 1) ∧ Fld Z h' a "java/lang/String" "value" "[B" (.ref t) ∧ Arv Z h' t kB .byte (4 : Int32) [(.int (lo8 c0)), (.int (hi8 c0)), (.int (lo8 c1)), (.int (hi8 c1))] (.int 0) ∧ (h0.size ≤ t) ∧ ((255 : Int32) < c0 ∨ (255 : Int32) < c1))) := by
  refine Ct.py (by0 := jdk_42_method_149_code) (ml := 6) (rt := none) (rm := ({ frames := 4, cells := 2, slots := 6, locals := 57 } : Room)) ?_ (hq hw 15 rfl) (hq hw 3 rfl)
  refine Ct.mk (a0 := a0) (Ls := #[.val (.ref a), .val (.ref b), .val (.int 0), .val (.int 2), .val .null, .unset]) (plainFor_of_name pn_java_lang_String) (fun m => by first | (simp [entryFrame, mkF, argsToLocals, Value.category]; done) | rfl) ?_
  intro κ C
  show Go l _ Z _ _ _ κ [a] h0 0 #[.val (.ref a), .val (.ref b), .val (.int 0), .val (.int 2), .val .null, .unset] [] 0 0
  refine go_aloadN C 1 d3_0 rfl rfl rfl ?_
  refine go_initO C 4 (W := 0) d3_1 rfl (hq hw 16 rfl) (hq hw 17 rfl) (hq hw 18 rfl) rfl (by decide) (Nat.le_of_eq rfl) (by decide) ?_
  refine go_iloadN C 5 d3_4 rfl rfl ?_
  refine go_ifY C (pc' := 27) d3_5 (feq ((by decide) : ¬ ((2 : Int32) = (0 : Int32)))).2 (by decide) (by decide) ?_
  refine go_getS C 30 d3_27 rfl (hq hw 70 rfl) am.2.1 ?_
  refine go_ifN C 33 d3_30 rfl (feq (am.2.2.1 : ¬ (cS = (0 : Int32)))).1 ?_
  refine go_aloadN C 34 d3_33 rfl rfl rfl ?_
  refine go_iloadN C 35 d3_34 rfl rfl ?_
  refine go_iloadN C 36 d3_35 rfl rfl ?_
  refine go_callS C (argsL := [(.ref b), (.int 0), (.int 2)]) (W := 0) d3_36 (hq hw 99 rfl) (hq hw 100 rfl) (hq hw 101 rfl) (hq hw 102 rfl) (by decide) pd___CII__B (ct_cmpA2 l Z a0 hw am (b := b) (kC := kC) (c0 := c0) (c1 := c1) p3 r0 r1) rfl (by decide) (Nat.le_of_eq rfl) (by decide) rfl (by decide) (by decide) mems0 ?_
  intro v1 h2 K3 q4
  rcases q4 with ⟨t5, kB6, rfl, x7, x8, x9, x10⟩ | ⟨t11, kB12, rfl, x13, x14, x15⟩
  · skip
    refine ⟨[t5], (freshS ⟨x8, (x7).lt⟩ fresh0), ?_⟩
    show Go l _ Z _ _ _ κ [t5, a] _ 39 _ [(.ref t5)] 2 6
    refine go_astore C 41 (Ls' := #[.val (.ref a), .val (.ref b), .val (.int 0), .val (.int 2), .val .null, .val (.ref t5)]) d3_39 rfl rfl rfl ?_
    refine go_aloadN C 42 d3_41 rfl rfl rfl ?_
    refine go_aload C 44 d3_42 rfl rfl rfl ?_
    refine go_iloadN C 45 d3_44 rfl rfl ?_
    refine go_callS C (argsL := [(.ref t5), (.int 2)]) (W := 1) d3_45 (hq hw 106 rfl) (hq hw 107 rfl) (hq hw 101 rfl) (hq hw 108 rfl) (by decide) pd___BI_B (ct_coder2_2 l Z a0 hw am (t := t5) (kB := kB6) (vs := [(.int (lo8 c0)), (.int (lo8 c1))]) x7) rfl (by decide) (Nat.le_of_eq rfl) (by decide) rfl (by decide) (by decide) mems0 ?_
    intro v16 h17 K18 q19
    obtain ⟨rfl, rfl⟩ := q19
    refine ⟨[], fresh0, ?_⟩
    show Go l _ Z _ _ _ κ _ _ 48 _ [(.int 0), (.ref a)] 2 6
    have x20 := (p2.keep K3 nin0)
    have x21 := (p0.keep K3)
    refine go_putFN C 51 (ty := .byte) (v' := .int 0) d3_48 rfl (hq hw 26 rfl) Via.refl x20 x21 (Or.inr ⟨(hq hw 22 rfl), rfl, rfl⟩) (hq hw 2 rfl) (by decide) rfl (by decide) (mi 1 rfl) ?_
    intro h22 W23
    have x24 : Fld Z h22 a "java/lang/String" "coder" "B" (.int 0) := Fld.same W23 x20
    refine go_aloadN C 52 d3_51 rfl rfl rfl ?_
    refine go_aload C 54 d3_52 rfl rfl rfl ?_
    have x25 := (Fld.other W23 (p1.keep K3 nin0) (Or.inr (slot_ne (Or.inr (hq hw 21 rfl)) (Or.inr (hq hw 22 rfl)) (by decide) (t := (.array .byte)) (t' := .byte) (by decide) (by decide))))
    have x26 := (Exa.wr W23 x21)
    refine go_putF C 57 (ty := (.array .byte)) d3_54 rfl (hq hw 25 rfl) Via.refl x25 x26 (Or.inr ⟨(hq hw 21 rfl), rfl, rfl⟩) (hq hw 2 rfl) (by decide) rfl rfl (mi 1 rfl) ?_
    intro h27 W28
    have x29 : Fld Z h27 a "java/lang/String" "value" "[B" (.ref t5) := Fld.same W28 x25
    refine go_ret C d3_57 rfl (by decide) (by decide) ?_
    have x30 := (Exa.wr W28 x26)
    have x31 := (Fld.other W28 x24 (Or.inr (slot_ne (Or.inr (hq hw 22 rfl)) (Or.inr (hq hw 21 rfl)) (by decide) (t := .byte) (t' := (.array .byte)) (by decide) (by decide))))
    have x32 := ((x7.other W23 (Ne.symm (Nat.ne_of_lt (Nat.lt_of_lt_of_le (p0).lt x8)))).other W28 (Ne.symm (Nat.ne_of_lt (Nat.lt_of_lt_of_le (p0).lt x8))))
    exact Or.inl ⟨t5, kB6, rfl, x30, x31, x29, x32, x8, x9, x10⟩
  · skip
    refine ⟨[t11], (freshS ⟨x14, (x13).lt⟩ fresh0), ?_⟩
    show Go l _ Z _ _ _ κ [t11, a] _ 39 _ [(.ref t11)] 2 6
    refine go_astore C 41 (Ls' := #[.val (.ref a), .val (.ref b), .val (.int 0), .val (.int 2), .val .null, .val (.ref t11)]) d3_39 rfl rfl rfl ?_
    refine go_aloadN C 42 d3_41 rfl rfl rfl ?_
    refine go_aload C 44 d3_42 rfl rfl rfl ?_
    refine go_iloadN C 45 d3_44 rfl rfl ?_
    refine go_callS C (argsL := [(.ref t11), (.int 2)]) (W := 1) d3_45 (hq hw 106 rfl) (hq hw 107 rfl) (hq hw 101 rfl) (hq hw 108 rfl) (by decide) pd___BI_B (ct_coder4_2 l Z a0 hw am (t := t11) (kB := kB12) (vs := [(.int (lo8 c0)), (.int (hi8 c0)), (.int (lo8 c1)), (.int (hi8 c1))]) x13) rfl (by decide) (Nat.le_of_eq rfl) (by decide) rfl (by decide) (by decide) mems0 ?_
    intro v33 h34 K35 q36
    obtain ⟨rfl, rfl⟩ := q36
    refine ⟨[], fresh0, ?_⟩
    show Go l _ Z _ _ _ κ _ _ 48 _ [(.int 1), (.ref a)] 2 6
    have x37 := (p2.keep K3 nin0)
    have x38 := (p0.keep K3)
    refine go_putFN C 51 (ty := .byte) (v' := .int 1) d3_48 rfl (hq hw 26 rfl) Via.refl x37 x38 (Or.inr ⟨(hq hw 22 rfl), rfl, rfl⟩) (hq hw 2 rfl) (by decide) rfl (by decide) (mi 1 rfl) ?_
    intro h39 W40
    have x41 : Fld Z h39 a "java/lang/String" "coder" "B" (.int 1) := Fld.same W40 x37
    refine go_aloadN C 52 d3_51 rfl rfl rfl ?_
    refine go_aload C 54 d3_52 rfl rfl rfl ?_
    have x42 := (Fld.other W40 (p1.keep K3 nin0) (Or.inr (slot_ne (Or.inr (hq hw 21 rfl)) (Or.inr (hq hw 22 rfl)) (by decide) (t := (.array .byte)) (t' := .byte) (by decide) (by decide))))
    have x43 := (Exa.wr W40 x38)
    refine go_putF C 57 (ty := (.array .byte)) d3_54 rfl (hq hw 25 rfl) Via.refl x42 x43 (Or.inr ⟨(hq hw 21 rfl), rfl, rfl⟩) (hq hw 2 rfl) (by decide) rfl rfl (mi 1 rfl) ?_
    intro h44 W45
    have x46 : Fld Z h44 a "java/lang/String" "value" "[B" (.ref t11) := Fld.same W45 x42
    refine go_ret C d3_57 rfl (by decide) (by decide) ?_
    have x47 := (Exa.wr W45 x43)
    have x48 := (Fld.other W45 x41 (Or.inr (slot_ne (Or.inr (hq hw 22 rfl)) (Or.inr (hq hw 21 rfl)) (by decide) (t := .byte) (t' := (.array .byte)) (by decide) (by decide))))
    have x49 := ((x13.other W40 (Ne.symm (Nat.ne_of_lt (Nat.lt_of_lt_of_le (p0).lt x14)))).other W45 (Ne.symm (Nat.ne_of_lt (Nat.lt_of_lt_of_le (p0).lt x14))))
    exact Or.inr (⟨t11, kB12, rfl, x47, x48, x46, x49, x14, x15⟩)
theorem ct_str2 (l : Launch) (Z : State) (a0 : Array Value) (hw : HW a0 Z) {cS : Int32} {g0 : Addr} {g1 : Addr} {g2 : Addr} {g3 : Addr} (am : Amb Z a0 cS g0 g1 g2 g3) {a : Addr} {b : Addr} {kC : ClassId} {c0 : Int32} {c1 : Int32} {h0 : Heap} (p0 : Exa Z h0 a "java/lang/String") (p1 : Fld Z h0 a "java/lang/String" "value" "[B" .null) (p2 : Fld Z h0 a "java/lang/String" "coder" "B" (.int 0)) (p3 : Arv Z h0 b kC .char (2 : Int32) [(.int c0), (.int c1)] (.int 0)) (r0 : Chr c0) (r1 : Chr c1) :
    Py l Z (⟨"java/lang/String", "<init>", "([C)V"⟩ : MethodName) 6 87 2 6 #[(.ref a), (.ref b)] h0 [a] (fun rv h' => (∃ (t : Addr) (kB : ClassId), rv = none ∧ Exa Z h' a "java/lang/String" ∧ Fld Z h' a "java/lang/String" "coder" "B" (.int 0) ∧ Fld Z h' a "java/lang/String" "value" "[B" (.ref t) ∧ Arv Z h' t kB .byte (2 : Int32) [(.int (lo8 c0)), (.int (lo8 c1))] (.int 0) ∧ (h0.size ≤ t) ∧ (¬ (255 : Int32) < c0) ∧ (¬ (255 : Int32) < c1)) ∨ (∃ (t : Addr) (kB : ClassId), rv = none ∧ Exa Z h' a "java/lang/String" ∧ Fld Z h' a "java/lang/String" "coder" "B" (.int 1) ∧ Fld Z h' a "java/lang/String" "value" "[B" (.ref t) ∧ Arv Z h' t kB .byte (4 : Int32) [(.int (lo8 c0)), (.int (hi8 c0)), (.int (lo8 c1)), (.int (hi8 c1))] (.int 0) ∧ (h0.size ≤ t) ∧ ((255 : Int32) < c0 ∨ (255 : Int32) < c1))) := by
  refine Ct.py (by0 := jdk_42_method_3_code) (ml := 2) (rt := none) (rm := ({ frames := 5, cells := 2, slots := 6, locals := 74 } : Room)) ?_ (hq hw 11 rfl) (hq hw 3 rfl)
  refine Ct.mk (a0 := a0) (Ls := #[.val (.ref a), .val (.ref b)]) (plainFor_of_name pn_java_lang_String) (fun m => by first | (simp [entryFrame, mkF, argsToLocals, Value.category]; done) | rfl) ?_
  intro κ C
  show Go l _ Z _ _ _ κ [a] h0 0 #[.val (.ref a), .val (.ref b)] [] 0 0
  refine go_aloadN C 1 d2_0 rfl rfl rfl ?_
  refine go_aloadN C 2 d2_1 rfl rfl rfl ?_
  refine go_iconst C 3 (0 : Int32) d2_2 rfl (by decide) ?_
  refine go_aloadN C 4 d2_3 rfl rfl rfl ?_
  refine go_arraylength C 5 d2_4 rfl p3 ?_
  refine go_aconstNull C 6 d2_5 rfl ?_
  refine go_callI C (a := a) (argsL := [(.ref b), (.int 0), (.int 2), .null]) (W := 0) d2_6 rfl (hq hw 12 rfl) (hq hw 13 rfl) (hq hw 15 rfl) (by decide) pd___CIILjava_lang_Void__V (ct_strV2 l Z a0 hw am (a := a) (b := b) (kC := kC) (c0 := c0) (c1 := c1) p0 p1 p2 p3 r0 r1) rfl (by decide) (Nat.le_of_eq rfl) (by decide) rfl (by decide) (by decide) (memsS (mi 0 rfl) mems0) ?_
  intro v1 h2 K3 q4
  rcases q4 with ⟨t5, kB6, rfl, x7, x8, x9, x10, x11, x12, x13⟩ | ⟨t14, kB15, rfl, x16, x17, x18, x19, x20, x21⟩
  · skip
    refine ⟨[t5], (freshS ⟨x11, (x10).lt⟩ fresh0), ?_⟩
    show Go l _ Z _ _ _ κ [t5, a] _ 9 _ [] 2 6
    refine go_ret C d2_9 rfl (by decide) (by decide) ?_
    exact Or.inl ⟨t5, kB6, rfl, x7, x8, x9, x10, x11, x12, x13⟩
  · skip
    refine ⟨[t14], (freshS ⟨x20, (x19).lt⟩ fresh0), ?_⟩
    show Go l _ Z _ _ _ κ [t14, a] _ 9 _ [] 2 6
    refine go_ret C d2_9 rfl (by decide) (by decide) ?_
    exact Or.inr (⟨t14, kB15, rfl, x16, x17, x18, x19, x20, x21⟩)
theorem ct_put3_0 (l : Launch) (Z : State) (a0 : Array Value) (hw : HW a0 Z) {cS : Int32} {g0 : Addr} {g1 : Addr} {g2 : Addr} {g3 : Addr} (am : Amb Z a0 cS g0 g1 g2 g3) {t : Addr} {kB : ClassId} {c0 : Int32} {h0 : Heap} (p0 : Arv Z h0 t kB .byte (6 : Int32) [(.int 0), (.int 0), (.int 0), (.int 0), (.int 0), (.int 0)] (.int 0)) :
    Py l Z (⟨"java/lang/StringUTF16", "putChar", "([BII)V"⟩ : MethodName) 1 14 0 0 #[(.ref t), (.int 0), (.int c0)] h0 [t] (fun rv h' => rv = none ∧ Arv Z h' t kB .byte (6 : Int32) [(.int (lo8 c0)), (.int (hi8 c0)), (.int 0), (.int 0), (.int 0), (.int 0)] (.int 0)) := by
  refine Ct.py (by0 := jdk_52_method_4_code) (ml := 3) (rt := none) (rm := ({ frames := 0, cells := 0, slots := 0, locals := 0 } : Room)) ?_ (hq hw 121 rfl) (hq hw 101 rfl)
  refine Ct.mk (a0 := a0) (Ls := #[.val (.ref t), .val (.int 0), .val (.int c0)]) (plainFor_of_name pn_java_lang_StringUTF16) (fun m => by first | (simp [entryFrame, mkF, argsToLocals, Value.category]; done) | rfl) ?_
  intro κ C
  show Go l _ Z _ _ _ κ [t] h0 0 #[.val (.ref t), .val (.int 0), .val (.int c0)] [] 0 0
  refine go_getS C 3 d21_0 rfl (hq hw 122 rfl) am.2.2.2.1 ?_
  refine go_ifY C (pc' := 28) d21_3 (feq ((by decide) : ¬ ((1 : Int32) = (0 : Int32)))).2 (by decide) (by decide) ?_
  refine go_iloadN C 29 d21_28 rfl rfl ?_
  refine go_iconst C 30 (1 : Int32) d21_29 rfl (by decide) ?_
  refine go_ishl C 31 (0 : Int32) d21_30 rfl (by decide) ?_
  refine go_istoreN C 32 (Ls' := #[.val (.ref t), .val (.int 0), .val (.int c0)]) d21_31 rfl rfl ?_
  refine go_aloadN C 33 d21_32 rfl rfl rfl ?_
  refine go_iloadN C 34 d21_33 rfl rfl ?_
  refine go_iinc C 37 (Ls' := #[.val (.ref t), .val (.int 1), .val (.int c0)]) (1 : Int32) d21_34 rfl (by decide) rfl rfl ?_
  refine go_iloadN C 38 d21_37 rfl rfl ?_
  refine go_getS C 41 d21_38 rfl (hq hw 123 rfl) am.2.2.2.2.1 ?_
  refine go_ishr C 42 c0 d21_41 rfl (shr_0 _) ?_
  refine go_i2b C 43 (lo8 c0) d21_42 rfl rfl ?_
  refine go_bastore C 44 0 (v := (lo8 c0)) (nar_lo8 _) d21_43 rfl p0 (by decide) rfl (nble rfl) (mi 0 rfl) ?_
  intro h1 W2 x3
  have x4 : Arv Z h1 t kB .byte (6 : Int32) [(.int (lo8 c0)), (.int 0), (.int 0), (.int 0), (.int 0), (.int 0)] (.int 0) := x3
  refine go_aloadN C 45 d21_44 rfl rfl rfl ?_
  refine go_iloadN C 46 d21_45 rfl rfl ?_
  refine go_iloadN C 47 d21_46 rfl rfl ?_
  refine go_getS C 50 d21_47 rfl (hq hw 124 rfl) am.2.2.2.2.2.1 ?_
  refine go_ishr C 51 (c0 >>> ((8 : Int32) &&& 31)) d21_50 rfl rfl ?_
  refine go_i2b C 52 (hi8 c0) d21_51 rfl rfl ?_
  refine go_bastore C 53 1 (v := (hi8 c0)) (nar_hi8 _) d21_52 rfl x4 (by decide) rfl (nble rfl) (mi 0 rfl) ?_
  intro h5 W6 x7
  have x8 : Arv Z h5 t kB .byte (6 : Int32) [(.int (lo8 c0)), (.int (hi8 c0)), (.int 0), (.int 0), (.int 0), (.int 0)] (.int 0) := x7
  refine go_ret C d21_53 rfl (by decide) (by decide) ?_
  exact ⟨rfl, x8⟩
theorem ct_get3_0 (l : Launch) (Z : State) (a0 : Array Value) (hw : HW a0 Z) {cS : Int32} {g0 : Addr} {g1 : Addr} {g2 : Addr} {g3 : Addr} (am : Amb Z a0 cS g0 g1 g2 g3) {t : Addr} {kB : ClassId} {c0 : Int32} {c1 : Int32} {c2 : Int32} {h0 : Heap} (p0 : Arv Z h0 t kB .byte (6 : Int32) [(.int (lo8 c0)), (.int (hi8 c0)), (.int (lo8 c1)), (.int (hi8 c1)), (.int (lo8 c2)), (.int (hi8 c2))] (.int 0)) (r0 : Chr c0) :
    Py l Z (⟨"java/lang/StringUTF16", "getChar", "([BI)C"⟩ : MethodName) 1 13 0 0 #[(.ref t), (.int 0)] h0 [] (fun rv h' => rv = some (.int c0) ∧ h' = h0) := by
  refine Ct.py (by0 := jdk_52_method_5_code) (ml := 2) (rt := (some .char)) (rm := ({ frames := 0, cells := 0, slots := 0, locals := 0 } : Room)) ?_ (hq hw 127 rfl) (hq hw 101 rfl)
  refine Ct.mk (a0 := a0) (Ls := #[.val (.ref t), .val (.int 0)]) (plainFor_of_name pn_java_lang_StringUTF16) (fun m => by first | (simp [entryFrame, mkF, argsToLocals, Value.category]; done) | rfl) ?_
  intro κ C
  show Go l _ Z _ _ _ κ [] h0 0 #[.val (.ref t), .val (.int 0)] [] 0 0
  refine go_getS C 3 d22_0 rfl (hq hw 122 rfl) am.2.2.2.1 ?_
  refine go_ifY C (pc' := 28) d22_3 (feq ((by decide) : ¬ ((1 : Int32) = (0 : Int32)))).2 (by decide) (by decide) ?_
  refine go_iloadN C 29 d22_28 rfl rfl ?_
  refine go_iconst C 30 (1 : Int32) d22_29 rfl (by decide) ?_
  refine go_ishl C 31 (0 : Int32) d22_30 rfl (by decide) ?_
  refine go_istoreN C 32 (Ls' := #[.val (.ref t), .val (.int 0)]) d22_31 rfl rfl ?_
  refine go_aloadN C 33 d22_32 rfl rfl rfl ?_
  refine go_iloadN C 34 d22_33 rfl rfl ?_
  refine go_iinc C 37 (Ls' := #[.val (.ref t), .val (.int 1)]) (1 : Int32) d22_34 rfl (by decide) rfl rfl ?_
  refine go_baload C 38 (v := (.int (lo8 c0))) d22_37 rfl p0 (by decide) rfl ?_
  refine go_sipush C 41 (255 : Int32) d22_38 rfl (by decide) ?_
  refine go_iand C 42 ((lo8 c0) &&& (255 : Int32)) d22_41 rfl rfl ?_
  refine go_getS C 45 d22_42 rfl (hq hw 123 rfl) am.2.2.2.2.1 ?_
  refine go_ishl C 46 (((lo8 c0) &&& (255 : Int32)) <<< ((0 : Int32) &&& 31)) d22_45 rfl rfl ?_
  refine go_aloadN C 47 d22_46 rfl rfl rfl ?_
  refine go_iloadN C 48 d22_47 rfl rfl ?_
  refine go_baload C 49 (v := (.int (hi8 c0))) d22_48 rfl p0 (by decide) rfl ?_
  refine go_sipush C 52 (255 : Int32) d22_49 rfl (by decide) ?_
  refine go_iand C 53 ((hi8 c0) &&& (255 : Int32)) d22_52 rfl rfl ?_
  refine go_getS C 56 d22_53 rfl (hq hw 124 rfl) am.2.2.2.2.2.1 ?_
  refine go_ishl C 57 (((hi8 c0) &&& (255 : Int32)) <<< ((8 : Int32) &&& 31)) d22_56 rfl rfl ?_
  refine go_ior C 58 ((((lo8 c0) &&& (255 : Int32)) <<< ((0 : Int32) &&& 31)) ||| (((hi8 c0) &&& (255 : Int32)) <<< ((8 : Int32) &&& 31))) d22_57 rfl rfl ?_
  refine go_i2c C 59 c0 d22_58 rfl (get16 r0) ?_
  refine go_retN C (t := .char) (z := c0) d22_59 rfl (by decide) r0.nar (by decide) (by decide) ?_
  exact ⟨rfl, rfl⟩
theorem ct_put3_1 (l : Launch) (Z : State) (a0 : Array Value) (hw : HW a0 Z) {cS : Int32} {g0 : Addr} {g1 : Addr} {g2 : Addr} {g3 : Addr} (am : Amb Z a0 cS g0 g1 g2 g3) {t : Addr} {kB : ClassId} {c0 : Int32} {c1 : Int32} {h0 : Heap} (p0 : Arv Z h0 t kB .byte (6 : Int32) [(.int (lo8 c0)), (.int (hi8 c0)), (.int 0), (.int 0), (.int 0), (.int 0)] (.int 0)) :
    Py l Z (⟨"java/lang/StringUTF16", "putChar", "([BII)V"⟩ : MethodName) 1 14 0 0 #[(.ref t), (.int 1), (.int c1)] h0 [t] (fun rv h' => rv = none ∧ Arv Z h' t kB .byte (6 : Int32) [(.int (lo8 c0)), (.int (hi8 c0)), (.int (lo8 c1)), (.int (hi8 c1)), (.int 0), (.int 0)] (.int 0)) := by
  refine Ct.py (by0 := jdk_52_method_4_code) (ml := 3) (rt := none) (rm := ({ frames := 0, cells := 0, slots := 0, locals := 0 } : Room)) ?_ (hq hw 121 rfl) (hq hw 101 rfl)
  refine Ct.mk (a0 := a0) (Ls := #[.val (.ref t), .val (.int 1), .val (.int c1)]) (plainFor_of_name pn_java_lang_StringUTF16) (fun m => by first | (simp [entryFrame, mkF, argsToLocals, Value.category]; done) | rfl) ?_
  intro κ C
  show Go l _ Z _ _ _ κ [t] h0 0 #[.val (.ref t), .val (.int 1), .val (.int c1)] [] 0 0
  refine go_getS C 3 d21_0 rfl (hq hw 122 rfl) am.2.2.2.1 ?_
  refine go_ifY C (pc' := 28) d21_3 (feq ((by decide) : ¬ ((1 : Int32) = (0 : Int32)))).2 (by decide) (by decide) ?_
  refine go_iloadN C 29 d21_28 rfl rfl ?_
  refine go_iconst C 30 (1 : Int32) d21_29 rfl (by decide) ?_
  refine go_ishl C 31 (2 : Int32) d21_30 rfl (by decide) ?_
  refine go_istoreN C 32 (Ls' := #[.val (.ref t), .val (.int 2), .val (.int c1)]) d21_31 rfl rfl ?_
  refine go_aloadN C 33 d21_32 rfl rfl rfl ?_
  refine go_iloadN C 34 d21_33 rfl rfl ?_
  refine go_iinc C 37 (Ls' := #[.val (.ref t), .val (.int 3), .val (.int c1)]) (1 : Int32) d21_34 rfl (by decide) rfl rfl ?_
  refine go_iloadN C 38 d21_37 rfl rfl ?_
  refine go_getS C 41 d21_38 rfl (hq hw 123 rfl) am.2.2.2.2.1 ?_
  refine go_ishr C 42 c1 d21_41 rfl (shr_0 _) ?_
  refine go_i2b C 43 (lo8 c1) d21_42 rfl rfl ?_
  refine go_bastore C 44 2 (v := (lo8 c1)) (nar_lo8 _) d21_43 rfl p0 (by decide) rfl (nble rfl) (mi 0 rfl) ?_
  intro h1 W2 x3
  have x4 : Arv Z h1 t kB .byte (6 : Int32) [(.int (lo8 c0)), (.int (hi8 c0)), (.int (lo8 c1)), (.int 0), (.int 0), (.int 0)] (.int 0) := x3
  refine go_aloadN C 45 d21_44 rfl rfl rfl ?_
  refine go_iloadN C 46 d21_45 rfl rfl ?_
  refine go_iloadN C 47 d21_46 rfl rfl ?_
  refine go_getS C 50 d21_47 rfl (hq hw 124 rfl) am.2.2.2.2.2.1 ?_
  refine go_ishr C 51 (c1 >>> ((8 : Int32) &&& 31)) d21_50 rfl rfl ?_
  refine go_i2b C 52 (hi8 c1) d21_51 rfl rfl ?_
  refine go_bastore C 53 3 (v := (hi8 c1)) (nar_hi8 _) d21_52 rfl x4 (by decide) rfl (nble rfl) (mi 0 rfl) ?_
  intro h5 W6 x7
  have x8 : Arv Z h5 t kB .byte (6 : Int32) [(.int (lo8 c0)), (.int (hi8 c0)), (.int (lo8 c1)), (.int (hi8 c1)), (.int 0), (.int 0)] (.int 0) := x7
  refine go_ret C d21_53 rfl (by decide) (by decide) ?_
  exact ⟨rfl, x8⟩
theorem ct_get3_1 (l : Launch) (Z : State) (a0 : Array Value) (hw : HW a0 Z) {cS : Int32} {g0 : Addr} {g1 : Addr} {g2 : Addr} {g3 : Addr} (am : Amb Z a0 cS g0 g1 g2 g3) {t : Addr} {kB : ClassId} {c0 : Int32} {c1 : Int32} {c2 : Int32} {h0 : Heap} (p0 : Arv Z h0 t kB .byte (6 : Int32) [(.int (lo8 c0)), (.int (hi8 c0)), (.int (lo8 c1)), (.int (hi8 c1)), (.int (lo8 c2)), (.int (hi8 c2))] (.int 0)) (r1 : Chr c1) :
    Py l Z (⟨"java/lang/StringUTF16", "getChar", "([BI)C"⟩ : MethodName) 1 13 0 0 #[(.ref t), (.int 1)] h0 [] (fun rv h' => rv = some (.int c1) ∧ h' = h0) := by
  refine Ct.py (by0 := jdk_52_method_5_code) (ml := 2) (rt := (some .char)) (rm := ({ frames := 0, cells := 0, slots := 0, locals := 0 } : Room)) ?_ (hq hw 127 rfl) (hq hw 101 rfl)
  refine Ct.mk (a0 := a0) (Ls := #[.val (.ref t), .val (.int 1)]) (plainFor_of_name pn_java_lang_StringUTF16) (fun m => by first | (simp [entryFrame, mkF, argsToLocals, Value.category]; done) | rfl) ?_
  intro κ C
  show Go l _ Z _ _ _ κ [] h0 0 #[.val (.ref t), .val (.int 1)] [] 0 0
  refine go_getS C 3 d22_0 rfl (hq hw 122 rfl) am.2.2.2.1 ?_
  refine go_ifY C (pc' := 28) d22_3 (feq ((by decide) : ¬ ((1 : Int32) = (0 : Int32)))).2 (by decide) (by decide) ?_
  refine go_iloadN C 29 d22_28 rfl rfl ?_
  refine go_iconst C 30 (1 : Int32) d22_29 rfl (by decide) ?_
  refine go_ishl C 31 (2 : Int32) d22_30 rfl (by decide) ?_
  refine go_istoreN C 32 (Ls' := #[.val (.ref t), .val (.int 2)]) d22_31 rfl rfl ?_
  refine go_aloadN C 33 d22_32 rfl rfl rfl ?_
  refine go_iloadN C 34 d22_33 rfl rfl ?_
  refine go_iinc C 37 (Ls' := #[.val (.ref t), .val (.int 3)]) (1 : Int32) d22_34 rfl (by decide) rfl rfl ?_
  refine go_baload C 38 (v := (.int (lo8 c1))) d22_37 rfl p0 (by decide) rfl ?_
  refine go_sipush C 41 (255 : Int32) d22_38 rfl (by decide) ?_
  refine go_iand C 42 ((lo8 c1) &&& (255 : Int32)) d22_41 rfl rfl ?_
  refine go_getS C 45 d22_42 rfl (hq hw 123 rfl) am.2.2.2.2.1 ?_
  refine go_ishl C 46 (((lo8 c1) &&& (255 : Int32)) <<< ((0 : Int32) &&& 31)) d22_45 rfl rfl ?_
  refine go_aloadN C 47 d22_46 rfl rfl rfl ?_
  refine go_iloadN C 48 d22_47 rfl rfl ?_
  refine go_baload C 49 (v := (.int (hi8 c1))) d22_48 rfl p0 (by decide) rfl ?_
  refine go_sipush C 52 (255 : Int32) d22_49 rfl (by decide) ?_
  refine go_iand C 53 ((hi8 c1) &&& (255 : Int32)) d22_52 rfl rfl ?_
  refine go_getS C 56 d22_53 rfl (hq hw 124 rfl) am.2.2.2.2.2.1 ?_
  refine go_ishl C 57 (((hi8 c1) &&& (255 : Int32)) <<< ((8 : Int32) &&& 31)) d22_56 rfl rfl ?_
  refine go_ior C 58 ((((lo8 c1) &&& (255 : Int32)) <<< ((0 : Int32) &&& 31)) ||| (((hi8 c1) &&& (255 : Int32)) <<< ((8 : Int32) &&& 31))) d22_57 rfl rfl ?_
  refine go_i2c C 59 c1 d22_58 rfl (get16 r1) ?_
  refine go_retN C (t := .char) (z := c1) d22_59 rfl (by decide) r1.nar (by decide) (by decide) ?_
  exact ⟨rfl, rfl⟩
theorem ct_put3_2 (l : Launch) (Z : State) (a0 : Array Value) (hw : HW a0 Z) {cS : Int32} {g0 : Addr} {g1 : Addr} {g2 : Addr} {g3 : Addr} (am : Amb Z a0 cS g0 g1 g2 g3) {t : Addr} {kB : ClassId} {c0 : Int32} {c1 : Int32} {c2 : Int32} {h0 : Heap} (p0 : Arv Z h0 t kB .byte (6 : Int32) [(.int (lo8 c0)), (.int (hi8 c0)), (.int (lo8 c1)), (.int (hi8 c1)), (.int 0), (.int 0)] (.int 0)) :
    Py l Z (⟨"java/lang/StringUTF16", "putChar", "([BII)V"⟩ : MethodName) 1 14 0 0 #[(.ref t), (.int 2), (.int c2)] h0 [t] (fun rv h' => rv = none ∧ Arv Z h' t kB .byte (6 : Int32) [(.int (lo8 c0)), (.int (hi8 c0)), (.int (lo8 c1)), (.int (hi8 c1)), (.int (lo8 c2)), (.int (hi8 c2))] (.int 0)) := by
  refine Ct.py (by0 := jdk_52_method_4_code) (ml := 3) (rt := none) (rm := ({ frames := 0, cells := 0, slots := 0, locals := 0 } : Room)) ?_ (hq hw 121 rfl) (hq hw 101 rfl)
  refine Ct.mk (a0 := a0) (Ls := #[.val (.ref t), .val (.int 2), .val (.int c2)]) (plainFor_of_name pn_java_lang_StringUTF16) (fun m => by first | (simp [entryFrame, mkF, argsToLocals, Value.category]; done) | rfl) ?_
  intro κ C
  show Go l _ Z _ _ _ κ [t] h0 0 #[.val (.ref t), .val (.int 2), .val (.int c2)] [] 0 0
  refine go_getS C 3 d21_0 rfl (hq hw 122 rfl) am.2.2.2.1 ?_
  refine go_ifY C (pc' := 28) d21_3 (feq ((by decide) : ¬ ((1 : Int32) = (0 : Int32)))).2 (by decide) (by decide) ?_
  refine go_iloadN C 29 d21_28 rfl rfl ?_
  refine go_iconst C 30 (1 : Int32) d21_29 rfl (by decide) ?_
  refine go_ishl C 31 (4 : Int32) d21_30 rfl (by decide) ?_
  refine go_istoreN C 32 (Ls' := #[.val (.ref t), .val (.int 4), .val (.int c2)]) d21_31 rfl rfl ?_
  refine go_aloadN C 33 d21_32 rfl rfl rfl ?_
  refine go_iloadN C 34 d21_33 rfl rfl ?_
  refine go_iinc C 37 (Ls' := #[.val (.ref t), .val (.int 5), .val (.int c2)]) (1 : Int32) d21_34 rfl (by decide) rfl rfl ?_
  refine go_iloadN C 38 d21_37 rfl rfl ?_
  refine go_getS C 41 d21_38 rfl (hq hw 123 rfl) am.2.2.2.2.1 ?_
  refine go_ishr C 42 c2 d21_41 rfl (shr_0 _) ?_
  refine go_i2b C 43 (lo8 c2) d21_42 rfl rfl ?_
  refine go_bastore C 44 4 (v := (lo8 c2)) (nar_lo8 _) d21_43 rfl p0 (by decide) rfl (nble rfl) (mi 0 rfl) ?_
  intro h1 W2 x3
  have x4 : Arv Z h1 t kB .byte (6 : Int32) [(.int (lo8 c0)), (.int (hi8 c0)), (.int (lo8 c1)), (.int (hi8 c1)), (.int (lo8 c2)), (.int 0)] (.int 0) := x3
  refine go_aloadN C 45 d21_44 rfl rfl rfl ?_
  refine go_iloadN C 46 d21_45 rfl rfl ?_
  refine go_iloadN C 47 d21_46 rfl rfl ?_
  refine go_getS C 50 d21_47 rfl (hq hw 124 rfl) am.2.2.2.2.2.1 ?_
  refine go_ishr C 51 (c2 >>> ((8 : Int32) &&& 31)) d21_50 rfl rfl ?_
  refine go_i2b C 52 (hi8 c2) d21_51 rfl rfl ?_
  refine go_bastore C 53 5 (v := (hi8 c2)) (nar_hi8 _) d21_52 rfl x4 (by decide) rfl (nble rfl) (mi 0 rfl) ?_
  intro h5 W6 x7
  have x8 : Arv Z h5 t kB .byte (6 : Int32) [(.int (lo8 c0)), (.int (hi8 c0)), (.int (lo8 c1)), (.int (hi8 c1)), (.int (lo8 c2)), (.int (hi8 c2))] (.int 0) := x7
  refine go_ret C d21_53 rfl (by decide) (by decide) ?_
  exact ⟨rfl, x8⟩
theorem ct_get3_2 (l : Launch) (Z : State) (a0 : Array Value) (hw : HW a0 Z) {cS : Int32} {g0 : Addr} {g1 : Addr} {g2 : Addr} {g3 : Addr} (am : Amb Z a0 cS g0 g1 g2 g3) {t : Addr} {kB : ClassId} {c0 : Int32} {c1 : Int32} {c2 : Int32} {h0 : Heap} (p0 : Arv Z h0 t kB .byte (6 : Int32) [(.int (lo8 c0)), (.int (hi8 c0)), (.int (lo8 c1)), (.int (hi8 c1)), (.int (lo8 c2)), (.int (hi8 c2))] (.int 0)) (r2 : Chr c2) :
    Py l Z (⟨"java/lang/StringUTF16", "getChar", "([BI)C"⟩ : MethodName) 1 13 0 0 #[(.ref t), (.int 2)] h0 [] (fun rv h' => rv = some (.int c2) ∧ h' = h0) := by
  refine Ct.py (by0 := jdk_52_method_5_code) (ml := 2) (rt := (some .char)) (rm := ({ frames := 0, cells := 0, slots := 0, locals := 0 } : Room)) ?_ (hq hw 127 rfl) (hq hw 101 rfl)
  refine Ct.mk (a0 := a0) (Ls := #[.val (.ref t), .val (.int 2)]) (plainFor_of_name pn_java_lang_StringUTF16) (fun m => by first | (simp [entryFrame, mkF, argsToLocals, Value.category]; done) | rfl) ?_
  intro κ C
  show Go l _ Z _ _ _ κ [] h0 0 #[.val (.ref t), .val (.int 2)] [] 0 0
  refine go_getS C 3 d22_0 rfl (hq hw 122 rfl) am.2.2.2.1 ?_
  refine go_ifY C (pc' := 28) d22_3 (feq ((by decide) : ¬ ((1 : Int32) = (0 : Int32)))).2 (by decide) (by decide) ?_
  refine go_iloadN C 29 d22_28 rfl rfl ?_
  refine go_iconst C 30 (1 : Int32) d22_29 rfl (by decide) ?_
  refine go_ishl C 31 (4 : Int32) d22_30 rfl (by decide) ?_
  refine go_istoreN C 32 (Ls' := #[.val (.ref t), .val (.int 4)]) d22_31 rfl rfl ?_
  refine go_aloadN C 33 d22_32 rfl rfl rfl ?_
  refine go_iloadN C 34 d22_33 rfl rfl ?_
  refine go_iinc C 37 (Ls' := #[.val (.ref t), .val (.int 5)]) (1 : Int32) d22_34 rfl (by decide) rfl rfl ?_
  refine go_baload C 38 (v := (.int (lo8 c2))) d22_37 rfl p0 (by decide) rfl ?_
  refine go_sipush C 41 (255 : Int32) d22_38 rfl (by decide) ?_
  refine go_iand C 42 ((lo8 c2) &&& (255 : Int32)) d22_41 rfl rfl ?_
  refine go_getS C 45 d22_42 rfl (hq hw 123 rfl) am.2.2.2.2.1 ?_
  refine go_ishl C 46 (((lo8 c2) &&& (255 : Int32)) <<< ((0 : Int32) &&& 31)) d22_45 rfl rfl ?_
  refine go_aloadN C 47 d22_46 rfl rfl rfl ?_
  refine go_iloadN C 48 d22_47 rfl rfl ?_
  refine go_baload C 49 (v := (.int (hi8 c2))) d22_48 rfl p0 (by decide) rfl ?_
  refine go_sipush C 52 (255 : Int32) d22_49 rfl (by decide) ?_
  refine go_iand C 53 ((hi8 c2) &&& (255 : Int32)) d22_52 rfl rfl ?_
  refine go_getS C 56 d22_53 rfl (hq hw 124 rfl) am.2.2.2.2.2.1 ?_
  refine go_ishl C 57 (((hi8 c2) &&& (255 : Int32)) <<< ((8 : Int32) &&& 31)) d22_56 rfl rfl ?_
  refine go_ior C 58 ((((lo8 c2) &&& (255 : Int32)) <<< ((0 : Int32) &&& 31)) ||| (((hi8 c2) &&& (255 : Int32)) <<< ((8 : Int32) &&& 31))) d22_57 rfl rfl ?_
  refine go_i2c C 59 c2 d22_58 rfl (get16 r2) ?_
  refine go_retN C (t := .char) (z := c2) d22_59 rfl (by decide) r2.nar (by decide) (by decide) ?_
  exact ⟨rfl, rfl⟩
theorem ct_nbl3 (l : Launch) (Z : State) (a0 : Array Value) (hw : HW a0 Z) {cS : Int32} {g0 : Addr} {g1 : Addr} {g2 : Addr} {g3 : Addr} (am : Amb Z a0 cS g0 g1 g2 g3) {h0 : Heap} :
    Py l Z (⟨"java/lang/StringUTF16", "newBytesLength", "(I)I"⟩ : MethodName) 1 12 0 0 #[(.int 3)] h0 [] (fun rv h' => rv = some (.int 6) ∧ h' = h0) := by
  refine Ct.py (by0 := jdk_52_method_3_code) (ml := 1) (rt := (some .int)) (rm := ({ frames := 0, cells := 0, slots := 0, locals := 0 } : Room)) ?_ (hq hw 117 rfl) (hq hw 101 rfl)
  refine Ct.mk (a0 := a0) (Ls := #[.val (.int 3)]) (plainFor_of_name pn_java_lang_StringUTF16) (fun m => by first | (simp [entryFrame, mkF, argsToLocals, Value.category]; done) | rfl) ?_
  intro κ C
  show Go l _ Z _ _ _ κ [] h0 0 #[.val (.int 3)] [] 0 0
  refine go_iloadN C 1 d20_0 rfl rfl ?_
  refine go_ifY C (pc' := 12) d20_1 (flt ((by decide) : ¬ ((3 : Int32) < (0 : Int32)))).2.1 (by decide) (by decide) ?_
  refine go_iloadN C 13 d20_12 rfl rfl ?_
  refine go_ldcInt C 15 (v := (1073741823 : Int32)) d20_13 rfl (hq hw 118 rfl) ?_
  refine go_icmpY C (pc' := 55) d20_15 (tlt ((by decide) : (3 : Int32) < (1073741823 : Int32))).1 (by decide) (by decide) ?_
  refine go_iloadN C 56 d20_55 rfl rfl ?_
  refine go_iconst C 57 (1 : Int32) d20_56 rfl (by decide) ?_
  refine go_ishl C 58 (6 : Int32) d20_57 rfl (by decide) ?_
  refine go_retI C d20_58 rfl (by decide) (by decide) ?_
  exact ⟨rfl, rfl⟩
theorem ct_nbf3 (l : Launch) (Z : State) (a0 : Array Value) (hw : HW a0 Z) {cS : Int32} {g0 : Addr} {g1 : Addr} {g2 : Addr} {g3 : Addr} (am : Amb Z a0 cS g0 g1 g2 g3) {h0 : Heap} :
    Py l Z (⟨"java/lang/StringUTF16", "newBytesFor", "(I)[B"⟩ : MethodName) 2 24 1 6 #[(.int 3)] h0 [] (fun rv h' => ∃ (t : Addr) (kB : ClassId), rv = some (.ref t) ∧ Arv Z h' t kB .byte (6 : Int32) [(.int 0), (.int 0), (.int 0), (.int 0), (.int 0), (.int 0)] (.int 0) ∧ (h0.size ≤ t)) := by
  refine Ct.py (by0 := jdk_52_method_2_code) (ml := 1) (rt := (some (.array .byte))) (rm := ({ frames := 1, cells := 1, slots := 6, locals := 12 } : Room)) ?_ (hq hw 114 rfl) (hq hw 101 rfl)
  refine Ct.mk (a0 := a0) (Ls := #[.val (.int 3)]) (plainFor_of_name pn_java_lang_StringUTF16) (fun m => by first | (simp [entryFrame, mkF, argsToLocals, Value.category]; done) | rfl) ?_
  intro κ C
  show Go l _ Z _ _ _ κ [] h0 0 #[.val (.int 3)] [] 0 0
  refine go_iloadN C 1 d19_0 rfl rfl ?_
  refine go_callS C (argsL := [(.int 3)]) (W := 0) d19_1 (hq hw 115 rfl) (hq hw 116 rfl) (hq hw 101 rfl) (hq hw 117 rfl) (by decide) pd__I_I (ct_nbl3 l Z a0 hw am) rfl (by decide) (Nat.le_of_eq rfl) (by decide) rfl (by decide) (by decide) mems0 ?_
  intro v1 h2 K3 q4
  obtain ⟨rfl, rfl⟩ := q4
  refine ⟨[], fresh0, ?_⟩
  show Go l _ Z _ _ _ κ _ _ 4 _ [(.int 6)] 0 0
  refine go_newP C 6 1 6 (ty := .byte) (cap := 6) d19_4 rfl rfl rfl rfl (hq hw 20 rfl) (by decide) (by decide) (by decide) (by decide) (by decide) ?_
  intro b5 h6 k7 g8 E9 V10
  have x11 : Arv Z h6 b5 k7 .byte (6 : Int32) [(.int 0), (.int 0), (.int 0), (.int 0), (.int 0), (.int 0)] (.int 0) := V10
  refine go_retA C (v := (.ref b5)) d19_6 rfl rfl rfl (by decide) (by decide) ?_
  exact ⟨b5, k7, rfl, x11, (Nat.le_of_eq g8.symm)⟩
theorem ct_tob3 (l : Launch) (Z : State) (a0 : Array Value) (hw : HW a0 Z) {cS : Int32} {g0 : Addr} {g1 : Addr} {g2 : Addr} {g3 : Addr} (am : Amb Z a0 cS g0 g1 g2 g3) {b : Addr} {kC : ClassId} {c0 : Int32} {c1 : Int32} {c2 : Int32} {h0 : Heap} (p0 : Arv Z h0 b kC .char (3 : Int32) [(.int c0), (.int c1), (.int c2)] (.int 0)) :
    Py l Z (⟨"java/lang/StringUTF16", "toBytes", "([CII)[B"⟩ : MethodName) 3 40 1 6 #[(.ref b), (.int 0), (.int 3)] h0 [] (fun rv h' => ∃ (t : Addr) (kB : ClassId), rv = some (.ref t) ∧ Arv Z h' t kB .byte (6 : Int32) [(.int (lo8 c0)), (.int (hi8 c0)), (.int (lo8 c1)), (.int (hi8 c1)), (.int (lo8 c2)), (.int (hi8 c2))] (.int 0) ∧ (h0.size ≤ t)) := by
  refine Ct.py (by0 := jdk_52_method_14_code) (ml := 5) (rt := (some (.array .byte))) (rm := ({ frames := 2, cells := 1, slots := 6, locals := 24 } : Room)) ?_ (hq hw 111 rfl) (hq hw 101 rfl)
  refine Ct.mk (a0 := a0) (Ls := #[.val (.ref b), .val (.int 0), .val (.int 3), .unset, .unset]) (plainFor_of_name pn_java_lang_StringUTF16) (fun m => by first | (simp [entryFrame, mkF, argsToLocals, Value.category]; done) | rfl) ?_
  intro κ C
  show Go l _ Z _ _ _ κ [] h0 0 #[.val (.ref b), .val (.int 0), .val (.int 3), .unset, .unset] [] 0 0
  refine go_iloadN C 1 d18_0 rfl rfl ?_
  refine go_callS C (argsL := [(.int 3)]) (W := 0) d18_1 (hq hw 112 rfl) (hq hw 113 rfl) (hq hw 101 rfl) (hq hw 114 rfl) (by decide) pd__I__B (ct_nbf3 l Z a0 hw am) rfl (by decide) (Nat.le_of_eq rfl) (by decide) rfl (by decide) (by decide) mems0 ?_
  intro v1 h2 K3 q4
  obtain ⟨t5, kB6, rfl, x7, x8⟩ := q4
  refine ⟨[t5], (freshS ⟨x8, (x7).lt⟩ fresh0), ?_⟩
  show Go l _ Z _ _ _ κ [t5] _ 4 _ [(.ref t5)] 1 6
  refine go_astoreN C 5 (Ls' := #[.val (.ref b), .val (.int 0), .val (.int 3), .val (.ref t5), .unset]) d18_4 rfl rfl rfl ?_
  refine go_iconst C 6 (0 : Int32) d18_5 rfl (by decide) ?_
  refine go_istore C 8 (Ls' := #[.val (.ref b), .val (.int 0), .val (.int 3), .val (.ref t5), .val (.int 0)]) d18_6 rfl rfl ?_
  refine go_iload C 10 d18_8 rfl rfl ?_
  refine go_iloadN C 11 d18_10 rfl rfl ?_
  refine go_icmpN C 14 d18_11 rfl (tlt ((by decide) : (0 : Int32) < (3 : Int32))).2.1 ?_
  refine go_aloadN C 15 d18_14 rfl rfl rfl ?_
  refine go_iload C 17 d18_15 rfl rfl ?_
  refine go_aloadN C 18 d18_17 rfl rfl rfl ?_
  refine go_iloadN C 19 d18_18 rfl rfl ?_
  have x9 := (p0.keep K3 nin0)
  refine go_caload C 20 (v := (.int c0)) d18_19 rfl x9 (by decide) rfl ?_
  refine go_callS C (argsL := [(.ref t5), (.int 0), (.int c0)]) (W := 0) d18_20 (hq hw 119 rfl) (hq hw 120 rfl) (hq hw 101 rfl) (hq hw 121 rfl) (by decide) pd___BII_V (ct_put3_0 l Z a0 hw am (t := t5) (kB := kB6) (c0 := c0) x7) rfl (by decide) (Nat.le_of_eq rfl) (by decide) rfl (by decide) (by decide) (memsS (mi 0 rfl) mems0) ?_
  intro v10 h11 K12 q13
  obtain ⟨rfl, x14⟩ := q13
  refine ⟨[], fresh0, ?_⟩
  show Go l _ Z _ _ _ κ _ _ 23 _ [] 1 6
  refine go_iinc C 26 (Ls' := #[.val (.ref b), .val (.int 1), .val (.int 3), .val (.ref t5), .val (.int 0)]) (1 : Int32) d18_23 rfl (by decide) rfl rfl ?_
  refine go_iinc C 29 (Ls' := #[.val (.ref b), .val (.int 1), .val (.int 3), .val (.ref t5), .val (.int 1)]) (1 : Int32) d18_26 rfl (by decide) rfl rfl ?_
  refine go_goto C (pc' := 8) d18_29 (by decide) (by decide) ?_
  refine go_iload C 10 d18_8 rfl rfl ?_
  refine go_iloadN C 11 d18_10 rfl rfl ?_
  refine go_icmpN C 14 d18_11 rfl (tlt ((by decide) : (1 : Int32) < (3 : Int32))).2.1 ?_
  refine go_aloadN C 15 d18_14 rfl rfl rfl ?_
  refine go_iload C 17 d18_15 rfl rfl ?_
  refine go_aloadN C 18 d18_17 rfl rfl rfl ?_
  refine go_iloadN C 19 d18_18 rfl rfl ?_
  have x15 := (x9.keep K12 (ninS (Nat.ne_of_lt (Nat.lt_of_lt_of_le (p0).lt x8)) nin0))
  refine go_caload C 20 (v := (.int c1)) d18_19 rfl x15 (by decide) rfl ?_
  refine go_callS C (argsL := [(.ref t5), (.int 1), (.int c1)]) (W := 0) d18_20 (hq hw 119 rfl) (hq hw 120 rfl) (hq hw 101 rfl) (hq hw 121 rfl) (by decide) pd___BII_V (ct_put3_1 l Z a0 hw am (t := t5) (kB := kB6) (c0 := c0) (c1 := c1) x14) rfl (by decide) (Nat.le_of_eq rfl) (by decide) rfl (by decide) (by decide) (memsS (mi 0 rfl) mems0) ?_
  intro v16 h17 K18 q19
  obtain ⟨rfl, x20⟩ := q19
  refine ⟨[], fresh0, ?_⟩
  show Go l _ Z _ _ _ κ _ _ 23 _ [] 1 6
  refine go_iinc C 26 (Ls' := #[.val (.ref b), .val (.int 2), .val (.int 3), .val (.ref t5), .val (.int 1)]) (1 : Int32) d18_23 rfl (by decide) rfl rfl ?_
  refine go_iinc C 29 (Ls' := #[.val (.ref b), .val (.int 2), .val (.int 3), .val (.ref t5), .val (.int 2)]) (1 : Int32) d18_26 rfl (by decide) rfl rfl ?_
  refine go_goto C (pc' := 8) d18_29 (by decide) (by decide) ?_
  refine go_iload C 10 d18_8 rfl rfl ?_
  refine go_iloadN C 11 d18_10 rfl rfl ?_
  refine go_icmpN C 14 d18_11 rfl (tlt ((by decide) : (2 : Int32) < (3 : Int32))).2.1 ?_
  refine go_aloadN C 15 d18_14 rfl rfl rfl ?_
  refine go_iload C 17 d18_15 rfl rfl ?_
  refine go_aloadN C 18 d18_17 rfl rfl rfl ?_
  refine go_iloadN C 19 d18_18 rfl rfl ?_
  have x21 := (x15.keep K18 (ninS (Nat.ne_of_lt (Nat.lt_of_lt_of_le (p0).lt x8)) nin0))
  refine go_caload C 20 (v := (.int c2)) d18_19 rfl x21 (by decide) rfl ?_
  refine go_callS C (argsL := [(.ref t5), (.int 2), (.int c2)]) (W := 0) d18_20 (hq hw 119 rfl) (hq hw 120 rfl) (hq hw 101 rfl) (hq hw 121 rfl) (by decide) pd___BII_V (ct_put3_2 l Z a0 hw am (t := t5) (kB := kB6) (c0 := c0) (c1 := c1) (c2 := c2) x20) rfl (by decide) (Nat.le_of_eq rfl) (by decide) rfl (by decide) (by decide) (memsS (mi 0 rfl) mems0) ?_
  intro v22 h23 K24 q25
  obtain ⟨rfl, x26⟩ := q25
  refine ⟨[], fresh0, ?_⟩
  show Go l _ Z _ _ _ κ _ _ 23 _ [] 1 6
  refine go_iinc C 26 (Ls' := #[.val (.ref b), .val (.int 3), .val (.int 3), .val (.ref t5), .val (.int 2)]) (1 : Int32) d18_23 rfl (by decide) rfl rfl ?_
  refine go_iinc C 29 (Ls' := #[.val (.ref b), .val (.int 3), .val (.int 3), .val (.ref t5), .val (.int 3)]) (1 : Int32) d18_26 rfl (by decide) rfl rfl ?_
  refine go_goto C (pc' := 8) d18_29 (by decide) (by decide) ?_
  refine go_iload C 10 d18_8 rfl rfl ?_
  refine go_iloadN C 11 d18_10 rfl rfl ?_
  refine go_icmpY C (pc' := 32) d18_11 (flt ((by decide) : ¬ ((3 : Int32) < (3 : Int32)))).2.1 (by decide) (by decide) ?_
  refine go_aloadN C 33 d18_32 rfl rfl rfl ?_
  refine go_retA C (v := (.ref t5)) d18_33 rfl rfl rfl (by decide) (by decide) ?_
  exact ⟨t5, kB6, rfl, x26, x8⟩
theorem ct_cmp3 (l : Launch) (Z : State) (a0 : Array Value) (hw : HW a0 Z) {cS : Int32} {g0 : Addr} {g1 : Addr} {g2 : Addr} {g3 : Addr} (am : Amb Z a0 cS g0 g1 g2 g3) {b : Addr} {t : Addr} {kC : ClassId} {kB : ClassId} {c0 : Int32} {c1 : Int32} {c2 : Int32} {h0 : Heap} (p0 : Arv Z h0 b kC .char (3 : Int32) [(.int c0), (.int c1), (.int c2)] (.int 0)) (p1 : Arv Z h0 t kB .byte (3 : Int32) [(.int 0), (.int 0), (.int 0)] (.int 0)) (hbt : b ≠ t) :
    Py l Z (⟨"java/lang/StringUTF16", "compress", "([CI[BII)I"⟩ : MethodName) 1 18 0 0 #[(.ref b), (.int 0), (.ref t), (.int 0), (.int 3)] h0 [t] (fun rv h' => (rv = some (.int 3) ∧ Arv Z h' t kB .byte (3 : Int32) [(.int (lo8 c0)), (.int (lo8 c1)), (.int (lo8 c2))] (.int 0) ∧ (¬ (255 : Int32) < c0) ∧ (¬ (255 : Int32) < c1) ∧ (¬ (255 : Int32) < c2)) ∨ (∃ (vs : List Value), rv = some (.int 0) ∧ Arv Z h' t kB .byte (3 : Int32) vs (.int 0) ∧ ((255 : Int32) < c0)) ∨ (∃ (vs : List Value), rv = some (.int 1) ∧ Arv Z h' t kB .byte (3 : Int32) vs (.int 0) ∧ ((255 : Int32) < c1)) ∨ (∃ (vs : List Value), rv = some (.int 2) ∧ Arv Z h' t kB .byte (3 : Int32) vs (.int 0) ∧ ((255 : Int32) < c2))) := by
  refine Ct.py (by0 := jdk_52_method_21_code) (ml := 7) (rt := (some .int)) (rm := ({ frames := 0, cells := 0, slots := 0, locals := 0 } : Room)) ?_ (hq hw 105 rfl) (hq hw 101 rfl)
  refine Ct.mk (a0 := a0) (Ls := #[.val (.ref b), .val (.int 0), .val (.ref t), .val (.int 0), .val (.int 3), .unset, .unset]) (plainFor_of_name pn_java_lang_StringUTF16) (fun m => by first | (simp [entryFrame, mkF, argsToLocals, Value.category]; done) | rfl) ?_
  intro κ C
  show Go l _ Z _ _ _ κ [t] h0 0 #[.val (.ref b), .val (.int 0), .val (.ref t), .val (.int 0), .val (.int 3), .unset, .unset] [] 0 0
  refine go_iconst C 1 (0 : Int32) d16_0 rfl (by decide) ?_
  refine go_istore C 3 (Ls' := #[.val (.ref b), .val (.int 0), .val (.ref t), .val (.int 0), .val (.int 3), .val (.int 0), .unset]) d16_1 rfl rfl ?_
  refine go_iload C 5 d16_3 rfl rfl ?_
  refine go_iload C 7 d16_5 rfl rfl ?_
  refine go_icmpN C 10 d16_7 rfl (tlt ((by decide) : (0 : Int32) < (3 : Int32))).2.1 ?_
  refine go_aloadN C 11 d16_10 rfl rfl rfl ?_
  refine go_iloadN C 12 d16_11 rfl rfl ?_
  refine go_caload C 13 (v := (.int c0)) d16_12 rfl p0 (by decide) rfl ?_
  refine go_istore C 15 (Ls' := #[.val (.ref b), .val (.int 0), .val (.ref t), .val (.int 0), .val (.int 3), .val (.int 0), .val (.int c0)]) d16_13 rfl rfl ?_
  refine go_iload C 17 d16_15 rfl rfl ?_
  refine go_sipush C 20 (255 : Int32) d16_17 rfl (by decide) ?_
  by_cases q0 : (255 : Int32) < c0
  · skip
    refine go_icmpN C 23 d16_20 rfl (tlt q0).2.2.2 ?_
    refine go_iload C 25 d16_23 rfl rfl ?_
    refine go_retI C d16_25 rfl (by decide) (by decide) ?_
    exact Or.inr (Or.inl ⟨[(.int 0), (.int 0), (.int 0)], rfl, p1, q0⟩)
  · skip
    refine go_icmpY C (pc' := 26) d16_20 (flt q0).2.2.2 (by decide) (by decide) ?_
    refine go_aloadN C 27 d16_26 rfl rfl rfl ?_
    refine go_iloadN C 28 d16_27 rfl rfl ?_
    refine go_iload C 30 d16_28 rfl rfl ?_
    refine go_i2b C 31 (lo8 c0) d16_30 rfl rfl ?_
    refine go_bastore C 32 0 (v := (lo8 c0)) (nar_lo8 _) d16_31 rfl p1 (by decide) rfl (nble rfl) (mi 0 rfl) ?_
    intro h1 W2 x3
    have x4 : Arv Z h1 t kB .byte (3 : Int32) [(.int (lo8 c0)), (.int 0), (.int 0)] (.int 0) := x3
    refine go_iinc C 35 (Ls' := #[.val (.ref b), .val (.int 1), .val (.ref t), .val (.int 0), .val (.int 3), .val (.int 0), .val (.int c0)]) (1 : Int32) d16_32 rfl (by decide) rfl rfl ?_
    refine go_iinc C 38 (Ls' := #[.val (.ref b), .val (.int 1), .val (.ref t), .val (.int 1), .val (.int 3), .val (.int 0), .val (.int c0)]) (1 : Int32) d16_35 rfl (by decide) rfl rfl ?_
    refine go_iinc C 41 (Ls' := #[.val (.ref b), .val (.int 1), .val (.ref t), .val (.int 1), .val (.int 3), .val (.int 1), .val (.int c0)]) (1 : Int32) d16_38 rfl (by decide) rfl rfl ?_
    refine go_goto C (pc' := 3) d16_41 (by decide) (by decide) ?_
    refine go_iload C 5 d16_3 rfl rfl ?_
    refine go_iload C 7 d16_5 rfl rfl ?_
    refine go_icmpN C 10 d16_7 rfl (tlt ((by decide) : (1 : Int32) < (3 : Int32))).2.1 ?_
    refine go_aloadN C 11 d16_10 rfl rfl rfl ?_
    refine go_iloadN C 12 d16_11 rfl rfl ?_
    have x5 := (p0.other W2 hbt)
    refine go_caload C 13 (v := (.int c1)) d16_12 rfl x5 (by decide) rfl ?_
    refine go_istore C 15 (Ls' := #[.val (.ref b), .val (.int 1), .val (.ref t), .val (.int 1), .val (.int 3), .val (.int 1), .val (.int c1)]) d16_13 rfl rfl ?_
    refine go_iload C 17 d16_15 rfl rfl ?_
    refine go_sipush C 20 (255 : Int32) d16_17 rfl (by decide) ?_
    by_cases q1 : (255 : Int32) < c1
    · skip
      refine go_icmpN C 23 d16_20 rfl (tlt q1).2.2.2 ?_
      refine go_iload C 25 d16_23 rfl rfl ?_
      refine go_retI C d16_25 rfl (by decide) (by decide) ?_
      exact Or.inr (Or.inr (Or.inl ⟨[(.int (lo8 c0)), (.int 0), (.int 0)], rfl, x4, q1⟩))
    · skip
      refine go_icmpY C (pc' := 26) d16_20 (flt q1).2.2.2 (by decide) (by decide) ?_
      refine go_aloadN C 27 d16_26 rfl rfl rfl ?_
      refine go_iloadN C 28 d16_27 rfl rfl ?_
      refine go_iload C 30 d16_28 rfl rfl ?_
      refine go_i2b C 31 (lo8 c1) d16_30 rfl rfl ?_
      refine go_bastore C 32 1 (v := (lo8 c1)) (nar_lo8 _) d16_31 rfl x4 (by decide) rfl (nble rfl) (mi 0 rfl) ?_
      intro h6 W7 x8
      have x9 : Arv Z h6 t kB .byte (3 : Int32) [(.int (lo8 c0)), (.int (lo8 c1)), (.int 0)] (.int 0) := x8
      refine go_iinc C 35 (Ls' := #[.val (.ref b), .val (.int 2), .val (.ref t), .val (.int 1), .val (.int 3), .val (.int 1), .val (.int c1)]) (1 : Int32) d16_32 rfl (by decide) rfl rfl ?_
      refine go_iinc C 38 (Ls' := #[.val (.ref b), .val (.int 2), .val (.ref t), .val (.int 2), .val (.int 3), .val (.int 1), .val (.int c1)]) (1 : Int32) d16_35 rfl (by decide) rfl rfl ?_
      refine go_iinc C 41 (Ls' := #[.val (.ref b), .val (.int 2), .val (.ref t), .val (.int 2), .val (.int 3), .val (.int 2), .val (.int c1)]) (1 : Int32) d16_38 rfl (by decide) rfl rfl ?_
      refine go_goto C (pc' := 3) d16_41 (by decide) (by decide) ?_
      refine go_iload C 5 d16_3 rfl rfl ?_
      refine go_iload C 7 d16_5 rfl rfl ?_
      refine go_icmpN C 10 d16_7 rfl (tlt ((by decide) : (2 : Int32) < (3 : Int32))).2.1 ?_
      refine go_aloadN C 11 d16_10 rfl rfl rfl ?_
      refine go_iloadN C 12 d16_11 rfl rfl ?_
      have x10 := (x5.other W7 hbt)
      refine go_caload C 13 (v := (.int c2)) d16_12 rfl x10 (by decide) rfl ?_
      refine go_istore C 15 (Ls' := #[.val (.ref b), .val (.int 2), .val (.ref t), .val (.int 2), .val (.int 3), .val (.int 2), .val (.int c2)]) d16_13 rfl rfl ?_
      refine go_iload C 17 d16_15 rfl rfl ?_
      refine go_sipush C 20 (255 : Int32) d16_17 rfl (by decide) ?_
      by_cases q2 : (255 : Int32) < c2
      · skip
        refine go_icmpN C 23 d16_20 rfl (tlt q2).2.2.2 ?_
        refine go_iload C 25 d16_23 rfl rfl ?_
        refine go_retI C d16_25 rfl (by decide) (by decide) ?_
        exact Or.inr (Or.inr (Or.inr (⟨[(.int (lo8 c0)), (.int (lo8 c1)), (.int 0)], rfl, x9, q2⟩)))
      · skip
        refine go_icmpY C (pc' := 26) d16_20 (flt q2).2.2.2 (by decide) (by decide) ?_
        refine go_aloadN C 27 d16_26 rfl rfl rfl ?_
        refine go_iloadN C 28 d16_27 rfl rfl ?_
        refine go_iload C 30 d16_28 rfl rfl ?_
        refine go_i2b C 31 (lo8 c2) d16_30 rfl rfl ?_
        refine go_bastore C 32 2 (v := (lo8 c2)) (nar_lo8 _) d16_31 rfl x9 (by decide) rfl (nble rfl) (mi 0 rfl) ?_
        intro h11 W12 x13
        have x14 : Arv Z h11 t kB .byte (3 : Int32) [(.int (lo8 c0)), (.int (lo8 c1)), (.int (lo8 c2))] (.int 0) := x13
        refine go_iinc C 35 (Ls' := #[.val (.ref b), .val (.int 3), .val (.ref t), .val (.int 2), .val (.int 3), .val (.int 2), .val (.int c2)]) (1 : Int32) d16_32 rfl (by decide) rfl rfl ?_
        refine go_iinc C 38 (Ls' := #[.val (.ref b), .val (.int 3), .val (.ref t), .val (.int 3), .val (.int 3), .val (.int 2), .val (.int c2)]) (1 : Int32) d16_35 rfl (by decide) rfl rfl ?_
        refine go_iinc C 41 (Ls' := #[.val (.ref b), .val (.int 3), .val (.ref t), .val (.int 3), .val (.int 3), .val (.int 3), .val (.int c2)]) (1 : Int32) d16_38 rfl (by decide) rfl rfl ?_
        refine go_goto C (pc' := 3) d16_41 (by decide) (by decide) ?_
        refine go_iload C 5 d16_3 rfl rfl ?_
        refine go_iload C 7 d16_5 rfl rfl ?_
        refine go_icmpY C (pc' := 44) d16_7 (flt ((by decide) : ¬ ((3 : Int32) < (3 : Int32)))).2.1 (by decide) (by decide) ?_
        refine go_iload C 46 d16_44 rfl rfl ?_
        refine go_retI C d16_46 rfl (by decide) (by decide) ?_
        exact Or.inl ⟨rfl, x14, q0, q1, q2⟩
theorem ct_cmpA3 (l : Launch) (Z : State) (a0 : Array Value) (hw : HW a0 Z) {cS : Int32} {g0 : Addr} {g1 : Addr} {g2 : Addr} {g3 : Addr} (am : Amb Z a0 cS g0 g1 g2 g3) {b : Addr} {kC : ClassId} {c0 : Int32} {c1 : Int32} {c2 : Int32} {h0 : Heap} (p0 : Arv Z h0 b kC .char (3 : Int32) [(.int c0), (.int c1), (.int c2)] (.int 0)) (r0 : Chr c0) (r1 : Chr c1) (r2 : Chr c2) :
    Py l Z (⟨"java/lang/StringUTF16", "compress", "([CII)[B"⟩ : MethodName) 4 57 2 9 #[(.ref b), (.int 0), (.int 3)] h0 [] (fun rv h' => (∃ (t : Addr) (kB : ClassId), rv = some (.ref t) ∧ Arv Z h' t kB .byte (3 : Int32) [(.int (lo8 c0)), (.int (lo8 c1)), (.int (lo8 c2))] (.int 0) ∧ (h0.size ≤ t) ∧ (¬ (255 : Int32) < c0) ∧ (¬ (255 : Int32) < c1) ∧ (¬ (255 : Int32) < c2)) ∨ (∃ (t : Addr) (kB : ClassId), rv = some (.ref t) ∧ Arv Z h' t kB .byte (6 : Int32) [(.int (lo8 c0)), (.int (hi8 c0)), (.int (lo8 c1)), (.int (hi8 c1)), (.int (lo8 c2)), (.int (hi8 c2))] (.int 0) ∧ (h0.size ≤ t) ∧ ((255 : Int32) < c0 ∨ (255 : Int32) < c1 ∨ (255 : Int32) < c2))) := by
  refine Ct.py (by0 := jdk_52_method_16_code) (ml := 6) (rt := (some (.array .byte))) (rm := ({ frames := 3, cells := 2, slots := 9, locals := 40 } : Room)) ?_ (hq hw 102 rfl) (hq hw 101 rfl)
  refine Ct.mk (a0 := a0) (Ls := #[.val (.ref b), .val (.int 0), .val (.int 3), .unset, .unset, .unset]) (plainFor_of_name pn_java_lang_StringUTF16) (fun m => by first | (simp [entryFrame, mkF, argsToLocals, Value.category]; done) | rfl) ?_
  intro κ C
  show Go l _ Z _ _ _ κ [] h0 0 #[.val (.ref b), .val (.int 0), .val (.int 3), .unset, .unset, .unset] [] 0 0
  refine go_iloadN C 1 d15_0 rfl rfl ?_
  refine go_newP C 3 1 3 (ty := .byte) (cap := 3) d15_1 rfl rfl rfl rfl (hq hw 20 rfl) (by decide) (by decide) (by decide) (by decide) (by decide) ?_
  intro b1 h2 k3 g4 E5 V6
  have x7 : Arv Z h2 b1 k3 .byte (3 : Int32) [(.int 0), (.int 0), (.int 0)] (.int 0) := V6
  refine go_astoreN C 4 (Ls' := #[.val (.ref b), .val (.int 0), .val (.int 3), .val (.ref b1), .unset, .unset]) d15_3 rfl rfl rfl ?_
  refine go_aloadN C 5 d15_4 rfl rfl rfl ?_
  refine go_iloadN C 6 d15_5 rfl rfl ?_
  refine go_aloadN C 7 d15_6 rfl rfl rfl ?_
  refine go_iconst C 8 (0 : Int32) d15_7 rfl (by decide) ?_
  refine go_iloadN C 9 d15_8 rfl rfl ?_
  have x8 := (p0.ext E5)
  refine go_callS C (argsL := [(.ref b), (.int 0), (.ref b1), (.int 0), (.int 3)]) (W := 0) d15_9 (hq hw 103 rfl) (hq hw 104 rfl) (hq hw 101 rfl) (hq hw 105 rfl) (by decide) pd___CI_BII_I (ct_cmp3 l Z a0 hw am (b := b) (t := b1) (kC := kC) (kB := k3) (c0 := c0) (c1 := c1) (c2 := c2) x8 x7 (Nat.ne_of_lt (Nat.lt_of_lt_of_le (p0).lt (Nat.le_of_eq g4.symm)))) rfl (by decide) (Nat.le_of_eq rfl) (by decide) rfl (by decide) (by decide) (memsS (mi 0 rfl) mems0) ?_
  intro v9 h10 K11 q12
  rcases q12 with ⟨rfl, x13, x14, x15, x16⟩ | ⟨vs17, rfl, x18, x19⟩ | ⟨vs20, rfl, x21, x22⟩ | ⟨vs23, rfl, x24, x25⟩
  · skip
    refine ⟨[], fresh0, ?_⟩
    show Go l _ Z _ _ _ κ _ _ 12 _ [(.int 3)] 1 3
    refine go_istore C 14 (Ls' := #[.val (.ref b), .val (.int 0), .val (.int 3), .val (.ref b1), .val (.int 3), .unset]) d15_12 rfl rfl ?_
    refine go_iload C 16 d15_14 rfl rfl ?_
    refine go_iloadN C 17 d15_16 rfl rfl ?_
    refine go_icmpY C (pc' := 57) d15_17 (teq ((by decide) : (3 : Int32) = (3 : Int32))).1 (by decide) (by decide) ?_
    refine go_aloadN C 58 d15_57 rfl rfl rfl ?_
    refine go_retA C (v := (.ref b1)) d15_58 rfl rfl rfl (by decide) (by decide) ?_
    exact Or.inl ⟨b1, k3, rfl, x13, (Nat.le_of_eq g4.symm), x14, x15, x16⟩
  · skip
    refine ⟨[], fresh0, ?_⟩
    show Go l _ Z _ _ _ κ _ _ 12 _ [(.int 0)] 1 3
    refine go_istore C 14 (Ls' := #[.val (.ref b), .val (.int 0), .val (.int 3), .val (.ref b1), .val (.int 0), .unset]) d15_12 rfl rfl ?_
    refine go_iload C 16 d15_14 rfl rfl ?_
    refine go_iloadN C 17 d15_16 rfl rfl ?_
    refine go_icmpN C 20 d15_17 rfl (feq ((by decide) : ¬ ((0 : Int32) = (3 : Int32)))).1 ?_
    refine go_aloadN C 21 d15_20 rfl rfl rfl ?_
    refine go_iloadN C 22 d15_21 rfl rfl ?_
    refine go_iloadN C 23 d15_22 rfl rfl ?_
    have x26 := (x8.keep K11 (ninS (Nat.ne_of_lt (Nat.lt_of_lt_of_le (p0).lt (Nat.le_of_eq g4.symm))) nin0))
    refine go_callS C (argsL := [(.ref b), (.int 0), (.int 3)]) (W := 0) d15_23 (hq hw 109 rfl) (hq hw 110 rfl) (hq hw 101 rfl) (hq hw 111 rfl) (by decide) pd___CII__B (ct_tob3 l Z a0 hw am (b := b) (kC := kC) (c0 := c0) (c1 := c1) (c2 := c2) x26) rfl (by decide) (Nat.le_of_eq rfl) (by decide) rfl (by decide) (by decide) mems0 ?_
    intro v27 h28 K29 q30
    obtain ⟨t31, kB32, rfl, x33, x34⟩ := q30
    refine ⟨[t31], (freshS ⟨x34, (x33).lt⟩ fresh0), ?_⟩
    show Go l _ Z _ _ _ κ [t31, b1] _ 26 _ [(.ref t31)] 2 9
    refine go_astore C 28 (Ls' := #[.val (.ref b), .val (.int 0), .val (.int 3), .val (.ref b1), .val (.int 0), .val (.ref t31)]) d15_26 rfl rfl rfl ?_
    refine go_aload C 30 d15_28 rfl rfl rfl ?_
    refine go_iload C 32 d15_30 rfl rfl ?_
    refine go_callS C (argsL := [(.ref t31), (.int 0)]) (W := 0) d15_32 (hq hw 125 rfl) (hq hw 126 rfl) (hq hw 101 rfl) (hq hw 127 rfl) (by decide) pd___BI_C (ct_get3_0 l Z a0 hw am (t := t31) (kB := kB32) (c0 := c0) (c1 := c1) (c2 := c2) x33 r0) rfl (by decide) (Nat.le_of_eq rfl) (by decide) rfl (by decide) (by decide) mems0 ?_
    intro v35 h36 K37 q38
    obtain ⟨rfl, rfl⟩ := q38
    refine ⟨[], fresh0, ?_⟩
    show Go l _ Z _ _ _ κ _ _ 35 _ [(.int c0)] 2 9
    refine go_sipush C 38 (255 : Int32) d15_35 rfl (by decide) ?_
    refine go_icmpY C (pc' := 54) d15_38 (tlt (x19 : (255 : Int32) < c0)).2.2.1 (by decide) (by decide) ?_
    refine go_aload C 56 d15_54 rfl rfl rfl ?_
    refine go_retA C (v := (.ref t31)) d15_56 rfl rfl rfl (by decide) (by decide) ?_
    exact Or.inr (⟨t31, kB32, rfl, x33, (Nat.le_trans E5.1 (Nat.le_trans K11.1 x34)), (Or.inl x19)⟩)
  · skip
    refine ⟨[], fresh0, ?_⟩
    show Go l _ Z _ _ _ κ _ _ 12 _ [(.int 1)] 1 3
    refine go_istore C 14 (Ls' := #[.val (.ref b), .val (.int 0), .val (.int 3), .val (.ref b1), .val (.int 1), .unset]) d15_12 rfl rfl ?_
    refine go_iload C 16 d15_14 rfl rfl ?_
    refine go_iloadN C 17 d15_16 rfl rfl ?_
    refine go_icmpN C 20 d15_17 rfl (feq ((by decide) : ¬ ((1 : Int32) = (3 : Int32)))).1 ?_
    refine go_aloadN C 21 d15_20 rfl rfl rfl ?_
    refine go_iloadN C 22 d15_21 rfl rfl ?_
    refine go_iloadN C 23 d15_22 rfl rfl ?_
    have x39 := (x8.keep K11 (ninS (Nat.ne_of_lt (Nat.lt_of_lt_of_le (p0).lt (Nat.le_of_eq g4.symm))) nin0))
    refine go_callS C (argsL := [(.ref b), (.int 0), (.int 3)]) (W := 0) d15_23 (hq hw 109 rfl) (hq hw 110 rfl) (hq hw 101 rfl) (hq hw 111 rfl) (by decide) pd___CII__B (ct_tob3 l Z a0 hw am (b := b) (kC := kC) (c0 := c0) (c1 := c1) (c2 := c2) x39) rfl (by decide) (Nat.le_of_eq rfl) (by decide) rfl (by decide) (by decide) mems0 ?_
    intro v40 h41 K42 q43
    obtain ⟨t44, kB45, rfl, x46, x47⟩ := q43
    refine ⟨[t44], (freshS ⟨x47, (x46).lt⟩ fresh0), ?_⟩
    show Go l _ Z _ _ _ κ [t44, b1] _ 26 _ [(.ref t44)] 2 9
    refine go_astore C 28 (Ls' := #[.val (.ref b), .val (.int 0), .val (.int 3), .val (.ref b1), .val (.int 1), .val (.ref t44)]) d15_26 rfl rfl rfl ?_
    refine go_aload C 30 d15_28 rfl rfl rfl ?_
    refine go_iload C 32 d15_30 rfl rfl ?_
    refine go_callS C (argsL := [(.ref t44), (.int 1)]) (W := 0) d15_32 (hq hw 125 rfl) (hq hw 126 rfl) (hq hw 101 rfl) (hq hw 127 rfl) (by decide) pd___BI_C (ct_get3_1 l Z a0 hw am (t := t44) (kB := kB45) (c0 := c0) (c1 := c1) (c2 := c2) x46 r1) rfl (by decide) (Nat.le_of_eq rfl) (by decide) rfl (by decide) (by decide) mems0 ?_
    intro v48 h49 K50 q51
    obtain ⟨rfl, rfl⟩ := q51
    refine ⟨[], fresh0, ?_⟩
    show Go l _ Z _ _ _ κ _ _ 35 _ [(.int c1)] 2 9
    refine go_sipush C 38 (255 : Int32) d15_35 rfl (by decide) ?_
    refine go_icmpY C (pc' := 54) d15_38 (tlt (x22 : (255 : Int32) < c1)).2.2.1 (by decide) (by decide) ?_
    refine go_aload C 56 d15_54 rfl rfl rfl ?_
    refine go_retA C (v := (.ref t44)) d15_56 rfl rfl rfl (by decide) (by decide) ?_
    exact Or.inr (⟨t44, kB45, rfl, x46, (Nat.le_trans E5.1 (Nat.le_trans K11.1 x47)), (Or.inr (Or.inl x22))⟩)
  · skip
    refine ⟨[], fresh0, ?_⟩
    show Go l _ Z _ _ _ κ _ _ 12 _ [(.int 2)] 1 3
    refine go_istore C 14 (Ls' := #[.val (.ref b), .val (.int 0), .val (.int 3), .val (.ref b1), .val (.int 2), .unset]) d15_12 rfl rfl ?_
    refine go_iload C 16 d15_14 rfl rfl ?_
    refine go_iloadN C 17 d15_16 rfl rfl ?_
    refine go_icmpN C 20 d15_17 rfl (feq ((by decide) : ¬ ((2 : Int32) = (3 : Int32)))).1 ?_
    refine go_aloadN C 21 d15_20 rfl rfl rfl ?_
    refine go_iloadN C 22 d15_21 rfl rfl ?_
    refine go_iloadN C 23 d15_22 rfl rfl ?_
    have x52 := (x8.keep K11 (ninS (Nat.ne_of_lt (Nat.lt_of_lt_of_le (p0).lt (Nat.le_of_eq g4.symm))) nin0))
    refine go_callS C (argsL := [(.ref b), (.int 0), (.int 3)]) (W := 0) d15_23 (hq hw 109 rfl) (hq hw 110 rfl) (hq hw 101 rfl) (hq hw 111 rfl) (by decide) pd___CII__B (ct_tob3 l Z a0 hw am (b := b) (kC := kC) (c0 := c0) (c1 := c1) (c2 := c2) x52) rfl (by decide) (Nat.le_of_eq rfl) (by decide) rfl (by decide) (by decide) mems0 ?_
    intro v53 h54 K55 q56
    obtain ⟨t57, kB58, rfl, x59, x60⟩ := q56
    refine ⟨[t57], (freshS ⟨x60, (x59).lt⟩ fresh0), ?_⟩
    show Go l _ Z _ _ _ κ [t57, b1] _ 26 _ [(.ref t57)] 2 9
    refine go_astore C 28 (Ls' := #[.val (.ref b), .val (.int 0), .val (.int 3), .val (.ref b1), .val (.int 2), .val (.ref t57)]) d15_26 rfl rfl rfl ?_
    refine go_aload C 30 d15_28 rfl rfl rfl ?_
    refine go_iload C 32 d15_30 rfl rfl ?_
    refine go_callS C (argsL := [(.ref t57), (.int 2)]) (W := 0) d15_32 (hq hw 125 rfl) (hq hw 126 rfl) (hq hw 101 rfl) (hq hw 127 rfl) (by decide) pd___BI_C (ct_get3_2 l Z a0 hw am (t := t57) (kB := kB58) (c0 := c0) (c1 := c1) (c2 := c2) x59 r2) rfl (by decide) (Nat.le_of_eq rfl) (by decide) rfl (by decide) (by decide) mems0 ?_
    intro v61 h62 K63 q64
    obtain ⟨rfl, rfl⟩ := q64
    refine ⟨[], fresh0, ?_⟩
    show Go l _ Z _ _ _ κ _ _ 35 _ [(.int c2)] 2 9
    refine go_sipush C 38 (255 : Int32) d15_35 rfl (by decide) ?_
    refine go_icmpY C (pc' := 54) d15_38 (tlt (x25 : (255 : Int32) < c2)).2.2.1 (by decide) (by decide) ?_
    refine go_aload C 56 d15_54 rfl rfl rfl ?_
    refine go_retA C (v := (.ref t57)) d15_56 rfl rfl rfl (by decide) (by decide) ?_
    exact Or.inr (⟨t57, kB58, rfl, x59, (Nat.le_trans E5.1 (Nat.le_trans K11.1 x60)), (Or.inr (Or.inr x25))⟩)
theorem ct_coder3_3 (l : Launch) (Z : State) (a0 : Array Value) (hw : HW a0 Z) {cS : Int32} {g0 : Addr} {g1 : Addr} {g2 : Addr} {g3 : Addr} (am : Amb Z a0 cS g0 g1 g2 g3) {t : Addr} {kB : ClassId} {vs : List Value} {h0 : Heap} (p0 : Arv Z h0 t kB .byte (3 : Int32) vs (.int 0)) :
    Py l Z (⟨"java/lang/StringUTF16", "coderFromArrayLen", "([BI)B"⟩ : MethodName) 1 13 0 0 #[(.ref t), (.int 3)] h0 [] (fun rv h' => rv = some (.int 0) ∧ h' = h0) := by
  refine Ct.py (by0 := jdk_52_method_15_code) (ml := 2) (rt := (some .byte)) (rm := ({ frames := 0, cells := 0, slots := 0, locals := 0 } : Room)) ?_ (hq hw 108 rfl) (hq hw 101 rfl)
  refine Ct.mk (a0 := a0) (Ls := #[.val (.ref t), .val (.int 3)]) (plainFor_of_name pn_java_lang_StringUTF16) (fun m => by first | (simp [entryFrame, mkF, argsToLocals, Value.category]; done) | rfl) ?_
  intro κ C
  show Go l _ Z _ _ _ κ [] h0 0 #[.val (.ref t), .val (.int 3)] [] 0 0
  refine go_iloadN C 1 d17_0 rfl rfl ?_
  refine go_aloadN C 2 d17_1 rfl rfl rfl ?_
  refine go_arraylength C 3 d17_2 rfl p0 ?_
  refine go_isub C 4 (0 : Int32) d17_3 rfl (by decide) ?_
  refine go_bipush C 6 (31 : Int32) d17_4 rfl (by decide) ?_
  refine go_iushr C 7 (0 : Int32) d17_6 rfl (by decide) ?_
  refine go_i2b C 8 (0 : Int32) d17_7 rfl (by decide) ?_
  refine go_retN C (t := .byte) (z := (0 : Int32)) d17_8 rfl (by decide) (by decide) (by decide) (by decide) ?_
  exact ⟨rfl, rfl⟩
theorem ct_coder6_3 (l : Launch) (Z : State) (a0 : Array Value) (hw : HW a0 Z) {cS : Int32} {g0 : Addr} {g1 : Addr} {g2 : Addr} {g3 : Addr} (am : Amb Z a0 cS g0 g1 g2 g3) {t : Addr} {kB : ClassId} {vs : List Value} {h0 : Heap} (p0 : Arv Z h0 t kB .byte (6 : Int32) vs (.int 0)) :
    Py l Z (⟨"java/lang/StringUTF16", "coderFromArrayLen", "([BI)B"⟩ : MethodName) 1 13 0 0 #[(.ref t), (.int 3)] h0 [] (fun rv h' => rv = some (.int 1) ∧ h' = h0) := by
  refine Ct.py (by0 := jdk_52_method_15_code) (ml := 2) (rt := (some .byte)) (rm := ({ frames := 0, cells := 0, slots := 0, locals := 0 } : Room)) ?_ (hq hw 108 rfl) (hq hw 101 rfl)
  refine Ct.mk (a0 := a0) (Ls := #[.val (.ref t), .val (.int 3)]) (plainFor_of_name pn_java_lang_StringUTF16) (fun m => by first | (simp [entryFrame, mkF, argsToLocals, Value.category]; done) | rfl) ?_
  intro κ C
  show Go l _ Z _ _ _ κ [] h0 0 #[.val (.ref t), .val (.int 3)] [] 0 0
  refine go_iloadN C 1 d17_0 rfl rfl ?_
  refine go_aloadN C 2 d17_1 rfl rfl rfl ?_
  refine go_arraylength C 3 d17_2 rfl p0 ?_
  refine go_isub C 4 (-3 : Int32) d17_3 rfl (by decide) ?_
  refine go_bipush C 6 (31 : Int32) d17_4 rfl (by decide) ?_
  refine go_iushr C 7 (1 : Int32) d17_6 rfl (by decide) ?_
  refine go_i2b C 8 (1 : Int32) d17_7 rfl (by decide) ?_
  refine go_retN C (t := .byte) (z := (1 : Int32)) d17_8 rfl (by decide) (by decide) (by decide) (by decide) ?_
  exact ⟨rfl, rfl⟩
theorem ct_strV3 (l : Launch) (Z : State) (a0 : Array Value) (hw : HW a0 Z) {cS : Int32} {g0 : Addr} {g1 : Addr} {g2 : Addr} {g3 : Addr} (am : Amb Z a0 cS g0 g1 g2 g3) {a : Addr} {b : Addr} {kC : ClassId} {c0 : Int32} {c1 : Int32} {c2 : Int32} {h0 : Heap} (p0 : Exa Z h0 a "java/lang/String") (p1 : Fld Z h0 a "java/lang/String" "value" "[B" .null) (p2 : Fld Z h0 a "java/lang/String" "coder" "B" (.int 0)) (p3 : Arv Z h0 b kC .char (3 : Int32) [(.int c0), (.int c1), (.int c2)] (.int 0)) (r0 : Chr c0) (r1 : Chr c1) (r2 : Chr c2) :
    Py l Z (⟨"java/lang/String", "<init>", "([CIILjava/lang/Void;)V"⟩ : MethodName) 5 74 2 9 #[(.ref a), (.ref b), (.int 0), (.int 3), .null] h0 [a] (fun rv h' => (∃ (t : Addr) (kB : ClassId), rv = none ∧ Exa Z h' a "java/lang/String" ∧ Fld Z h' a "java/lang/String" "coder" "B" (.int 0) ∧ Fld Z h' a "java/lang/String" "value" "[B" (.ref t) ∧ Arv Z h' t kB .byte (3 : Int32) [(.int (lo8 c0)), (.int (lo8 c1)), (.int (lo8 c2))] (.int 0) ∧ (h0.size ≤ t) ∧ (¬ (255 : Int32) < c0) ∧ (¬ (255 : Int32) < c1) ∧ (¬ (255 : Int32) < c2)) ∨ (∃ (t : Addr) (kB : ClassId), rv = none ∧ Exa Z h' a "java/lang/String" ∧ Fld Z h' a "java/lang/String" "coder" "B" (.int 1) ∧ Fld Z h' a "java/lang/String" "value" "[B" (.ref t) ∧ Arv Z h' t kB .byte (6 : Int32) [(.int (lo8 c0)), (.int (hi8 c0)), (.int (lo8 c1)), (.int (hi8 c1)), (.int (lo8 c2)), (.int (hi8 c2))] (.int 0) ∧ (h0.size ≤ t) ∧ ((255 : Int32) < c0 ∨ (255 : Int32) < c1 ∨ (255 : Int32) < c2))) := by
  refine Ct.py (by0 := jdk_42_method_149_code) (ml := 6) (rt := none) (rm := ({ frames := 4, cells := 2, slots := 9, locals := 57 } : Room)) ?_ (hq hw 15 rfl) (hq hw 3 rfl)
  refine Ct.mk (a0 := a0) (Ls := #[.val (.ref a), .val (.ref b), .val (.int 0), .val (.int 3), .val .null, .unset]) (plainFor_of_name pn_java_lang_String) (fun m => by first | (simp [entryFrame, mkF, argsToLocals, Value.category]; done) | rfl) ?_
  intro κ C
  show Go l _ Z _ _ _ κ [a] h0 0 #[.val (.ref a), .val (.ref b), .val (.int 0), .val (.int 3), .val .null, .unset] [] 0 0
  refine go_aloadN C 1 d3_0 rfl rfl rfl ?_
  refine go_initO C 4 (W := 0) d3_1 rfl (hq hw 16 rfl) (hq hw 17 rfl) (hq hw 18 rfl) rfl (by decide) (Nat.le_of_eq rfl) (by decide) ?_
  refine go_iloadN C 5 d3_4 rfl rfl ?_
  refine go_ifY C (pc' := 27) d3_5 (feq ((by decide) : ¬ ((3 : Int32) = (0 : Int32)))).2 (by decide) (by decide) ?_
  refine go_getS C 30 d3_27 rfl (hq hw 70 rfl) am.2.1 ?_
  refine go_ifN C 33 d3_30 rfl (feq (am.2.2.1 : ¬ (cS = (0 : Int32)))).1 ?_
  refine go_aloadN C 34 d3_33 rfl rfl rfl ?_
  refine go_iloadN C 35 d3_34 rfl rfl ?_
  refine go_iloadN C 36 d3_35 rfl rfl ?_
  refine go_callS C (argsL := [(.ref b), (.int 0), (.int 3)]) (W := 0) d3_36 (hq hw 99 rfl) (hq hw 100 rfl) (hq hw 101 rfl) (hq hw 102 rfl) (by decide) pd___CII__B (ct_cmpA3 l Z a0 hw am (b := b) (kC := kC) (c0 := c0) (c1 := c1) (c2 := c2) p3 r0 r1 r2) rfl (by decide) (Nat.le_of_eq rfl) (by decide) rfl (by decide) (by decide) mems0 ?_
  intro v1 h2 K3 q4
  rcases q4 with ⟨t5, kB6, rfl, x7, x8, x9, x10, x11⟩ | ⟨t12, kB13, rfl, x14, x15, x16⟩
  · skip
    refine ⟨[t5], (freshS ⟨x8, (x7).lt⟩ fresh0), ?_⟩
    show Go l _ Z _ _ _ κ [t5, a] _ 39 _ [(.ref t5)] 2 9
    refine go_astore C 41 (Ls' := #[.val (.ref a), .val (.ref b), .val (.int 0), .val (.int 3), .val .null, .val (.ref t5)]) d3_39 rfl rfl rfl ?_
    refine go_aloadN C 42 d3_41 rfl rfl rfl ?_
    refine go_aload C 44 d3_42 rfl rfl rfl ?_
    refine go_iloadN C 45 d3_44 rfl rfl ?_
    refine go_callS C (argsL := [(.ref t5), (.int 3)]) (W := 1) d3_45 (hq hw 106 rfl) (hq hw 107 rfl) (hq hw 101 rfl) (hq hw 108 rfl) (by decide) pd___BI_B (ct_coder3_3 l Z a0 hw am (t := t5) (kB := kB6) (vs := [(.int (lo8 c0)), (.int (lo8 c1)), (.int (lo8 c2))]) x7) rfl (by decide) (Nat.le_of_eq rfl) (by decide) rfl (by decide) (by decide) mems0 ?_
    intro v17 h18 K19 q20
    obtain ⟨rfl, rfl⟩ := q20
    refine ⟨[], fresh0, ?_⟩
    show Go l _ Z _ _ _ κ _ _ 48 _ [(.int 0), (.ref a)] 2 9
    have x21 := (p2.keep K3 nin0)
    have x22 := (p0.keep K3)
    refine go_putFN C 51 (ty := .byte) (v' := .int 0) d3_48 rfl (hq hw 26 rfl) Via.refl x21 x22 (Or.inr ⟨(hq hw 22 rfl), rfl, rfl⟩) (hq hw 2 rfl) (by decide) rfl (by decide) (mi 1 rfl) ?_
    intro h23 W24
    have x25 : Fld Z h23 a "java/lang/String" "coder" "B" (.int 0) := Fld.same W24 x21
    refine go_aloadN C 52 d3_51 rfl rfl rfl ?_
    refine go_aload C 54 d3_52 rfl rfl rfl ?_
    have x26 := (Fld.other W24 (p1.keep K3 nin0) (Or.inr (slot_ne (Or.inr (hq hw 21 rfl)) (Or.inr (hq hw 22 rfl)) (by decide) (t := (.array .byte)) (t' := .byte) (by decide) (by decide))))
    have x27 := (Exa.wr W24 x22)
    refine go_putF C 57 (ty := (.array .byte)) d3_54 rfl (hq hw 25 rfl) Via.refl x26 x27 (Or.inr ⟨(hq hw 21 rfl), rfl, rfl⟩) (hq hw 2 rfl) (by decide) rfl rfl (mi 1 rfl) ?_
    intro h28 W29
    have x30 : Fld Z h28 a "java/lang/String" "value" "[B" (.ref t5) := Fld.same W29 x26
    refine go_ret C d3_57 rfl (by decide) (by decide) ?_
    have x31 := (Exa.wr W29 x27)
    have x32 := (Fld.other W29 x25 (Or.inr (slot_ne (Or.inr (hq hw 22 rfl)) (Or.inr (hq hw 21 rfl)) (by decide) (t := .byte) (t' := (.array .byte)) (by decide) (by decide))))
    have x33 := ((x7.other W24 (Ne.symm (Nat.ne_of_lt (Nat.lt_of_lt_of_le (p0).lt x8)))).other W29 (Ne.symm (Nat.ne_of_lt (Nat.lt_of_lt_of_le (p0).lt x8))))
    exact Or.inl ⟨t5, kB6, rfl, x31, x32, x30, x33, x8, x9, x10, x11⟩
  · skip
    refine ⟨[t12], (freshS ⟨x15, (x14).lt⟩ fresh0), ?_⟩
    show Go l _ Z _ _ _ κ [t12, a] _ 39 _ [(.ref t12)] 2 9
    refine go_astore C 41 (Ls' := #[.val (.ref a), .val (.ref b), .val (.int 0), .val (.int 3), .val .null, .val (.ref t12)]) d3_39 rfl rfl rfl ?_
    refine go_aloadN C 42 d3_41 rfl rfl rfl ?_
    refine go_aload C 44 d3_42 rfl rfl rfl ?_
    refine go_iloadN C 45 d3_44 rfl rfl ?_
    refine go_callS C (argsL := [(.ref t12), (.int 3)]) (W := 1) d3_45 (hq hw 106 rfl) (hq hw 107 rfl) (hq hw 101 rfl) (hq hw 108 rfl) (by decide) pd___BI_B (ct_coder6_3 l Z a0 hw am (t := t12) (kB := kB13) (vs := [(.int (lo8 c0)), (.int (hi8 c0)), (.int (lo8 c1)), (.int (hi8 c1)), (.int (lo8 c2)), (.int (hi8 c2))]) x14) rfl (by decide) (Nat.le_of_eq rfl) (by decide) rfl (by decide) (by decide) mems0 ?_
    intro v34 h35 K36 q37
    obtain ⟨rfl, rfl⟩ := q37
    refine ⟨[], fresh0, ?_⟩
    show Go l _ Z _ _ _ κ _ _ 48 _ [(.int 1), (.ref a)] 2 9
    have x38 := (p2.keep K3 nin0)
    have x39 := (p0.keep K3)
    refine go_putFN C 51 (ty := .byte) (v' := .int 1) d3_48 rfl (hq hw 26 rfl) Via.refl x38 x39 (Or.inr ⟨(hq hw 22 rfl), rfl, rfl⟩) (hq hw 2 rfl) (by decide) rfl (by decide) (mi 1 rfl) ?_
    intro h40 W41
    have x42 : Fld Z h40 a "java/lang/String" "coder" "B" (.int 1) := Fld.same W41 x38
    refine go_aloadN C 52 d3_51 rfl rfl rfl ?_
    refine go_aload C 54 d3_52 rfl rfl rfl ?_
    have x43 := (Fld.other W41 (p1.keep K3 nin0) (Or.inr (slot_ne (Or.inr (hq hw 21 rfl)) (Or.inr (hq hw 22 rfl)) (by decide) (t := (.array .byte)) (t' := .byte) (by decide) (by decide))))
    have x44 := (Exa.wr W41 x39)
    refine go_putF C 57 (ty := (.array .byte)) d3_54 rfl (hq hw 25 rfl) Via.refl x43 x44 (Or.inr ⟨(hq hw 21 rfl), rfl, rfl⟩) (hq hw 2 rfl) (by decide) rfl rfl (mi 1 rfl) ?_
    intro h45 W46
    have x47 : Fld Z h45 a "java/lang/String" "value" "[B" (.ref t12) := Fld.same W46 x43
    refine go_ret C d3_57 rfl (by decide) (by decide) ?_
    have x48 := (Exa.wr W46 x44)
    have x49 := (Fld.other W46 x42 (Or.inr (slot_ne (Or.inr (hq hw 22 rfl)) (Or.inr (hq hw 21 rfl)) (by decide) (t := .byte) (t' := (.array .byte)) (by decide) (by decide))))
    have x50 := ((x14.other W41 (Ne.symm (Nat.ne_of_lt (Nat.lt_of_lt_of_le (p0).lt x15)))).other W46 (Ne.symm (Nat.ne_of_lt (Nat.lt_of_lt_of_le (p0).lt x15))))
    exact Or.inr (⟨t12, kB13, rfl, x48, x49, x47, x50, x15, x16⟩)
theorem ct_str3 (l : Launch) (Z : State) (a0 : Array Value) (hw : HW a0 Z) {cS : Int32} {g0 : Addr} {g1 : Addr} {g2 : Addr} {g3 : Addr} (am : Amb Z a0 cS g0 g1 g2 g3) {a : Addr} {b : Addr} {kC : ClassId} {c0 : Int32} {c1 : Int32} {c2 : Int32} {h0 : Heap} (p0 : Exa Z h0 a "java/lang/String") (p1 : Fld Z h0 a "java/lang/String" "value" "[B" .null) (p2 : Fld Z h0 a "java/lang/String" "coder" "B" (.int 0)) (p3 : Arv Z h0 b kC .char (3 : Int32) [(.int c0), (.int c1), (.int c2)] (.int 0)) (r0 : Chr c0) (r1 : Chr c1) (r2 : Chr c2) :
    Py l Z (⟨"java/lang/String", "<init>", "([C)V"⟩ : MethodName) 6 87 2 9 #[(.ref a), (.ref b)] h0 [a] (fun rv h' => (∃ (t : Addr) (kB : ClassId), rv = none ∧ Exa Z h' a "java/lang/String" ∧ Fld Z h' a "java/lang/String" "coder" "B" (.int 0) ∧ Fld Z h' a "java/lang/String" "value" "[B" (.ref t) ∧ Arv Z h' t kB .byte (3 : Int32) [(.int (lo8 c0)), (.int (lo8 c1)), (.int (lo8 c2))] (.int 0) ∧ (h0.size ≤ t) ∧ (¬ (255 : Int32) < c0) ∧ (¬ (255 : Int32) < c1) ∧ (¬ (255 : Int32) < c2)) ∨ (∃ (t : Addr) (kB : ClassId), rv = none ∧ Exa Z h' a "java/lang/String" ∧ Fld Z h' a "java/lang/String" "coder" "B" (.int 1) ∧ Fld Z h' a "java/lang/String" "value" "[B" (.ref t) ∧ Arv Z h' t kB .byte (6 : Int32) [(.int (lo8 c0)), (.int (hi8 c0)), (.int (lo8 c1)), (.int (hi8 c1)), (.int (lo8 c2)), (.int (hi8 c2))] (.int 0) ∧ (h0.size ≤ t) ∧ ((255 : Int32) < c0 ∨ (255 : Int32) < c1 ∨ (255 : Int32) < c2))) := by
  refine Ct.py (by0 := jdk_42_method_3_code) (ml := 2) (rt := none) (rm := ({ frames := 5, cells := 2, slots := 9, locals := 74 } : Room)) ?_ (hq hw 11 rfl) (hq hw 3 rfl)
  refine Ct.mk (a0 := a0) (Ls := #[.val (.ref a), .val (.ref b)]) (plainFor_of_name pn_java_lang_String) (fun m => by first | (simp [entryFrame, mkF, argsToLocals, Value.category]; done) | rfl) ?_
  intro κ C
  show Go l _ Z _ _ _ κ [a] h0 0 #[.val (.ref a), .val (.ref b)] [] 0 0
  refine go_aloadN C 1 d2_0 rfl rfl rfl ?_
  refine go_aloadN C 2 d2_1 rfl rfl rfl ?_
  refine go_iconst C 3 (0 : Int32) d2_2 rfl (by decide) ?_
  refine go_aloadN C 4 d2_3 rfl rfl rfl ?_
  refine go_arraylength C 5 d2_4 rfl p3 ?_
  refine go_aconstNull C 6 d2_5 rfl ?_
  refine go_callI C (a := a) (argsL := [(.ref b), (.int 0), (.int 3), .null]) (W := 0) d2_6 rfl (hq hw 12 rfl) (hq hw 13 rfl) (hq hw 15 rfl) (by decide) pd___CIILjava_lang_Void__V (ct_strV3 l Z a0 hw am (a := a) (b := b) (kC := kC) (c0 := c0) (c1 := c1) (c2 := c2) p0 p1 p2 p3 r0 r1 r2) rfl (by decide) (Nat.le_of_eq rfl) (by decide) rfl (by decide) (by decide) (memsS (mi 0 rfl) mems0) ?_
  intro v1 h2 K3 q4
  rcases q4 with ⟨t5, kB6, rfl, x7, x8, x9, x10, x11, x12, x13, x14⟩ | ⟨t15, kB16, rfl, x17, x18, x19, x20, x21, x22⟩
  · skip
    refine ⟨[t5], (freshS ⟨x11, (x10).lt⟩ fresh0), ?_⟩
    show Go l _ Z _ _ _ κ [t5, a] _ 9 _ [] 2 9
    refine go_ret C d2_9 rfl (by decide) (by decide) ?_
    exact Or.inl ⟨t5, kB6, rfl, x7, x8, x9, x10, x11, x12, x13, x14⟩
  · skip
    refine ⟨[t15], (freshS ⟨x21, (x20).lt⟩ fresh0), ?_⟩
    show Go l _ Z _ _ _ κ [t15, a] _ 9 _ [] 2 9
    refine go_ret C d2_9 rfl (by decide) (by decide) ?_
    exact Or.inr (⟨t15, kB16, rfl, x17, x18, x19, x20, x21, x22⟩)
theorem ct_strV0 (l : Launch) (Z : State) (a0 : Array Value) (hw : HW a0 Z) {cS : Int32} {g0 : Addr} {g1 : Addr} {g2 : Addr} {g3 : Addr} (am : Amb Z a0 cS g0 g1 g2 g3) {a : Addr} {b : Addr} {kC : ClassId} {h0 : Heap} (p0 : Exa Z h0 a "java/lang/String") (p1 : Fld Z h0 a "java/lang/String" "value" "[B" .null) (p2 : Fld Z h0 a "java/lang/String" "coder" "B" (.int 0)) (p3 : Arv Z h0 b kC .char (0 : Int32) [] (.int 0)) :
    PyW l Z consts_1 a0 (⟨"java/lang/String", "<init>", "([CIILjava/lang/Void;)V"⟩ : MethodName) 2 29 4 8 #[(.ref a), (.ref b), (.int 0), (.int 0), .null] h0 [a] (fun rv h' => ∃ (t : Addr) (kB : ClassId), rv = none ∧ Exa Z h' a "java/lang/String" ∧ Fld Z h' a "java/lang/String" "coder" "B" (.int 0) ∧ Fld Z h' a "java/lang/String" "value" "[B" (.ref t) ∧ Arv Z h' t kB .byte (0 : Int32) [] (.int 0)) := by
  have hEL := am.1
  refine CtW.py (by0 := jdk_42_method_149_code) (ml := 6) (rt := none) (rm := ({ frames := 1, cells := 4, slots := 8, locals := 12 } : Room)) ?_ (hq hw 15 rfl) (hq hw 3 rfl)
  refine CtW.mk (a0 := a0) (Ls := #[.val (.ref a), .val (.ref b), .val (.int 0), .val (.int 0), .val .null, .unset]) (plainFor_of_name pn_java_lang_String) (fun m => by first | (simp [entryFrame, mkF, argsToLocals, Value.category]; done) | rfl) ?_
  intro κ C
  show GoW l _ Z _ _ _ _ _ κ [a] h0 0 #[.val (.ref a), .val (.ref b), .val (.int 0), .val (.int 0), .val .null, .unset] [] 0 0
  refine gw_aloadN C 1 d3_0 rfl rfl rfl ?_
  refine gw_initO C 4 (W := 0) d3_1 rfl (hq hw 16 rfl) (hq hw 17 rfl) (hq hw 18 rfl) rfl (by decide) (Nat.le_of_eq rfl) (by decide) ?_
  refine gw_iloadN C 5 d3_4 rfl rfl ?_
  refine gw_ifN C 8 d3_5 rfl (teq ((by decide) : (0 : Int32) = (0 : Int32))).2 ?_
  refine gw_aloadN C 9 d3_8 rfl rfl rfl ?_
  refine gw_ldcS C hEL 11 2 4 (n := 0) (vs := []) (zn := (0 : Int32)) d3_9 rfl rfl rfl (hq hw 19 rfl) (wS hw) (List.mem_of_getElem? (i := 1) rfl) (by decide) (by decide) rfl (by decide) (by decide) (by decide) (by decide) ?_
  intro sa1 sb2 k3 h4 E5 x6 x7 x8 x9 n10
  have e11 : a ≠ sa1 := (n10 _ (List.mem_of_getElem? (i := 0) rfl)).1
  have e12 : a ≠ sb2 := (n10 _ (List.mem_of_getElem? (i := 0) rfl)).2
  refine gw_getF C 14 d3_11 rfl (hq hw 25 rfl) Via.refl x8 ?_
  have x13 := (Fld.ext E5 p1)
  have x14 := (Exa.ext E5 p0)
  refine gw_putF C 17 (ty := (.array .byte)) d3_14 rfl (hq hw 25 rfl) Via.refl x13 x14 (Or.inr ⟨(hq hw 21 rfl), rfl, rfl⟩) (hq hw 2 rfl) (by decide) rfl rfl (mi 0 rfl) ?_
  intro h15 W16
  have x17 : Fld Z h15 a "java/lang/String" "value" "[B" (.ref sb2) := Fld.same W16 x13
  refine gw_aloadN C 18 d3_17 rfl rfl rfl ?_
  refine gw_ldcS C hEL 20 4 8 (n := 0) (vs := []) (zn := (0 : Int32)) d3_18 rfl rfl rfl (hq hw 19 rfl) (wS hw) (List.mem_of_getElem? (i := 1) rfl) (by decide) (by decide) rfl (by decide) (by decide) (by decide) (by decide) ?_
  intro sa18 sb19 k20 h21 E22 x23 x24 x25 x26 n27
  have e28 : a ≠ sa18 := (n27 _ (List.mem_of_getElem? (i := 0) rfl)).1
  have e29 : a ≠ sb19 := (n27 _ (List.mem_of_getElem? (i := 0) rfl)).2
  refine gw_getF C 23 d3_20 rfl (hq hw 26 rfl) Via.refl x24 ?_
  have x30 := (Fld.ext E22 (Fld.other W16 (Fld.ext E5 p2) (Or.inr (slot_ne (Or.inr (hq hw 22 rfl)) (Or.inr (hq hw 21 rfl)) (by decide) (t := .byte) (t' := (.array .byte)) (by decide) (by decide)))))
  have x31 := (Exa.ext E22 (Exa.wr W16 x14))
  refine gw_putFN C 26 (ty := .byte) (v' := .int 0) d3_23 rfl (hq hw 26 rfl) Via.refl x30 x31 (Or.inr ⟨(hq hw 22 rfl), rfl, rfl⟩) (hq hw 2 rfl) (by decide) rfl (by decide) (mi 0 rfl) ?_
  intro h32 W33
  have x34 : Fld Z h32 a "java/lang/String" "coder" "B" (.int 0) := Fld.same W33 x30
  refine gw_ret C hEL d3_26 rfl (by decide) (by decide) ?_
  have x35 := (Exa.wr W33 x31)
  have x36 := (Fld.other W33 (Fld.ext E22 x17) (Or.inr (slot_ne (Or.inr (hq hw 21 rfl)) (Or.inr (hq hw 22 rfl)) (by decide) (t := (.array .byte)) (t' := .byte) (by decide) (by decide))))
  have x37 := (((x9.other W16 (Ne.symm e12)).ext E22).other W33 (Ne.symm e12))
  exact ⟨sb2, k3, rfl, x35, x34, x36, x37⟩
theorem ct_str0 (l : Launch) (Z : State) (a0 : Array Value) (hw : HW a0 Z) {cS : Int32} {g0 : Addr} {g1 : Addr} {g2 : Addr} {g3 : Addr} (am : Amb Z a0 cS g0 g1 g2 g3) {a : Addr} {b : Addr} {kC : ClassId} {h0 : Heap} (p0 : Exa Z h0 a "java/lang/String") (p1 : Fld Z h0 a "java/lang/String" "value" "[B" .null) (p2 : Fld Z h0 a "java/lang/String" "coder" "B" (.int 0)) (p3 : Arv Z h0 b kC .char (0 : Int32) [] (.int 0)) :
    PyW l Z consts_1 a0 (⟨"java/lang/String", "<init>", "([C)V"⟩ : MethodName) 3 42 4 8 #[(.ref a), (.ref b)] h0 [a] (fun rv h' => ∃ (t : Addr) (kB : ClassId), rv = none ∧ Exa Z h' a "java/lang/String" ∧ Fld Z h' a "java/lang/String" "coder" "B" (.int 0) ∧ Fld Z h' a "java/lang/String" "value" "[B" (.ref t) ∧ Arv Z h' t kB .byte (0 : Int32) [] (.int 0)) := by
  have hEL := am.1
  refine CtW.py (by0 := jdk_42_method_3_code) (ml := 2) (rt := none) (rm := ({ frames := 2, cells := 4, slots := 8, locals := 29 } : Room)) ?_ (hq hw 11 rfl) (hq hw 3 rfl)
  refine CtW.mk (a0 := a0) (Ls := #[.val (.ref a), .val (.ref b)]) (plainFor_of_name pn_java_lang_String) (fun m => by first | (simp [entryFrame, mkF, argsToLocals, Value.category]; done) | rfl) ?_
  intro κ C
  show GoW l _ Z _ _ _ _ _ κ [a] h0 0 #[.val (.ref a), .val (.ref b)] [] 0 0
  refine gw_aloadN C 1 d2_0 rfl rfl rfl ?_
  refine gw_aloadN C 2 d2_1 rfl rfl rfl ?_
  refine gw_iconst C 3 (0 : Int32) d2_2 rfl (by decide) ?_
  refine gw_aloadN C 4 d2_3 rfl rfl rfl ?_
  refine gw_arraylength C 5 d2_4 rfl p3 ?_
  refine gw_aconstNull C 6 d2_5 rfl ?_
  refine gw_callIW C hEL (a := a) (argsL := [(.ref b), (.int 0), (.int 0), .null]) (W := 0) d2_6 rfl (hq hw 12 rfl) (hq hw 13 rfl) (hq hw 15 rfl) (by decide) pd___CIILjava_lang_Void__V (ct_strV0 l Z a0 hw am (a := a) (b := b) (kC := kC) p0 p1 p2 p3) rfl (by decide) (Nat.le_of_eq rfl) (by decide) rfl (by decide) (by decide) (memsS (mi 0 rfl) mems0) ?_
  intro v1 h2 K3 q4
  obtain ⟨t5, kB6, rfl, x7, x8, x9, x10⟩ := q4
  show GoW l _ Z _ _ _ _ _ κ _ _ 9 _ [] 4 8
  refine gw_ret C hEL d2_9 rfl (by decide) (by decide) ?_
  exact ⟨t5, kB6, rfl, x7, x8, x9, x10⟩
theorem ct_drawn0 (l : Launch) (Z : State) (a0 : Array Value) (hw : HW a0 Z) {cS : Int32} {g0 : Addr} {g1 : Addr} {g2 : Addr} {g3 : Addr} (am : Amb Z a0 cS g0 g1 g2 g3) {c0 : Int32} {c1 : Int32} {c2 : Int32} {h0 : Heap} :
    Py l Z (⟨"com/example/hook3/hook3/InterceptorNamedPinLaw", "drawn", "(ICCC)[C"⟩ : MethodName) 1 16 1 0 #[(.int 0), (.int c0), (.int c1), (.int c2)] h0 [] (fun rv h' => ∃ (t : Addr) (kC : ClassId), rv = some (.ref t) ∧ Arv Z h' t kC .char (0 : Int32) [] (.int 0) ∧ (h0.size ≤ t)) := by
  refine Ct.py (by0 := method_2_code) (ml := 5) (rt := (some (.array .char))) (rm := ({ frames := 0, cells := 1, slots := 0, locals := 0 } : Room)) ?_ (hq hw 7 rfl) (hq hw 6 rfl)
  refine Ct.mk (a0 := a0) (Ls := #[.val (.int 0), .val (.int c0), .val (.int c1), .val (.int c2), .unset]) (plainFor_of_name pn_com_example_hook3_hook3_InterceptorNamedPinLaw) (fun m => by first | (simp [entryFrame, mkF, argsToLocals, Value.category]; done) | rfl) ?_
  intro κ C
  show Go l _ Z _ _ _ κ [] h0 0 #[.val (.int 0), .val (.int c0), .val (.int c1), .val (.int c2), .unset] [] 0 0
  refine go_iloadN C 1 d1_0 rfl rfl ?_
  refine go_ifN C 4 d1_1 rfl (teq ((by decide) : (0 : Int32) = (0 : Int32))).2 ?_
  refine go_iconst C 5 (0 : Int32) d1_4 rfl (by decide) ?_
  refine go_newP C 7 1 0 (ty := .char) (cap := 0) d1_5 rfl rfl rfl rfl (hq hw 8 rfl) (by decide) (by decide) (by decide) (by decide) (by decide) ?_
  intro b1 h2 k3 g4 E5 V6
  have x7 : Arv Z h2 b1 k3 .char (0 : Int32) [] (.int 0) := V6
  refine go_astore C 9 (Ls' := #[.val (.int 0), .val (.int c0), .val (.int c1), .val (.int c2), .val (.ref b1)]) d1_7 rfl rfl rfl ?_
  refine go_goto C (pc' := 67) d1_9 (by decide) (by decide) ?_
  refine go_aload C 69 d1_67 rfl rfl rfl ?_
  refine go_retA C (v := (.ref b1)) d1_69 rfl rfl rfl (by decide) (by decide) ?_
  exact ⟨b1, k3, rfl, x7, (Nat.le_of_eq g4.symm)⟩
theorem ct_drawn1 (l : Launch) (Z : State) (a0 : Array Value) (hw : HW a0 Z) {cS : Int32} {g0 : Addr} {g1 : Addr} {g2 : Addr} {g3 : Addr} (am : Amb Z a0 cS g0 g1 g2 g3) {c0 : Int32} {c1 : Int32} {c2 : Int32} {h0 : Heap} (r0 : Chr c0) :
    Py l Z (⟨"com/example/hook3/hook3/InterceptorNamedPinLaw", "drawn", "(ICCC)[C"⟩ : MethodName) 1 16 1 1 #[(.int 1), (.int c0), (.int c1), (.int c2)] h0 [] (fun rv h' => ∃ (t : Addr) (kC : ClassId), rv = some (.ref t) ∧ Arv Z h' t kC .char (1 : Int32) [(.int c0)] (.int 0) ∧ (h0.size ≤ t)) := by
  refine Ct.py (by0 := method_2_code) (ml := 5) (rt := (some (.array .char))) (rm := ({ frames := 0, cells := 1, slots := 1, locals := 0 } : Room)) ?_ (hq hw 7 rfl) (hq hw 6 rfl)
  refine Ct.mk (a0 := a0) (Ls := #[.val (.int 1), .val (.int c0), .val (.int c1), .val (.int c2), .unset]) (plainFor_of_name pn_com_example_hook3_hook3_InterceptorNamedPinLaw) (fun m => by first | (simp [entryFrame, mkF, argsToLocals, Value.category]; done) | rfl) ?_
  intro κ C
  show Go l _ Z _ _ _ κ [] h0 0 #[.val (.int 1), .val (.int c0), .val (.int c1), .val (.int c2), .unset] [] 0 0
  refine go_iloadN C 1 d1_0 rfl rfl ?_
  refine go_ifY C (pc' := 12) d1_1 (feq ((by decide) : ¬ ((1 : Int32) = (0 : Int32)))).2 (by decide) (by decide) ?_
  refine go_iloadN C 13 d1_12 rfl rfl ?_
  refine go_iconst C 14 (1 : Int32) d1_13 rfl (by decide) ?_
  refine go_icmpN C 17 d1_14 rfl (teq ((by decide) : (1 : Int32) = (1 : Int32))).2 ?_
  refine go_iconst C 18 (1 : Int32) d1_17 rfl (by decide) ?_
  refine go_newP C 20 1 1 (ty := .char) (cap := 1) d1_18 rfl rfl rfl rfl (hq hw 8 rfl) (by decide) (by decide) (by decide) (by decide) (by decide) ?_
  intro b1 h2 k3 g4 E5 V6
  have x7 : Arv Z h2 b1 k3 .char (1 : Int32) [(.int 0)] (.int 0) := V6
  refine go_dup C 21 d1_20 rfl rfl ?_
  refine go_iconst C 22 (0 : Int32) d1_21 rfl (by decide) ?_
  refine go_iloadN C 23 d1_22 rfl rfl ?_
  refine go_castore C 24 0 (v := c0) (r0.nar) d1_23 rfl x7 (by decide) rfl (nble rfl) (mi 0 rfl) ?_
  intro h8 W9 x10
  have x11 : Arv Z h8 b1 k3 .char (1 : Int32) [(.int c0)] (.int 0) := x10
  refine go_astore C 26 (Ls' := #[.val (.int 1), .val (.int c0), .val (.int c1), .val (.int c2), .val (.ref b1)]) d1_24 rfl rfl rfl ?_
  refine go_goto C (pc' := 67) d1_26 (by decide) (by decide) ?_
  refine go_aload C 69 d1_67 rfl rfl rfl ?_
  refine go_retA C (v := (.ref b1)) d1_69 rfl rfl rfl (by decide) (by decide) ?_
  exact ⟨b1, k3, rfl, x11, (Nat.le_of_eq g4.symm)⟩
theorem ct_drawn2 (l : Launch) (Z : State) (a0 : Array Value) (hw : HW a0 Z) {cS : Int32} {g0 : Addr} {g1 : Addr} {g2 : Addr} {g3 : Addr} (am : Amb Z a0 cS g0 g1 g2 g3) {c0 : Int32} {c1 : Int32} {c2 : Int32} {h0 : Heap} (r0 : Chr c0) (r1 : Chr c1) :
    Py l Z (⟨"com/example/hook3/hook3/InterceptorNamedPinLaw", "drawn", "(ICCC)[C"⟩ : MethodName) 1 16 1 2 #[(.int 2), (.int c0), (.int c1), (.int c2)] h0 [] (fun rv h' => ∃ (t : Addr) (kC : ClassId), rv = some (.ref t) ∧ Arv Z h' t kC .char (2 : Int32) [(.int c0), (.int c1)] (.int 0) ∧ (h0.size ≤ t)) := by
  refine Ct.py (by0 := method_2_code) (ml := 5) (rt := (some (.array .char))) (rm := ({ frames := 0, cells := 1, slots := 2, locals := 0 } : Room)) ?_ (hq hw 7 rfl) (hq hw 6 rfl)
  refine Ct.mk (a0 := a0) (Ls := #[.val (.int 2), .val (.int c0), .val (.int c1), .val (.int c2), .unset]) (plainFor_of_name pn_com_example_hook3_hook3_InterceptorNamedPinLaw) (fun m => by first | (simp [entryFrame, mkF, argsToLocals, Value.category]; done) | rfl) ?_
  intro κ C
  show Go l _ Z _ _ _ κ [] h0 0 #[.val (.int 2), .val (.int c0), .val (.int c1), .val (.int c2), .unset] [] 0 0
  refine go_iloadN C 1 d1_0 rfl rfl ?_
  refine go_ifY C (pc' := 12) d1_1 (feq ((by decide) : ¬ ((2 : Int32) = (0 : Int32)))).2 (by decide) (by decide) ?_
  refine go_iloadN C 13 d1_12 rfl rfl ?_
  refine go_iconst C 14 (1 : Int32) d1_13 rfl (by decide) ?_
  refine go_icmpY C (pc' := 29) d1_14 (feq ((by decide) : ¬ ((2 : Int32) = (1 : Int32)))).2 (by decide) (by decide) ?_
  refine go_iloadN C 30 d1_29 rfl rfl ?_
  refine go_iconst C 31 (2 : Int32) d1_30 rfl (by decide) ?_
  refine go_icmpN C 34 d1_31 rfl (teq ((by decide) : (2 : Int32) = (2 : Int32))).2 ?_
  refine go_iconst C 35 (2 : Int32) d1_34 rfl (by decide) ?_
  refine go_newP C 37 1 2 (ty := .char) (cap := 2) d1_35 rfl rfl rfl rfl (hq hw 8 rfl) (by decide) (by decide) (by decide) (by decide) (by decide) ?_
  intro b1 h2 k3 g4 E5 V6
  have x7 : Arv Z h2 b1 k3 .char (2 : Int32) [(.int 0), (.int 0)] (.int 0) := V6
  refine go_dup C 38 d1_37 rfl rfl ?_
  refine go_iconst C 39 (0 : Int32) d1_38 rfl (by decide) ?_
  refine go_iloadN C 40 d1_39 rfl rfl ?_
  refine go_castore C 41 0 (v := c0) (r0.nar) d1_40 rfl x7 (by decide) rfl (nble rfl) (mi 0 rfl) ?_
  intro h8 W9 x10
  have x11 : Arv Z h8 b1 k3 .char (2 : Int32) [(.int c0), (.int 0)] (.int 0) := x10
  refine go_dup C 42 d1_41 rfl rfl ?_
  refine go_iconst C 43 (1 : Int32) d1_42 rfl (by decide) ?_
  refine go_iloadN C 44 d1_43 rfl rfl ?_
  refine go_castore C 45 1 (v := c1) (r1.nar) d1_44 rfl x11 (by decide) rfl (nble rfl) (mi 0 rfl) ?_
  intro h12 W13 x14
  have x15 : Arv Z h12 b1 k3 .char (2 : Int32) [(.int c0), (.int c1)] (.int 0) := x14
  refine go_astore C 47 (Ls' := #[.val (.int 2), .val (.int c0), .val (.int c1), .val (.int c2), .val (.ref b1)]) d1_45 rfl rfl rfl ?_
  refine go_goto C (pc' := 67) d1_47 (by decide) (by decide) ?_
  refine go_aload C 69 d1_67 rfl rfl rfl ?_
  refine go_retA C (v := (.ref b1)) d1_69 rfl rfl rfl (by decide) (by decide) ?_
  exact ⟨b1, k3, rfl, x15, (Nat.le_of_eq g4.symm)⟩
theorem ct_drawn3 (l : Launch) (Z : State) (a0 : Array Value) (hw : HW a0 Z) {cS : Int32} {g0 : Addr} {g1 : Addr} {g2 : Addr} {g3 : Addr} (am : Amb Z a0 cS g0 g1 g2 g3) {c0 : Int32} {c1 : Int32} {c2 : Int32} {h0 : Heap} (r0 : Chr c0) (r1 : Chr c1) (r2 : Chr c2) :
    Py l Z (⟨"com/example/hook3/hook3/InterceptorNamedPinLaw", "drawn", "(ICCC)[C"⟩ : MethodName) 1 16 1 3 #[(.int 3), (.int c0), (.int c1), (.int c2)] h0 [] (fun rv h' => ∃ (t : Addr) (kC : ClassId), rv = some (.ref t) ∧ Arv Z h' t kC .char (3 : Int32) [(.int c0), (.int c1), (.int c2)] (.int 0) ∧ (h0.size ≤ t)) := by
  refine Ct.py (by0 := method_2_code) (ml := 5) (rt := (some (.array .char))) (rm := ({ frames := 0, cells := 1, slots := 3, locals := 0 } : Room)) ?_ (hq hw 7 rfl) (hq hw 6 rfl)
  refine Ct.mk (a0 := a0) (Ls := #[.val (.int 3), .val (.int c0), .val (.int c1), .val (.int c2), .unset]) (plainFor_of_name pn_com_example_hook3_hook3_InterceptorNamedPinLaw) (fun m => by first | (simp [entryFrame, mkF, argsToLocals, Value.category]; done) | rfl) ?_
  intro κ C
  show Go l _ Z _ _ _ κ [] h0 0 #[.val (.int 3), .val (.int c0), .val (.int c1), .val (.int c2), .unset] [] 0 0
  refine go_iloadN C 1 d1_0 rfl rfl ?_
  refine go_ifY C (pc' := 12) d1_1 (feq ((by decide) : ¬ ((3 : Int32) = (0 : Int32)))).2 (by decide) (by decide) ?_
  refine go_iloadN C 13 d1_12 rfl rfl ?_
  refine go_iconst C 14 (1 : Int32) d1_13 rfl (by decide) ?_
  refine go_icmpY C (pc' := 29) d1_14 (feq ((by decide) : ¬ ((3 : Int32) = (1 : Int32)))).2 (by decide) (by decide) ?_
  refine go_iloadN C 30 d1_29 rfl rfl ?_
  refine go_iconst C 31 (2 : Int32) d1_30 rfl (by decide) ?_
  refine go_icmpY C (pc' := 50) d1_31 (feq ((by decide) : ¬ ((3 : Int32) = (2 : Int32)))).2 (by decide) (by decide) ?_
  refine go_iconst C 51 (3 : Int32) d1_50 rfl (by decide) ?_
  refine go_newP C 53 1 3 (ty := .char) (cap := 3) d1_51 rfl rfl rfl rfl (hq hw 8 rfl) (by decide) (by decide) (by decide) (by decide) (by decide) ?_
  intro b1 h2 k3 g4 E5 V6
  have x7 : Arv Z h2 b1 k3 .char (3 : Int32) [(.int 0), (.int 0), (.int 0)] (.int 0) := V6
  refine go_dup C 54 d1_53 rfl rfl ?_
  refine go_iconst C 55 (0 : Int32) d1_54 rfl (by decide) ?_
  refine go_iloadN C 56 d1_55 rfl rfl ?_
  refine go_castore C 57 0 (v := c0) (r0.nar) d1_56 rfl x7 (by decide) rfl (nble rfl) (mi 0 rfl) ?_
  intro h8 W9 x10
  have x11 : Arv Z h8 b1 k3 .char (3 : Int32) [(.int c0), (.int 0), (.int 0)] (.int 0) := x10
  refine go_dup C 58 d1_57 rfl rfl ?_
  refine go_iconst C 59 (1 : Int32) d1_58 rfl (by decide) ?_
  refine go_iloadN C 60 d1_59 rfl rfl ?_
  refine go_castore C 61 1 (v := c1) (r1.nar) d1_60 rfl x11 (by decide) rfl (nble rfl) (mi 0 rfl) ?_
  intro h12 W13 x14
  have x15 : Arv Z h12 b1 k3 .char (3 : Int32) [(.int c0), (.int c1), (.int 0)] (.int 0) := x14
  refine go_dup C 62 d1_61 rfl rfl ?_
  refine go_iconst C 63 (2 : Int32) d1_62 rfl (by decide) ?_
  refine go_iloadN C 64 d1_63 rfl rfl ?_
  refine go_castore C 65 2 (v := c2) (r2.nar) d1_64 rfl x15 (by decide) rfl (nble rfl) (mi 0 rfl) ?_
  intro h16 W17 x18
  have x19 : Arv Z h16 b1 k3 .char (3 : Int32) [(.int c0), (.int c1), (.int c2)] (.int 0) := x18
  refine go_astore C 67 (Ls' := #[.val (.int 3), .val (.int c0), .val (.int c1), .val (.int c2), .val (.ref b1)]) d1_65 rfl rfl rfl ?_
  refine go_aload C 69 d1_67 rfl rfl rfl ?_
  refine go_retA C (v := (.ref b1)) d1_69 rfl rfl rfl (by decide) (by decide) ?_
  exact ⟨b1, k3, rfl, x19, (Nat.le_of_eq g4.symm)⟩
theorem ct_rnn (l : Launch) (Z : State) (a0 : Array Value) (hw : HW a0 Z) {cS : Int32} {g0 : Addr} {g1 : Addr} {g2 : Addr} {g3 : Addr} (am : Amb Z a0 cS g0 g1 g2 g3) {a : Addr} {b : Addr} {h0 : Heap} :
    Py l Z (⟨"java/util/Objects", "requireNonNull", "(Ljava/lang/Object;Ljava/lang/String;)Ljava/lang/Object;"⟩ : MethodName) 1 13 0 0 #[(.ref a), (.ref b)] h0 [] (fun rv h' => rv = some (.ref a) ∧ h' = h0) := by
  refine Ct.py (by0 := jdk_31_method_11_code) (ml := 2) (rt := (some (.object "java/lang/Object"))) (rm := ({ frames := 0, cells := 0, slots := 0, locals := 0 } : Room)) ?_ (hq hw 35 rfl) (hq hw 34 rfl)
  refine Ct.mk (a0 := a0) (Ls := #[.val (.ref a), .val (.ref b)]) (plainFor_of_name pn_java_util_Objects) (fun m => by first | (simp [entryFrame, mkF, argsToLocals, Value.category]; done) | rfl) ?_
  intro κ C
  show Go l _ Z _ _ _ κ [] h0 0 #[.val (.ref a), .val (.ref b)] [] 0 0
  refine go_aloadN C 1 d6_0 rfl rfl rfl ?_
  refine go_ifnonnullY C (pc' := 13) d6_1 (by decide) (by decide) ?_
  refine go_aloadN C 14 d6_13 rfl rfl rfl ?_
  refine go_retA C (v := (.ref a)) d6_14 rfl rfl rfl (by decide) (by decide) ?_
  exact ⟨rfl, rfl⟩
theorem ct_nost (l : Launch) (Z : State) (a0 : Array Value) (hw : HW a0 Z) {cS : Int32} {g0 : Addr} {g1 : Addr} {g2 : Addr} {g3 : Addr} (am : Amb Z a0 cS g0 g1 g2 g3) {h0 : Heap} :
    Py l Z (⟨"com/example/hook3/hook3/Interceptor", "noStages", "()[Ljava/util/function/Function;"⟩ : MethodName) 1 11 1 4 #[] h0 [] (fun rv h' => ∃ (t : Addr) (kt : ClassId), rv = some (.ref t) ∧ Arv Z h' t kt (.object "java/util/function/Function") (4 : Int32) [.null, .null, .null, .null] .null ∧ (h0.size ≤ t)) := by
  refine Ct.py (by0 := prog_5_method_24_code) (ml := 0) (rt := (some (.array (.object "java/util/function/Function")))) (rm := ({ frames := 0, cells := 1, slots := 4, locals := 0 } : Room)) ?_ (hq hw 40 rfl) (hq hw 29 rfl)
  refine Ct.mk (a0 := a0) (Ls := #[]) (plainFor_of_name pn_com_example_hook3_hook3_Interceptor) (fun m => by first | (simp [entryFrame, mkF, argsToLocals, Value.category]; done) | rfl) ?_
  intro κ C
  show Go l _ Z _ _ _ κ [] h0 0 #[] [] 0 0
  refine go_getS C 3 d7_0 rfl (hq hw 41 rfl) am.2.2.2.2.2.2.1 ?_
  refine go_newR C 6 1 4 (cap := 4) d7_3 rfl rfl rfl (hq hw 43 rfl) (hq hw 44 rfl) (by decide) (by decide) (by decide) (by decide) (by decide) ?_
  intro b1 h2 k3 g4 E5 V6 O7
  have x8 : Arv Z h2 b1 k3 (.object "java/util/function/Function") (4 : Int32) [.null, .null, .null, .null] .null := V6
  refine go_retA C (v := (.ref b1)) d7_6 rfl rfl rfl (by decide) (by decide) ?_
  exact ⟨b1, k3, rfl, x8, (Nat.le_of_eq g4.symm)⟩
theorem ct_icinit (l : Launch) (Z : State) (a0 : Array Value) (hw : HW a0 Z) {cS : Int32} {g0 : Addr} {g1 : Addr} {g2 : Addr} {g3 : Addr} (am : Amb Z a0 cS g0 g1 g2 g3) {a : Addr} {s : Addr} {t : Addr} {u : Addr} {h0 : Heap} (p0 : Exa Z h0 a "com/example/hook3/hook3/Interceptor") (p1 : Fld Z h0 a "com/example/hook3/hook3/Interceptor" "name" "Ljava/lang/String;" .null) (p2 : Fld Z h0 a "com/example/hook3/hook3/Interceptor" "stages" "[Ljava/util/function/Function;" .null) (p3 : Fld Z h0 a "com/example/hook3/hook3/Interceptor" "asyncStages" "[Ljava/util/function/Function;" .null) :
    Py l Z (⟨"com/example/hook3/hook3/Interceptor", "<init>", "(Ljava/lang/String;[Ljava/util/function/Function;[Ljava/util/function/Function;)V"⟩ : MethodName) 2 27 0 0 #[(.ref a), (.ref s), (.ref t), (.ref u)] h0 [a] (fun rv h' => rv = none ∧ Exa Z h' a "com/example/hook3/hook3/Interceptor" ∧ Fld Z h' a "com/example/hook3/hook3/Interceptor" "name" "Ljava/lang/String;" (.ref s) ∧ Fld Z h' a "com/example/hook3/hook3/Interceptor" "stages" "[Ljava/util/function/Function;" (.ref t) ∧ Fld Z h' a "com/example/hook3/hook3/Interceptor" "asyncStages" "[Ljava/util/function/Function;" (.ref u)) := by
  refine Ct.py (by0 := prog_5_method_1_code) (ml := 4) (rt := none) (rm := ({ frames := 1, cells := 0, slots := 0, locals := 12 } : Room)) ?_ (hq hw 47 rfl) (hq hw 29 rfl)
  refine Ct.mk (a0 := a0) (Ls := #[.val (.ref a), .val (.ref s), .val (.ref t), .val (.ref u)]) (plainFor_of_name pn_com_example_hook3_hook3_Interceptor) (fun m => by first | (simp [entryFrame, mkF, argsToLocals, Value.category]; done) | rfl) ?_
  intro κ C
  show Go l _ Z _ _ _ κ [a] h0 0 #[.val (.ref a), .val (.ref s), .val (.ref t), .val (.ref u)] [] 0 0
  refine go_aloadN C 1 d8_0 rfl rfl rfl ?_
  refine go_initO C 4 (W := 0) d8_1 rfl (hq hw 48 rfl) (hq hw 17 rfl) (hq hw 18 rfl) rfl (by decide) (Nat.le_of_eq rfl) (by decide) ?_
  refine go_aloadN C 5 d8_4 rfl rfl rfl ?_
  refine go_aloadN C 6 d8_5 rfl rfl rfl ?_
  refine go_putF C 9 (ty := (.object "java/lang/String")) d8_6 rfl (hq hw 49 rfl) Via.refl p1 p0 (Or.inr ⟨(hq hw 50 rfl), rfl, rfl⟩) (hq hw 37 rfl) (by decide) rfl rfl (mi 0 rfl) ?_
  intro h1 W2
  have x3 : Fld Z h1 a "com/example/hook3/hook3/Interceptor" "name" "Ljava/lang/String;" (.ref s) := Fld.same W2 p1
  refine go_aloadN C 10 d8_9 rfl rfl rfl ?_
  refine go_aloadN C 11 d8_10 rfl rfl rfl ?_
  have x4 := (Fld.other W2 p2 (Or.inr (slot_ne (Or.inr (hq hw 52 rfl)) (Or.inr (hq hw 50 rfl)) (by decide) (t := (.array (.object "java/util/function/Function"))) (t' := (.object "java/lang/String")) (by decide) (by decide))))
  have x5 := (Exa.wr W2 p0)
  refine go_putF C 14 (ty := (.array (.object "java/util/function/Function"))) d8_11 rfl (hq hw 51 rfl) Via.refl x4 x5 (Or.inr ⟨(hq hw 52 rfl), rfl, rfl⟩) (hq hw 37 rfl) (by decide) rfl rfl (mi 0 rfl) ?_
  intro h6 W7
  have x8 : Fld Z h6 a "com/example/hook3/hook3/Interceptor" "stages" "[Ljava/util/function/Function;" (.ref t) := Fld.same W7 x4
  refine go_aloadN C 15 d8_14 rfl rfl rfl ?_
  refine go_aloadN C 16 d8_15 rfl rfl rfl ?_
  have x9 := (Fld.other W7 (Fld.other W2 p3 (Or.inr (slot_ne (Or.inr (hq hw 54 rfl)) (Or.inr (hq hw 50 rfl)) (by decide) (t := (.array (.object "java/util/function/Function"))) (t' := (.object "java/lang/String")) (by decide) (by decide)))) (Or.inr (slot_ne (Or.inr (hq hw 54 rfl)) (Or.inr (hq hw 52 rfl)) (by decide) (t := (.array (.object "java/util/function/Function"))) (t' := (.array (.object "java/util/function/Function"))) (by decide) (by decide))))
  have x10 := (Exa.wr W7 x5)
  refine go_putF C 19 (ty := (.array (.object "java/util/function/Function"))) d8_16 rfl (hq hw 53 rfl) Via.refl x9 x10 (Or.inr ⟨(hq hw 54 rfl), rfl, rfl⟩) (hq hw 37 rfl) (by decide) rfl rfl (mi 0 rfl) ?_
  intro h11 W12
  have x13 : Fld Z h11 a "com/example/hook3/hook3/Interceptor" "asyncStages" "[Ljava/util/function/Function;" (.ref u) := Fld.same W12 x9
  refine go_ret C d8_19 rfl (by decide) (by decide) ?_
  have x14 := (Exa.wr W12 x10)
  have x15 := (Fld.other W12 (Fld.other W7 x3 (Or.inr (slot_ne (Or.inr (hq hw 50 rfl)) (Or.inr (hq hw 52 rfl)) (by decide) (t := (.object "java/lang/String")) (t' := (.array (.object "java/util/function/Function"))) (by decide) (by decide)))) (Or.inr (slot_ne (Or.inr (hq hw 50 rfl)) (Or.inr (hq hw 54 rfl)) (by decide) (t := (.object "java/lang/String")) (t' := (.array (.object "java/util/function/Function"))) (by decide) (by decide))))
  have x16 := (Fld.other W12 x8 (Or.inr (slot_ne (Or.inr (hq hw 52 rfl)) (Or.inr (hq hw 54 rfl)) (by decide) (t := (.array (.object "java/util/function/Function"))) (t' := (.array (.object "java/util/function/Function"))) (by decide) (by decide))))
  exact ⟨rfl, x14, x15, x16, x13⟩
theorem ct_named (l : Launch) (Z : State) (a0 : Array Value) (hw : HW a0 Z) {cS : Int32} {g0 : Addr} {g1 : Addr} {g2 : Addr} {g3 : Addr} (am : Amb Z a0 cS g0 g1 g2 g3) {s : Addr} {h0 : Heap} :
    PyW l Z consts_1 a0 (⟨"com/example/hook3/hook3/Interceptor", "named", "(Ljava/lang/String;)Lcom/example/hook3/hook3/Interceptor;"⟩ : MethodName) 3 40 5 31 #[(.ref s)] h0 [] (fun rv h' => ∃ (a : Addr) (t : Addr) (u : Addr) (kt : ClassId) (ku : ClassId), rv = some (.ref a) ∧ Exa Z h' a "com/example/hook3/hook3/Interceptor" ∧ Fld Z h' a "com/example/hook3/hook3/Interceptor" "name" "Ljava/lang/String;" (.ref s) ∧ Fld Z h' a "com/example/hook3/hook3/Interceptor" "stages" "[Ljava/util/function/Function;" (.ref t) ∧ Fld Z h' a "com/example/hook3/hook3/Interceptor" "asyncStages" "[Ljava/util/function/Function;" (.ref u) ∧ Arv Z h' t kt (.object "java/util/function/Function") (4 : Int32) [.null, .null, .null, .null] .null ∧ Arv Z h' u ku (.object "java/util/function/Function") (4 : Int32) [.null, .null, .null, .null] .null) := by
  have hEL := am.1
  refine CtW.py (by0 := prog_5_method_2_code) (ml := 1) (rt := (some (.object "com/example/hook3/hook3/Interceptor"))) (rm := ({ frames := 2, cells := 5, slots := 31, locals := 28 } : Room)) ?_ (hq hw 30 rfl) (hq hw 29 rfl)
  refine CtW.mk (a0 := a0) (Ls := #[.val (.ref s)]) (plainFor_of_name pn_com_example_hook3_hook3_Interceptor) (fun m => by first | (simp [entryFrame, mkF, argsToLocals, Value.category]; done) | rfl) ?_
  intro κ C
  show GoW l _ Z _ _ _ _ _ κ [] h0 0 #[.val (.ref s)] [] 0 0
  refine gw_aloadN C 1 d5_0 rfl rfl rfl ?_
  refine gw_ldcS C hEL 3 2 20 (n := 16) (vs := [(.int 110), (.int 97), (.int 109), (.int 101)]) (zn := (4 : Int32)) d5_1 rfl rfl rfl (hq hw 31 rfl) (wS hw) (List.mem_of_getElem? (i := 0) rfl) (by decide) (by decide) rfl (by decide) (by decide) (by decide) (by decide) ?_
  intro sa1 sb2 k3 h4 E5 x6 x7 x8 x9 n10
  refine gw_callS C (argsL := [(.ref s), (.ref sa1)]) (W := 0) d5_3 (hq hw 32 rfl) (hq hw 33 rfl) (hq hw 34 rfl) (hq hw 35 rfl) (by decide) pd__Ljava_lang_Object_Ljava_lang_String__Ljava_lang_Object_ (ct_rnn l Z a0 hw am (a := s) (b := sa1)) rfl (by decide) (Nat.le_of_eq rfl) (by decide) rfl (by decide) (by decide) mems0 ?_
  intro v11 h12 K13 q14
  obtain ⟨rfl, rfl⟩ := q14
  refine ⟨[], fresh0, ?_⟩
  show GoW l _ Z _ _ _ _ _ κ _ _ 6 _ [(.ref s)] 2 20
  refine gw_pop C 7 d5_6 rfl rfl ?_
  refine gw_new C 10 3 23 d5_7 rfl rfl rfl (hq hw 36 rfl) (hq hw 37 rfl) (hq hw 29 rfl) (by decide) (by decide) ?_
  intro b15 h16 g17 E18 A19 D20
  have x21 : Fld Z h16 b15 "com/example/hook3/hook3/Interceptor" "name" "Ljava/lang/String;" .null := D20 (Or.inr (hq hw 50 rfl)) (ty := (.object "java/lang/String")) (by decide)
  have x22 : Fld Z h16 b15 "com/example/hook3/hook3/Interceptor" "stages" "[Ljava/util/function/Function;" .null := D20 (Or.inr (hq hw 52 rfl)) (ty := (.array (.object "java/util/function/Function"))) (by decide)
  have x23 : Fld Z h16 b15 "com/example/hook3/hook3/Interceptor" "asyncStages" "[Ljava/util/function/Function;" .null := D20 (Or.inr (hq hw 54 rfl)) (ty := (.array (.object "java/util/function/Function"))) (by decide)
  refine gw_dup C 11 d5_10 rfl rfl ?_
  refine gw_aloadN C 12 d5_11 rfl rfl rfl ?_
  refine gw_callS C (argsL := []) (W := 3) d5_12 (hq hw 38 rfl) (hq hw 39 rfl) (hq hw 29 rfl) (hq hw 40 rfl) (by decide) pd____Ljava_util_function_Function_ (ct_nost l Z a0 hw am) rfl (by decide) (Nat.le_of_eq rfl) (by decide) rfl (by decide) (by decide) mems0 ?_
  intro v24 h25 K26 q27
  obtain ⟨t28, kt29, rfl, x30, x31⟩ := q27
  refine ⟨[t28], (freshS ⟨x31, (x30).lt⟩ fresh0), ?_⟩
  show GoW l _ Z _ _ _ _ _ κ [t28, b15] _ 15 _ [(.ref t28), (.ref s), (.ref b15), (.ref b15)] 4 27
  refine gw_callS C (argsL := []) (W := 4) d5_15 (hq hw 38 rfl) (hq hw 39 rfl) (hq hw 29 rfl) (hq hw 40 rfl) (by decide) pd____Ljava_util_function_Function_ (ct_nost l Z a0 hw am) rfl (by decide) (Nat.le_of_eq rfl) (by decide) rfl (by decide) (by decide) mems0 ?_
  intro v32 h33 K34 q35
  obtain ⟨t36, kt37, rfl, x38, x39⟩ := q35
  refine ⟨[t36], (freshS ⟨x39, (x38).lt⟩ fresh0), ?_⟩
  show GoW l _ Z _ _ _ _ _ κ [t36, t28, b15] _ 18 _ [(.ref t36), (.ref t28), (.ref s), (.ref b15), (.ref b15)] 5 31
  have x40 := ((A19.keep K26).keep K34)
  have x41 := ((x21.keep K26 nin0).keep K34 nin0)
  have x42 := ((x22.keep K26 nin0).keep K34 nin0)
  have x43 := ((x23.keep K26 nin0).keep K34 nin0)
  refine gw_callI C (a := b15) (argsL := [(.ref s), (.ref t28), (.ref t36)]) (W := 1) d5_18 rfl (hq hw 45 rfl) (hq hw 46 rfl) (hq hw 47 rfl) (by decide) pd__Ljava_lang_String__Ljava_util_function_Function__Ljava_util_function_Function__V (ct_icinit l Z a0 hw am (a := b15) (s := s) (t := t28) (u := t36) x40 x41 x42 x43) rfl (by decide) (Nat.le_of_eq rfl) (by decide) rfl (by decide) (by decide) (memsS (mi 2 rfl) mems0) ?_
  intro v44 h45 K46 q47
  obtain ⟨rfl, x48, x49, x50, x51⟩ := q47
  refine ⟨[], fresh0, ?_⟩
  show GoW l _ Z _ _ _ _ _ κ _ _ 21 _ [(.ref b15)] 5 31
  refine gw_retA C hEL (v := (.ref b15)) d5_21 rfl rfl rfl (by decide) (by decide) ?_
  have x52 := ((x30.keep K34 nin0).keep K46 (ninS (Ne.symm (Nat.ne_of_lt (Nat.lt_of_lt_of_le (A19).lt x31))) nin0))
  have x53 := (x38.keep K46 (ninS (Ne.symm (Nat.ne_of_lt (Nat.lt_of_lt_of_le (Nat.lt_of_lt_of_le (A19).lt K26.1) x39))) nin0))
  exact ⟨b15, t28, t36, kt29, kt37, rfl, x48, x49, x50, x51, x52, x53⟩
theorem ct_name (l : Launch) (Z : State) (a0 : Array Value) (hw : HW a0 Z) {cS : Int32} {g0 : Addr} {g1 : Addr} {g2 : Addr} {g3 : Addr} (am : Amb Z a0 cS g0 g1 g2 g3) {a : Addr} {s : Addr} {h0 : Heap} (p0 : Fld Z h0 a "com/example/hook3/hook3/Interceptor" "name" "Ljava/lang/String;" (.ref s)) :
    Py l Z (⟨"com/example/hook3/hook3/Interceptor", "name", "()Ljava/lang/String;"⟩ : MethodName) 1 12 0 0 #[(.ref a)] h0 [] (fun rv h' => rv = some (.ref s) ∧ h' = h0) := by
  refine Ct.py (by0 := prog_5_method_16_code) (ml := 1) (rt := (some (.object "java/lang/String"))) (rm := ({ frames := 0, cells := 0, slots := 0, locals := 0 } : Room)) ?_ (hq hw 59 rfl) (hq hw 29 rfl)
  refine Ct.mk (a0 := a0) (Ls := #[.val (.ref a)]) (plainFor_of_name pn_com_example_hook3_hook3_Interceptor) (fun m => by first | (simp [entryFrame, mkF, argsToLocals, Value.category]; done) | rfl) ?_
  intro κ C
  show Go l _ Z _ _ _ κ [] h0 0 #[.val (.ref a)] [] 0 0
  refine go_aloadN C 1 d9_0 rfl rfl rfl ?_
  refine go_getF C 4 d9_1 rfl (hq hw 49 rfl) Via.refl p0 ?_
  refine go_retA C (v := (.ref s)) d9_4 rfl rfl rfl (by decide) (by decide) ?_
  exact ⟨rfl, rfl⟩
theorem ct_cod0 (l : Launch) (Z : State) (a0 : Array Value) (hw : HW a0 Z) {cS : Int32} {g0 : Addr} {g1 : Addr} {g2 : Addr} {g3 : Addr} (am : Amb Z a0 cS g0 g1 g2 g3) {s : Addr} {h0 : Heap} (p0 : Fld Z h0 s "java/lang/String" "coder" "B" (.int 0)) :
    Py l Z (⟨"java/lang/String", "coder", "()B"⟩ : MethodName) 1 12 0 0 #[(.ref s)] h0 [] (fun rv h' => rv = some (.int 0) ∧ h' = h0) := by
  refine Ct.py (by0 := jdk_42_method_152_code) (ml := 1) (rt := (some .byte)) (rm := ({ frames := 0, cells := 0, slots := 0, locals := 0 } : Room)) ?_ (hq hw 69 rfl) (hq hw 3 rfl)
  refine Ct.mk (a0 := a0) (Ls := #[.val (.ref s)]) (plainFor_of_name pn_java_lang_String) (fun m => by first | (simp [entryFrame, mkF, argsToLocals, Value.category]; done) | rfl) ?_
  intro κ C
  show Go l _ Z _ _ _ κ [] h0 0 #[.val (.ref s)] [] 0 0
  refine go_getS C 3 d11_0 rfl (hq hw 70 rfl) am.2.1 ?_
  refine go_ifN C 6 d11_3 rfl (feq (am.2.2.1 : ¬ (cS = (0 : Int32)))).1 ?_
  refine go_aloadN C 7 d11_6 rfl rfl rfl ?_
  refine go_getF C 10 d11_7 rfl (hq hw 26 rfl) Via.refl p0 ?_
  refine go_goto C (pc' := 14) d11_10 (by decide) (by decide) ?_
  refine go_retN C (t := .byte) (z := (0 : Int32)) d11_14 rfl (by decide) (by decide) (by decide) (by decide) ?_
  exact ⟨rfl, rfl⟩
theorem ct_len0_0 (l : Launch) (Z : State) (a0 : Array Value) (hw : HW a0 Z) {cS : Int32} {g0 : Addr} {g1 : Addr} {g2 : Addr} {g3 : Addr} (am : Amb Z a0 cS g0 g1 g2 g3) {s : Addr} {t : Addr} {kB : ClassId} {vs : List Value} {h0 : Heap} (p0 : Exa Z h0 s "java/lang/String") (p1 : Fld Z h0 s "java/lang/String" "coder" "B" (.int 0)) (p2 : Fld Z h0 s "java/lang/String" "value" "[B" (.ref t)) (p3 : Arv Z h0 t kB .byte (0 : Int32) vs (.int 0)) :
    Py l Z (⟨"java/lang/String", "length", "()I"⟩ : MethodName) 2 25 0 0 #[(.ref s)] h0 [] (fun rv h' => rv = some (.int 0) ∧ h' = h0) := by
  refine Ct.py (by0 := jdk_42_method_54_code) (ml := 1) (rt := (some .int)) (rm := ({ frames := 1, cells := 0, slots := 0, locals := 13 } : Room)) ?_ (hq hw 64 rfl) (hq hw 3 rfl)
  refine Ct.mk (a0 := a0) (Ls := #[.val (.ref s)]) (plainFor_of_name pn_java_lang_String) (fun m => by first | (simp [entryFrame, mkF, argsToLocals, Value.category]; done) | rfl) ?_
  intro κ C
  show Go l _ Z _ _ _ κ [] h0 0 #[.val (.ref s)] [] 0 0
  refine go_aloadN C 1 d10_0 rfl rfl rfl ?_
  refine go_getF C 4 d10_1 rfl (hq hw 25 rfl) Via.refl p2 ?_
  refine go_arraylength C 5 d10_4 rfl p3 ?_
  refine go_aloadN C 6 d10_5 rfl rfl rfl ?_
  refine go_callV C (a := s) (argsL := []) (W := 1) d10_6 (hq hw 65 rfl) (hq hw 66 rfl) (fun _ hZ => notFace_of_selects (args := #[]) (mvT hZ (hq hw 68 rfl))) (hq hw 68 rfl) (hq hw 67 rfl) p0 (by decide) pd___B (ct_cod0 l Z a0 hw am (s := s) p1) rfl (by decide) (Nat.le_of_eq rfl) (by decide) rfl (by decide) (by decide) mems0 ?_
  intro v1 h2 K3 q4
  obtain ⟨rfl, rfl⟩ := q4
  refine ⟨[], fresh0, ?_⟩
  show Go l _ Z _ _ _ κ _ _ 9 _ [(.int 0), (.int 0)] 0 0
  refine go_ishr C 10 (0 : Int32) d10_9 rfl (by decide) ?_
  refine go_retI C d10_10 rfl (by decide) (by decide) ?_
  exact ⟨rfl, rfl⟩
theorem ct_len0_1 (l : Launch) (Z : State) (a0 : Array Value) (hw : HW a0 Z) {cS : Int32} {g0 : Addr} {g1 : Addr} {g2 : Addr} {g3 : Addr} (am : Amb Z a0 cS g0 g1 g2 g3) {s : Addr} {t : Addr} {kB : ClassId} {vs : List Value} {h0 : Heap} (p0 : Exa Z h0 s "java/lang/String") (p1 : Fld Z h0 s "java/lang/String" "coder" "B" (.int 0)) (p2 : Fld Z h0 s "java/lang/String" "value" "[B" (.ref t)) (p3 : Arv Z h0 t kB .byte (1 : Int32) vs (.int 0)) :
    Py l Z (⟨"java/lang/String", "length", "()I"⟩ : MethodName) 2 25 0 0 #[(.ref s)] h0 [] (fun rv h' => rv = some (.int 1) ∧ h' = h0) := by
  refine Ct.py (by0 := jdk_42_method_54_code) (ml := 1) (rt := (some .int)) (rm := ({ frames := 1, cells := 0, slots := 0, locals := 13 } : Room)) ?_ (hq hw 64 rfl) (hq hw 3 rfl)
  refine Ct.mk (a0 := a0) (Ls := #[.val (.ref s)]) (plainFor_of_name pn_java_lang_String) (fun m => by first | (simp [entryFrame, mkF, argsToLocals, Value.category]; done) | rfl) ?_
  intro κ C
  show Go l _ Z _ _ _ κ [] h0 0 #[.val (.ref s)] [] 0 0
  refine go_aloadN C 1 d10_0 rfl rfl rfl ?_
  refine go_getF C 4 d10_1 rfl (hq hw 25 rfl) Via.refl p2 ?_
  refine go_arraylength C 5 d10_4 rfl p3 ?_
  refine go_aloadN C 6 d10_5 rfl rfl rfl ?_
  refine go_callV C (a := s) (argsL := []) (W := 1) d10_6 (hq hw 65 rfl) (hq hw 66 rfl) (fun _ hZ => notFace_of_selects (args := #[]) (mvT hZ (hq hw 68 rfl))) (hq hw 68 rfl) (hq hw 67 rfl) p0 (by decide) pd___B (ct_cod0 l Z a0 hw am (s := s) p1) rfl (by decide) (Nat.le_of_eq rfl) (by decide) rfl (by decide) (by decide) mems0 ?_
  intro v1 h2 K3 q4
  obtain ⟨rfl, rfl⟩ := q4
  refine ⟨[], fresh0, ?_⟩
  show Go l _ Z _ _ _ κ _ _ 9 _ [(.int 0), (.int 1)] 0 0
  refine go_ishr C 10 (1 : Int32) d10_9 rfl (by decide) ?_
  refine go_retI C d10_10 rfl (by decide) (by decide) ?_
  exact ⟨rfl, rfl⟩
theorem ct_len0_2 (l : Launch) (Z : State) (a0 : Array Value) (hw : HW a0 Z) {cS : Int32} {g0 : Addr} {g1 : Addr} {g2 : Addr} {g3 : Addr} (am : Amb Z a0 cS g0 g1 g2 g3) {s : Addr} {t : Addr} {kB : ClassId} {vs : List Value} {h0 : Heap} (p0 : Exa Z h0 s "java/lang/String") (p1 : Fld Z h0 s "java/lang/String" "coder" "B" (.int 0)) (p2 : Fld Z h0 s "java/lang/String" "value" "[B" (.ref t)) (p3 : Arv Z h0 t kB .byte (2 : Int32) vs (.int 0)) :
    Py l Z (⟨"java/lang/String", "length", "()I"⟩ : MethodName) 2 25 0 0 #[(.ref s)] h0 [] (fun rv h' => rv = some (.int 2) ∧ h' = h0) := by
  refine Ct.py (by0 := jdk_42_method_54_code) (ml := 1) (rt := (some .int)) (rm := ({ frames := 1, cells := 0, slots := 0, locals := 13 } : Room)) ?_ (hq hw 64 rfl) (hq hw 3 rfl)
  refine Ct.mk (a0 := a0) (Ls := #[.val (.ref s)]) (plainFor_of_name pn_java_lang_String) (fun m => by first | (simp [entryFrame, mkF, argsToLocals, Value.category]; done) | rfl) ?_
  intro κ C
  show Go l _ Z _ _ _ κ [] h0 0 #[.val (.ref s)] [] 0 0
  refine go_aloadN C 1 d10_0 rfl rfl rfl ?_
  refine go_getF C 4 d10_1 rfl (hq hw 25 rfl) Via.refl p2 ?_
  refine go_arraylength C 5 d10_4 rfl p3 ?_
  refine go_aloadN C 6 d10_5 rfl rfl rfl ?_
  refine go_callV C (a := s) (argsL := []) (W := 1) d10_6 (hq hw 65 rfl) (hq hw 66 rfl) (fun _ hZ => notFace_of_selects (args := #[]) (mvT hZ (hq hw 68 rfl))) (hq hw 68 rfl) (hq hw 67 rfl) p0 (by decide) pd___B (ct_cod0 l Z a0 hw am (s := s) p1) rfl (by decide) (Nat.le_of_eq rfl) (by decide) rfl (by decide) (by decide) mems0 ?_
  intro v1 h2 K3 q4
  obtain ⟨rfl, rfl⟩ := q4
  refine ⟨[], fresh0, ?_⟩
  show Go l _ Z _ _ _ κ _ _ 9 _ [(.int 0), (.int 2)] 0 0
  refine go_ishr C 10 (2 : Int32) d10_9 rfl (by decide) ?_
  refine go_retI C d10_10 rfl (by decide) (by decide) ?_
  exact ⟨rfl, rfl⟩
theorem ct_len0_3 (l : Launch) (Z : State) (a0 : Array Value) (hw : HW a0 Z) {cS : Int32} {g0 : Addr} {g1 : Addr} {g2 : Addr} {g3 : Addr} (am : Amb Z a0 cS g0 g1 g2 g3) {s : Addr} {t : Addr} {kB : ClassId} {vs : List Value} {h0 : Heap} (p0 : Exa Z h0 s "java/lang/String") (p1 : Fld Z h0 s "java/lang/String" "coder" "B" (.int 0)) (p2 : Fld Z h0 s "java/lang/String" "value" "[B" (.ref t)) (p3 : Arv Z h0 t kB .byte (3 : Int32) vs (.int 0)) :
    Py l Z (⟨"java/lang/String", "length", "()I"⟩ : MethodName) 2 25 0 0 #[(.ref s)] h0 [] (fun rv h' => rv = some (.int 3) ∧ h' = h0) := by
  refine Ct.py (by0 := jdk_42_method_54_code) (ml := 1) (rt := (some .int)) (rm := ({ frames := 1, cells := 0, slots := 0, locals := 13 } : Room)) ?_ (hq hw 64 rfl) (hq hw 3 rfl)
  refine Ct.mk (a0 := a0) (Ls := #[.val (.ref s)]) (plainFor_of_name pn_java_lang_String) (fun m => by first | (simp [entryFrame, mkF, argsToLocals, Value.category]; done) | rfl) ?_
  intro κ C
  show Go l _ Z _ _ _ κ [] h0 0 #[.val (.ref s)] [] 0 0
  refine go_aloadN C 1 d10_0 rfl rfl rfl ?_
  refine go_getF C 4 d10_1 rfl (hq hw 25 rfl) Via.refl p2 ?_
  refine go_arraylength C 5 d10_4 rfl p3 ?_
  refine go_aloadN C 6 d10_5 rfl rfl rfl ?_
  refine go_callV C (a := s) (argsL := []) (W := 1) d10_6 (hq hw 65 rfl) (hq hw 66 rfl) (fun _ hZ => notFace_of_selects (args := #[]) (mvT hZ (hq hw 68 rfl))) (hq hw 68 rfl) (hq hw 67 rfl) p0 (by decide) pd___B (ct_cod0 l Z a0 hw am (s := s) p1) rfl (by decide) (Nat.le_of_eq rfl) (by decide) rfl (by decide) (by decide) mems0 ?_
  intro v1 h2 K3 q4
  obtain ⟨rfl, rfl⟩ := q4
  refine ⟨[], fresh0, ?_⟩
  show Go l _ Z _ _ _ κ _ _ 9 _ [(.int 0), (.int 3)] 0 0
  refine go_ishr C 10 (3 : Int32) d10_9 rfl (by decide) ?_
  refine go_retI C d10_10 rfl (by decide) (by decide) ?_
  exact ⟨rfl, rfl⟩
theorem ct_cod1 (l : Launch) (Z : State) (a0 : Array Value) (hw : HW a0 Z) {cS : Int32} {g0 : Addr} {g1 : Addr} {g2 : Addr} {g3 : Addr} (am : Amb Z a0 cS g0 g1 g2 g3) {s : Addr} {h0 : Heap} (p0 : Fld Z h0 s "java/lang/String" "coder" "B" (.int 1)) :
    Py l Z (⟨"java/lang/String", "coder", "()B"⟩ : MethodName) 1 12 0 0 #[(.ref s)] h0 [] (fun rv h' => rv = some (.int 1) ∧ h' = h0) := by
  refine Ct.py (by0 := jdk_42_method_152_code) (ml := 1) (rt := (some .byte)) (rm := ({ frames := 0, cells := 0, slots := 0, locals := 0 } : Room)) ?_ (hq hw 69 rfl) (hq hw 3 rfl)
  refine Ct.mk (a0 := a0) (Ls := #[.val (.ref s)]) (plainFor_of_name pn_java_lang_String) (fun m => by first | (simp [entryFrame, mkF, argsToLocals, Value.category]; done) | rfl) ?_
  intro κ C
  show Go l _ Z _ _ _ κ [] h0 0 #[.val (.ref s)] [] 0 0
  refine go_getS C 3 d11_0 rfl (hq hw 70 rfl) am.2.1 ?_
  refine go_ifN C 6 d11_3 rfl (feq (am.2.2.1 : ¬ (cS = (0 : Int32)))).1 ?_
  refine go_aloadN C 7 d11_6 rfl rfl rfl ?_
  refine go_getF C 10 d11_7 rfl (hq hw 26 rfl) Via.refl p0 ?_
  refine go_goto C (pc' := 14) d11_10 (by decide) (by decide) ?_
  refine go_retN C (t := .byte) (z := (1 : Int32)) d11_14 rfl (by decide) (by decide) (by decide) (by decide) ?_
  exact ⟨rfl, rfl⟩
theorem ct_len1_1 (l : Launch) (Z : State) (a0 : Array Value) (hw : HW a0 Z) {cS : Int32} {g0 : Addr} {g1 : Addr} {g2 : Addr} {g3 : Addr} (am : Amb Z a0 cS g0 g1 g2 g3) {s : Addr} {t : Addr} {kB : ClassId} {vs : List Value} {h0 : Heap} (p0 : Exa Z h0 s "java/lang/String") (p1 : Fld Z h0 s "java/lang/String" "coder" "B" (.int 1)) (p2 : Fld Z h0 s "java/lang/String" "value" "[B" (.ref t)) (p3 : Arv Z h0 t kB .byte (2 : Int32) vs (.int 0)) :
    Py l Z (⟨"java/lang/String", "length", "()I"⟩ : MethodName) 2 25 0 0 #[(.ref s)] h0 [] (fun rv h' => rv = some (.int 1) ∧ h' = h0) := by
  refine Ct.py (by0 := jdk_42_method_54_code) (ml := 1) (rt := (some .int)) (rm := ({ frames := 1, cells := 0, slots := 0, locals := 13 } : Room)) ?_ (hq hw 64 rfl) (hq hw 3 rfl)
  refine Ct.mk (a0 := a0) (Ls := #[.val (.ref s)]) (plainFor_of_name pn_java_lang_String) (fun m => by first | (simp [entryFrame, mkF, argsToLocals, Value.category]; done) | rfl) ?_
  intro κ C
  show Go l _ Z _ _ _ κ [] h0 0 #[.val (.ref s)] [] 0 0
  refine go_aloadN C 1 d10_0 rfl rfl rfl ?_
  refine go_getF C 4 d10_1 rfl (hq hw 25 rfl) Via.refl p2 ?_
  refine go_arraylength C 5 d10_4 rfl p3 ?_
  refine go_aloadN C 6 d10_5 rfl rfl rfl ?_
  refine go_callV C (a := s) (argsL := []) (W := 1) d10_6 (hq hw 65 rfl) (hq hw 66 rfl) (fun _ hZ => notFace_of_selects (args := #[]) (mvT hZ (hq hw 68 rfl))) (hq hw 68 rfl) (hq hw 67 rfl) p0 (by decide) pd___B (ct_cod1 l Z a0 hw am (s := s) p1) rfl (by decide) (Nat.le_of_eq rfl) (by decide) rfl (by decide) (by decide) mems0 ?_
  intro v1 h2 K3 q4
  obtain ⟨rfl, rfl⟩ := q4
  refine ⟨[], fresh0, ?_⟩
  show Go l _ Z _ _ _ κ _ _ 9 _ [(.int 1), (.int 2)] 0 0
  refine go_ishr C 10 (1 : Int32) d10_9 rfl (by decide) ?_
  refine go_retI C d10_10 rfl (by decide) (by decide) ?_
  exact ⟨rfl, rfl⟩
theorem ct_len1_2 (l : Launch) (Z : State) (a0 : Array Value) (hw : HW a0 Z) {cS : Int32} {g0 : Addr} {g1 : Addr} {g2 : Addr} {g3 : Addr} (am : Amb Z a0 cS g0 g1 g2 g3) {s : Addr} {t : Addr} {kB : ClassId} {vs : List Value} {h0 : Heap} (p0 : Exa Z h0 s "java/lang/String") (p1 : Fld Z h0 s "java/lang/String" "coder" "B" (.int 1)) (p2 : Fld Z h0 s "java/lang/String" "value" "[B" (.ref t)) (p3 : Arv Z h0 t kB .byte (4 : Int32) vs (.int 0)) :
    Py l Z (⟨"java/lang/String", "length", "()I"⟩ : MethodName) 2 25 0 0 #[(.ref s)] h0 [] (fun rv h' => rv = some (.int 2) ∧ h' = h0) := by
  refine Ct.py (by0 := jdk_42_method_54_code) (ml := 1) (rt := (some .int)) (rm := ({ frames := 1, cells := 0, slots := 0, locals := 13 } : Room)) ?_ (hq hw 64 rfl) (hq hw 3 rfl)
  refine Ct.mk (a0 := a0) (Ls := #[.val (.ref s)]) (plainFor_of_name pn_java_lang_String) (fun m => by first | (simp [entryFrame, mkF, argsToLocals, Value.category]; done) | rfl) ?_
  intro κ C
  show Go l _ Z _ _ _ κ [] h0 0 #[.val (.ref s)] [] 0 0
  refine go_aloadN C 1 d10_0 rfl rfl rfl ?_
  refine go_getF C 4 d10_1 rfl (hq hw 25 rfl) Via.refl p2 ?_
  refine go_arraylength C 5 d10_4 rfl p3 ?_
  refine go_aloadN C 6 d10_5 rfl rfl rfl ?_
  refine go_callV C (a := s) (argsL := []) (W := 1) d10_6 (hq hw 65 rfl) (hq hw 66 rfl) (fun _ hZ => notFace_of_selects (args := #[]) (mvT hZ (hq hw 68 rfl))) (hq hw 68 rfl) (hq hw 67 rfl) p0 (by decide) pd___B (ct_cod1 l Z a0 hw am (s := s) p1) rfl (by decide) (Nat.le_of_eq rfl) (by decide) rfl (by decide) (by decide) mems0 ?_
  intro v1 h2 K3 q4
  obtain ⟨rfl, rfl⟩ := q4
  refine ⟨[], fresh0, ?_⟩
  show Go l _ Z _ _ _ κ _ _ 9 _ [(.int 1), (.int 4)] 0 0
  refine go_ishr C 10 (2 : Int32) d10_9 rfl (by decide) ?_
  refine go_retI C d10_10 rfl (by decide) (by decide) ?_
  exact ⟨rfl, rfl⟩
theorem ct_len1_3 (l : Launch) (Z : State) (a0 : Array Value) (hw : HW a0 Z) {cS : Int32} {g0 : Addr} {g1 : Addr} {g2 : Addr} {g3 : Addr} (am : Amb Z a0 cS g0 g1 g2 g3) {s : Addr} {t : Addr} {kB : ClassId} {vs : List Value} {h0 : Heap} (p0 : Exa Z h0 s "java/lang/String") (p1 : Fld Z h0 s "java/lang/String" "coder" "B" (.int 1)) (p2 : Fld Z h0 s "java/lang/String" "value" "[B" (.ref t)) (p3 : Arv Z h0 t kB .byte (6 : Int32) vs (.int 0)) :
    Py l Z (⟨"java/lang/String", "length", "()I"⟩ : MethodName) 2 25 0 0 #[(.ref s)] h0 [] (fun rv h' => rv = some (.int 3) ∧ h' = h0) := by
  refine Ct.py (by0 := jdk_42_method_54_code) (ml := 1) (rt := (some .int)) (rm := ({ frames := 1, cells := 0, slots := 0, locals := 13 } : Room)) ?_ (hq hw 64 rfl) (hq hw 3 rfl)
  refine Ct.mk (a0 := a0) (Ls := #[.val (.ref s)]) (plainFor_of_name pn_java_lang_String) (fun m => by first | (simp [entryFrame, mkF, argsToLocals, Value.category]; done) | rfl) ?_
  intro κ C
  show Go l _ Z _ _ _ κ [] h0 0 #[.val (.ref s)] [] 0 0
  refine go_aloadN C 1 d10_0 rfl rfl rfl ?_
  refine go_getF C 4 d10_1 rfl (hq hw 25 rfl) Via.refl p2 ?_
  refine go_arraylength C 5 d10_4 rfl p3 ?_
  refine go_aloadN C 6 d10_5 rfl rfl rfl ?_
  refine go_callV C (a := s) (argsL := []) (W := 1) d10_6 (hq hw 65 rfl) (hq hw 66 rfl) (fun _ hZ => notFace_of_selects (args := #[]) (mvT hZ (hq hw 68 rfl))) (hq hw 68 rfl) (hq hw 67 rfl) p0 (by decide) pd___B (ct_cod1 l Z a0 hw am (s := s) p1) rfl (by decide) (Nat.le_of_eq rfl) (by decide) rfl (by decide) (by decide) mems0 ?_
  intro v1 h2 K3 q4
  obtain ⟨rfl, rfl⟩ := q4
  refine ⟨[], fresh0, ?_⟩
  show Go l _ Z _ _ _ κ _ _ 9 _ [(.int 1), (.int 6)] 0 0
  refine go_ishr C 10 (3 : Int32) d10_9 rfl (by decide) ?_
  refine go_retI C d10_10 rfl (by decide) (by decide) ?_
  exact ⟨rfl, rfl⟩
theorem ct_eqs (l : Launch) (Z : State) (a0 : Array Value) (hw : HW a0 Z) {cS : Int32} {g0 : Addr} {g1 : Addr} {g2 : Addr} {g3 : Addr} (am : Amb Z a0 cS g0 g1 g2 g3) {a : Addr} {h0 : Heap} :
    Py l Z (⟨"java/lang/String", "equals", "(Ljava/lang/Object;)Z"⟩ : MethodName) 1 14 0 0 #[(.ref a), (.ref a)] h0 [] (fun rv h' => rv = some (.int 1) ∧ h' = h0) := by
  refine Ct.py (by0 := jdk_42_method_66_code) (ml := 3) (rt := (some .boolean)) (rm := ({ frames := 0, cells := 0, slots := 0, locals := 0 } : Room)) ?_ (hq hw 75 rfl) (hq hw 3 rfl)
  refine Ct.mk (a0 := a0) (Ls := #[.val (.ref a), .val (.ref a), .unset]) (plainFor_of_name pn_java_lang_String) (fun m => by first | (simp [entryFrame, mkF, argsToLocals, Value.category]; done) | rfl) ?_
  intro κ C
  show Go l _ Z _ _ _ κ [] h0 0 #[.val (.ref a), .val (.ref a), .unset] [] 0 0
  refine go_aloadN C 1 d12_0 rfl rfl rfl ?_
  refine go_aloadN C 2 d12_1 rfl rfl rfl ?_
  refine go_acmp C (b := true) (pc' := 5) d12_2 rfl rfl (decide_eq_true rfl) (by decide) (by decide) ?_
  refine go_iconst C 6 (1 : Int32) d12_5 rfl (by decide) ?_
  refine go_retN C (t := .boolean) (z := (1 : Int32)) d12_6 rfl (by decide) (by decide) (by decide) (by decide) ?_
  exact ⟨rfl, rfl⟩
theorem ct_ord0 (l : Launch) (Z : State) (a0 : Array Value) (hw : HW a0 Z) {cS : Int32} {g0 : Addr} {g1 : Addr} {g2 : Addr} {g3 : Addr} (am : Amb Z a0 cS g0 g1 g2 g3) {h0 : Heap} (p0 : Fld Z h0 g0 "java/lang/Enum" "ordinal" "I" (.int 0)) :
    Py l Z (⟨"java/lang/Enum", "ordinal", "()I"⟩ : MethodName) 1 12 0 0 #[(.ref g0)] h0 [] (fun rv h' => rv = some (.int 0) ∧ h' = h0) := by
  refine Ct.py (by0 := jdk_37_method_2_code) (ml := 1) (rt := (some .int)) (rm := ({ frames := 0, cells := 0, slots := 0, locals := 0 } : Room)) ?_ (hq hw 90 rfl) (hq hw 89 rfl)
  refine Ct.mk (a0 := a0) (Ls := #[.val (.ref g0)]) (plainFor_of_name pn_java_lang_Enum) (fun m => by first | (simp [entryFrame, mkF, argsToLocals, Value.category]; done) | rfl) ?_
  intro κ C
  show Go l _ Z _ _ _ κ [] h0 0 #[.val (.ref g0)] [] 0 0
  refine go_aloadN C 1 d14_0 rfl rfl rfl ?_
  refine go_old ?_
  intro O1 zO1
  refine go_getF C 4 d14_1 rfl (hq hw 91 rfl) Via.refl (Fld.ext O1 am.2.2.2.2.2.2.2.2.2.1) ?_
  refine go_retI C d14_4 rfl (by decide) (by decide) ?_
  exact ⟨rfl, rfl⟩
theorem ct_has0 (l : Launch) (Z : State) (a0 : Array Value) (hw : HW a0 Z) {cS : Int32} {g0 : Addr} {g1 : Addr} {g2 : Addr} {g3 : Addr} (am : Amb Z a0 cS g0 g1 g2 g3) {a : Addr} {t : Addr} {u : Addr} {kt : ClassId} {ku : ClassId} {h0 : Heap} (p0 : Fld Z h0 a "com/example/hook3/hook3/Interceptor" "stages" "[Ljava/util/function/Function;" (.ref t)) (p1 : Fld Z h0 a "com/example/hook3/hook3/Interceptor" "asyncStages" "[Ljava/util/function/Function;" (.ref u)) (p2 : Arv Z h0 t kt (.object "java/util/function/Function") (4 : Int32) [.null, .null, .null, .null] .null) (p3 : Arv Z h0 u ku (.object "java/util/function/Function") (4 : Int32) [.null, .null, .null, .null] .null) :
    Py l Z (⟨"com/example/hook3/hook3/Interceptor", "has", "(Lcom/example/hook3/hook3/Stage;)Z"⟩ : MethodName) 2 26 0 0 #[(.ref a), (.ref g0)] h0 [] (fun rv h' => rv = some (.int 0) ∧ h' = h0) := by
  refine Ct.py (by0 := prog_5_method_19_code) (ml := 2) (rt := (some .boolean)) (rm := ({ frames := 1, cells := 0, slots := 0, locals := 13 } : Room)) ?_ (hq hw 83 rfl) (hq hw 29 rfl)
  refine Ct.mk (a0 := a0) (Ls := #[.val (.ref a), .val (.ref g0)]) (plainFor_of_name pn_com_example_hook3_hook3_Interceptor) (fun m => by first | (simp [entryFrame, mkF, argsToLocals, Value.category]; done) | rfl) ?_
  intro κ C
  show Go l _ Z _ _ _ κ [] h0 0 #[.val (.ref a), .val (.ref g0)] [] 0 0
  refine go_aloadN C 1 d13_0 rfl rfl rfl ?_
  refine go_getF C 4 d13_1 rfl (hq hw 51 rfl) Via.refl p0 ?_
  refine go_aloadN C 5 d13_4 rfl rfl rfl ?_
  refine go_old ?_
  intro O1 zO1
  refine go_callU C (a := g0) (argsL := []) (W := 1) d13_5 (hq hw 84 rfl) (hq hw 85 rfl) (hq hw 86 rfl) (by decide) (hq hw 88 rfl) (hq hw 87 rfl) (Exa.ext O1 am.2.2.2.2.2.2.2.2.1) (by decide) pd___I (ct_ord0 l Z a0 hw am (Fld.ext O1 am.2.2.2.2.2.2.2.2.2.1)) rfl (by decide) (Nat.le_of_eq rfl) (by decide) rfl (by decide) (by decide) mems0 ?_
  intro v2 h3 K4 q5
  obtain ⟨rfl, rfl⟩ := q5
  refine ⟨[], fresh0, ?_⟩
  show Go l _ Z _ _ _ κ _ _ 8 _ [(.int 0), (.ref t)] 0 0
  refine go_aaload C 9 (v := .null) d13_8 rfl p2 rfl (by decide) rfl ?_
  refine go_ifnonnullN C 12 d13_9 rfl ?_
  refine go_aloadN C 13 d13_12 rfl rfl rfl ?_
  refine go_getF C 16 d13_13 rfl (hq hw 53 rfl) Via.refl p1 ?_
  refine go_aloadN C 17 d13_16 rfl rfl rfl ?_
  refine go_callU C (a := g0) (argsL := []) (W := 1) d13_17 (hq hw 84 rfl) (hq hw 85 rfl) (hq hw 86 rfl) (by decide) (hq hw 88 rfl) (hq hw 87 rfl) (Exa.ext O1 am.2.2.2.2.2.2.2.2.1) (by decide) pd___I (ct_ord0 l Z a0 hw am (Fld.ext O1 am.2.2.2.2.2.2.2.2.2.1)) rfl (by decide) (Nat.le_of_eq rfl) (by decide) rfl (by decide) (by decide) mems0 ?_
  intro v6 h7 K8 q9
  obtain ⟨rfl, rfl⟩ := q9
  refine ⟨[], fresh0, ?_⟩
  show Go l _ Z _ _ _ κ _ _ 20 _ [(.int 0), (.ref u)] 0 0
  refine go_aaload C 21 (v := .null) d13_20 rfl p3 rfl (by decide) rfl ?_
  refine go_ifnullY C (pc' := 28) d13_21 (by decide) (by decide) ?_
  refine go_iconst C 29 (0 : Int32) d13_28 rfl (by decide) ?_
  refine go_retN C (t := .boolean) (z := (0 : Int32)) d13_29 rfl (by decide) (by decide) (by decide) (by decide) ?_
  exact ⟨rfl, rfl⟩
theorem ct_ord1 (l : Launch) (Z : State) (a0 : Array Value) (hw : HW a0 Z) {cS : Int32} {g0 : Addr} {g1 : Addr} {g2 : Addr} {g3 : Addr} (am : Amb Z a0 cS g0 g1 g2 g3) {h0 : Heap} (p0 : Fld Z h0 g1 "java/lang/Enum" "ordinal" "I" (.int 1)) :
    Py l Z (⟨"java/lang/Enum", "ordinal", "()I"⟩ : MethodName) 1 12 0 0 #[(.ref g1)] h0 [] (fun rv h' => rv = some (.int 1) ∧ h' = h0) := by
  refine Ct.py (by0 := jdk_37_method_2_code) (ml := 1) (rt := (some .int)) (rm := ({ frames := 0, cells := 0, slots := 0, locals := 0 } : Room)) ?_ (hq hw 90 rfl) (hq hw 89 rfl)
  refine Ct.mk (a0 := a0) (Ls := #[.val (.ref g1)]) (plainFor_of_name pn_java_lang_Enum) (fun m => by first | (simp [entryFrame, mkF, argsToLocals, Value.category]; done) | rfl) ?_
  intro κ C
  show Go l _ Z _ _ _ κ [] h0 0 #[.val (.ref g1)] [] 0 0
  refine go_aloadN C 1 d14_0 rfl rfl rfl ?_
  refine go_old ?_
  intro O1 zO1
  refine go_getF C 4 d14_1 rfl (hq hw 91 rfl) Via.refl (Fld.ext O1 am.2.2.2.2.2.2.2.2.2.2.2.2.1) ?_
  refine go_retI C d14_4 rfl (by decide) (by decide) ?_
  exact ⟨rfl, rfl⟩
theorem ct_has1 (l : Launch) (Z : State) (a0 : Array Value) (hw : HW a0 Z) {cS : Int32} {g0 : Addr} {g1 : Addr} {g2 : Addr} {g3 : Addr} (am : Amb Z a0 cS g0 g1 g2 g3) {a : Addr} {t : Addr} {u : Addr} {kt : ClassId} {ku : ClassId} {h0 : Heap} (p0 : Fld Z h0 a "com/example/hook3/hook3/Interceptor" "stages" "[Ljava/util/function/Function;" (.ref t)) (p1 : Fld Z h0 a "com/example/hook3/hook3/Interceptor" "asyncStages" "[Ljava/util/function/Function;" (.ref u)) (p2 : Arv Z h0 t kt (.object "java/util/function/Function") (4 : Int32) [.null, .null, .null, .null] .null) (p3 : Arv Z h0 u ku (.object "java/util/function/Function") (4 : Int32) [.null, .null, .null, .null] .null) :
    Py l Z (⟨"com/example/hook3/hook3/Interceptor", "has", "(Lcom/example/hook3/hook3/Stage;)Z"⟩ : MethodName) 2 26 0 0 #[(.ref a), (.ref g1)] h0 [] (fun rv h' => rv = some (.int 0) ∧ h' = h0) := by
  refine Ct.py (by0 := prog_5_method_19_code) (ml := 2) (rt := (some .boolean)) (rm := ({ frames := 1, cells := 0, slots := 0, locals := 13 } : Room)) ?_ (hq hw 83 rfl) (hq hw 29 rfl)
  refine Ct.mk (a0 := a0) (Ls := #[.val (.ref a), .val (.ref g1)]) (plainFor_of_name pn_com_example_hook3_hook3_Interceptor) (fun m => by first | (simp [entryFrame, mkF, argsToLocals, Value.category]; done) | rfl) ?_
  intro κ C
  show Go l _ Z _ _ _ κ [] h0 0 #[.val (.ref a), .val (.ref g1)] [] 0 0
  refine go_aloadN C 1 d13_0 rfl rfl rfl ?_
  refine go_getF C 4 d13_1 rfl (hq hw 51 rfl) Via.refl p0 ?_
  refine go_aloadN C 5 d13_4 rfl rfl rfl ?_
  refine go_old ?_
  intro O1 zO1
  refine go_callU C (a := g1) (argsL := []) (W := 1) d13_5 (hq hw 84 rfl) (hq hw 85 rfl) (hq hw 86 rfl) (by decide) (hq hw 88 rfl) (hq hw 87 rfl) (Exa.ext O1 am.2.2.2.2.2.2.2.2.2.2.2.1) (by decide) pd___I (ct_ord1 l Z a0 hw am (Fld.ext O1 am.2.2.2.2.2.2.2.2.2.2.2.2.1)) rfl (by decide) (Nat.le_of_eq rfl) (by decide) rfl (by decide) (by decide) mems0 ?_
  intro v2 h3 K4 q5
  obtain ⟨rfl, rfl⟩ := q5
  refine ⟨[], fresh0, ?_⟩
  show Go l _ Z _ _ _ κ _ _ 8 _ [(.int 1), (.ref t)] 0 0
  refine go_aaload C 9 (v := .null) d13_8 rfl p2 rfl (by decide) rfl ?_
  refine go_ifnonnullN C 12 d13_9 rfl ?_
  refine go_aloadN C 13 d13_12 rfl rfl rfl ?_
  refine go_getF C 16 d13_13 rfl (hq hw 53 rfl) Via.refl p1 ?_
  refine go_aloadN C 17 d13_16 rfl rfl rfl ?_
  refine go_callU C (a := g1) (argsL := []) (W := 1) d13_17 (hq hw 84 rfl) (hq hw 85 rfl) (hq hw 86 rfl) (by decide) (hq hw 88 rfl) (hq hw 87 rfl) (Exa.ext O1 am.2.2.2.2.2.2.2.2.2.2.2.1) (by decide) pd___I (ct_ord1 l Z a0 hw am (Fld.ext O1 am.2.2.2.2.2.2.2.2.2.2.2.2.1)) rfl (by decide) (Nat.le_of_eq rfl) (by decide) rfl (by decide) (by decide) mems0 ?_
  intro v6 h7 K8 q9
  obtain ⟨rfl, rfl⟩ := q9
  refine ⟨[], fresh0, ?_⟩
  show Go l _ Z _ _ _ κ _ _ 20 _ [(.int 1), (.ref u)] 0 0
  refine go_aaload C 21 (v := .null) d13_20 rfl p3 rfl (by decide) rfl ?_
  refine go_ifnullY C (pc' := 28) d13_21 (by decide) (by decide) ?_
  refine go_iconst C 29 (0 : Int32) d13_28 rfl (by decide) ?_
  refine go_retN C (t := .boolean) (z := (0 : Int32)) d13_29 rfl (by decide) (by decide) (by decide) (by decide) ?_
  exact ⟨rfl, rfl⟩
theorem ct_ord2 (l : Launch) (Z : State) (a0 : Array Value) (hw : HW a0 Z) {cS : Int32} {g0 : Addr} {g1 : Addr} {g2 : Addr} {g3 : Addr} (am : Amb Z a0 cS g0 g1 g2 g3) {h0 : Heap} (p0 : Fld Z h0 g2 "java/lang/Enum" "ordinal" "I" (.int 2)) :
    Py l Z (⟨"java/lang/Enum", "ordinal", "()I"⟩ : MethodName) 1 12 0 0 #[(.ref g2)] h0 [] (fun rv h' => rv = some (.int 2) ∧ h' = h0) := by
  refine Ct.py (by0 := jdk_37_method_2_code) (ml := 1) (rt := (some .int)) (rm := ({ frames := 0, cells := 0, slots := 0, locals := 0 } : Room)) ?_ (hq hw 90 rfl) (hq hw 89 rfl)
  refine Ct.mk (a0 := a0) (Ls := #[.val (.ref g2)]) (plainFor_of_name pn_java_lang_Enum) (fun m => by first | (simp [entryFrame, mkF, argsToLocals, Value.category]; done) | rfl) ?_
  intro κ C
  show Go l _ Z _ _ _ κ [] h0 0 #[.val (.ref g2)] [] 0 0
  refine go_aloadN C 1 d14_0 rfl rfl rfl ?_
  refine go_old ?_
  intro O1 zO1
  refine go_getF C 4 d14_1 rfl (hq hw 91 rfl) Via.refl (Fld.ext O1 am.2.2.2.2.2.2.2.2.2.2.2.2.2.2.2.1) ?_
  refine go_retI C d14_4 rfl (by decide) (by decide) ?_
  exact ⟨rfl, rfl⟩
theorem ct_has2 (l : Launch) (Z : State) (a0 : Array Value) (hw : HW a0 Z) {cS : Int32} {g0 : Addr} {g1 : Addr} {g2 : Addr} {g3 : Addr} (am : Amb Z a0 cS g0 g1 g2 g3) {a : Addr} {t : Addr} {u : Addr} {kt : ClassId} {ku : ClassId} {h0 : Heap} (p0 : Fld Z h0 a "com/example/hook3/hook3/Interceptor" "stages" "[Ljava/util/function/Function;" (.ref t)) (p1 : Fld Z h0 a "com/example/hook3/hook3/Interceptor" "asyncStages" "[Ljava/util/function/Function;" (.ref u)) (p2 : Arv Z h0 t kt (.object "java/util/function/Function") (4 : Int32) [.null, .null, .null, .null] .null) (p3 : Arv Z h0 u ku (.object "java/util/function/Function") (4 : Int32) [.null, .null, .null, .null] .null) :
    Py l Z (⟨"com/example/hook3/hook3/Interceptor", "has", "(Lcom/example/hook3/hook3/Stage;)Z"⟩ : MethodName) 2 26 0 0 #[(.ref a), (.ref g2)] h0 [] (fun rv h' => rv = some (.int 0) ∧ h' = h0) := by
  refine Ct.py (by0 := prog_5_method_19_code) (ml := 2) (rt := (some .boolean)) (rm := ({ frames := 1, cells := 0, slots := 0, locals := 13 } : Room)) ?_ (hq hw 83 rfl) (hq hw 29 rfl)
  refine Ct.mk (a0 := a0) (Ls := #[.val (.ref a), .val (.ref g2)]) (plainFor_of_name pn_com_example_hook3_hook3_Interceptor) (fun m => by first | (simp [entryFrame, mkF, argsToLocals, Value.category]; done) | rfl) ?_
  intro κ C
  show Go l _ Z _ _ _ κ [] h0 0 #[.val (.ref a), .val (.ref g2)] [] 0 0
  refine go_aloadN C 1 d13_0 rfl rfl rfl ?_
  refine go_getF C 4 d13_1 rfl (hq hw 51 rfl) Via.refl p0 ?_
  refine go_aloadN C 5 d13_4 rfl rfl rfl ?_
  refine go_old ?_
  intro O1 zO1
  refine go_callU C (a := g2) (argsL := []) (W := 1) d13_5 (hq hw 84 rfl) (hq hw 85 rfl) (hq hw 86 rfl) (by decide) (hq hw 88 rfl) (hq hw 87 rfl) (Exa.ext O1 am.2.2.2.2.2.2.2.2.2.2.2.2.2.2.1) (by decide) pd___I (ct_ord2 l Z a0 hw am (Fld.ext O1 am.2.2.2.2.2.2.2.2.2.2.2.2.2.2.2.1)) rfl (by decide) (Nat.le_of_eq rfl) (by decide) rfl (by decide) (by decide) mems0 ?_
  intro v2 h3 K4 q5
  obtain ⟨rfl, rfl⟩ := q5
  refine ⟨[], fresh0, ?_⟩
  show Go l _ Z _ _ _ κ _ _ 8 _ [(.int 2), (.ref t)] 0 0
  refine go_aaload C 9 (v := .null) d13_8 rfl p2 rfl (by decide) rfl ?_
  refine go_ifnonnullN C 12 d13_9 rfl ?_
  refine go_aloadN C 13 d13_12 rfl rfl rfl ?_
  refine go_getF C 16 d13_13 rfl (hq hw 53 rfl) Via.refl p1 ?_
  refine go_aloadN C 17 d13_16 rfl rfl rfl ?_
  refine go_callU C (a := g2) (argsL := []) (W := 1) d13_17 (hq hw 84 rfl) (hq hw 85 rfl) (hq hw 86 rfl) (by decide) (hq hw 88 rfl) (hq hw 87 rfl) (Exa.ext O1 am.2.2.2.2.2.2.2.2.2.2.2.2.2.2.1) (by decide) pd___I (ct_ord2 l Z a0 hw am (Fld.ext O1 am.2.2.2.2.2.2.2.2.2.2.2.2.2.2.2.1)) rfl (by decide) (Nat.le_of_eq rfl) (by decide) rfl (by decide) (by decide) mems0 ?_
  intro v6 h7 K8 q9
  obtain ⟨rfl, rfl⟩ := q9
  refine ⟨[], fresh0, ?_⟩
  show Go l _ Z _ _ _ κ _ _ 20 _ [(.int 2), (.ref u)] 0 0
  refine go_aaload C 21 (v := .null) d13_20 rfl p3 rfl (by decide) rfl ?_
  refine go_ifnullY C (pc' := 28) d13_21 (by decide) (by decide) ?_
  refine go_iconst C 29 (0 : Int32) d13_28 rfl (by decide) ?_
  refine go_retN C (t := .boolean) (z := (0 : Int32)) d13_29 rfl (by decide) (by decide) (by decide) (by decide) ?_
  exact ⟨rfl, rfl⟩
theorem ct_ord3 (l : Launch) (Z : State) (a0 : Array Value) (hw : HW a0 Z) {cS : Int32} {g0 : Addr} {g1 : Addr} {g2 : Addr} {g3 : Addr} (am : Amb Z a0 cS g0 g1 g2 g3) {h0 : Heap} (p0 : Fld Z h0 g3 "java/lang/Enum" "ordinal" "I" (.int 3)) :
    Py l Z (⟨"java/lang/Enum", "ordinal", "()I"⟩ : MethodName) 1 12 0 0 #[(.ref g3)] h0 [] (fun rv h' => rv = some (.int 3) ∧ h' = h0) := by
  refine Ct.py (by0 := jdk_37_method_2_code) (ml := 1) (rt := (some .int)) (rm := ({ frames := 0, cells := 0, slots := 0, locals := 0 } : Room)) ?_ (hq hw 90 rfl) (hq hw 89 rfl)
  refine Ct.mk (a0 := a0) (Ls := #[.val (.ref g3)]) (plainFor_of_name pn_java_lang_Enum) (fun m => by first | (simp [entryFrame, mkF, argsToLocals, Value.category]; done) | rfl) ?_
  intro κ C
  show Go l _ Z _ _ _ κ [] h0 0 #[.val (.ref g3)] [] 0 0
  refine go_aloadN C 1 d14_0 rfl rfl rfl ?_
  refine go_old ?_
  intro O1 zO1
  refine go_getF C 4 d14_1 rfl (hq hw 91 rfl) Via.refl (Fld.ext O1 am.2.2.2.2.2.2.2.2.2.2.2.2.2.2.2.2.2.2) ?_
  refine go_retI C d14_4 rfl (by decide) (by decide) ?_
  exact ⟨rfl, rfl⟩
theorem ct_has3 (l : Launch) (Z : State) (a0 : Array Value) (hw : HW a0 Z) {cS : Int32} {g0 : Addr} {g1 : Addr} {g2 : Addr} {g3 : Addr} (am : Amb Z a0 cS g0 g1 g2 g3) {a : Addr} {t : Addr} {u : Addr} {kt : ClassId} {ku : ClassId} {h0 : Heap} (p0 : Fld Z h0 a "com/example/hook3/hook3/Interceptor" "stages" "[Ljava/util/function/Function;" (.ref t)) (p1 : Fld Z h0 a "com/example/hook3/hook3/Interceptor" "asyncStages" "[Ljava/util/function/Function;" (.ref u)) (p2 : Arv Z h0 t kt (.object "java/util/function/Function") (4 : Int32) [.null, .null, .null, .null] .null) (p3 : Arv Z h0 u ku (.object "java/util/function/Function") (4 : Int32) [.null, .null, .null, .null] .null) :
    Py l Z (⟨"com/example/hook3/hook3/Interceptor", "has", "(Lcom/example/hook3/hook3/Stage;)Z"⟩ : MethodName) 2 26 0 0 #[(.ref a), (.ref g3)] h0 [] (fun rv h' => rv = some (.int 0) ∧ h' = h0) := by
  refine Ct.py (by0 := prog_5_method_19_code) (ml := 2) (rt := (some .boolean)) (rm := ({ frames := 1, cells := 0, slots := 0, locals := 13 } : Room)) ?_ (hq hw 83 rfl) (hq hw 29 rfl)
  refine Ct.mk (a0 := a0) (Ls := #[.val (.ref a), .val (.ref g3)]) (plainFor_of_name pn_com_example_hook3_hook3_Interceptor) (fun m => by first | (simp [entryFrame, mkF, argsToLocals, Value.category]; done) | rfl) ?_
  intro κ C
  show Go l _ Z _ _ _ κ [] h0 0 #[.val (.ref a), .val (.ref g3)] [] 0 0
  refine go_aloadN C 1 d13_0 rfl rfl rfl ?_
  refine go_getF C 4 d13_1 rfl (hq hw 51 rfl) Via.refl p0 ?_
  refine go_aloadN C 5 d13_4 rfl rfl rfl ?_
  refine go_old ?_
  intro O1 zO1
  refine go_callU C (a := g3) (argsL := []) (W := 1) d13_5 (hq hw 84 rfl) (hq hw 85 rfl) (hq hw 86 rfl) (by decide) (hq hw 88 rfl) (hq hw 87 rfl) (Exa.ext O1 am.2.2.2.2.2.2.2.2.2.2.2.2.2.2.2.2.2.1) (by decide) pd___I (ct_ord3 l Z a0 hw am (Fld.ext O1 am.2.2.2.2.2.2.2.2.2.2.2.2.2.2.2.2.2.2)) rfl (by decide) (Nat.le_of_eq rfl) (by decide) rfl (by decide) (by decide) mems0 ?_
  intro v2 h3 K4 q5
  obtain ⟨rfl, rfl⟩ := q5
  refine ⟨[], fresh0, ?_⟩
  show Go l _ Z _ _ _ κ _ _ 8 _ [(.int 3), (.ref t)] 0 0
  refine go_aaload C 9 (v := .null) d13_8 rfl p2 rfl (by decide) rfl ?_
  refine go_ifnonnullN C 12 d13_9 rfl ?_
  refine go_aloadN C 13 d13_12 rfl rfl rfl ?_
  refine go_getF C 16 d13_13 rfl (hq hw 53 rfl) Via.refl p1 ?_
  refine go_aloadN C 17 d13_16 rfl rfl rfl ?_
  refine go_callU C (a := g3) (argsL := []) (W := 1) d13_17 (hq hw 84 rfl) (hq hw 85 rfl) (hq hw 86 rfl) (by decide) (hq hw 88 rfl) (hq hw 87 rfl) (Exa.ext O1 am.2.2.2.2.2.2.2.2.2.2.2.2.2.2.2.2.2.1) (by decide) pd___I (ct_ord3 l Z a0 hw am (Fld.ext O1 am.2.2.2.2.2.2.2.2.2.2.2.2.2.2.2.2.2.2)) rfl (by decide) (Nat.le_of_eq rfl) (by decide) rfl (by decide) (by decide) mems0 ?_
  intro v6 h7 K8 q9
  obtain ⟨rfl, rfl⟩ := q9
  refine ⟨[], fresh0, ?_⟩
  show Go l _ Z _ _ _ κ _ _ 20 _ [(.int 3), (.ref u)] 0 0
  refine go_aaload C 21 (v := .null) d13_20 rfl p3 rfl (by decide) rfl ?_
  refine go_ifnullY C (pc' := 28) d13_21 (by decide) (by decide) ?_
  refine go_iconst C 29 (0 : Int32) d13_28 rfl (by decide) ?_
  refine go_retN C (t := .boolean) (z := (0 : Int32)) d13_29 rfl (by decide) (by decide) (by decide) (by decide) ?_
  exact ⟨rfl, rfl⟩
theorem law0 (l : Launch) (Z : State) (a0 : Array Value) (hw : HW a0 Z) {cS : Int32} {g0 : Addr} {g1 : Addr} {g2 : Addr} {g3 : Addr} (am : Amb Z a0 cS g0 g1 g2 g3) {p0 : Int32} {p1 : Int32} {p2 : Int32} {p3 : Int32} {h0 : Heap} :
    CtW l Z consts_1 x code maxLocals ret room_1 #[(.int p0), (.int p1), (.int p2), (.int p3)] h0 [] (fun v h' => v = some (.int 1)) := by
  have hEL := am.1
  refine CtW.mk (a0 := a0) (Ls := #[.val (.int p0), .val (.int p1), .val (.int p2), .val (.int p3), .unset, .unset, .unset, .unset, .unset, .unset, .unset, .unset, .unset]) (plainFor_of_name pn_com_example_hook3_hook3_InterceptorNamedPinLaw) (fun m => by first | (simp [entryFrame, mkF, argsToLocals, Value.category, maxLocals]; done) | rfl) ?_
  intro κ C
  show GoW l _ Z _ _ _ _ _ κ [] h0 0 #[.val (.int p0), .val (.int p1), .val (.int p2), .val (.int p3), .unset, .unset, .unset, .unset, .unset, .unset, .unset, .unset, .unset] [] 0 0
  refine gw_iloadN C 1 at_0 rfl rfl ?_
  refine gw_iconst C 2 (3 : Int32) at_1 rfl (by decide) ?_
  rcases and3 p0 with ec1 | ec1 | ec1 | ec1
  · skip
    refine gw_iand C 3 (0 : Int32) at_2 rfl ec1 ?_
    refine gw_istore C 5 (Ls' := #[.val (.int p0), .val (.int p1), .val (.int p2), .val (.int p3), .val (.int 0), .unset, .unset, .unset, .unset, .unset, .unset, .unset, .unset]) at_3 rfl rfl ?_
    refine gw_iloadN C 6 at_5 rfl rfl ?_
    refine gw_ldcInt C 8 (v := (65535 : Int32)) at_6 rfl (hq hw 0 rfl) ?_
    refine gw_iand C 9 (p1 &&& (65535 : Int32)) at_8 rfl rfl ?_
    refine gw_i2c C 10 (p1 &&& (65535 : Int32)) at_9 rfl (chr_mask _).i2c ?_
    refine gw_istore C 12 (Ls' := #[.val (.int p0), .val (.int p1), .val (.int p2), .val (.int p3), .val (.int 0), .val (.int (p1 &&& (65535 : Int32))), .unset, .unset, .unset, .unset, .unset, .unset, .unset]) at_10 rfl rfl ?_
    refine gw_iloadN C 13 at_12 rfl rfl ?_
    refine gw_ldcInt C 15 (v := (65535 : Int32)) at_13 rfl (hq hw 0 rfl) ?_
    refine gw_iand C 16 (p2 &&& (65535 : Int32)) at_15 rfl rfl ?_
    refine gw_i2c C 17 (p2 &&& (65535 : Int32)) at_16 rfl (chr_mask _).i2c ?_
    refine gw_istore C 19 (Ls' := #[.val (.int p0), .val (.int p1), .val (.int p2), .val (.int p3), .val (.int 0), .val (.int (p1 &&& (65535 : Int32))), .val (.int (p2 &&& (65535 : Int32))), .unset, .unset, .unset, .unset, .unset, .unset]) at_17 rfl rfl ?_
    refine gw_iloadN C 20 at_19 rfl rfl ?_
    refine gw_ldcInt C 22 (v := (65535 : Int32)) at_20 rfl (hq hw 0 rfl) ?_
    refine gw_iand C 23 (p3 &&& (65535 : Int32)) at_22 rfl rfl ?_
    refine gw_i2c C 24 (p3 &&& (65535 : Int32)) at_23 rfl (chr_mask _).i2c ?_
    refine gw_istore C 26 (Ls' := #[.val (.int p0), .val (.int p1), .val (.int p2), .val (.int p3), .val (.int 0), .val (.int (p1 &&& (65535 : Int32))), .val (.int (p2 &&& (65535 : Int32))), .val (.int (p3 &&& (65535 : Int32))), .unset, .unset, .unset, .unset, .unset]) at_24 rfl rfl ?_
    refine gw_new C 29 1 4 at_26 rfl rfl rfl (hq hw 1 rfl) (hq hw 2 rfl) (hq hw 3 rfl) (by decide) (by decide) ?_
    intro b2 h3 g4 E5 A6 D7
    have x8 : Fld Z h3 b2 "java/lang/String" "value" "[B" .null := D7 (Or.inr (hq hw 21 rfl)) (ty := (.array .byte)) (by decide)
    have x9 : Fld Z h3 b2 "java/lang/String" "coder" "B" (.int 0) := D7 (Or.inr (hq hw 22 rfl)) (ty := .byte) (by decide)
    refine gw_dup C 30 at_29 rfl rfl ?_
    refine gw_iload C 32 at_30 rfl rfl ?_
    refine gw_iload C 34 at_32 rfl rfl ?_
    refine gw_iload C 36 at_34 rfl rfl ?_
    refine gw_iload C 38 at_36 rfl rfl ?_
    refine gw_callS C (argsL := [(.int 0), (.int (p1 &&& (65535 : Int32))), (.int (p2 &&& (65535 : Int32))), (.int (p3 &&& (65535 : Int32)))]) (W := 2) at_38 (hq hw 4 rfl) (hq hw 5 rfl) (hq hw 6 rfl) (hq hw 7 rfl) (by decide) pd__ICCC__C (ct_drawn0 l Z a0 hw am (c0 := (p1 &&& (65535 : Int32))) (c1 := (p2 &&& (65535 : Int32))) (c2 := (p3 &&& (65535 : Int32)))) rfl (by decide) (Nat.le_of_eq rfl) (by decide) rfl (by decide) (by decide) mems0 ?_
    intro v10 h11 K12 q13
    obtain ⟨t14, kC15, rfl, x16, x17⟩ := q13
    refine ⟨[t14], (freshS ⟨x17, (x16).lt⟩ fresh0), ?_⟩
    show GoW l _ Z _ _ _ _ _ κ [t14, b2] _ 41 _ [(.ref t14), (.ref b2), (.ref b2)] 2 4
    have x18 := (A6.keep K12)
    have x19 := (x8.keep K12 nin0)
    have x20 := (x9.keep K12 nin0)
    refine gw_callIW C hEL (a := b2) (argsL := [(.ref t14)]) (W := 1) at_41 rfl (hq hw 9 rfl) (hq hw 10 rfl) (hq hw 11 rfl) (by decide) pd___C_V (ct_str0 l Z a0 hw am (a := b2) (b := t14) (kC := kC15) x18 x19 x20 x16) rfl (by decide) (Nat.le_of_eq rfl) (by decide) rfl (by decide) (by decide) (memsS (mi 1 rfl) mems0) ?_
    intro v21 h22 K23 q24
    obtain ⟨t25, kB26, rfl, x27, x28, x29, x30⟩ := q24
    show GoW l _ Z _ _ _ _ _ κ _ _ 44 _ [(.ref b2)] 6 12
    refine gw_astore C 46 (Ls' := #[.val (.int p0), .val (.int p1), .val (.int p2), .val (.int p3), .val (.int 0), .val (.int (p1 &&& (65535 : Int32))), .val (.int (p2 &&& (65535 : Int32))), .val (.int (p3 &&& (65535 : Int32))), .val (.ref b2), .unset, .unset, .unset, .unset]) at_44 rfl rfl rfl ?_
    refine gw_aload C 48 at_46 rfl rfl rfl ?_
    refine gw_callSW C hEL (argsL := [(.ref b2)]) (W := 0) at_48 (hq hw 27 rfl) (hq hw 28 rfl) (hq hw 29 rfl) (hq hw 30 rfl) (by decide) pd__Ljava_lang_String__Lcom_example_hook3_hook3_Interceptor_ (ct_named l Z a0 hw am (s := b2)) rfl (by decide) (Nat.le_of_eq rfl) (by decide) rfl (by decide) (by decide) mems0 ?_
    intro v31 h32 K33 q34
    obtain ⟨a35, t36, u37, kt38, ku39, rfl, x40, x41, x42, x43, x44, x45⟩ := q34
    show GoW l _ Z _ _ _ _ _ κ _ _ 51 _ [(.ref a35)] 11 43
    refine gw_astore C 53 (Ls' := #[.val (.int p0), .val (.int p1), .val (.int p2), .val (.int p3), .val (.int 0), .val (.int (p1 &&& (65535 : Int32))), .val (.int (p2 &&& (65535 : Int32))), .val (.int (p3 &&& (65535 : Int32))), .val (.ref b2), .val (.ref a35), .unset, .unset, .unset]) at_51 rfl rfl rfl ?_
    refine gw_aload C 55 at_53 rfl rfl rfl ?_
    refine gw_callV C (a := a35) (argsL := []) (W := 0) at_55 (hq hw 55 rfl) (hq hw 56 rfl) (fun _ hZ => notFace_of_selects (args := #[]) (mvT hZ (hq hw 58 rfl))) (hq hw 58 rfl) (hq hw 57 rfl) x40 (by decide) pd___Ljava_lang_String_ (ct_name l Z a0 hw am (a := a35) (s := b2) x41) rfl (by decide) (Nat.le_of_eq rfl) (by decide) rfl (by decide) (by decide) mems0 ?_
    intro v46 h47 K48 q49
    obtain ⟨rfl, rfl⟩ := q49
    refine ⟨[], fresh0, ?_⟩
    show GoW l _ Z _ _ _ _ _ κ _ _ 58 _ [(.ref b2)] 11 43
    refine gw_astore C 60 (Ls' := #[.val (.int p0), .val (.int p1), .val (.int p2), .val (.int p3), .val (.int 0), .val (.int (p1 &&& (65535 : Int32))), .val (.int (p2 &&& (65535 : Int32))), .val (.int (p3 &&& (65535 : Int32))), .val (.ref b2), .val (.ref a35), .val (.ref b2), .unset, .unset]) at_58 rfl rfl rfl ?_
    refine gw_aload C 62 at_60 rfl rfl rfl ?_
    refine gw_ifnullN C 65 at_62 rfl ?_
    refine gw_aload C 67 at_65 rfl rfl rfl ?_
    have x50 := (x27.keep K33)
    have x51 := (x28.keep K33 nin0)
    have x52 := (x29.keep K33 nin0)
    have x53 := (x30.keep K33 nin0)
    refine gw_callV C (a := b2) (argsL := []) (W := 0) at_67 (hq hw 60 rfl) (hq hw 61 rfl) (fun _ hZ => notFace_of_selects (args := #[]) (mvT hZ (hq hw 63 rfl))) (hq hw 63 rfl) (hq hw 62 rfl) x50 (by decide) pd___I (ct_len0_0 l Z a0 hw am (s := b2) (t := t25) (kB := kB26) (vs := []) x50 x51 x52 x53) rfl (by decide) (Nat.le_of_eq rfl) (by decide) rfl (by decide) (by decide) mems0 ?_
    intro v54 h55 K56 q57
    obtain ⟨rfl, rfl⟩ := q57
    refine ⟨[], fresh0, ?_⟩
    show GoW l _ Z _ _ _ _ _ κ _ _ 70 _ [(.int 0)] 11 43
    refine gw_iload C 72 at_70 rfl rfl ?_
    refine gw_icmpN C 75 at_72 rfl (teq ((by decide) : (0 : Int32) = (0 : Int32))).2 ?_
    refine gw_aload C 77 at_75 rfl rfl rfl ?_
    refine gw_aload C 79 at_77 rfl rfl rfl ?_
    refine gw_callV C (a := b2) (argsL := [(.ref b2)]) (W := 0) at_79 (hq hw 71 rfl) (hq hw 72 rfl) (fun _ hZ => notFace_of_selects (args := #[]) (mvT hZ (hq hw 74 rfl))) (hq hw 74 rfl) (hq hw 73 rfl) x50 (by decide) pd__Ljava_lang_Object__Z (ct_eqs l Z a0 hw am (a := b2)) rfl (by decide) (Nat.le_of_eq rfl) (by decide) rfl (by decide) (by decide) mems0 ?_
    intro v58 h59 K60 q61
    obtain ⟨rfl, rfl⟩ := q61
    refine ⟨[], fresh0, ?_⟩
    show GoW l _ Z _ _ _ _ _ κ _ _ 82 _ [(.int 1)] 11 43
    refine gw_ifN C 85 at_82 rfl (feq ((by decide) : ¬ ((1 : Int32) = (0 : Int32)))).1 ?_
    refine gw_iconst C 86 (1 : Int32) at_85 rfl (by decide) ?_
    refine gw_goto C (pc' := 90) at_86 (by decide) (by decide) ?_
    refine gw_istore C 92 (Ls' := #[.val (.int p0), .val (.int p1), .val (.int p2), .val (.int p3), .val (.int 0), .val (.int (p1 &&& (65535 : Int32))), .val (.int (p2 &&& (65535 : Int32))), .val (.int (p3 &&& (65535 : Int32))), .val (.ref b2), .val (.ref a35), .val (.ref b2), .val (.int 1), .unset]) at_90 rfl rfl ?_
    refine gw_aload C 94 at_92 rfl rfl rfl ?_
    refine gw_getS C 97 at_94 rfl (hq hw 76 rfl) am.2.2.2.2.2.2.2.1 ?_
    refine gw_callV C (a := a35) (argsL := [(.ref g0)]) (W := 0) at_97 (hq hw 79 rfl) (hq hw 80 rfl) (fun _ hZ => notFace_of_selects (args := #[]) (mvT hZ (hq hw 82 rfl))) (hq hw 82 rfl) (hq hw 81 rfl) x40 (by decide) pd__Lcom_example_hook3_hook3_Stage__Z (ct_has0 l Z a0 hw am (a := a35) (t := t36) (u := u37) (kt := kt38) (ku := ku39) x42 x43 x44 x45) rfl (by decide) (Nat.le_of_eq rfl) (by decide) rfl (by decide) (by decide) mems0 ?_
    intro v62 h63 K64 q65
    obtain ⟨rfl, rfl⟩ := q65
    refine ⟨[], fresh0, ?_⟩
    show GoW l _ Z _ _ _ _ _ κ _ _ 100 _ [(.int 0)] 11 43
    refine gw_ifN C 103 at_100 rfl (teq ((by decide) : (0 : Int32) = (0 : Int32))).2 ?_
    refine gw_aload C 105 at_103 rfl rfl rfl ?_
    refine gw_getS C 108 at_105 rfl (hq hw 93 rfl) am.2.2.2.2.2.2.2.2.2.2.1 ?_
    refine gw_callV C (a := a35) (argsL := [(.ref g1)]) (W := 0) at_108 (hq hw 79 rfl) (hq hw 80 rfl) (fun _ hZ => notFace_of_selects (args := #[]) (mvT hZ (hq hw 82 rfl))) (hq hw 82 rfl) (hq hw 81 rfl) x40 (by decide) pd__Lcom_example_hook3_hook3_Stage__Z (ct_has1 l Z a0 hw am (a := a35) (t := t36) (u := u37) (kt := kt38) (ku := ku39) x42 x43 x44 x45) rfl (by decide) (Nat.le_of_eq rfl) (by decide) rfl (by decide) (by decide) mems0 ?_
    intro v66 h67 K68 q69
    obtain ⟨rfl, rfl⟩ := q69
    refine ⟨[], fresh0, ?_⟩
    show GoW l _ Z _ _ _ _ _ κ _ _ 111 _ [(.int 0)] 11 43
    refine gw_ifN C 114 at_111 rfl (teq ((by decide) : (0 : Int32) = (0 : Int32))).2 ?_
    refine gw_aload C 116 at_114 rfl rfl rfl ?_
    refine gw_getS C 119 at_116 rfl (hq hw 95 rfl) am.2.2.2.2.2.2.2.2.2.2.2.2.2.1 ?_
    refine gw_callV C (a := a35) (argsL := [(.ref g2)]) (W := 0) at_119 (hq hw 79 rfl) (hq hw 80 rfl) (fun _ hZ => notFace_of_selects (args := #[]) (mvT hZ (hq hw 82 rfl))) (hq hw 82 rfl) (hq hw 81 rfl) x40 (by decide) pd__Lcom_example_hook3_hook3_Stage__Z (ct_has2 l Z a0 hw am (a := a35) (t := t36) (u := u37) (kt := kt38) (ku := ku39) x42 x43 x44 x45) rfl (by decide) (Nat.le_of_eq rfl) (by decide) rfl (by decide) (by decide) mems0 ?_
    intro v70 h71 K72 q73
    obtain ⟨rfl, rfl⟩ := q73
    refine ⟨[], fresh0, ?_⟩
    show GoW l _ Z _ _ _ _ _ κ _ _ 122 _ [(.int 0)] 11 43
    refine gw_ifN C 125 at_122 rfl (teq ((by decide) : (0 : Int32) = (0 : Int32))).2 ?_
    refine gw_aload C 127 at_125 rfl rfl rfl ?_
    refine gw_getS C 130 at_127 rfl (hq hw 97 rfl) am.2.2.2.2.2.2.2.2.2.2.2.2.2.2.2.2.1 ?_
    refine gw_callV C (a := a35) (argsL := [(.ref g3)]) (W := 0) at_130 (hq hw 79 rfl) (hq hw 80 rfl) (fun _ hZ => notFace_of_selects (args := #[]) (mvT hZ (hq hw 82 rfl))) (hq hw 82 rfl) (hq hw 81 rfl) x40 (by decide) pd__Lcom_example_hook3_hook3_Stage__Z (ct_has3 l Z a0 hw am (a := a35) (t := t36) (u := u37) (kt := kt38) (ku := ku39) x42 x43 x44 x45) rfl (by decide) (Nat.le_of_eq rfl) (by decide) rfl (by decide) (by decide) mems0 ?_
    intro v74 h75 K76 q77
    obtain ⟨rfl, rfl⟩ := q77
    refine ⟨[], fresh0, ?_⟩
    show GoW l _ Z _ _ _ _ _ κ _ _ 133 _ [(.int 0)] 11 43
    refine gw_ifN C 136 at_133 rfl (teq ((by decide) : (0 : Int32) = (0 : Int32))).2 ?_
    refine gw_iconst C 137 (1 : Int32) at_136 rfl (by decide) ?_
    refine gw_goto C (pc' := 141) at_137 (by decide) (by decide) ?_
    refine gw_istore C 143 (Ls' := #[.val (.int p0), .val (.int p1), .val (.int p2), .val (.int p3), .val (.int 0), .val (.int (p1 &&& (65535 : Int32))), .val (.int (p2 &&& (65535 : Int32))), .val (.int (p3 &&& (65535 : Int32))), .val (.ref b2), .val (.ref a35), .val (.ref b2), .val (.int 1), .val (.int 1)]) at_141 rfl rfl ?_
    refine gw_iload C 145 at_143 rfl rfl ?_
    refine gw_ifN C 148 at_145 rfl (feq ((by decide) : ¬ ((1 : Int32) = (0 : Int32)))).1 ?_
    refine gw_iload C 150 at_148 rfl rfl ?_
    refine gw_ifN C 153 at_150 rfl (feq ((by decide) : ¬ ((1 : Int32) = (0 : Int32)))).1 ?_
    refine gw_iconst C 154 (1 : Int32) at_153 rfl (by decide) ?_
    refine gw_goto C (pc' := 158) at_154 (by decide) (by decide) ?_
    refine gw_retN C hEL (t := .boolean) (z := (1 : Int32)) at_158 rfl (by decide) (by decide) (by decide) (by decide) ?_
    exact rfl
  · skip
    refine gw_iand C 3 (1 : Int32) at_2 rfl ec1 ?_
    refine gw_istore C 5 (Ls' := #[.val (.int p0), .val (.int p1), .val (.int p2), .val (.int p3), .val (.int 1), .unset, .unset, .unset, .unset, .unset, .unset, .unset, .unset]) at_3 rfl rfl ?_
    refine gw_iloadN C 6 at_5 rfl rfl ?_
    refine gw_ldcInt C 8 (v := (65535 : Int32)) at_6 rfl (hq hw 0 rfl) ?_
    refine gw_iand C 9 (p1 &&& (65535 : Int32)) at_8 rfl rfl ?_
    refine gw_i2c C 10 (p1 &&& (65535 : Int32)) at_9 rfl (chr_mask _).i2c ?_
    refine gw_istore C 12 (Ls' := #[.val (.int p0), .val (.int p1), .val (.int p2), .val (.int p3), .val (.int 1), .val (.int (p1 &&& (65535 : Int32))), .unset, .unset, .unset, .unset, .unset, .unset, .unset]) at_10 rfl rfl ?_
    refine gw_iloadN C 13 at_12 rfl rfl ?_
    refine gw_ldcInt C 15 (v := (65535 : Int32)) at_13 rfl (hq hw 0 rfl) ?_
    refine gw_iand C 16 (p2 &&& (65535 : Int32)) at_15 rfl rfl ?_
    refine gw_i2c C 17 (p2 &&& (65535 : Int32)) at_16 rfl (chr_mask _).i2c ?_
    refine gw_istore C 19 (Ls' := #[.val (.int p0), .val (.int p1), .val (.int p2), .val (.int p3), .val (.int 1), .val (.int (p1 &&& (65535 : Int32))), .val (.int (p2 &&& (65535 : Int32))), .unset, .unset, .unset, .unset, .unset, .unset]) at_17 rfl rfl ?_
    refine gw_iloadN C 20 at_19 rfl rfl ?_
    refine gw_ldcInt C 22 (v := (65535 : Int32)) at_20 rfl (hq hw 0 rfl) ?_
    refine gw_iand C 23 (p3 &&& (65535 : Int32)) at_22 rfl rfl ?_
    refine gw_i2c C 24 (p3 &&& (65535 : Int32)) at_23 rfl (chr_mask _).i2c ?_
    refine gw_istore C 26 (Ls' := #[.val (.int p0), .val (.int p1), .val (.int p2), .val (.int p3), .val (.int 1), .val (.int (p1 &&& (65535 : Int32))), .val (.int (p2 &&& (65535 : Int32))), .val (.int (p3 &&& (65535 : Int32))), .unset, .unset, .unset, .unset, .unset]) at_24 rfl rfl ?_
    refine gw_new C 29 1 4 at_26 rfl rfl rfl (hq hw 1 rfl) (hq hw 2 rfl) (hq hw 3 rfl) (by decide) (by decide) ?_
    intro b78 h79 g80 E81 A82 D83
    have x84 : Fld Z h79 b78 "java/lang/String" "value" "[B" .null := D83 (Or.inr (hq hw 21 rfl)) (ty := (.array .byte)) (by decide)
    have x85 : Fld Z h79 b78 "java/lang/String" "coder" "B" (.int 0) := D83 (Or.inr (hq hw 22 rfl)) (ty := .byte) (by decide)
    refine gw_dup C 30 at_29 rfl rfl ?_
    refine gw_iload C 32 at_30 rfl rfl ?_
    refine gw_iload C 34 at_32 rfl rfl ?_
    refine gw_iload C 36 at_34 rfl rfl ?_
    refine gw_iload C 38 at_36 rfl rfl ?_
    refine gw_callS C (argsL := [(.int 1), (.int (p1 &&& (65535 : Int32))), (.int (p2 &&& (65535 : Int32))), (.int (p3 &&& (65535 : Int32)))]) (W := 2) at_38 (hq hw 4 rfl) (hq hw 5 rfl) (hq hw 6 rfl) (hq hw 7 rfl) (by decide) pd__ICCC__C (ct_drawn1 l Z a0 hw am (c0 := (p1 &&& (65535 : Int32))) (c1 := (p2 &&& (65535 : Int32))) (c2 := (p3 &&& (65535 : Int32))) (chr_mask _)) rfl (by decide) (Nat.le_of_eq rfl) (by decide) rfl (by decide) (by decide) mems0 ?_
    intro v86 h87 K88 q89
    obtain ⟨t90, kC91, rfl, x92, x93⟩ := q89
    refine ⟨[t90], (freshS ⟨x93, (x92).lt⟩ fresh0), ?_⟩
    show GoW l _ Z _ _ _ _ _ κ [t90, b78] _ 41 _ [(.ref t90), (.ref b78), (.ref b78)] 2 5
    have x94 := (A82.keep K88)
    have x95 := (x84.keep K88 nin0)
    have x96 := (x85.keep K88 nin0)
    refine gw_callI C (a := b78) (argsL := [(.ref t90)]) (W := 1) at_41 rfl (hq hw 9 rfl) (hq hw 10 rfl) (hq hw 11 rfl) (by decide) pd___C_V (ct_str1 l Z a0 hw am (a := b78) (b := t90) (kC := kC91) (c0 := (p1 &&& (65535 : Int32))) x94 x95 x96 x92 (chr_mask _)) rfl (by decide) (Nat.le_of_eq rfl) (by decide) rfl (by decide) (by decide) (memsS (mi 1 rfl) mems0) ?_
    intro v97 h98 K99 q100
    rcases q100 with ⟨t101, kB102, rfl, x103, x104, x105, x106, x107, x108⟩ | ⟨t109, kB110, rfl, x111, x112, x113, x114, x115, x116⟩
    · skip
      refine ⟨[t101], (freshS ⟨x107, (x106).lt⟩ fresh0), ?_⟩
      show GoW l _ Z _ _ _ _ _ κ [t101, t90, b78] _ 44 _ [(.ref b78)] 4 8
      refine gw_astore C 46 (Ls' := #[.val (.int p0), .val (.int p1), .val (.int p2), .val (.int p3), .val (.int 1), .val (.int (p1 &&& (65535 : Int32))), .val (.int (p2 &&& (65535 : Int32))), .val (.int (p3 &&& (65535 : Int32))), .val (.ref b78), .unset, .unset, .unset, .unset]) at_44 rfl rfl rfl ?_
      refine gw_aload C 48 at_46 rfl rfl rfl ?_
      refine gw_callSW C hEL (argsL := [(.ref b78)]) (W := 0) at_48 (hq hw 27 rfl) (hq hw 28 rfl) (hq hw 29 rfl) (hq hw 30 rfl) (by decide) pd__Ljava_lang_String__Lcom_example_hook3_hook3_Interceptor_ (ct_named l Z a0 hw am (s := b78)) rfl (by decide) (Nat.le_of_eq rfl) (by decide) rfl (by decide) (by decide) mems0 ?_
      intro v117 h118 K119 q120
      obtain ⟨a121, t122, u123, kt124, ku125, rfl, x126, x127, x128, x129, x130, x131⟩ := q120
      show GoW l _ Z _ _ _ _ _ κ _ _ 51 _ [(.ref a121)] 9 39
      refine gw_astore C 53 (Ls' := #[.val (.int p0), .val (.int p1), .val (.int p2), .val (.int p3), .val (.int 1), .val (.int (p1 &&& (65535 : Int32))), .val (.int (p2 &&& (65535 : Int32))), .val (.int (p3 &&& (65535 : Int32))), .val (.ref b78), .val (.ref a121), .unset, .unset, .unset]) at_51 rfl rfl rfl ?_
      refine gw_aload C 55 at_53 rfl rfl rfl ?_
      refine gw_callV C (a := a121) (argsL := []) (W := 0) at_55 (hq hw 55 rfl) (hq hw 56 rfl) (fun _ hZ => notFace_of_selects (args := #[]) (mvT hZ (hq hw 58 rfl))) (hq hw 58 rfl) (hq hw 57 rfl) x126 (by decide) pd___Ljava_lang_String_ (ct_name l Z a0 hw am (a := a121) (s := b78) x127) rfl (by decide) (Nat.le_of_eq rfl) (by decide) rfl (by decide) (by decide) mems0 ?_
      intro v132 h133 K134 q135
      obtain ⟨rfl, rfl⟩ := q135
      refine ⟨[], fresh0, ?_⟩
      show GoW l _ Z _ _ _ _ _ κ _ _ 58 _ [(.ref b78)] 9 39
      refine gw_astore C 60 (Ls' := #[.val (.int p0), .val (.int p1), .val (.int p2), .val (.int p3), .val (.int 1), .val (.int (p1 &&& (65535 : Int32))), .val (.int (p2 &&& (65535 : Int32))), .val (.int (p3 &&& (65535 : Int32))), .val (.ref b78), .val (.ref a121), .val (.ref b78), .unset, .unset]) at_58 rfl rfl rfl ?_
      refine gw_aload C 62 at_60 rfl rfl rfl ?_
      refine gw_ifnullN C 65 at_62 rfl ?_
      refine gw_aload C 67 at_65 rfl rfl rfl ?_
      have x136 := (x103.keep K119)
      have x137 := (x104.keep K119 nin0)
      have x138 := (x105.keep K119 nin0)
      have x139 := (x106.keep K119 nin0)
      refine gw_callV C (a := b78) (argsL := []) (W := 0) at_67 (hq hw 60 rfl) (hq hw 61 rfl) (fun _ hZ => notFace_of_selects (args := #[]) (mvT hZ (hq hw 63 rfl))) (hq hw 63 rfl) (hq hw 62 rfl) x136 (by decide) pd___I (ct_len0_1 l Z a0 hw am (s := b78) (t := t101) (kB := kB102) (vs := [(.int (lo8 (p1 &&& (65535 : Int32))))]) x136 x137 x138 x139) rfl (by decide) (Nat.le_of_eq rfl) (by decide) rfl (by decide) (by decide) mems0 ?_
      intro v140 h141 K142 q143
      obtain ⟨rfl, rfl⟩ := q143
      refine ⟨[], fresh0, ?_⟩
      show GoW l _ Z _ _ _ _ _ κ _ _ 70 _ [(.int 1)] 9 39
      refine gw_iload C 72 at_70 rfl rfl ?_
      refine gw_icmpN C 75 at_72 rfl (teq ((by decide) : (1 : Int32) = (1 : Int32))).2 ?_
      refine gw_aload C 77 at_75 rfl rfl rfl ?_
      refine gw_aload C 79 at_77 rfl rfl rfl ?_
      refine gw_callV C (a := b78) (argsL := [(.ref b78)]) (W := 0) at_79 (hq hw 71 rfl) (hq hw 72 rfl) (fun _ hZ => notFace_of_selects (args := #[]) (mvT hZ (hq hw 74 rfl))) (hq hw 74 rfl) (hq hw 73 rfl) x136 (by decide) pd__Ljava_lang_Object__Z (ct_eqs l Z a0 hw am (a := b78)) rfl (by decide) (Nat.le_of_eq rfl) (by decide) rfl (by decide) (by decide) mems0 ?_
      intro v144 h145 K146 q147
      obtain ⟨rfl, rfl⟩ := q147
      refine ⟨[], fresh0, ?_⟩
      show GoW l _ Z _ _ _ _ _ κ _ _ 82 _ [(.int 1)] 9 39
      refine gw_ifN C 85 at_82 rfl (feq ((by decide) : ¬ ((1 : Int32) = (0 : Int32)))).1 ?_
      refine gw_iconst C 86 (1 : Int32) at_85 rfl (by decide) ?_
      refine gw_goto C (pc' := 90) at_86 (by decide) (by decide) ?_
      refine gw_istore C 92 (Ls' := #[.val (.int p0), .val (.int p1), .val (.int p2), .val (.int p3), .val (.int 1), .val (.int (p1 &&& (65535 : Int32))), .val (.int (p2 &&& (65535 : Int32))), .val (.int (p3 &&& (65535 : Int32))), .val (.ref b78), .val (.ref a121), .val (.ref b78), .val (.int 1), .unset]) at_90 rfl rfl ?_
      refine gw_aload C 94 at_92 rfl rfl rfl ?_
      refine gw_getS C 97 at_94 rfl (hq hw 76 rfl) am.2.2.2.2.2.2.2.1 ?_
      refine gw_callV C (a := a121) (argsL := [(.ref g0)]) (W := 0) at_97 (hq hw 79 rfl) (hq hw 80 rfl) (fun _ hZ => notFace_of_selects (args := #[]) (mvT hZ (hq hw 82 rfl))) (hq hw 82 rfl) (hq hw 81 rfl) x126 (by decide) pd__Lcom_example_hook3_hook3_Stage__Z (ct_has0 l Z a0 hw am (a := a121) (t := t122) (u := u123) (kt := kt124) (ku := ku125) x128 x129 x130 x131) rfl (by decide) (Nat.le_of_eq rfl) (by decide) rfl (by decide) (by decide) mems0 ?_
      intro v148 h149 K150 q151
      obtain ⟨rfl, rfl⟩ := q151
      refine ⟨[], fresh0, ?_⟩
      show GoW l _ Z _ _ _ _ _ κ _ _ 100 _ [(.int 0)] 9 39
      refine gw_ifN C 103 at_100 rfl (teq ((by decide) : (0 : Int32) = (0 : Int32))).2 ?_
      refine gw_aload C 105 at_103 rfl rfl rfl ?_
      refine gw_getS C 108 at_105 rfl (hq hw 93 rfl) am.2.2.2.2.2.2.2.2.2.2.1 ?_
      refine gw_callV C (a := a121) (argsL := [(.ref g1)]) (W := 0) at_108 (hq hw 79 rfl) (hq hw 80 rfl) (fun _ hZ => notFace_of_selects (args := #[]) (mvT hZ (hq hw 82 rfl))) (hq hw 82 rfl) (hq hw 81 rfl) x126 (by decide) pd__Lcom_example_hook3_hook3_Stage__Z (ct_has1 l Z a0 hw am (a := a121) (t := t122) (u := u123) (kt := kt124) (ku := ku125) x128 x129 x130 x131) rfl (by decide) (Nat.le_of_eq rfl) (by decide) rfl (by decide) (by decide) mems0 ?_
      intro v152 h153 K154 q155
      obtain ⟨rfl, rfl⟩ := q155
      refine ⟨[], fresh0, ?_⟩
      show GoW l _ Z _ _ _ _ _ κ _ _ 111 _ [(.int 0)] 9 39
      refine gw_ifN C 114 at_111 rfl (teq ((by decide) : (0 : Int32) = (0 : Int32))).2 ?_
      refine gw_aload C 116 at_114 rfl rfl rfl ?_
      refine gw_getS C 119 at_116 rfl (hq hw 95 rfl) am.2.2.2.2.2.2.2.2.2.2.2.2.2.1 ?_
      refine gw_callV C (a := a121) (argsL := [(.ref g2)]) (W := 0) at_119 (hq hw 79 rfl) (hq hw 80 rfl) (fun _ hZ => notFace_of_selects (args := #[]) (mvT hZ (hq hw 82 rfl))) (hq hw 82 rfl) (hq hw 81 rfl) x126 (by decide) pd__Lcom_example_hook3_hook3_Stage__Z (ct_has2 l Z a0 hw am (a := a121) (t := t122) (u := u123) (kt := kt124) (ku := ku125) x128 x129 x130 x131) rfl (by decide) (Nat.le_of_eq rfl) (by decide) rfl (by decide) (by decide) mems0 ?_
      intro v156 h157 K158 q159
      obtain ⟨rfl, rfl⟩ := q159
      refine ⟨[], fresh0, ?_⟩
      show GoW l _ Z _ _ _ _ _ κ _ _ 122 _ [(.int 0)] 9 39
      refine gw_ifN C 125 at_122 rfl (teq ((by decide) : (0 : Int32) = (0 : Int32))).2 ?_
      refine gw_aload C 127 at_125 rfl rfl rfl ?_
      refine gw_getS C 130 at_127 rfl (hq hw 97 rfl) am.2.2.2.2.2.2.2.2.2.2.2.2.2.2.2.2.1 ?_
      refine gw_callV C (a := a121) (argsL := [(.ref g3)]) (W := 0) at_130 (hq hw 79 rfl) (hq hw 80 rfl) (fun _ hZ => notFace_of_selects (args := #[]) (mvT hZ (hq hw 82 rfl))) (hq hw 82 rfl) (hq hw 81 rfl) x126 (by decide) pd__Lcom_example_hook3_hook3_Stage__Z (ct_has3 l Z a0 hw am (a := a121) (t := t122) (u := u123) (kt := kt124) (ku := ku125) x128 x129 x130 x131) rfl (by decide) (Nat.le_of_eq rfl) (by decide) rfl (by decide) (by decide) mems0 ?_
      intro v160 h161 K162 q163
      obtain ⟨rfl, rfl⟩ := q163
      refine ⟨[], fresh0, ?_⟩
      show GoW l _ Z _ _ _ _ _ κ _ _ 133 _ [(.int 0)] 9 39
      refine gw_ifN C 136 at_133 rfl (teq ((by decide) : (0 : Int32) = (0 : Int32))).2 ?_
      refine gw_iconst C 137 (1 : Int32) at_136 rfl (by decide) ?_
      refine gw_goto C (pc' := 141) at_137 (by decide) (by decide) ?_
      refine gw_istore C 143 (Ls' := #[.val (.int p0), .val (.int p1), .val (.int p2), .val (.int p3), .val (.int 1), .val (.int (p1 &&& (65535 : Int32))), .val (.int (p2 &&& (65535 : Int32))), .val (.int (p3 &&& (65535 : Int32))), .val (.ref b78), .val (.ref a121), .val (.ref b78), .val (.int 1), .val (.int 1)]) at_141 rfl rfl ?_
      refine gw_iload C 145 at_143 rfl rfl ?_
      refine gw_ifN C 148 at_145 rfl (feq ((by decide) : ¬ ((1 : Int32) = (0 : Int32)))).1 ?_
      refine gw_iload C 150 at_148 rfl rfl ?_
      refine gw_ifN C 153 at_150 rfl (feq ((by decide) : ¬ ((1 : Int32) = (0 : Int32)))).1 ?_
      refine gw_iconst C 154 (1 : Int32) at_153 rfl (by decide) ?_
      refine gw_goto C (pc' := 158) at_154 (by decide) (by decide) ?_
      refine gw_retN C hEL (t := .boolean) (z := (1 : Int32)) at_158 rfl (by decide) (by decide) (by decide) (by decide) ?_
      exact rfl
    · skip
      refine ⟨[t109], (freshS ⟨x115, (x114).lt⟩ fresh0), ?_⟩
      show GoW l _ Z _ _ _ _ _ κ [t109, t90, b78] _ 44 _ [(.ref b78)] 4 8
      refine gw_astore C 46 (Ls' := #[.val (.int p0), .val (.int p1), .val (.int p2), .val (.int p3), .val (.int 1), .val (.int (p1 &&& (65535 : Int32))), .val (.int (p2 &&& (65535 : Int32))), .val (.int (p3 &&& (65535 : Int32))), .val (.ref b78), .unset, .unset, .unset, .unset]) at_44 rfl rfl rfl ?_
      refine gw_aload C 48 at_46 rfl rfl rfl ?_
      refine gw_callSW C hEL (argsL := [(.ref b78)]) (W := 0) at_48 (hq hw 27 rfl) (hq hw 28 rfl) (hq hw 29 rfl) (hq hw 30 rfl) (by decide) pd__Ljava_lang_String__Lcom_example_hook3_hook3_Interceptor_ (ct_named l Z a0 hw am (s := b78)) rfl (by decide) (Nat.le_of_eq rfl) (by decide) rfl (by decide) (by decide) mems0 ?_
      intro v164 h165 K166 q167
      obtain ⟨a168, t169, u170, kt171, ku172, rfl, x173, x174, x175, x176, x177, x178⟩ := q167
      show GoW l _ Z _ _ _ _ _ κ _ _ 51 _ [(.ref a168)] 9 39
      refine gw_astore C 53 (Ls' := #[.val (.int p0), .val (.int p1), .val (.int p2), .val (.int p3), .val (.int 1), .val (.int (p1 &&& (65535 : Int32))), .val (.int (p2 &&& (65535 : Int32))), .val (.int (p3 &&& (65535 : Int32))), .val (.ref b78), .val (.ref a168), .unset, .unset, .unset]) at_51 rfl rfl rfl ?_
      refine gw_aload C 55 at_53 rfl rfl rfl ?_
      refine gw_callV C (a := a168) (argsL := []) (W := 0) at_55 (hq hw 55 rfl) (hq hw 56 rfl) (fun _ hZ => notFace_of_selects (args := #[]) (mvT hZ (hq hw 58 rfl))) (hq hw 58 rfl) (hq hw 57 rfl) x173 (by decide) pd___Ljava_lang_String_ (ct_name l Z a0 hw am (a := a168) (s := b78) x174) rfl (by decide) (Nat.le_of_eq rfl) (by decide) rfl (by decide) (by decide) mems0 ?_
      intro v179 h180 K181 q182
      obtain ⟨rfl, rfl⟩ := q182
      refine ⟨[], fresh0, ?_⟩
      show GoW l _ Z _ _ _ _ _ κ _ _ 58 _ [(.ref b78)] 9 39
      refine gw_astore C 60 (Ls' := #[.val (.int p0), .val (.int p1), .val (.int p2), .val (.int p3), .val (.int 1), .val (.int (p1 &&& (65535 : Int32))), .val (.int (p2 &&& (65535 : Int32))), .val (.int (p3 &&& (65535 : Int32))), .val (.ref b78), .val (.ref a168), .val (.ref b78), .unset, .unset]) at_58 rfl rfl rfl ?_
      refine gw_aload C 62 at_60 rfl rfl rfl ?_
      refine gw_ifnullN C 65 at_62 rfl ?_
      refine gw_aload C 67 at_65 rfl rfl rfl ?_
      have x183 := (x111.keep K166)
      have x184 := (x112.keep K166 nin0)
      have x185 := (x113.keep K166 nin0)
      have x186 := (x114.keep K166 nin0)
      refine gw_callV C (a := b78) (argsL := []) (W := 0) at_67 (hq hw 60 rfl) (hq hw 61 rfl) (fun _ hZ => notFace_of_selects (args := #[]) (mvT hZ (hq hw 63 rfl))) (hq hw 63 rfl) (hq hw 62 rfl) x183 (by decide) pd___I (ct_len1_1 l Z a0 hw am (s := b78) (t := t109) (kB := kB110) (vs := [(.int (lo8 (p1 &&& (65535 : Int32)))), (.int (hi8 (p1 &&& (65535 : Int32))))]) x183 x184 x185 x186) rfl (by decide) (Nat.le_of_eq rfl) (by decide) rfl (by decide) (by decide) mems0 ?_
      intro v187 h188 K189 q190
      obtain ⟨rfl, rfl⟩ := q190
      refine ⟨[], fresh0, ?_⟩
      show GoW l _ Z _ _ _ _ _ κ _ _ 70 _ [(.int 1)] 9 39
      refine gw_iload C 72 at_70 rfl rfl ?_
      refine gw_icmpN C 75 at_72 rfl (teq ((by decide) : (1 : Int32) = (1 : Int32))).2 ?_
      refine gw_aload C 77 at_75 rfl rfl rfl ?_
      refine gw_aload C 79 at_77 rfl rfl rfl ?_
      refine gw_callV C (a := b78) (argsL := [(.ref b78)]) (W := 0) at_79 (hq hw 71 rfl) (hq hw 72 rfl) (fun _ hZ => notFace_of_selects (args := #[]) (mvT hZ (hq hw 74 rfl))) (hq hw 74 rfl) (hq hw 73 rfl) x183 (by decide) pd__Ljava_lang_Object__Z (ct_eqs l Z a0 hw am (a := b78)) rfl (by decide) (Nat.le_of_eq rfl) (by decide) rfl (by decide) (by decide) mems0 ?_
      intro v191 h192 K193 q194
      obtain ⟨rfl, rfl⟩ := q194
      refine ⟨[], fresh0, ?_⟩
      show GoW l _ Z _ _ _ _ _ κ _ _ 82 _ [(.int 1)] 9 39
      refine gw_ifN C 85 at_82 rfl (feq ((by decide) : ¬ ((1 : Int32) = (0 : Int32)))).1 ?_
      refine gw_iconst C 86 (1 : Int32) at_85 rfl (by decide) ?_
      refine gw_goto C (pc' := 90) at_86 (by decide) (by decide) ?_
      refine gw_istore C 92 (Ls' := #[.val (.int p0), .val (.int p1), .val (.int p2), .val (.int p3), .val (.int 1), .val (.int (p1 &&& (65535 : Int32))), .val (.int (p2 &&& (65535 : Int32))), .val (.int (p3 &&& (65535 : Int32))), .val (.ref b78), .val (.ref a168), .val (.ref b78), .val (.int 1), .unset]) at_90 rfl rfl ?_
      refine gw_aload C 94 at_92 rfl rfl rfl ?_
      refine gw_getS C 97 at_94 rfl (hq hw 76 rfl) am.2.2.2.2.2.2.2.1 ?_
      refine gw_callV C (a := a168) (argsL := [(.ref g0)]) (W := 0) at_97 (hq hw 79 rfl) (hq hw 80 rfl) (fun _ hZ => notFace_of_selects (args := #[]) (mvT hZ (hq hw 82 rfl))) (hq hw 82 rfl) (hq hw 81 rfl) x173 (by decide) pd__Lcom_example_hook3_hook3_Stage__Z (ct_has0 l Z a0 hw am (a := a168) (t := t169) (u := u170) (kt := kt171) (ku := ku172) x175 x176 x177 x178) rfl (by decide) (Nat.le_of_eq rfl) (by decide) rfl (by decide) (by decide) mems0 ?_
      intro v195 h196 K197 q198
      obtain ⟨rfl, rfl⟩ := q198
      refine ⟨[], fresh0, ?_⟩
      show GoW l _ Z _ _ _ _ _ κ _ _ 100 _ [(.int 0)] 9 39
      refine gw_ifN C 103 at_100 rfl (teq ((by decide) : (0 : Int32) = (0 : Int32))).2 ?_
      refine gw_aload C 105 at_103 rfl rfl rfl ?_
      refine gw_getS C 108 at_105 rfl (hq hw 93 rfl) am.2.2.2.2.2.2.2.2.2.2.1 ?_
      refine gw_callV C (a := a168) (argsL := [(.ref g1)]) (W := 0) at_108 (hq hw 79 rfl) (hq hw 80 rfl) (fun _ hZ => notFace_of_selects (args := #[]) (mvT hZ (hq hw 82 rfl))) (hq hw 82 rfl) (hq hw 81 rfl) x173 (by decide) pd__Lcom_example_hook3_hook3_Stage__Z (ct_has1 l Z a0 hw am (a := a168) (t := t169) (u := u170) (kt := kt171) (ku := ku172) x175 x176 x177 x178) rfl (by decide) (Nat.le_of_eq rfl) (by decide) rfl (by decide) (by decide) mems0 ?_
      intro v199 h200 K201 q202
      obtain ⟨rfl, rfl⟩ := q202
      refine ⟨[], fresh0, ?_⟩
      show GoW l _ Z _ _ _ _ _ κ _ _ 111 _ [(.int 0)] 9 39
      refine gw_ifN C 114 at_111 rfl (teq ((by decide) : (0 : Int32) = (0 : Int32))).2 ?_
      refine gw_aload C 116 at_114 rfl rfl rfl ?_
      refine gw_getS C 119 at_116 rfl (hq hw 95 rfl) am.2.2.2.2.2.2.2.2.2.2.2.2.2.1 ?_
      refine gw_callV C (a := a168) (argsL := [(.ref g2)]) (W := 0) at_119 (hq hw 79 rfl) (hq hw 80 rfl) (fun _ hZ => notFace_of_selects (args := #[]) (mvT hZ (hq hw 82 rfl))) (hq hw 82 rfl) (hq hw 81 rfl) x173 (by decide) pd__Lcom_example_hook3_hook3_Stage__Z (ct_has2 l Z a0 hw am (a := a168) (t := t169) (u := u170) (kt := kt171) (ku := ku172) x175 x176 x177 x178) rfl (by decide) (Nat.le_of_eq rfl) (by decide) rfl (by decide) (by decide) mems0 ?_
      intro v203 h204 K205 q206
      obtain ⟨rfl, rfl⟩ := q206
      refine ⟨[], fresh0, ?_⟩
      show GoW l _ Z _ _ _ _ _ κ _ _ 122 _ [(.int 0)] 9 39
      refine gw_ifN C 125 at_122 rfl (teq ((by decide) : (0 : Int32) = (0 : Int32))).2 ?_
      refine gw_aload C 127 at_125 rfl rfl rfl ?_
      refine gw_getS C 130 at_127 rfl (hq hw 97 rfl) am.2.2.2.2.2.2.2.2.2.2.2.2.2.2.2.2.1 ?_
      refine gw_callV C (a := a168) (argsL := [(.ref g3)]) (W := 0) at_130 (hq hw 79 rfl) (hq hw 80 rfl) (fun _ hZ => notFace_of_selects (args := #[]) (mvT hZ (hq hw 82 rfl))) (hq hw 82 rfl) (hq hw 81 rfl) x173 (by decide) pd__Lcom_example_hook3_hook3_Stage__Z (ct_has3 l Z a0 hw am (a := a168) (t := t169) (u := u170) (kt := kt171) (ku := ku172) x175 x176 x177 x178) rfl (by decide) (Nat.le_of_eq rfl) (by decide) rfl (by decide) (by decide) mems0 ?_
      intro v207 h208 K209 q210
      obtain ⟨rfl, rfl⟩ := q210
      refine ⟨[], fresh0, ?_⟩
      show GoW l _ Z _ _ _ _ _ κ _ _ 133 _ [(.int 0)] 9 39
      refine gw_ifN C 136 at_133 rfl (teq ((by decide) : (0 : Int32) = (0 : Int32))).2 ?_
      refine gw_iconst C 137 (1 : Int32) at_136 rfl (by decide) ?_
      refine gw_goto C (pc' := 141) at_137 (by decide) (by decide) ?_
      refine gw_istore C 143 (Ls' := #[.val (.int p0), .val (.int p1), .val (.int p2), .val (.int p3), .val (.int 1), .val (.int (p1 &&& (65535 : Int32))), .val (.int (p2 &&& (65535 : Int32))), .val (.int (p3 &&& (65535 : Int32))), .val (.ref b78), .val (.ref a168), .val (.ref b78), .val (.int 1), .val (.int 1)]) at_141 rfl rfl ?_
      refine gw_iload C 145 at_143 rfl rfl ?_
      refine gw_ifN C 148 at_145 rfl (feq ((by decide) : ¬ ((1 : Int32) = (0 : Int32)))).1 ?_
      refine gw_iload C 150 at_148 rfl rfl ?_
      refine gw_ifN C 153 at_150 rfl (feq ((by decide) : ¬ ((1 : Int32) = (0 : Int32)))).1 ?_
      refine gw_iconst C 154 (1 : Int32) at_153 rfl (by decide) ?_
      refine gw_goto C (pc' := 158) at_154 (by decide) (by decide) ?_
      refine gw_retN C hEL (t := .boolean) (z := (1 : Int32)) at_158 rfl (by decide) (by decide) (by decide) (by decide) ?_
      exact rfl
  · skip
    refine gw_iand C 3 (2 : Int32) at_2 rfl ec1 ?_
    refine gw_istore C 5 (Ls' := #[.val (.int p0), .val (.int p1), .val (.int p2), .val (.int p3), .val (.int 2), .unset, .unset, .unset, .unset, .unset, .unset, .unset, .unset]) at_3 rfl rfl ?_
    refine gw_iloadN C 6 at_5 rfl rfl ?_
    refine gw_ldcInt C 8 (v := (65535 : Int32)) at_6 rfl (hq hw 0 rfl) ?_
    refine gw_iand C 9 (p1 &&& (65535 : Int32)) at_8 rfl rfl ?_
    refine gw_i2c C 10 (p1 &&& (65535 : Int32)) at_9 rfl (chr_mask _).i2c ?_
    refine gw_istore C 12 (Ls' := #[.val (.int p0), .val (.int p1), .val (.int p2), .val (.int p3), .val (.int 2), .val (.int (p1 &&& (65535 : Int32))), .unset, .unset, .unset, .unset, .unset, .unset, .unset]) at_10 rfl rfl ?_
    refine gw_iloadN C 13 at_12 rfl rfl ?_
    refine gw_ldcInt C 15 (v := (65535 : Int32)) at_13 rfl (hq hw 0 rfl) ?_
    refine gw_iand C 16 (p2 &&& (65535 : Int32)) at_15 rfl rfl ?_
    refine gw_i2c C 17 (p2 &&& (65535 : Int32)) at_16 rfl (chr_mask _).i2c ?_
    refine gw_istore C 19 (Ls' := #[.val (.int p0), .val (.int p1), .val (.int p2), .val (.int p3), .val (.int 2), .val (.int (p1 &&& (65535 : Int32))), .val (.int (p2 &&& (65535 : Int32))), .unset, .unset, .unset, .unset, .unset, .unset]) at_17 rfl rfl ?_
    refine gw_iloadN C 20 at_19 rfl rfl ?_
    refine gw_ldcInt C 22 (v := (65535 : Int32)) at_20 rfl (hq hw 0 rfl) ?_
    refine gw_iand C 23 (p3 &&& (65535 : Int32)) at_22 rfl rfl ?_
    refine gw_i2c C 24 (p3 &&& (65535 : Int32)) at_23 rfl (chr_mask _).i2c ?_
    refine gw_istore C 26 (Ls' := #[.val (.int p0), .val (.int p1), .val (.int p2), .val (.int p3), .val (.int 2), .val (.int (p1 &&& (65535 : Int32))), .val (.int (p2 &&& (65535 : Int32))), .val (.int (p3 &&& (65535 : Int32))), .unset, .unset, .unset, .unset, .unset]) at_24 rfl rfl ?_
    refine gw_new C 29 1 4 at_26 rfl rfl rfl (hq hw 1 rfl) (hq hw 2 rfl) (hq hw 3 rfl) (by decide) (by decide) ?_
    intro b211 h212 g213 E214 A215 D216
    have x217 : Fld Z h212 b211 "java/lang/String" "value" "[B" .null := D216 (Or.inr (hq hw 21 rfl)) (ty := (.array .byte)) (by decide)
    have x218 : Fld Z h212 b211 "java/lang/String" "coder" "B" (.int 0) := D216 (Or.inr (hq hw 22 rfl)) (ty := .byte) (by decide)
    refine gw_dup C 30 at_29 rfl rfl ?_
    refine gw_iload C 32 at_30 rfl rfl ?_
    refine gw_iload C 34 at_32 rfl rfl ?_
    refine gw_iload C 36 at_34 rfl rfl ?_
    refine gw_iload C 38 at_36 rfl rfl ?_
    refine gw_callS C (argsL := [(.int 2), (.int (p1 &&& (65535 : Int32))), (.int (p2 &&& (65535 : Int32))), (.int (p3 &&& (65535 : Int32)))]) (W := 2) at_38 (hq hw 4 rfl) (hq hw 5 rfl) (hq hw 6 rfl) (hq hw 7 rfl) (by decide) pd__ICCC__C (ct_drawn2 l Z a0 hw am (c0 := (p1 &&& (65535 : Int32))) (c1 := (p2 &&& (65535 : Int32))) (c2 := (p3 &&& (65535 : Int32))) (chr_mask _) (chr_mask _)) rfl (by decide) (Nat.le_of_eq rfl) (by decide) rfl (by decide) (by decide) mems0 ?_
    intro v219 h220 K221 q222
    obtain ⟨t223, kC224, rfl, x225, x226⟩ := q222
    refine ⟨[t223], (freshS ⟨x226, (x225).lt⟩ fresh0), ?_⟩
    show GoW l _ Z _ _ _ _ _ κ [t223, b211] _ 41 _ [(.ref t223), (.ref b211), (.ref b211)] 2 6
    have x227 := (A215.keep K221)
    have x228 := (x217.keep K221 nin0)
    have x229 := (x218.keep K221 nin0)
    refine gw_callI C (a := b211) (argsL := [(.ref t223)]) (W := 1) at_41 rfl (hq hw 9 rfl) (hq hw 10 rfl) (hq hw 11 rfl) (by decide) pd___C_V (ct_str2 l Z a0 hw am (a := b211) (b := t223) (kC := kC224) (c0 := (p1 &&& (65535 : Int32))) (c1 := (p2 &&& (65535 : Int32))) x227 x228 x229 x225 (chr_mask _) (chr_mask _)) rfl (by decide) (Nat.le_of_eq rfl) (by decide) rfl (by decide) (by decide) (memsS (mi 1 rfl) mems0) ?_
    intro v230 h231 K232 q233
    rcases q233 with ⟨t234, kB235, rfl, x236, x237, x238, x239, x240, x241, x242⟩ | ⟨t243, kB244, rfl, x245, x246, x247, x248, x249, x250⟩
    · skip
      refine ⟨[t234], (freshS ⟨x240, (x239).lt⟩ fresh0), ?_⟩
      show GoW l _ Z _ _ _ _ _ κ [t234, t223, b211] _ 44 _ [(.ref b211)] 4 12
      refine gw_astore C 46 (Ls' := #[.val (.int p0), .val (.int p1), .val (.int p2), .val (.int p3), .val (.int 2), .val (.int (p1 &&& (65535 : Int32))), .val (.int (p2 &&& (65535 : Int32))), .val (.int (p3 &&& (65535 : Int32))), .val (.ref b211), .unset, .unset, .unset, .unset]) at_44 rfl rfl rfl ?_
      refine gw_aload C 48 at_46 rfl rfl rfl ?_
      refine gw_callSW C hEL (argsL := [(.ref b211)]) (W := 0) at_48 (hq hw 27 rfl) (hq hw 28 rfl) (hq hw 29 rfl) (hq hw 30 rfl) (by decide) pd__Ljava_lang_String__Lcom_example_hook3_hook3_Interceptor_ (ct_named l Z a0 hw am (s := b211)) rfl (by decide) (Nat.le_of_eq rfl) (by decide) rfl (by decide) (by decide) mems0 ?_
      intro v251 h252 K253 q254
      obtain ⟨a255, t256, u257, kt258, ku259, rfl, x260, x261, x262, x263, x264, x265⟩ := q254
      show GoW l _ Z _ _ _ _ _ κ _ _ 51 _ [(.ref a255)] 9 43
      refine gw_astore C 53 (Ls' := #[.val (.int p0), .val (.int p1), .val (.int p2), .val (.int p3), .val (.int 2), .val (.int (p1 &&& (65535 : Int32))), .val (.int (p2 &&& (65535 : Int32))), .val (.int (p3 &&& (65535 : Int32))), .val (.ref b211), .val (.ref a255), .unset, .unset, .unset]) at_51 rfl rfl rfl ?_
      refine gw_aload C 55 at_53 rfl rfl rfl ?_
      refine gw_callV C (a := a255) (argsL := []) (W := 0) at_55 (hq hw 55 rfl) (hq hw 56 rfl) (fun _ hZ => notFace_of_selects (args := #[]) (mvT hZ (hq hw 58 rfl))) (hq hw 58 rfl) (hq hw 57 rfl) x260 (by decide) pd___Ljava_lang_String_ (ct_name l Z a0 hw am (a := a255) (s := b211) x261) rfl (by decide) (Nat.le_of_eq rfl) (by decide) rfl (by decide) (by decide) mems0 ?_
      intro v266 h267 K268 q269
      obtain ⟨rfl, rfl⟩ := q269
      refine ⟨[], fresh0, ?_⟩
      show GoW l _ Z _ _ _ _ _ κ _ _ 58 _ [(.ref b211)] 9 43
      refine gw_astore C 60 (Ls' := #[.val (.int p0), .val (.int p1), .val (.int p2), .val (.int p3), .val (.int 2), .val (.int (p1 &&& (65535 : Int32))), .val (.int (p2 &&& (65535 : Int32))), .val (.int (p3 &&& (65535 : Int32))), .val (.ref b211), .val (.ref a255), .val (.ref b211), .unset, .unset]) at_58 rfl rfl rfl ?_
      refine gw_aload C 62 at_60 rfl rfl rfl ?_
      refine gw_ifnullN C 65 at_62 rfl ?_
      refine gw_aload C 67 at_65 rfl rfl rfl ?_
      have x270 := (x236.keep K253)
      have x271 := (x237.keep K253 nin0)
      have x272 := (x238.keep K253 nin0)
      have x273 := (x239.keep K253 nin0)
      refine gw_callV C (a := b211) (argsL := []) (W := 0) at_67 (hq hw 60 rfl) (hq hw 61 rfl) (fun _ hZ => notFace_of_selects (args := #[]) (mvT hZ (hq hw 63 rfl))) (hq hw 63 rfl) (hq hw 62 rfl) x270 (by decide) pd___I (ct_len0_2 l Z a0 hw am (s := b211) (t := t234) (kB := kB235) (vs := [(.int (lo8 (p1 &&& (65535 : Int32)))), (.int (lo8 (p2 &&& (65535 : Int32))))]) x270 x271 x272 x273) rfl (by decide) (Nat.le_of_eq rfl) (by decide) rfl (by decide) (by decide) mems0 ?_
      intro v274 h275 K276 q277
      obtain ⟨rfl, rfl⟩ := q277
      refine ⟨[], fresh0, ?_⟩
      show GoW l _ Z _ _ _ _ _ κ _ _ 70 _ [(.int 2)] 9 43
      refine gw_iload C 72 at_70 rfl rfl ?_
      refine gw_icmpN C 75 at_72 rfl (teq ((by decide) : (2 : Int32) = (2 : Int32))).2 ?_
      refine gw_aload C 77 at_75 rfl rfl rfl ?_
      refine gw_aload C 79 at_77 rfl rfl rfl ?_
      refine gw_callV C (a := b211) (argsL := [(.ref b211)]) (W := 0) at_79 (hq hw 71 rfl) (hq hw 72 rfl) (fun _ hZ => notFace_of_selects (args := #[]) (mvT hZ (hq hw 74 rfl))) (hq hw 74 rfl) (hq hw 73 rfl) x270 (by decide) pd__Ljava_lang_Object__Z (ct_eqs l Z a0 hw am (a := b211)) rfl (by decide) (Nat.le_of_eq rfl) (by decide) rfl (by decide) (by decide) mems0 ?_
      intro v278 h279 K280 q281
      obtain ⟨rfl, rfl⟩ := q281
      refine ⟨[], fresh0, ?_⟩
      show GoW l _ Z _ _ _ _ _ κ _ _ 82 _ [(.int 1)] 9 43
      refine gw_ifN C 85 at_82 rfl (feq ((by decide) : ¬ ((1 : Int32) = (0 : Int32)))).1 ?_
      refine gw_iconst C 86 (1 : Int32) at_85 rfl (by decide) ?_
      refine gw_goto C (pc' := 90) at_86 (by decide) (by decide) ?_
      refine gw_istore C 92 (Ls' := #[.val (.int p0), .val (.int p1), .val (.int p2), .val (.int p3), .val (.int 2), .val (.int (p1 &&& (65535 : Int32))), .val (.int (p2 &&& (65535 : Int32))), .val (.int (p3 &&& (65535 : Int32))), .val (.ref b211), .val (.ref a255), .val (.ref b211), .val (.int 1), .unset]) at_90 rfl rfl ?_
      refine gw_aload C 94 at_92 rfl rfl rfl ?_
      refine gw_getS C 97 at_94 rfl (hq hw 76 rfl) am.2.2.2.2.2.2.2.1 ?_
      refine gw_callV C (a := a255) (argsL := [(.ref g0)]) (W := 0) at_97 (hq hw 79 rfl) (hq hw 80 rfl) (fun _ hZ => notFace_of_selects (args := #[]) (mvT hZ (hq hw 82 rfl))) (hq hw 82 rfl) (hq hw 81 rfl) x260 (by decide) pd__Lcom_example_hook3_hook3_Stage__Z (ct_has0 l Z a0 hw am (a := a255) (t := t256) (u := u257) (kt := kt258) (ku := ku259) x262 x263 x264 x265) rfl (by decide) (Nat.le_of_eq rfl) (by decide) rfl (by decide) (by decide) mems0 ?_
      intro v282 h283 K284 q285
      obtain ⟨rfl, rfl⟩ := q285
      refine ⟨[], fresh0, ?_⟩
      show GoW l _ Z _ _ _ _ _ κ _ _ 100 _ [(.int 0)] 9 43
      refine gw_ifN C 103 at_100 rfl (teq ((by decide) : (0 : Int32) = (0 : Int32))).2 ?_
      refine gw_aload C 105 at_103 rfl rfl rfl ?_
      refine gw_getS C 108 at_105 rfl (hq hw 93 rfl) am.2.2.2.2.2.2.2.2.2.2.1 ?_
      refine gw_callV C (a := a255) (argsL := [(.ref g1)]) (W := 0) at_108 (hq hw 79 rfl) (hq hw 80 rfl) (fun _ hZ => notFace_of_selects (args := #[]) (mvT hZ (hq hw 82 rfl))) (hq hw 82 rfl) (hq hw 81 rfl) x260 (by decide) pd__Lcom_example_hook3_hook3_Stage__Z (ct_has1 l Z a0 hw am (a := a255) (t := t256) (u := u257) (kt := kt258) (ku := ku259) x262 x263 x264 x265) rfl (by decide) (Nat.le_of_eq rfl) (by decide) rfl (by decide) (by decide) mems0 ?_
      intro v286 h287 K288 q289
      obtain ⟨rfl, rfl⟩ := q289
      refine ⟨[], fresh0, ?_⟩
      show GoW l _ Z _ _ _ _ _ κ _ _ 111 _ [(.int 0)] 9 43
      refine gw_ifN C 114 at_111 rfl (teq ((by decide) : (0 : Int32) = (0 : Int32))).2 ?_
      refine gw_aload C 116 at_114 rfl rfl rfl ?_
      refine gw_getS C 119 at_116 rfl (hq hw 95 rfl) am.2.2.2.2.2.2.2.2.2.2.2.2.2.1 ?_
      refine gw_callV C (a := a255) (argsL := [(.ref g2)]) (W := 0) at_119 (hq hw 79 rfl) (hq hw 80 rfl) (fun _ hZ => notFace_of_selects (args := #[]) (mvT hZ (hq hw 82 rfl))) (hq hw 82 rfl) (hq hw 81 rfl) x260 (by decide) pd__Lcom_example_hook3_hook3_Stage__Z (ct_has2 l Z a0 hw am (a := a255) (t := t256) (u := u257) (kt := kt258) (ku := ku259) x262 x263 x264 x265) rfl (by decide) (Nat.le_of_eq rfl) (by decide) rfl (by decide) (by decide) mems0 ?_
      intro v290 h291 K292 q293
      obtain ⟨rfl, rfl⟩ := q293
      refine ⟨[], fresh0, ?_⟩
      show GoW l _ Z _ _ _ _ _ κ _ _ 122 _ [(.int 0)] 9 43
      refine gw_ifN C 125 at_122 rfl (teq ((by decide) : (0 : Int32) = (0 : Int32))).2 ?_
      refine gw_aload C 127 at_125 rfl rfl rfl ?_
      refine gw_getS C 130 at_127 rfl (hq hw 97 rfl) am.2.2.2.2.2.2.2.2.2.2.2.2.2.2.2.2.1 ?_
      refine gw_callV C (a := a255) (argsL := [(.ref g3)]) (W := 0) at_130 (hq hw 79 rfl) (hq hw 80 rfl) (fun _ hZ => notFace_of_selects (args := #[]) (mvT hZ (hq hw 82 rfl))) (hq hw 82 rfl) (hq hw 81 rfl) x260 (by decide) pd__Lcom_example_hook3_hook3_Stage__Z (ct_has3 l Z a0 hw am (a := a255) (t := t256) (u := u257) (kt := kt258) (ku := ku259) x262 x263 x264 x265) rfl (by decide) (Nat.le_of_eq rfl) (by decide) rfl (by decide) (by decide) mems0 ?_
      intro v294 h295 K296 q297
      obtain ⟨rfl, rfl⟩ := q297
      refine ⟨[], fresh0, ?_⟩
      show GoW l _ Z _ _ _ _ _ κ _ _ 133 _ [(.int 0)] 9 43
      refine gw_ifN C 136 at_133 rfl (teq ((by decide) : (0 : Int32) = (0 : Int32))).2 ?_
      refine gw_iconst C 137 (1 : Int32) at_136 rfl (by decide) ?_
      refine gw_goto C (pc' := 141) at_137 (by decide) (by decide) ?_
      refine gw_istore C 143 (Ls' := #[.val (.int p0), .val (.int p1), .val (.int p2), .val (.int p3), .val (.int 2), .val (.int (p1 &&& (65535 : Int32))), .val (.int (p2 &&& (65535 : Int32))), .val (.int (p3 &&& (65535 : Int32))), .val (.ref b211), .val (.ref a255), .val (.ref b211), .val (.int 1), .val (.int 1)]) at_141 rfl rfl ?_
      refine gw_iload C 145 at_143 rfl rfl ?_
      refine gw_ifN C 148 at_145 rfl (feq ((by decide) : ¬ ((1 : Int32) = (0 : Int32)))).1 ?_
      refine gw_iload C 150 at_148 rfl rfl ?_
      refine gw_ifN C 153 at_150 rfl (feq ((by decide) : ¬ ((1 : Int32) = (0 : Int32)))).1 ?_
      refine gw_iconst C 154 (1 : Int32) at_153 rfl (by decide) ?_
      refine gw_goto C (pc' := 158) at_154 (by decide) (by decide) ?_
      refine gw_retN C hEL (t := .boolean) (z := (1 : Int32)) at_158 rfl (by decide) (by decide) (by decide) (by decide) ?_
      exact rfl
    · skip
      refine ⟨[t243], (freshS ⟨x249, (x248).lt⟩ fresh0), ?_⟩
      show GoW l _ Z _ _ _ _ _ κ [t243, t223, b211] _ 44 _ [(.ref b211)] 4 12
      refine gw_astore C 46 (Ls' := #[.val (.int p0), .val (.int p1), .val (.int p2), .val (.int p3), .val (.int 2), .val (.int (p1 &&& (65535 : Int32))), .val (.int (p2 &&& (65535 : Int32))), .val (.int (p3 &&& (65535 : Int32))), .val (.ref b211), .unset, .unset, .unset, .unset]) at_44 rfl rfl rfl ?_
      refine gw_aload C 48 at_46 rfl rfl rfl ?_
      refine gw_callSW C hEL (argsL := [(.ref b211)]) (W := 0) at_48 (hq hw 27 rfl) (hq hw 28 rfl) (hq hw 29 rfl) (hq hw 30 rfl) (by decide) pd__Ljava_lang_String__Lcom_example_hook3_hook3_Interceptor_ (ct_named l Z a0 hw am (s := b211)) rfl (by decide) (Nat.le_of_eq rfl) (by decide) rfl (by decide) (by decide) mems0 ?_
      intro v298 h299 K300 q301
      obtain ⟨a302, t303, u304, kt305, ku306, rfl, x307, x308, x309, x310, x311, x312⟩ := q301
      show GoW l _ Z _ _ _ _ _ κ _ _ 51 _ [(.ref a302)] 9 43
      refine gw_astore C 53 (Ls' := #[.val (.int p0), .val (.int p1), .val (.int p2), .val (.int p3), .val (.int 2), .val (.int (p1 &&& (65535 : Int32))), .val (.int (p2 &&& (65535 : Int32))), .val (.int (p3 &&& (65535 : Int32))), .val (.ref b211), .val (.ref a302), .unset, .unset, .unset]) at_51 rfl rfl rfl ?_
      refine gw_aload C 55 at_53 rfl rfl rfl ?_
      refine gw_callV C (a := a302) (argsL := []) (W := 0) at_55 (hq hw 55 rfl) (hq hw 56 rfl) (fun _ hZ => notFace_of_selects (args := #[]) (mvT hZ (hq hw 58 rfl))) (hq hw 58 rfl) (hq hw 57 rfl) x307 (by decide) pd___Ljava_lang_String_ (ct_name l Z a0 hw am (a := a302) (s := b211) x308) rfl (by decide) (Nat.le_of_eq rfl) (by decide) rfl (by decide) (by decide) mems0 ?_
      intro v313 h314 K315 q316
      obtain ⟨rfl, rfl⟩ := q316
      refine ⟨[], fresh0, ?_⟩
      show GoW l _ Z _ _ _ _ _ κ _ _ 58 _ [(.ref b211)] 9 43
      refine gw_astore C 60 (Ls' := #[.val (.int p0), .val (.int p1), .val (.int p2), .val (.int p3), .val (.int 2), .val (.int (p1 &&& (65535 : Int32))), .val (.int (p2 &&& (65535 : Int32))), .val (.int (p3 &&& (65535 : Int32))), .val (.ref b211), .val (.ref a302), .val (.ref b211), .unset, .unset]) at_58 rfl rfl rfl ?_
      refine gw_aload C 62 at_60 rfl rfl rfl ?_
      refine gw_ifnullN C 65 at_62 rfl ?_
      refine gw_aload C 67 at_65 rfl rfl rfl ?_
      have x317 := (x245.keep K300)
      have x318 := (x246.keep K300 nin0)
      have x319 := (x247.keep K300 nin0)
      have x320 := (x248.keep K300 nin0)
      refine gw_callV C (a := b211) (argsL := []) (W := 0) at_67 (hq hw 60 rfl) (hq hw 61 rfl) (fun _ hZ => notFace_of_selects (args := #[]) (mvT hZ (hq hw 63 rfl))) (hq hw 63 rfl) (hq hw 62 rfl) x317 (by decide) pd___I (ct_len1_2 l Z a0 hw am (s := b211) (t := t243) (kB := kB244) (vs := [(.int (lo8 (p1 &&& (65535 : Int32)))), (.int (hi8 (p1 &&& (65535 : Int32)))), (.int (lo8 (p2 &&& (65535 : Int32)))), (.int (hi8 (p2 &&& (65535 : Int32))))]) x317 x318 x319 x320) rfl (by decide) (Nat.le_of_eq rfl) (by decide) rfl (by decide) (by decide) mems0 ?_
      intro v321 h322 K323 q324
      obtain ⟨rfl, rfl⟩ := q324
      refine ⟨[], fresh0, ?_⟩
      show GoW l _ Z _ _ _ _ _ κ _ _ 70 _ [(.int 2)] 9 43
      refine gw_iload C 72 at_70 rfl rfl ?_
      refine gw_icmpN C 75 at_72 rfl (teq ((by decide) : (2 : Int32) = (2 : Int32))).2 ?_
      refine gw_aload C 77 at_75 rfl rfl rfl ?_
      refine gw_aload C 79 at_77 rfl rfl rfl ?_
      refine gw_callV C (a := b211) (argsL := [(.ref b211)]) (W := 0) at_79 (hq hw 71 rfl) (hq hw 72 rfl) (fun _ hZ => notFace_of_selects (args := #[]) (mvT hZ (hq hw 74 rfl))) (hq hw 74 rfl) (hq hw 73 rfl) x317 (by decide) pd__Ljava_lang_Object__Z (ct_eqs l Z a0 hw am (a := b211)) rfl (by decide) (Nat.le_of_eq rfl) (by decide) rfl (by decide) (by decide) mems0 ?_
      intro v325 h326 K327 q328
      obtain ⟨rfl, rfl⟩ := q328
      refine ⟨[], fresh0, ?_⟩
      show GoW l _ Z _ _ _ _ _ κ _ _ 82 _ [(.int 1)] 9 43
      refine gw_ifN C 85 at_82 rfl (feq ((by decide) : ¬ ((1 : Int32) = (0 : Int32)))).1 ?_
      refine gw_iconst C 86 (1 : Int32) at_85 rfl (by decide) ?_
      refine gw_goto C (pc' := 90) at_86 (by decide) (by decide) ?_
      refine gw_istore C 92 (Ls' := #[.val (.int p0), .val (.int p1), .val (.int p2), .val (.int p3), .val (.int 2), .val (.int (p1 &&& (65535 : Int32))), .val (.int (p2 &&& (65535 : Int32))), .val (.int (p3 &&& (65535 : Int32))), .val (.ref b211), .val (.ref a302), .val (.ref b211), .val (.int 1), .unset]) at_90 rfl rfl ?_
      refine gw_aload C 94 at_92 rfl rfl rfl ?_
      refine gw_getS C 97 at_94 rfl (hq hw 76 rfl) am.2.2.2.2.2.2.2.1 ?_
      refine gw_callV C (a := a302) (argsL := [(.ref g0)]) (W := 0) at_97 (hq hw 79 rfl) (hq hw 80 rfl) (fun _ hZ => notFace_of_selects (args := #[]) (mvT hZ (hq hw 82 rfl))) (hq hw 82 rfl) (hq hw 81 rfl) x307 (by decide) pd__Lcom_example_hook3_hook3_Stage__Z (ct_has0 l Z a0 hw am (a := a302) (t := t303) (u := u304) (kt := kt305) (ku := ku306) x309 x310 x311 x312) rfl (by decide) (Nat.le_of_eq rfl) (by decide) rfl (by decide) (by decide) mems0 ?_
      intro v329 h330 K331 q332
      obtain ⟨rfl, rfl⟩ := q332
      refine ⟨[], fresh0, ?_⟩
      show GoW l _ Z _ _ _ _ _ κ _ _ 100 _ [(.int 0)] 9 43
      refine gw_ifN C 103 at_100 rfl (teq ((by decide) : (0 : Int32) = (0 : Int32))).2 ?_
      refine gw_aload C 105 at_103 rfl rfl rfl ?_
      refine gw_getS C 108 at_105 rfl (hq hw 93 rfl) am.2.2.2.2.2.2.2.2.2.2.1 ?_
      refine gw_callV C (a := a302) (argsL := [(.ref g1)]) (W := 0) at_108 (hq hw 79 rfl) (hq hw 80 rfl) (fun _ hZ => notFace_of_selects (args := #[]) (mvT hZ (hq hw 82 rfl))) (hq hw 82 rfl) (hq hw 81 rfl) x307 (by decide) pd__Lcom_example_hook3_hook3_Stage__Z (ct_has1 l Z a0 hw am (a := a302) (t := t303) (u := u304) (kt := kt305) (ku := ku306) x309 x310 x311 x312) rfl (by decide) (Nat.le_of_eq rfl) (by decide) rfl (by decide) (by decide) mems0 ?_
      intro v333 h334 K335 q336
      obtain ⟨rfl, rfl⟩ := q336
      refine ⟨[], fresh0, ?_⟩
      show GoW l _ Z _ _ _ _ _ κ _ _ 111 _ [(.int 0)] 9 43
      refine gw_ifN C 114 at_111 rfl (teq ((by decide) : (0 : Int32) = (0 : Int32))).2 ?_
      refine gw_aload C 116 at_114 rfl rfl rfl ?_
      refine gw_getS C 119 at_116 rfl (hq hw 95 rfl) am.2.2.2.2.2.2.2.2.2.2.2.2.2.1 ?_
      refine gw_callV C (a := a302) (argsL := [(.ref g2)]) (W := 0) at_119 (hq hw 79 rfl) (hq hw 80 rfl) (fun _ hZ => notFace_of_selects (args := #[]) (mvT hZ (hq hw 82 rfl))) (hq hw 82 rfl) (hq hw 81 rfl) x307 (by decide) pd__Lcom_example_hook3_hook3_Stage__Z (ct_has2 l Z a0 hw am (a := a302) (t := t303) (u := u304) (kt := kt305) (ku := ku306) x309 x310 x311 x312) rfl (by decide) (Nat.le_of_eq rfl) (by decide) rfl (by decide) (by decide) mems0 ?_
      intro v337 h338 K339 q340
      obtain ⟨rfl, rfl⟩ := q340
      refine ⟨[], fresh0, ?_⟩
      show GoW l _ Z _ _ _ _ _ κ _ _ 122 _ [(.int 0)] 9 43
      refine gw_ifN C 125 at_122 rfl (teq ((by decide) : (0 : Int32) = (0 : Int32))).2 ?_
      refine gw_aload C 127 at_125 rfl rfl rfl ?_
      refine gw_getS C 130 at_127 rfl (hq hw 97 rfl) am.2.2.2.2.2.2.2.2.2.2.2.2.2.2.2.2.1 ?_
      refine gw_callV C (a := a302) (argsL := [(.ref g3)]) (W := 0) at_130 (hq hw 79 rfl) (hq hw 80 rfl) (fun _ hZ => notFace_of_selects (args := #[]) (mvT hZ (hq hw 82 rfl))) (hq hw 82 rfl) (hq hw 81 rfl) x307 (by decide) pd__Lcom_example_hook3_hook3_Stage__Z (ct_has3 l Z a0 hw am (a := a302) (t := t303) (u := u304) (kt := kt305) (ku := ku306) x309 x310 x311 x312) rfl (by decide) (Nat.le_of_eq rfl) (by decide) rfl (by decide) (by decide) mems0 ?_
      intro v341 h342 K343 q344
      obtain ⟨rfl, rfl⟩ := q344
      refine ⟨[], fresh0, ?_⟩
      show GoW l _ Z _ _ _ _ _ κ _ _ 133 _ [(.int 0)] 9 43
      refine gw_ifN C 136 at_133 rfl (teq ((by decide) : (0 : Int32) = (0 : Int32))).2 ?_
      refine gw_iconst C 137 (1 : Int32) at_136 rfl (by decide) ?_
      refine gw_goto C (pc' := 141) at_137 (by decide) (by decide) ?_
      refine gw_istore C 143 (Ls' := #[.val (.int p0), .val (.int p1), .val (.int p2), .val (.int p3), .val (.int 2), .val (.int (p1 &&& (65535 : Int32))), .val (.int (p2 &&& (65535 : Int32))), .val (.int (p3 &&& (65535 : Int32))), .val (.ref b211), .val (.ref a302), .val (.ref b211), .val (.int 1), .val (.int 1)]) at_141 rfl rfl ?_
      refine gw_iload C 145 at_143 rfl rfl ?_
      refine gw_ifN C 148 at_145 rfl (feq ((by decide) : ¬ ((1 : Int32) = (0 : Int32)))).1 ?_
      refine gw_iload C 150 at_148 rfl rfl ?_
      refine gw_ifN C 153 at_150 rfl (feq ((by decide) : ¬ ((1 : Int32) = (0 : Int32)))).1 ?_
      refine gw_iconst C 154 (1 : Int32) at_153 rfl (by decide) ?_
      refine gw_goto C (pc' := 158) at_154 (by decide) (by decide) ?_
      refine gw_retN C hEL (t := .boolean) (z := (1 : Int32)) at_158 rfl (by decide) (by decide) (by decide) (by decide) ?_
      exact rfl
  · skip
    refine gw_iand C 3 (3 : Int32) at_2 rfl ec1 ?_
    refine gw_istore C 5 (Ls' := #[.val (.int p0), .val (.int p1), .val (.int p2), .val (.int p3), .val (.int 3), .unset, .unset, .unset, .unset, .unset, .unset, .unset, .unset]) at_3 rfl rfl ?_
    refine gw_iloadN C 6 at_5 rfl rfl ?_
    refine gw_ldcInt C 8 (v := (65535 : Int32)) at_6 rfl (hq hw 0 rfl) ?_
    refine gw_iand C 9 (p1 &&& (65535 : Int32)) at_8 rfl rfl ?_
    refine gw_i2c C 10 (p1 &&& (65535 : Int32)) at_9 rfl (chr_mask _).i2c ?_
    refine gw_istore C 12 (Ls' := #[.val (.int p0), .val (.int p1), .val (.int p2), .val (.int p3), .val (.int 3), .val (.int (p1 &&& (65535 : Int32))), .unset, .unset, .unset, .unset, .unset, .unset, .unset]) at_10 rfl rfl ?_
    refine gw_iloadN C 13 at_12 rfl rfl ?_
    refine gw_ldcInt C 15 (v := (65535 : Int32)) at_13 rfl (hq hw 0 rfl) ?_
    refine gw_iand C 16 (p2 &&& (65535 : Int32)) at_15 rfl rfl ?_
    refine gw_i2c C 17 (p2 &&& (65535 : Int32)) at_16 rfl (chr_mask _).i2c ?_
    refine gw_istore C 19 (Ls' := #[.val (.int p0), .val (.int p1), .val (.int p2), .val (.int p3), .val (.int 3), .val (.int (p1 &&& (65535 : Int32))), .val (.int (p2 &&& (65535 : Int32))), .unset, .unset, .unset, .unset, .unset, .unset]) at_17 rfl rfl ?_
    refine gw_iloadN C 20 at_19 rfl rfl ?_
    refine gw_ldcInt C 22 (v := (65535 : Int32)) at_20 rfl (hq hw 0 rfl) ?_
    refine gw_iand C 23 (p3 &&& (65535 : Int32)) at_22 rfl rfl ?_
    refine gw_i2c C 24 (p3 &&& (65535 : Int32)) at_23 rfl (chr_mask _).i2c ?_
    refine gw_istore C 26 (Ls' := #[.val (.int p0), .val (.int p1), .val (.int p2), .val (.int p3), .val (.int 3), .val (.int (p1 &&& (65535 : Int32))), .val (.int (p2 &&& (65535 : Int32))), .val (.int (p3 &&& (65535 : Int32))), .unset, .unset, .unset, .unset, .unset]) at_24 rfl rfl ?_
    refine gw_new C 29 1 4 at_26 rfl rfl rfl (hq hw 1 rfl) (hq hw 2 rfl) (hq hw 3 rfl) (by decide) (by decide) ?_
    intro b345 h346 g347 E348 A349 D350
    have x351 : Fld Z h346 b345 "java/lang/String" "value" "[B" .null := D350 (Or.inr (hq hw 21 rfl)) (ty := (.array .byte)) (by decide)
    have x352 : Fld Z h346 b345 "java/lang/String" "coder" "B" (.int 0) := D350 (Or.inr (hq hw 22 rfl)) (ty := .byte) (by decide)
    refine gw_dup C 30 at_29 rfl rfl ?_
    refine gw_iload C 32 at_30 rfl rfl ?_
    refine gw_iload C 34 at_32 rfl rfl ?_
    refine gw_iload C 36 at_34 rfl rfl ?_
    refine gw_iload C 38 at_36 rfl rfl ?_
    refine gw_callS C (argsL := [(.int 3), (.int (p1 &&& (65535 : Int32))), (.int (p2 &&& (65535 : Int32))), (.int (p3 &&& (65535 : Int32)))]) (W := 2) at_38 (hq hw 4 rfl) (hq hw 5 rfl) (hq hw 6 rfl) (hq hw 7 rfl) (by decide) pd__ICCC__C (ct_drawn3 l Z a0 hw am (c0 := (p1 &&& (65535 : Int32))) (c1 := (p2 &&& (65535 : Int32))) (c2 := (p3 &&& (65535 : Int32))) (chr_mask _) (chr_mask _) (chr_mask _)) rfl (by decide) (Nat.le_of_eq rfl) (by decide) rfl (by decide) (by decide) mems0 ?_
    intro v353 h354 K355 q356
    obtain ⟨t357, kC358, rfl, x359, x360⟩ := q356
    refine ⟨[t357], (freshS ⟨x360, (x359).lt⟩ fresh0), ?_⟩
    show GoW l _ Z _ _ _ _ _ κ [t357, b345] _ 41 _ [(.ref t357), (.ref b345), (.ref b345)] 2 7
    have x361 := (A349.keep K355)
    have x362 := (x351.keep K355 nin0)
    have x363 := (x352.keep K355 nin0)
    refine gw_callI C (a := b345) (argsL := [(.ref t357)]) (W := 1) at_41 rfl (hq hw 9 rfl) (hq hw 10 rfl) (hq hw 11 rfl) (by decide) pd___C_V (ct_str3 l Z a0 hw am (a := b345) (b := t357) (kC := kC358) (c0 := (p1 &&& (65535 : Int32))) (c1 := (p2 &&& (65535 : Int32))) (c2 := (p3 &&& (65535 : Int32))) x361 x362 x363 x359 (chr_mask _) (chr_mask _) (chr_mask _)) rfl (by decide) (Nat.le_of_eq rfl) (by decide) rfl (by decide) (by decide) (memsS (mi 1 rfl) mems0) ?_
    intro v364 h365 K366 q367
    rcases q367 with ⟨t368, kB369, rfl, x370, x371, x372, x373, x374, x375, x376, x377⟩ | ⟨t378, kB379, rfl, x380, x381, x382, x383, x384, x385⟩
    · skip
      refine ⟨[t368], (freshS ⟨x374, (x373).lt⟩ fresh0), ?_⟩
      show GoW l _ Z _ _ _ _ _ κ [t368, t357, b345] _ 44 _ [(.ref b345)] 4 16
      refine gw_astore C 46 (Ls' := #[.val (.int p0), .val (.int p1), .val (.int p2), .val (.int p3), .val (.int 3), .val (.int (p1 &&& (65535 : Int32))), .val (.int (p2 &&& (65535 : Int32))), .val (.int (p3 &&& (65535 : Int32))), .val (.ref b345), .unset, .unset, .unset, .unset]) at_44 rfl rfl rfl ?_
      refine gw_aload C 48 at_46 rfl rfl rfl ?_
      refine gw_callSW C hEL (argsL := [(.ref b345)]) (W := 0) at_48 (hq hw 27 rfl) (hq hw 28 rfl) (hq hw 29 rfl) (hq hw 30 rfl) (by decide) pd__Ljava_lang_String__Lcom_example_hook3_hook3_Interceptor_ (ct_named l Z a0 hw am (s := b345)) rfl (by decide) (Nat.le_of_eq rfl) (by decide) rfl (by decide) (by decide) mems0 ?_
      intro v386 h387 K388 q389
      obtain ⟨a390, t391, u392, kt393, ku394, rfl, x395, x396, x397, x398, x399, x400⟩ := q389
      show GoW l _ Z _ _ _ _ _ κ _ _ 51 _ [(.ref a390)] 9 47
      refine gw_astore C 53 (Ls' := #[.val (.int p0), .val (.int p1), .val (.int p2), .val (.int p3), .val (.int 3), .val (.int (p1 &&& (65535 : Int32))), .val (.int (p2 &&& (65535 : Int32))), .val (.int (p3 &&& (65535 : Int32))), .val (.ref b345), .val (.ref a390), .unset, .unset, .unset]) at_51 rfl rfl rfl ?_
      refine gw_aload C 55 at_53 rfl rfl rfl ?_
      refine gw_callV C (a := a390) (argsL := []) (W := 0) at_55 (hq hw 55 rfl) (hq hw 56 rfl) (fun _ hZ => notFace_of_selects (args := #[]) (mvT hZ (hq hw 58 rfl))) (hq hw 58 rfl) (hq hw 57 rfl) x395 (by decide) pd___Ljava_lang_String_ (ct_name l Z a0 hw am (a := a390) (s := b345) x396) rfl (by decide) (Nat.le_of_eq rfl) (by decide) rfl (by decide) (by decide) mems0 ?_
      intro v401 h402 K403 q404
      obtain ⟨rfl, rfl⟩ := q404
      refine ⟨[], fresh0, ?_⟩
      show GoW l _ Z _ _ _ _ _ κ _ _ 58 _ [(.ref b345)] 9 47
      refine gw_astore C 60 (Ls' := #[.val (.int p0), .val (.int p1), .val (.int p2), .val (.int p3), .val (.int 3), .val (.int (p1 &&& (65535 : Int32))), .val (.int (p2 &&& (65535 : Int32))), .val (.int (p3 &&& (65535 : Int32))), .val (.ref b345), .val (.ref a390), .val (.ref b345), .unset, .unset]) at_58 rfl rfl rfl ?_
      refine gw_aload C 62 at_60 rfl rfl rfl ?_
      refine gw_ifnullN C 65 at_62 rfl ?_
      refine gw_aload C 67 at_65 rfl rfl rfl ?_
      have x405 := (x370.keep K388)
      have x406 := (x371.keep K388 nin0)
      have x407 := (x372.keep K388 nin0)
      have x408 := (x373.keep K388 nin0)
      refine gw_callV C (a := b345) (argsL := []) (W := 0) at_67 (hq hw 60 rfl) (hq hw 61 rfl) (fun _ hZ => notFace_of_selects (args := #[]) (mvT hZ (hq hw 63 rfl))) (hq hw 63 rfl) (hq hw 62 rfl) x405 (by decide) pd___I (ct_len0_3 l Z a0 hw am (s := b345) (t := t368) (kB := kB369) (vs := [(.int (lo8 (p1 &&& (65535 : Int32)))), (.int (lo8 (p2 &&& (65535 : Int32)))), (.int (lo8 (p3 &&& (65535 : Int32))))]) x405 x406 x407 x408) rfl (by decide) (Nat.le_of_eq rfl) (by decide) rfl (by decide) (by decide) mems0 ?_
      intro v409 h410 K411 q412
      obtain ⟨rfl, rfl⟩ := q412
      refine ⟨[], fresh0, ?_⟩
      show GoW l _ Z _ _ _ _ _ κ _ _ 70 _ [(.int 3)] 9 47
      refine gw_iload C 72 at_70 rfl rfl ?_
      refine gw_icmpN C 75 at_72 rfl (teq ((by decide) : (3 : Int32) = (3 : Int32))).2 ?_
      refine gw_aload C 77 at_75 rfl rfl rfl ?_
      refine gw_aload C 79 at_77 rfl rfl rfl ?_
      refine gw_callV C (a := b345) (argsL := [(.ref b345)]) (W := 0) at_79 (hq hw 71 rfl) (hq hw 72 rfl) (fun _ hZ => notFace_of_selects (args := #[]) (mvT hZ (hq hw 74 rfl))) (hq hw 74 rfl) (hq hw 73 rfl) x405 (by decide) pd__Ljava_lang_Object__Z (ct_eqs l Z a0 hw am (a := b345)) rfl (by decide) (Nat.le_of_eq rfl) (by decide) rfl (by decide) (by decide) mems0 ?_
      intro v413 h414 K415 q416
      obtain ⟨rfl, rfl⟩ := q416
      refine ⟨[], fresh0, ?_⟩
      show GoW l _ Z _ _ _ _ _ κ _ _ 82 _ [(.int 1)] 9 47
      refine gw_ifN C 85 at_82 rfl (feq ((by decide) : ¬ ((1 : Int32) = (0 : Int32)))).1 ?_
      refine gw_iconst C 86 (1 : Int32) at_85 rfl (by decide) ?_
      refine gw_goto C (pc' := 90) at_86 (by decide) (by decide) ?_
      refine gw_istore C 92 (Ls' := #[.val (.int p0), .val (.int p1), .val (.int p2), .val (.int p3), .val (.int 3), .val (.int (p1 &&& (65535 : Int32))), .val (.int (p2 &&& (65535 : Int32))), .val (.int (p3 &&& (65535 : Int32))), .val (.ref b345), .val (.ref a390), .val (.ref b345), .val (.int 1), .unset]) at_90 rfl rfl ?_
      refine gw_aload C 94 at_92 rfl rfl rfl ?_
      refine gw_getS C 97 at_94 rfl (hq hw 76 rfl) am.2.2.2.2.2.2.2.1 ?_
      refine gw_callV C (a := a390) (argsL := [(.ref g0)]) (W := 0) at_97 (hq hw 79 rfl) (hq hw 80 rfl) (fun _ hZ => notFace_of_selects (args := #[]) (mvT hZ (hq hw 82 rfl))) (hq hw 82 rfl) (hq hw 81 rfl) x395 (by decide) pd__Lcom_example_hook3_hook3_Stage__Z (ct_has0 l Z a0 hw am (a := a390) (t := t391) (u := u392) (kt := kt393) (ku := ku394) x397 x398 x399 x400) rfl (by decide) (Nat.le_of_eq rfl) (by decide) rfl (by decide) (by decide) mems0 ?_
      intro v417 h418 K419 q420
      obtain ⟨rfl, rfl⟩ := q420
      refine ⟨[], fresh0, ?_⟩
      show GoW l _ Z _ _ _ _ _ κ _ _ 100 _ [(.int 0)] 9 47
      refine gw_ifN C 103 at_100 rfl (teq ((by decide) : (0 : Int32) = (0 : Int32))).2 ?_
      refine gw_aload C 105 at_103 rfl rfl rfl ?_
      refine gw_getS C 108 at_105 rfl (hq hw 93 rfl) am.2.2.2.2.2.2.2.2.2.2.1 ?_
      refine gw_callV C (a := a390) (argsL := [(.ref g1)]) (W := 0) at_108 (hq hw 79 rfl) (hq hw 80 rfl) (fun _ hZ => notFace_of_selects (args := #[]) (mvT hZ (hq hw 82 rfl))) (hq hw 82 rfl) (hq hw 81 rfl) x395 (by decide) pd__Lcom_example_hook3_hook3_Stage__Z (ct_has1 l Z a0 hw am (a := a390) (t := t391) (u := u392) (kt := kt393) (ku := ku394) x397 x398 x399 x400) rfl (by decide) (Nat.le_of_eq rfl) (by decide) rfl (by decide) (by decide) mems0 ?_
      intro v421 h422 K423 q424
      obtain ⟨rfl, rfl⟩ := q424
      refine ⟨[], fresh0, ?_⟩
      show GoW l _ Z _ _ _ _ _ κ _ _ 111 _ [(.int 0)] 9 47
      refine gw_ifN C 114 at_111 rfl (teq ((by decide) : (0 : Int32) = (0 : Int32))).2 ?_
      refine gw_aload C 116 at_114 rfl rfl rfl ?_
      refine gw_getS C 119 at_116 rfl (hq hw 95 rfl) am.2.2.2.2.2.2.2.2.2.2.2.2.2.1 ?_
      refine gw_callV C (a := a390) (argsL := [(.ref g2)]) (W := 0) at_119 (hq hw 79 rfl) (hq hw 80 rfl) (fun _ hZ => notFace_of_selects (args := #[]) (mvT hZ (hq hw 82 rfl))) (hq hw 82 rfl) (hq hw 81 rfl) x395 (by decide) pd__Lcom_example_hook3_hook3_Stage__Z (ct_has2 l Z a0 hw am (a := a390) (t := t391) (u := u392) (kt := kt393) (ku := ku394) x397 x398 x399 x400) rfl (by decide) (Nat.le_of_eq rfl) (by decide) rfl (by decide) (by decide) mems0 ?_
      intro v425 h426 K427 q428
      obtain ⟨rfl, rfl⟩ := q428
      refine ⟨[], fresh0, ?_⟩
      show GoW l _ Z _ _ _ _ _ κ _ _ 122 _ [(.int 0)] 9 47
      refine gw_ifN C 125 at_122 rfl (teq ((by decide) : (0 : Int32) = (0 : Int32))).2 ?_
      refine gw_aload C 127 at_125 rfl rfl rfl ?_
      refine gw_getS C 130 at_127 rfl (hq hw 97 rfl) am.2.2.2.2.2.2.2.2.2.2.2.2.2.2.2.2.1 ?_
      refine gw_callV C (a := a390) (argsL := [(.ref g3)]) (W := 0) at_130 (hq hw 79 rfl) (hq hw 80 rfl) (fun _ hZ => notFace_of_selects (args := #[]) (mvT hZ (hq hw 82 rfl))) (hq hw 82 rfl) (hq hw 81 rfl) x395 (by decide) pd__Lcom_example_hook3_hook3_Stage__Z (ct_has3 l Z a0 hw am (a := a390) (t := t391) (u := u392) (kt := kt393) (ku := ku394) x397 x398 x399 x400) rfl (by decide) (Nat.le_of_eq rfl) (by decide) rfl (by decide) (by decide) mems0 ?_
      intro v429 h430 K431 q432
      obtain ⟨rfl, rfl⟩ := q432
      refine ⟨[], fresh0, ?_⟩
      show GoW l _ Z _ _ _ _ _ κ _ _ 133 _ [(.int 0)] 9 47
      refine gw_ifN C 136 at_133 rfl (teq ((by decide) : (0 : Int32) = (0 : Int32))).2 ?_
      refine gw_iconst C 137 (1 : Int32) at_136 rfl (by decide) ?_
      refine gw_goto C (pc' := 141) at_137 (by decide) (by decide) ?_
      refine gw_istore C 143 (Ls' := #[.val (.int p0), .val (.int p1), .val (.int p2), .val (.int p3), .val (.int 3), .val (.int (p1 &&& (65535 : Int32))), .val (.int (p2 &&& (65535 : Int32))), .val (.int (p3 &&& (65535 : Int32))), .val (.ref b345), .val (.ref a390), .val (.ref b345), .val (.int 1), .val (.int 1)]) at_141 rfl rfl ?_
      refine gw_iload C 145 at_143 rfl rfl ?_
      refine gw_ifN C 148 at_145 rfl (feq ((by decide) : ¬ ((1 : Int32) = (0 : Int32)))).1 ?_
      refine gw_iload C 150 at_148 rfl rfl ?_
      refine gw_ifN C 153 at_150 rfl (feq ((by decide) : ¬ ((1 : Int32) = (0 : Int32)))).1 ?_
      refine gw_iconst C 154 (1 : Int32) at_153 rfl (by decide) ?_
      refine gw_goto C (pc' := 158) at_154 (by decide) (by decide) ?_
      refine gw_retN C hEL (t := .boolean) (z := (1 : Int32)) at_158 rfl (by decide) (by decide) (by decide) (by decide) ?_
      exact rfl
    · skip
      refine ⟨[t378], (freshS ⟨x384, (x383).lt⟩ fresh0), ?_⟩
      show GoW l _ Z _ _ _ _ _ κ [t378, t357, b345] _ 44 _ [(.ref b345)] 4 16
      refine gw_astore C 46 (Ls' := #[.val (.int p0), .val (.int p1), .val (.int p2), .val (.int p3), .val (.int 3), .val (.int (p1 &&& (65535 : Int32))), .val (.int (p2 &&& (65535 : Int32))), .val (.int (p3 &&& (65535 : Int32))), .val (.ref b345), .unset, .unset, .unset, .unset]) at_44 rfl rfl rfl ?_
      refine gw_aload C 48 at_46 rfl rfl rfl ?_
      refine gw_callSW C hEL (argsL := [(.ref b345)]) (W := 0) at_48 (hq hw 27 rfl) (hq hw 28 rfl) (hq hw 29 rfl) (hq hw 30 rfl) (by decide) pd__Ljava_lang_String__Lcom_example_hook3_hook3_Interceptor_ (ct_named l Z a0 hw am (s := b345)) rfl (by decide) (Nat.le_of_eq rfl) (by decide) rfl (by decide) (by decide) mems0 ?_
      intro v433 h434 K435 q436
      obtain ⟨a437, t438, u439, kt440, ku441, rfl, x442, x443, x444, x445, x446, x447⟩ := q436
      show GoW l _ Z _ _ _ _ _ κ _ _ 51 _ [(.ref a437)] 9 47
      refine gw_astore C 53 (Ls' := #[.val (.int p0), .val (.int p1), .val (.int p2), .val (.int p3), .val (.int 3), .val (.int (p1 &&& (65535 : Int32))), .val (.int (p2 &&& (65535 : Int32))), .val (.int (p3 &&& (65535 : Int32))), .val (.ref b345), .val (.ref a437), .unset, .unset, .unset]) at_51 rfl rfl rfl ?_
      refine gw_aload C 55 at_53 rfl rfl rfl ?_
      refine gw_callV C (a := a437) (argsL := []) (W := 0) at_55 (hq hw 55 rfl) (hq hw 56 rfl) (fun _ hZ => notFace_of_selects (args := #[]) (mvT hZ (hq hw 58 rfl))) (hq hw 58 rfl) (hq hw 57 rfl) x442 (by decide) pd___Ljava_lang_String_ (ct_name l Z a0 hw am (a := a437) (s := b345) x443) rfl (by decide) (Nat.le_of_eq rfl) (by decide) rfl (by decide) (by decide) mems0 ?_
      intro v448 h449 K450 q451
      obtain ⟨rfl, rfl⟩ := q451
      refine ⟨[], fresh0, ?_⟩
      show GoW l _ Z _ _ _ _ _ κ _ _ 58 _ [(.ref b345)] 9 47
      refine gw_astore C 60 (Ls' := #[.val (.int p0), .val (.int p1), .val (.int p2), .val (.int p3), .val (.int 3), .val (.int (p1 &&& (65535 : Int32))), .val (.int (p2 &&& (65535 : Int32))), .val (.int (p3 &&& (65535 : Int32))), .val (.ref b345), .val (.ref a437), .val (.ref b345), .unset, .unset]) at_58 rfl rfl rfl ?_
      refine gw_aload C 62 at_60 rfl rfl rfl ?_
      refine gw_ifnullN C 65 at_62 rfl ?_
      refine gw_aload C 67 at_65 rfl rfl rfl ?_
      have x452 := (x380.keep K435)
      have x453 := (x381.keep K435 nin0)
      have x454 := (x382.keep K435 nin0)
      have x455 := (x383.keep K435 nin0)
      refine gw_callV C (a := b345) (argsL := []) (W := 0) at_67 (hq hw 60 rfl) (hq hw 61 rfl) (fun _ hZ => notFace_of_selects (args := #[]) (mvT hZ (hq hw 63 rfl))) (hq hw 63 rfl) (hq hw 62 rfl) x452 (by decide) pd___I (ct_len1_3 l Z a0 hw am (s := b345) (t := t378) (kB := kB379) (vs := [(.int (lo8 (p1 &&& (65535 : Int32)))), (.int (hi8 (p1 &&& (65535 : Int32)))), (.int (lo8 (p2 &&& (65535 : Int32)))), (.int (hi8 (p2 &&& (65535 : Int32)))), (.int (lo8 (p3 &&& (65535 : Int32)))), (.int (hi8 (p3 &&& (65535 : Int32))))]) x452 x453 x454 x455) rfl (by decide) (Nat.le_of_eq rfl) (by decide) rfl (by decide) (by decide) mems0 ?_
      intro v456 h457 K458 q459
      obtain ⟨rfl, rfl⟩ := q459
      refine ⟨[], fresh0, ?_⟩
      show GoW l _ Z _ _ _ _ _ κ _ _ 70 _ [(.int 3)] 9 47
      refine gw_iload C 72 at_70 rfl rfl ?_
      refine gw_icmpN C 75 at_72 rfl (teq ((by decide) : (3 : Int32) = (3 : Int32))).2 ?_
      refine gw_aload C 77 at_75 rfl rfl rfl ?_
      refine gw_aload C 79 at_77 rfl rfl rfl ?_
      refine gw_callV C (a := b345) (argsL := [(.ref b345)]) (W := 0) at_79 (hq hw 71 rfl) (hq hw 72 rfl) (fun _ hZ => notFace_of_selects (args := #[]) (mvT hZ (hq hw 74 rfl))) (hq hw 74 rfl) (hq hw 73 rfl) x452 (by decide) pd__Ljava_lang_Object__Z (ct_eqs l Z a0 hw am (a := b345)) rfl (by decide) (Nat.le_of_eq rfl) (by decide) rfl (by decide) (by decide) mems0 ?_
      intro v460 h461 K462 q463
      obtain ⟨rfl, rfl⟩ := q463
      refine ⟨[], fresh0, ?_⟩
      show GoW l _ Z _ _ _ _ _ κ _ _ 82 _ [(.int 1)] 9 47
      refine gw_ifN C 85 at_82 rfl (feq ((by decide) : ¬ ((1 : Int32) = (0 : Int32)))).1 ?_
      refine gw_iconst C 86 (1 : Int32) at_85 rfl (by decide) ?_
      refine gw_goto C (pc' := 90) at_86 (by decide) (by decide) ?_
      refine gw_istore C 92 (Ls' := #[.val (.int p0), .val (.int p1), .val (.int p2), .val (.int p3), .val (.int 3), .val (.int (p1 &&& (65535 : Int32))), .val (.int (p2 &&& (65535 : Int32))), .val (.int (p3 &&& (65535 : Int32))), .val (.ref b345), .val (.ref a437), .val (.ref b345), .val (.int 1), .unset]) at_90 rfl rfl ?_
      refine gw_aload C 94 at_92 rfl rfl rfl ?_
      refine gw_getS C 97 at_94 rfl (hq hw 76 rfl) am.2.2.2.2.2.2.2.1 ?_
      refine gw_callV C (a := a437) (argsL := [(.ref g0)]) (W := 0) at_97 (hq hw 79 rfl) (hq hw 80 rfl) (fun _ hZ => notFace_of_selects (args := #[]) (mvT hZ (hq hw 82 rfl))) (hq hw 82 rfl) (hq hw 81 rfl) x442 (by decide) pd__Lcom_example_hook3_hook3_Stage__Z (ct_has0 l Z a0 hw am (a := a437) (t := t438) (u := u439) (kt := kt440) (ku := ku441) x444 x445 x446 x447) rfl (by decide) (Nat.le_of_eq rfl) (by decide) rfl (by decide) (by decide) mems0 ?_
      intro v464 h465 K466 q467
      obtain ⟨rfl, rfl⟩ := q467
      refine ⟨[], fresh0, ?_⟩
      show GoW l _ Z _ _ _ _ _ κ _ _ 100 _ [(.int 0)] 9 47
      refine gw_ifN C 103 at_100 rfl (teq ((by decide) : (0 : Int32) = (0 : Int32))).2 ?_
      refine gw_aload C 105 at_103 rfl rfl rfl ?_
      refine gw_getS C 108 at_105 rfl (hq hw 93 rfl) am.2.2.2.2.2.2.2.2.2.2.1 ?_
      refine gw_callV C (a := a437) (argsL := [(.ref g1)]) (W := 0) at_108 (hq hw 79 rfl) (hq hw 80 rfl) (fun _ hZ => notFace_of_selects (args := #[]) (mvT hZ (hq hw 82 rfl))) (hq hw 82 rfl) (hq hw 81 rfl) x442 (by decide) pd__Lcom_example_hook3_hook3_Stage__Z (ct_has1 l Z a0 hw am (a := a437) (t := t438) (u := u439) (kt := kt440) (ku := ku441) x444 x445 x446 x447) rfl (by decide) (Nat.le_of_eq rfl) (by decide) rfl (by decide) (by decide) mems0 ?_
      intro v468 h469 K470 q471
      obtain ⟨rfl, rfl⟩ := q471
      refine ⟨[], fresh0, ?_⟩
      show GoW l _ Z _ _ _ _ _ κ _ _ 111 _ [(.int 0)] 9 47
      refine gw_ifN C 114 at_111 rfl (teq ((by decide) : (0 : Int32) = (0 : Int32))).2 ?_
      refine gw_aload C 116 at_114 rfl rfl rfl ?_
      refine gw_getS C 119 at_116 rfl (hq hw 95 rfl) am.2.2.2.2.2.2.2.2.2.2.2.2.2.1 ?_
      refine gw_callV C (a := a437) (argsL := [(.ref g2)]) (W := 0) at_119 (hq hw 79 rfl) (hq hw 80 rfl) (fun _ hZ => notFace_of_selects (args := #[]) (mvT hZ (hq hw 82 rfl))) (hq hw 82 rfl) (hq hw 81 rfl) x442 (by decide) pd__Lcom_example_hook3_hook3_Stage__Z (ct_has2 l Z a0 hw am (a := a437) (t := t438) (u := u439) (kt := kt440) (ku := ku441) x444 x445 x446 x447) rfl (by decide) (Nat.le_of_eq rfl) (by decide) rfl (by decide) (by decide) mems0 ?_
      intro v472 h473 K474 q475
      obtain ⟨rfl, rfl⟩ := q475
      refine ⟨[], fresh0, ?_⟩
      show GoW l _ Z _ _ _ _ _ κ _ _ 122 _ [(.int 0)] 9 47
      refine gw_ifN C 125 at_122 rfl (teq ((by decide) : (0 : Int32) = (0 : Int32))).2 ?_
      refine gw_aload C 127 at_125 rfl rfl rfl ?_
      refine gw_getS C 130 at_127 rfl (hq hw 97 rfl) am.2.2.2.2.2.2.2.2.2.2.2.2.2.2.2.2.1 ?_
      refine gw_callV C (a := a437) (argsL := [(.ref g3)]) (W := 0) at_130 (hq hw 79 rfl) (hq hw 80 rfl) (fun _ hZ => notFace_of_selects (args := #[]) (mvT hZ (hq hw 82 rfl))) (hq hw 82 rfl) (hq hw 81 rfl) x442 (by decide) pd__Lcom_example_hook3_hook3_Stage__Z (ct_has3 l Z a0 hw am (a := a437) (t := t438) (u := u439) (kt := kt440) (ku := ku441) x444 x445 x446 x447) rfl (by decide) (Nat.le_of_eq rfl) (by decide) rfl (by decide) (by decide) mems0 ?_
      intro v476 h477 K478 q479
      obtain ⟨rfl, rfl⟩ := q479
      refine ⟨[], fresh0, ?_⟩
      show GoW l _ Z _ _ _ _ _ κ _ _ 133 _ [(.int 0)] 9 47
      refine gw_ifN C 136 at_133 rfl (teq ((by decide) : (0 : Int32) = (0 : Int32))).2 ?_
      refine gw_iconst C 137 (1 : Int32) at_136 rfl (by decide) ?_
      refine gw_goto C (pc' := 141) at_137 (by decide) (by decide) ?_
      refine gw_istore C 143 (Ls' := #[.val (.int p0), .val (.int p1), .val (.int p2), .val (.int p3), .val (.int 3), .val (.int (p1 &&& (65535 : Int32))), .val (.int (p2 &&& (65535 : Int32))), .val (.int (p3 &&& (65535 : Int32))), .val (.ref b345), .val (.ref a437), .val (.ref b345), .val (.int 1), .val (.int 1)]) at_141 rfl rfl ?_
      refine gw_iload C 145 at_143 rfl rfl ?_
      refine gw_ifN C 148 at_145 rfl (feq ((by decide) : ¬ ((1 : Int32) = (0 : Int32)))).1 ?_
      refine gw_iload C 150 at_148 rfl rfl ?_
      refine gw_ifN C 153 at_150 rfl (feq ((by decide) : ¬ ((1 : Int32) = (0 : Int32)))).1 ?_
      refine gw_iconst C 154 (1 : Int32) at_153 rfl (by decide) ?_
      refine gw_goto C (pc' := 158) at_154 (by decide) (by decide) ?_
      refine gw_retN C hEL (t := .boolean) (z := (1 : Int32)) at_158 rfl (by decide) (by decide) (by decide) (by decide) ?_
      exact rfl
theorem comes_1 {Post : Tables → Env → Array Value → State → Outcome → State → Prop} (hpost : ∀ tb e args s v u, (limb_1_1.after args s (.returned v) u = true ∧ limb_1_2.after args s (.returned v) u = true ∧ True) → ReturnedEndW s (.returned v) u (Jvm.fieldLocs frame_1_writes args s ++ Jvm.arrayLocs frame_1_arrays args s ++ Jvm.staticLocs frame_1_statics s) 32 2176 → Post tb e args s (.returned v) u) :
    ArmFor flags0 classFile x code maxLocals ret World_1 tables_1 room_1 Calls_1 rest_1 Pre_1 Post := by
  intro l hfl _ _ p e ha hc hk s m args below hf hA hF happ hP
  obtain ⟨hcalls, hrest, hpre⟩ := hP
  obtain ⟨-, -, -, hnamed, -, -, -, hat⟩ := (Spec.applies_iff hf).mp happ
  obtain ⟨hg, hn⟩ := and_e (Cond.before_iff.mp (show (Jvm.Cond.and given_1 narrow_1).before args s = true from hpre))
  obtain ⟨g0, gr0⟩ := and_e hg
  obtain ⟨g1, gr1⟩ := and_e gr0
  obtain ⟨g2, gr2⟩ := and_e gr1
  obtain ⟨g3, gr3⟩ := and_e gr2
  have g4 := gr3
  obtain ⟨w0, w1, w2, w3, rfl⟩ : ∃ w0 w1 w2 w3 : Value, args = #[w0, w1, w2, w3] := by
    have hs : args.size = 4 := by simpa [Cond.value, given_1] using g0
    obtain ⟨L⟩ := args
    match L, hs with
    | [w0, w1, w2, w3], _ => exact ⟨w0, w1, w2, w3, rfl⟩
  have hw := fun d (hd : d ∈ tables_1) => atoms_spec (ws := Jvm.Cond.code x code maxLocals ret :: tables_1) hat d (List.mem_cons_of_mem _ hd)
  have hfit : Fit s := fun {y c} hc i hi => by
    obtain ⟨ha, rfl⟩ := Array.getElem?_eq_some_iff.mp hc
    have q := List.all_eq_true.mp ((Array.all_eq_true_iff_forall_mem.mp hF) _ (Array.getElem_mem ha)) i (List.mem_range.mpr hi)
    simpa [Array.getElem?_eq_getElem hi] using q
  obtain ⟨hsets, hown0⟩ := atoms_of _ (rest_1_c_eq ▸ (show rest_1_c.before _ s = true from hrest))
  obtain ⟨i0, ei0⟩ := is_v g1
  obtain rfl : w0 = (.int i0) := Option.some.inj ei0
  obtain ⟨i1, ei1⟩ := is_v g2
  obtain rfl : w1 = (.int i1) := Option.some.inj ei1
  obtain ⟨i2, ei2⟩ := is_v g3
  obtain rfl : w2 = (.int i2) := Option.some.inj ei2
  obtain ⟨i3, ei3⟩ := is_v g4
  obtain rfl : w3 = (.int i3) := Option.some.inj ei3
  have nCS := not_v (Cond.before_iff.mp (hsets _ (List.mem_of_getElem? (i := 2) rfl)))
  obtain ⟨cS, ecS⟩ := is_v (Cond.before_iff.mp (hsets _ (List.mem_of_getElem? (i := 1) rfl)))
  have S1 : Sta s s.heap "java/lang/String" "COMPACT_STRINGS" "Z" (.int cS) := Sta.start ecS (Or.inl (hsets _ (List.mem_of_getElem? (i := 0) rfl)))
  have c1 : ¬ (cS = (0 : Int32)) := gotF (Cond.eq_ints ecS (Term.int_eval (0))) nCS
  have S2 : Sta s s.heap "java/lang/StringUTF16" "$assertionsDisabled" "Z" (.int 1) := Sta.start (eqv_i (Term.int_eval (1)) (Cond.before_iff.mp (hsets _ (List.mem_of_getElem? (i := 12) rfl)))) (Or.inl (hsets _ (List.mem_of_getElem? (i := 11) rfl)))
  have S3 : Sta s s.heap "java/lang/StringUTF16" "HI_BYTE_SHIFT" "I" (.int 0) := Sta.start (eqv_i (Term.int_eval (0)) (Cond.before_iff.mp (hsets _ (List.mem_of_getElem? (i := 15) rfl)))) (Or.inl (hsets _ (List.mem_of_getElem? (i := 14) rfl)))
  have S4 : Sta s s.heap "java/lang/StringUTF16" "LO_BYTE_SHIFT" "I" (.int 8) := Sta.start (eqv_i (Term.int_eval (8)) (Cond.before_iff.mp (hsets _ (List.mem_of_getElem? (i := 18) rfl)))) (Or.inl (hsets _ (List.mem_of_getElem? (i := 17) rfl)))
  have hEL : EW s _ consts_1 := (EW.cons (hw _ (List.mem_of_getElem? (i := 31) rfl)) (by decide) (EW.cons (hw _ (List.mem_of_getElem? (i := 19) rfl)) (by decide) EW.nil))
  have hCH : CHv s consts_1 s.vm s.heap := CHv.start hEL (fun p hp => hcalls.1 p hp) (hsets _ (List.mem_of_getElem? (i := 2) rfl)) (hq hw 20 rfl) (hq hw 2 rfl)
  obtain ⟨n1, nr1⟩ := and_e hn
  obtain ⟨n2, nr2⟩ := and_e nr1
  obtain ⟨n3, nr3⟩ := and_e nr2
  obtain ⟨n4, nr4⟩ := and_e nr3
  obtain ⟨n5, nr5⟩ := and_e nr4
  obtain ⟨n6, nr6⟩ := and_e nr5
  obtain ⟨n7, nr7⟩ := and_e nr6
  obtain ⟨n8, n9⟩ := and_e nr7
  have T0 : Sta s s.heap "com/example/hook3/hook3/Interceptor" "STAGES" "I" (.int 4) := Sta.start (eqv_i (Term.int_eval (4)) n1) (Or.inr ⟨hw _ (List.mem_of_getElem? (i := 29) rfl), hw _ (List.mem_of_getElem? (i := 42) rfl)⟩)
  obtain ⟨g0, eg0⟩ := exa_v n2
  have T1 : Sta s s.heap "com/example/hook3/hook3/Stage" "ENTER" "Lcom/example/hook3/hook3/Stage;" (.ref g0) := Sta.start eg0 (Or.inr ⟨hw _ (List.mem_of_getElem? (i := 77) rfl), hw _ (List.mem_of_getElem? (i := 78) rfl)⟩)
  have U0 := Exa.start eg0 n2
  have V0 : Fld s s.heap g0 "java/lang/Enum" "ordinal" "I" (.int 0) := Fld.start (by have q := eqv_i (Term.int_eval (0)) n3; rw [fld_at eg0] at q; exact q)
  obtain ⟨g1, eg1⟩ := exa_v n4
  have T2 : Sta s s.heap "com/example/hook3/hook3/Stage" "LEAVE" "Lcom/example/hook3/hook3/Stage;" (.ref g1) := Sta.start eg1 (Or.inr ⟨hw _ (List.mem_of_getElem? (i := 77) rfl), hw _ (List.mem_of_getElem? (i := 94) rfl)⟩)
  have U1 := Exa.start eg1 n4
  have V1 : Fld s s.heap g1 "java/lang/Enum" "ordinal" "I" (.int 1) := Fld.start (by have q := eqv_i (Term.int_eval (1)) n5; rw [fld_at eg1] at q; exact q)
  obtain ⟨g2, eg2⟩ := exa_v n6
  have T3 : Sta s s.heap "com/example/hook3/hook3/Stage" "ERROR" "Lcom/example/hook3/hook3/Stage;" (.ref g2) := Sta.start eg2 (Or.inr ⟨hw _ (List.mem_of_getElem? (i := 77) rfl), hw _ (List.mem_of_getElem? (i := 96) rfl)⟩)
  have U2 := Exa.start eg2 n6
  have V2 : Fld s s.heap g2 "java/lang/Enum" "ordinal" "I" (.int 2) := Fld.start (by have q := eqv_i (Term.int_eval (2)) n7; rw [fld_at eg2] at q; exact q)
  obtain ⟨g3, eg3⟩ := exa_v n8
  have T4 : Sta s s.heap "com/example/hook3/hook3/Stage" "FINAL" "Lcom/example/hook3/hook3/Stage;" (.ref g3) := Sta.start eg3 (Or.inr ⟨hw _ (List.mem_of_getElem? (i := 77) rfl), hw _ (List.mem_of_getElem? (i := 98) rfl)⟩)
  have U3 := Exa.start eg3 n8
  have V3 : Fld s s.heap g3 "java/lang/Enum" "ordinal" "I" (.int 3) := Fld.start (by have q := eqv_i (Term.int_eval (3)) n9; rw [fld_at eg3] at q; exact q)
  obtain ⟨n, o, h1, h2, h3, _, L, rfl, ⟨-, rfl, N⟩, -, hq⟩ := law0 l s _ hw (am := ⟨hEL, S1, c1, S2, S3, S4, T0, T1, U0, V0, T2, U1, V1, T3, U2, V2, T4, U3, V3⟩) (p0 := i0) (p1 := i1) (p2 := i2) (p3 := i3) (h0 := s.heap) (ext_refl _) (fun _ q => nomatch q) tables_1 p e ha hc hk s m _ below hf ((Spec.applies_iff_loose hf).mp happ).1 ⟨rfl, State.Warmed39.refl s, rfl, hCH, fun _ q => nomatch q⟩ trivial
  exact ⟨n, _, h1, h2, h3, hpost _ _ _ _ _ _ ⟨Cond.after_iff.mpr rfl, Cond.after_iff.mpr (eq_i res_at (Term.int_eval (1)) rfl), trivial⟩ ⟨hq.1, hq.2.1, hq.2.2.1, (hq.2.2.2.sift fun y hy => Or.inr (N y hy)).mono (by decide) (by decide)⟩⟩
theorem main_1_1 : Claimed_1_1 := comes_1 fun _ _ _ _ _ _ h hF => ⟨h.1, hF⟩
theorem main_1_2 : Claimed_1_2 := comes_1 fun _ _ _ _ _ _ h hF => ⟨h.2.1, hF⟩
end Jvm.Pilot.@@N@@
namespace Jvm.Pilot.@@N@@
open Jvm Jvm.ClassFile Sem Op Lib Jvm.Free Jvm.Stand Jvm.Pilot.@@N@@.Jvm.D
/-! MADE BY PROGRAM (witnessworld.py) out of the Statement's table words and the real class files: 25 classes; the members and pool entries that the words name. The judged class is class 1, her method 2. -/
namespace start1
open Jvm.ClassFile
def u (s : String) : CpInfo := .utf8 (stringToUtf16 s)
/-- a pool by its gaps: so many unusable entries, then the entry; so many at the end -/
def gap : Nat → List CpInfo → List CpInfo
  | 0, r => r
  | n + 1, r => .unusable :: gap n r
def poolList (es : List (Nat × CpInfo)) (last : Nat) : List CpInfo := es.foldr (fun e r => gap e.1 (e.2 :: r)) (gap last [])
def pool (es : List (Nat × CpInfo)) (last : Nat) : Array CpInfo := ⟨poolList es last⟩
def fileOf (pool : Array CpInfo) (this : Nat) (attrs : Array Attribute := #[]) (ms : Array MethodInfo := #[]) (fl : Nat := 33) (sup : Nat := 0) (ifs : Array Nat := #[]) (fds : Array FieldInfo := #[]) : ClassFile where
  minorVersion := 0
  majorVersion := 65
  constantPool := pool
  accessFlags := fl
  thisClass := this
  superClass := sup
  interfaces := ifs
  fields := fds
  methods := ms
  attributes := attrs
def plain (name : String) (sup : Option ClassId) : Class where
  name := name
  kind := .ordinary
  loader := none
  accessFlags := 33
  super := sup
  interfaces := #[]
  cf := none
  fields := #[]
  methods := #[]
  instanceTypes := #[]
  staticTypes := #[]
  resolved := #[]
  callSites := []
  init := .initialized
  statics := none
  mirror := none

def pool0 : Array CpInfo := pool [(5, u "<init>"), (0, u "()V"), (1, .class_ 10), (1, u "java/lang/Object")] 113

def k0c0 : Code := { maxStack := 0, maxLocals := 1, code := object_method_1_code, exceptionTable := #[], attributes := #[] }
def k0m0 : Method := { name := "<init>", desc := "()V", sig := { parameters := [], returnType := none }, accessFlags := 1, code := some k0c0 }
/-- java/lang/Object -/
def k0 : Class := { plain "java/lang/Object" none with
  accessFlags := 33
  interfaces := #[]
  cf := some (fileOf pool0 8 #[] #[{ accessFlags := 1, nameIndex := 5, descriptorIndex := 6, attributes := #[] }] 33 0 #[] #[])
  fields := #[]
  methods := #[k0m0]
  instanceTypes := #[]
  staticTypes := #[]
  resolved := Array.replicate 124 none
  statics := none }

def pool1 : Array CpInfo := pool [(2, .class_ 4), (1, u "java/lang/Object"), (0, u "<init>"), (0, u "()V"), (0, .integer 65535), (0, .class_ 9), (0, u "java/lang/String"), (0, .methodref 11 12), (0, .class_ 13), (0, .nameAndType 14 15), (0, u "com/example/hook3/hook3/InterceptorNamedPinLaw"), (0, u "drawn"), (0, u "(ICCC)[C"), (0, .methodref 8 17), (0, .nameAndType 5 18), (0, u "([C)V"), (0, .methodref 20 21), (0, .class_ 22), (0, .nameAndType 23 24), (0, u "com/example/hook3/hook3/Interceptor"), (0, u "named"), (0, u "(Ljava/lang/String;)Lcom/example/hook3/hook3/Interceptor;"), (0, .methodref 20 26), (0, .nameAndType 27 28), (0, u "name"), (0, u "()Ljava/lang/String;"), (0, .methodref 8 30), (0, .nameAndType 31 32), (0, u "length"), (0, u "()I"), (0, .methodref 8 34), (0, .nameAndType 35 36), (0, u "equals"), (0, u "(Ljava/lang/Object;)Z"), (0, .fieldref 38 39), (0, .class_ 40), (0, .nameAndType 41 42), (0, u "com/example/hook3/hook3/Stage"), (0, u "ENTER"), (0, u "Lcom/example/hook3/hook3/Stage;"), (0, .methodref 20 44), (0, .nameAndType 45 46), (0, u "has"), (0, u "(Lcom/example/hook3/hook3/Stage;)Z"), (0, .fieldref 38 48), (0, .nameAndType 49 42), (0, u "LEAVE"), (0, .fieldref 38 51), (0, .nameAndType 52 42), (0, u "ERROR"), (0, .fieldref 38 54), (0, .nameAndType 55 42), (0, u "FINAL"), (5, u "law"), (0, u "(IIII)Z")] 2

def k1m0 : Method := { name := "<init>", desc := "()V", sig := { parameters := [], returnType := none }, accessFlags := 2, code := none }
def k1c1 : Code := { maxStack := 4, maxLocals := 5, code := method_2_code, exceptionTable := #[], attributes := #[] }
def k1m1 : Method := { name := "drawn", desc := "(ICCC)[C", sig := { parameters := [.int, .char, .char, .char], returnType := some (.array .char) }, accessFlags := 10, code := some k1c1 }
def k1c2 : Code := { maxStack := 6, maxLocals := 13, code := code, exceptionTable := #[], attributes := #[] }
def k1m2 : Method := { name := "law", desc := "(IIII)Z", sig := { parameters := [.int, .int, .int, .int], returnType := some .boolean }, accessFlags := 9, code := some k1c2 }
/-- com/example/hook3/hook3/InterceptorNamedPinLaw -/
def k1 : Class := { plain "com/example/hook3/hook3/InterceptorNamedPinLaw" (some 0) with
  accessFlags := 49
  interfaces := #[]
  cf := some (fileOf pool1 11 #[] #[{ accessFlags := 2, nameIndex := 5, descriptorIndex := 6, attributes := #[] }, { accessFlags := 10, nameIndex := 14, descriptorIndex := 15, attributes := #[] }, { accessFlags := 9, nameIndex := 61, descriptorIndex := 62, attributes := #[] }] 49 2 #[] #[])
  fields := #[]
  methods := #[k1m0, k1m1, k1m2]
  instanceTypes := #[]
  staticTypes := #[]
  resolved := Array.replicate 65 none
  statics := none }

def pool2 : Array CpInfo := pool [(1, .class_ 2), (0, u "java/io/Serializable"), (0, .class_ 4), (0, u "java/lang/Object")] 2

/-- java/io/Serializable -/
def k2 : Class := { plain "java/io/Serializable" (some 0) with
  accessFlags := 1537
  interfaces := #[]
  cf := some (fileOf pool2 1 #[] #[] 1537 3 #[] #[])
  fields := #[]
  methods := #[]
  instanceTypes := #[]
  staticTypes := #[]
  resolved := Array.replicate 7 none
  statics := none }

def pool3 : Array CpInfo := pool [(1, .class_ 2), (0, u "java/lang/Comparable"), (0, .class_ 4), (0, u "java/lang/Object")] 7

/-- java/lang/Comparable -/
def k3 : Class := { plain "java/lang/Comparable" (some 0) with
  accessFlags := 1537
  interfaces := #[]
  cf := some (fileOf pool3 1 #[] #[] 1537 3 #[] #[])
  fields := #[]
  methods := #[]
  instanceTypes := #[]
  staticTypes := #[]
  resolved := Array.replicate 12 none
  statics := none }

def pool4 : Array CpInfo := pool [(2, .class_ 4), (1, u "java/lang/CharSequence"), (42, .class_ 48), (0, u "java/lang/CharSequence$1CodePointIterator"), (10, .class_ 60), (0, u "java/lang/CharSequence$1CharIterator"), (5, .class_ 67), (0, u "java/lang/Object")] 63

/-- java/lang/CharSequence -/
def k4 : Class := { plain "java/lang/CharSequence" (some 0) with
  accessFlags := 1537
  interfaces := #[]
  cf := some (fileOf pool4 2 #[.nestMembers #[47, 59]] #[] 1537 66 #[] #[])
  fields := #[]
  methods := #[]
  instanceTypes := #[]
  staticTypes := #[]
  resolved := Array.replicate 131 none
  statics := none }

def pool5 : Array CpInfo := pool [(1, .class_ 2), (0, u "java/lang/constant/Constable"), (0, .class_ 4), (0, u "java/lang/Object")] 6

/-- java/lang/constant/Constable -/
def k5 : Class := { plain "java/lang/constant/Constable" (some 0) with
  accessFlags := 1537
  interfaces := #[]
  cf := some (fileOf pool5 1 #[] #[] 1537 3 #[] #[])
  fields := #[]
  methods := #[]
  instanceTypes := #[]
  staticTypes := #[]
  resolved := Array.replicate 11 none
  statics := none }

def pool6 : Array CpInfo := pool [(1, .class_ 2), (0, u "java/lang/constant/ConstantDesc"), (0, .class_ 4), (0, u "java/lang/Object")] 32

/-- java/lang/constant/ConstantDesc -/
def k6 : Class := { plain "java/lang/constant/ConstantDesc" (some 0) with
  accessFlags := 1537
  interfaces := #[]
  cf := some (fileOf pool6 1 #[] #[] 1537 3 #[] #[])
  fields := #[]
  methods := #[]
  instanceTypes := #[]
  staticTypes := #[]
  resolved := Array.replicate 37 none
  statics := none }

def pool7 : Array CpInfo := pool [(1, .methodref 2 3), (0, .class_ 4), (0, .nameAndType 5 6), (0, u "java/lang/Object"), (0, u "<init>"), (0, u "()V"), (0, .string 8), (0, u ""), (0, .fieldref 10 11), (0, .class_ 12), (0, .nameAndType 13 14), (0, u "java/lang/String"), (0, u "value"), (0, u "[B"), (0, .fieldref 10 16), (0, .nameAndType 17 18), (0, u "coder"), (0, u "B"), (2, u "hash"), (0, u "I"), (2, u "hashIsZero"), (0, u "Z"), (0, .methodref 10 28), (0, .nameAndType 5 29), (0, u "([CIILjava/lang/Void;)V"), (8, .fieldref 10 39), (0, .nameAndType 40 26), (0, u "COMPACT_STRINGS"), (1, .class_ 44), (1, u "java/lang/StringUTF16"), (0, u "compress"), (1, .methodref 42 48), (0, .nameAndType 49 50), (0, u "coderFromArrayLen"), (0, u "([BI)B"), (126, .methodref 42 178), (0, .nameAndType 45 179), (0, u "([CII)[B"), (154, u "()I"), (0, .methodref 10 336), (0, .nameAndType 17 337), (0, u "()B"), (169, u "length"), (35, u "equals"), (29, u "(Ljava/lang/Object;)Z"), (1, .class_ 576), (0, u "java/lang/CharSequence"), (22, u "CASE_INSENSITIVE_ORDER"), (0, u "Ljava/util/Comparator;"), (409, u "([C)V"), (90, u "serialPersistentFields"), (0, u "[Ljava/io/ObjectStreamField;"), (0, .class_ 1104), (0, u "java/lang/String$CaseInsensitiveComparator"), (1, .class_ 1107), (0, u "java/io/Serializable"), (0, .class_ 1109), (0, u "java/lang/Comparable"), (0, .class_ 1111), (0, u "java/lang/constant/Constable"), (0, .class_ 1113), (0, u "java/lang/constant/ConstantDesc"), (2, u "serialVersionUID"), (0, u "J"), (3, u "REPL"), (0, u "C"), (2, u "LATIN1"), (1, u "UTF16")] 323

def k7m0 : Method := { name := "<init>", desc := "()V", sig := { parameters := [], returnType := none }, accessFlags := 1, code := none }
def k7c1 : Code := { maxStack := 5, maxLocals := 2, code := jdk_42_method_3_code, exceptionTable := #[], attributes := #[] }
def k7m1 : Method := { name := "<init>", desc := "([C)V", sig := { parameters := [(.array .char)], returnType := none }, accessFlags := 1, code := some k7c1 }
def k7c2 : Code := { maxStack := 2, maxLocals := 1, code := jdk_42_method_54_code, exceptionTable := #[], attributes := #[] }
def k7m2 : Method := { name := "length", desc := "()I", sig := { parameters := [], returnType := some .int }, accessFlags := 1, code := some k7c2 }
def k7c3 : Code := { maxStack := 2, maxLocals := 3, code := jdk_42_method_66_code, exceptionTable := #[], attributes := #[] }
def k7m3 : Method := { name := "equals", desc := "(Ljava/lang/Object;)Z", sig := { parameters := [(.object "java/lang/Object")], returnType := some .boolean }, accessFlags := 1, code := some k7c3 }
def k7c4 : Code := { maxStack := 4, maxLocals := 6, code := jdk_42_method_149_code, exceptionTable := #[], attributes := #[] }
def k7m4 : Method := { name := "<init>", desc := "([CIILjava/lang/Void;)V", sig := { parameters := [(.array .char), .int, .int, (.object "java/lang/Void")], returnType := none }, accessFlags := 2, code := some k7c4 }
def k7c5 : Code := { maxStack := 1, maxLocals := 1, code := jdk_42_method_152_code, exceptionTable := #[], attributes := #[] }
def k7m5 : Method := { name := "coder", desc := "()B", sig := { parameters := [], returnType := some .byte }, accessFlags := 0, code := some k7c5 }
/-- java/lang/String -/
def k7 : Class := { plain "java/lang/String" (some 0) with
  accessFlags := 49
  interfaces := #[2, 3, 4, 5, 6]
  cf := some (fileOf pool7 10 #[.nestMembers #[1103]] #[{ accessFlags := 1, nameIndex := 5, descriptorIndex := 6, attributes := #[] }, { accessFlags := 1, nameIndex := 5, descriptorIndex := 1010, attributes := #[] }, { accessFlags := 1, nameIndex := 507, descriptorIndex := 334, attributes := #[] }, { accessFlags := 1, nameIndex := 543, descriptorIndex := 573, attributes := #[] }, { accessFlags := 2, nameIndex := 5, descriptorIndex := 29, attributes := #[] }, { accessFlags := 0, nameIndex := 17, descriptorIndex := 337, attributes := #[] }] 49 2 #[1106, 1108, 575, 1110, 1112] #[{ accessFlags := 18, nameIndex := 13, descriptorIndex := 14, attributes := #[] }, { accessFlags := 18, nameIndex := 17, descriptorIndex := 18, attributes := #[] }, { accessFlags := 2, nameIndex := 21, descriptorIndex := 22, attributes := #[] }, { accessFlags := 2, nameIndex := 25, descriptorIndex := 26, attributes := #[] }, { accessFlags := 26, nameIndex := 1116, descriptorIndex := 1117, attributes := #[] }, { accessFlags := 24, nameIndex := 40, descriptorIndex := 26, attributes := #[] }, { accessFlags := 26, nameIndex := 1101, descriptorIndex := 1102, attributes := #[] }, { accessFlags := 26, nameIndex := 1121, descriptorIndex := 1122, attributes := #[] }, { accessFlags := 25, nameIndex := 599, descriptorIndex := 600, attributes := #[] }, { accessFlags := 24, nameIndex := 1125, descriptorIndex := 18, attributes := #[] }, { accessFlags := 24, nameIndex := 1127, descriptorIndex := 18, attributes := #[] }])
  fields := #[{ name := "value", type := (.array .byte), accessFlags := 18, slot := 0, constantValue := 0 }, { name := "coder", type := .byte, accessFlags := 18, slot := 1, constantValue := 0 }, { name := "hash", type := .int, accessFlags := 2, slot := 2, constantValue := 0 }, { name := "hashIsZero", type := .boolean, accessFlags := 2, slot := 3, constantValue := 0 }, { name := "serialVersionUID", type := .long, accessFlags := 26, slot := 0, constantValue := 0 }, { name := "COMPACT_STRINGS", type := .boolean, accessFlags := 24, slot := 1, constantValue := 0 }, { name := "serialPersistentFields", type := (.array (.object "java/io/ObjectStreamField")), accessFlags := 26, slot := 2, constantValue := 0 }, { name := "REPL", type := .char, accessFlags := 26, slot := 3, constantValue := 0 }, { name := "CASE_INSENSITIVE_ORDER", type := (.object "java/util/Comparator"), accessFlags := 25, slot := 4, constantValue := 0 }, { name := "LATIN1", type := .byte, accessFlags := 24, slot := 5, constantValue := 0 }, { name := "UTF16", type := .byte, accessFlags := 24, slot := 6, constantValue := 0 }]
  methods := #[k7m0, k7m1, k7m2, k7m3, k7m4, k7m5]
  instanceTypes := #[(.array .byte), .byte, .int, .boolean]
  staticTypes := #[.long, .boolean, (.array (.object "java/io/ObjectStreamField")), .char, (.object "java/util/Comparator"), .byte, .byte]
  resolved := Array.replicate 1451 none
  statics := some 0 }

def pool8 : Array CpInfo := pool [(1, .methodref 2 3), (0, .class_ 4), (0, .nameAndType 5 6), (0, u "java/lang/Object"), (0, u "<init>"), (0, u "()V"), (0, .fieldref 8 9), (0, .class_ 10), (0, .nameAndType 11 12), (0, u "com/example/hook3/hook3/Interceptor"), (0, u "name"), (0, u "Ljava/lang/String;"), (0, .fieldref 8 14), (0, .nameAndType 15 16), (0, u "stages"), (0, u "[Ljava/util/function/Function;"), (0, .fieldref 8 18), (0, .nameAndType 19 16), (0, u "asyncStages"), (0, .string 11), (0, .methodref 22 23), (0, .class_ 24), (0, .nameAndType 25 26), (0, u "java/util/Objects"), (0, u "requireNonNull"), (0, u "(Ljava/lang/Object;Ljava/lang/String;)Ljava/lang/Object;"), (0, .methodref 8 28), (0, .nameAndType 29 30), (0, u "noStages"), (0, u "()[Ljava/util/function/Function;"), (0, .methodref 8 32), (0, .nameAndType 5 33), (0, u "(Ljava/lang/String;[Ljava/util/function/Function;[Ljava/util/function/Function;)V"), (3, .class_ 39), (1, u "java/util/function/Function"), (1, u "()Ljava/lang/String;"), (2, u "named"), (0, u "(Ljava/lang/String;)Lcom/example/hook3/hook3/Interceptor;"), (4, .class_ 52), (1, u "com/example/hook3/hook3/Stage"), (21, .methodref 50 75), (0, .nameAndType 76 77), (0, u "ordinal"), (0, u "()I"), (15, .fieldref 8 94), (0, .nameAndType 95 96), (0, u "STAGES"), (0, u "I"), (44, u "has"), (0, u "(Lcom/example/hook3/hook3/Stage;)Z")] 42

def k8c0 : Code := { maxStack := 2, maxLocals := 4, code := prog_5_method_1_code, exceptionTable := #[], attributes := #[] }
def k8m0 : Method := { name := "<init>", desc := "(Ljava/lang/String;[Ljava/util/function/Function;[Ljava/util/function/Function;)V", sig := { parameters := [(.object "java/lang/String"), (.array (.object "java/util/function/Function")), (.array (.object "java/util/function/Function"))], returnType := none }, accessFlags := 2, code := some k8c0 }
def k8c1 : Code := { maxStack := 5, maxLocals := 1, code := prog_5_method_2_code, exceptionTable := #[], attributes := #[] }
def k8m1 : Method := { name := "named", desc := "(Ljava/lang/String;)Lcom/example/hook3/hook3/Interceptor;", sig := { parameters := [(.object "java/lang/String")], returnType := some (.object "com/example/hook3/hook3/Interceptor") }, accessFlags := 9, code := some k8c1 }
def k8c2 : Code := { maxStack := 1, maxLocals := 1, code := prog_5_method_16_code, exceptionTable := #[], attributes := #[] }
def k8m2 : Method := { name := "name", desc := "()Ljava/lang/String;", sig := { parameters := [], returnType := some (.object "java/lang/String") }, accessFlags := 1, code := some k8c2 }
def k8c3 : Code := { maxStack := 2, maxLocals := 2, code := prog_5_method_19_code, exceptionTable := #[], attributes := #[] }
def k8m3 : Method := { name := "has", desc := "(Lcom/example/hook3/hook3/Stage;)Z", sig := { parameters := [(.object "com/example/hook3/hook3/Stage")], returnType := some .boolean }, accessFlags := 0, code := some k8c3 }
def k8c4 : Code := { maxStack := 1, maxLocals := 0, code := prog_5_method_24_code, exceptionTable := #[], attributes := #[] }
def k8m4 : Method := { name := "noStages", desc := "()[Ljava/util/function/Function;", sig := { parameters := [], returnType := some (.array (.object "java/util/function/Function")) }, accessFlags := 10, code := some k8c4 }
/-- com/example/hook3/hook3/Interceptor -/
def k8 : Class := { plain "com/example/hook3/hook3/Interceptor" (some 0) with
  accessFlags := 33
  interfaces := #[]
  cf := some (fileOf pool8 8 #[] #[{ accessFlags := 2, nameIndex := 5, descriptorIndex := 33, attributes := #[] }, { accessFlags := 9, nameIndex := 44, descriptorIndex := 45, attributes := #[] }, { accessFlags := 1, nameIndex := 11, descriptorIndex := 41, attributes := #[] }, { accessFlags := 0, nameIndex := 141, descriptorIndex := 142, attributes := #[] }, { accessFlags := 10, nameIndex := 29, descriptorIndex := 30, attributes := #[] }] 33 2 #[] #[{ accessFlags := 26, nameIndex := 95, descriptorIndex := 96, attributes := #[] }, { accessFlags := 18, nameIndex := 11, descriptorIndex := 12, attributes := #[] }, { accessFlags := 18, nameIndex := 15, descriptorIndex := 16, attributes := #[] }, { accessFlags := 18, nameIndex := 19, descriptorIndex := 16, attributes := #[] }])
  fields := #[{ name := "STAGES", type := .int, accessFlags := 26, slot := 0, constantValue := 0 }, { name := "name", type := (.object "java/lang/String"), accessFlags := 18, slot := 0, constantValue := 0 }, { name := "stages", type := (.array (.object "java/util/function/Function")), accessFlags := 18, slot := 1, constantValue := 0 }, { name := "asyncStages", type := (.array (.object "java/util/function/Function")), accessFlags := 18, slot := 2, constantValue := 0 }]
  methods := #[k8m0, k8m1, k8m2, k8m3, k8m4]
  instanceTypes := #[(.object "java/lang/String"), (.array (.object "java/util/function/Function")), (.array (.object "java/util/function/Function"))]
  staticTypes := #[.int]
  resolved := Array.replicate 185 none
  statics := some 1 }

def pool9 : Array CpInfo := pool [(2, .class_ 4), (1, u "java/lang/Object"), (0, u "<init>"), (0, u "()V"), (35, .class_ 44), (1, u "java/util/Objects"), (0, u "requireNonNull"), (48, u "(Ljava/lang/Object;Ljava/lang/String;)Ljava/lang/Object;")] 89

def k9m0 : Method := { name := "<init>", desc := "()V", sig := { parameters := [], returnType := none }, accessFlags := 2, code := none }
def k9c1 : Code := { maxStack := 3, maxLocals := 2, code := jdk_31_method_11_code, exceptionTable := #[], attributes := #[] }
def k9m1 : Method := { name := "requireNonNull", desc := "(Ljava/lang/Object;Ljava/lang/String;)Ljava/lang/Object;", sig := { parameters := [(.object "java/lang/Object"), (.object "java/lang/String")], returnType := some (.object "java/lang/Object") }, accessFlags := 9, code := some k9c1 }
/-- java/util/Objects -/
def k9 : Class := { plain "java/util/Objects" (some 0) with
  accessFlags := 49
  interfaces := #[]
  cf := some (fileOf pool9 42 #[] #[{ accessFlags := 2, nameIndex := 5, descriptorIndex := 6, attributes := #[] }, { accessFlags := 9, nameIndex := 45, descriptorIndex := 94, attributes := #[] }] 49 2 #[] #[])
  fields := #[]
  methods := #[k9m0, k9m1]
  instanceTypes := #[]
  staticTypes := #[]
  resolved := Array.replicate 184 none
  statics := none }

def pool10 : Array CpInfo := pool [(16, .class_ 18), (1, u "java/util/function/Function"), (0, .class_ 20), (0, u "java/lang/Object")] 56

/-- java/util/function/Function -/
def k10 : Class := { plain "java/util/function/Function" (some 0) with
  accessFlags := 1537
  interfaces := #[]
  cf := some (fileOf pool10 16 #[] #[] 1537 19 #[] #[])
  fields := #[]
  methods := #[]
  instanceTypes := #[]
  staticTypes := #[]
  resolved := Array.replicate 77 none
  statics := none }

def pool11 : Array CpInfo := pool [(2, .class_ 4), (1, u "java/lang/Enum"), (0, u "name"), (0, u "Ljava/lang/String;"), (0, .fieldref 2 8), (0, .nameAndType 9 10), (0, u "ordinal"), (0, u "I"), (1, .class_ 14), (1, u "java/lang/Object"), (4, u "hash"), (86, .class_ 108), (1, u "java/lang/Enum$EnumDesc"), (2, .class_ 112), (0, u "java/lang/constant/Constable"), (0, .class_ 114), (0, u "java/lang/Comparable"), (0, .class_ 116), (0, u "java/io/Serializable"), (9, u "()I")] 77

def k11c0 : Code := { maxStack := 1, maxLocals := 1, code := jdk_37_method_2_code, exceptionTable := #[], attributes := #[] }
def k11m0 : Method := { name := "ordinal", desc := "()I", sig := { parameters := [], returnType := some .int }, accessFlags := 17, code := some k11c0 }
/-- java/lang/Enum -/
def k11 : Class := { plain "java/lang/Enum" (some 0) with
  accessFlags := 1057
  interfaces := #[5, 3, 2]
  cf := some (fileOf pool11 2 #[.nestMembers #[106]] #[{ accessFlags := 17, nameIndex := 9, descriptorIndex := 126, attributes := #[] }] 1057 12 #[111, 113, 115] #[{ accessFlags := 18, nameIndex := 5, descriptorIndex := 6, attributes := #[] }, { accessFlags := 18, nameIndex := 9, descriptorIndex := 10, attributes := #[] }, { accessFlags := 2, nameIndex := 19, descriptorIndex := 10, attributes := #[] }])
  fields := #[{ name := "name", type := (.object "java/lang/String"), accessFlags := 18, slot := 0, constantValue := 0 }, { name := "ordinal", type := .int, accessFlags := 18, slot := 1, constantValue := 0 }, { name := "hash", type := .int, accessFlags := 2, slot := 2, constantValue := 0 }]
  methods := #[k11m0]
  instanceTypes := #[(.object "java/lang/String"), .int, .int]
  staticTypes := #[]
  resolved := Array.replicate 204 none
  statics := none }

def pool12 : Array CpInfo := pool [(1, .class_ 2), (0, u "com/example/hook3/hook3/Stage"), (2, u "ENTER"), (0, u "Lcom/example/hook3/hook3/Stage;"), (2, u "LEAVE"), (2, u "ERROR"), (2, u "FINAL"), (2, u "$VALUES"), (0, u "[Lcom/example/hook3/hook3/Stage;"), (6, .class_ 28), (1, u "java/lang/Enum"), (24, u "word"), (0, u "Ljava/lang/String;")] 42

/-- com/example/hook3/hook3/Stage -/
def k12 : Class := { plain "com/example/hook3/hook3/Stage" (some 11) with
  accessFlags := 16433
  interfaces := #[]
  cf := some (fileOf pool12 1 #[] #[] 16433 26 #[] #[{ accessFlags := 16409, nameIndex := 5, descriptorIndex := 6, attributes := #[] }, { accessFlags := 16409, nameIndex := 9, descriptorIndex := 6, attributes := #[] }, { accessFlags := 16409, nameIndex := 12, descriptorIndex := 6, attributes := #[] }, { accessFlags := 16409, nameIndex := 15, descriptorIndex := 6, attributes := #[] }, { accessFlags := 18, nameIndex := 53, descriptorIndex := 54, attributes := #[] }, { accessFlags := 4122, nameIndex := 18, descriptorIndex := 19, attributes := #[] }])
  fields := #[{ name := "ENTER", type := (.object "com/example/hook3/hook3/Stage"), accessFlags := 16409, slot := 0, constantValue := 0 }, { name := "LEAVE", type := (.object "com/example/hook3/hook3/Stage"), accessFlags := 16409, slot := 1, constantValue := 0 }, { name := "ERROR", type := (.object "com/example/hook3/hook3/Stage"), accessFlags := 16409, slot := 2, constantValue := 0 }, { name := "FINAL", type := (.object "com/example/hook3/hook3/Stage"), accessFlags := 16409, slot := 3, constantValue := 0 }, { name := "word", type := (.object "java/lang/String"), accessFlags := 18, slot := 3, constantValue := 0 }, { name := "$VALUES", type := (.array (.object "com/example/hook3/hook3/Stage")), accessFlags := 4122, slot := 4, constantValue := 0 }]
  methods := #[]
  instanceTypes := #[(.object "java/lang/String"), .int, .int, (.object "java/lang/String")]
  staticTypes := #[(.object "com/example/hook3/hook3/Stage"), (.object "com/example/hook3/hook3/Stage"), (.object "com/example/hook3/hook3/Stage"), (.object "com/example/hook3/hook3/Stage"), (.array (.object "com/example/hook3/hook3/Stage"))]
  resolved := Array.replicate 97 none
  statics := some 2 }

def pool13 : Array CpInfo := pool [(6, .class_ 8), (1, u "java/lang/Object"), (0, u "<init>"), (0, u "()V"), (0, .methodref 12 13), (0, .class_ 14), (0, .nameAndType 15 16), (0, u "java/lang/StringUTF16"), (0, u "newBytesLength"), (0, u "(I)I"), (3, .integer 1073741823), (23, .fieldref 12 45), (0, .nameAndType 46 47), (0, u "$assertionsDisabled"), (0, u "Z"), (11, .fieldref 12 60), (0, .nameAndType 61 62), (0, u "HI_BYTE_SHIFT"), (0, u "I"), (0, .fieldref 12 64), (0, .nameAndType 65 62), (0, u "LO_BYTE_SHIFT"), (5, .methodref 12 72), (0, .nameAndType 73 74), (0, u "getChar"), (0, u "([BI)C"), (32, .methodref 12 108), (0, .nameAndType 109 110), (0, u "newBytesFor"), (0, u "(I)[B"), (0, .methodref 12 112), (0, .nameAndType 113 114), (0, u "putChar"), (0, u "([BII)V"), (0, .methodref 12 116), (0, .nameAndType 117 118), (0, u "compress"), (0, u "([CI[BII)I"), (0, .methodref 12 120), (0, .nameAndType 121 122), (0, u "toBytes"), (0, u "([CII)[B"), (138, u "coderFromArrayLen"), (0, u "([BI)B"), (106, .class_ 371), (1, u "java/lang/StringUTF16$LinesSpliterator"), (58, u "MAX_LENGTH"), (196, .class_ 628), (0, u "java/lang/StringUTF16$CodePointsSpliterator"), (0, .class_ 630), (0, u "java/lang/StringUTF16$CharsSpliterator")] 4

def k13m0 : Method := { name := "<init>", desc := "()V", sig := { parameters := [], returnType := none }, accessFlags := 0, code := none }
def k13c1 : Code := { maxStack := 1, maxLocals := 1, code := jdk_52_method_2_code, exceptionTable := #[], attributes := #[] }
def k13m1 : Method := { name := "newBytesFor", desc := "(I)[B", sig := { parameters := [.int], returnType := some (.array .byte) }, accessFlags := 9, code := some k13c1 }
def k13c2 : Code := { maxStack := 4, maxLocals := 1, code := jdk_52_method_3_code, exceptionTable := #[], attributes := #[] }
def k13m2 : Method := { name := "newBytesLength", desc := "(I)I", sig := { parameters := [.int], returnType := some .int }, accessFlags := 9, code := some k13c2 }
def k13c3 : Code := { maxStack := 4, maxLocals := 3, code := jdk_52_method_4_code, exceptionTable := #[], attributes := #[] }
def k13m3 : Method := { name := "putChar", desc := "([BII)V", sig := { parameters := [(.array .byte), .int, .int], returnType := none }, accessFlags := 8, code := some k13c3 }
def k13c4 : Code := { maxStack := 3, maxLocals := 2, code := jdk_52_method_5_code, exceptionTable := #[], attributes := #[] }
def k13m4 : Method := { name := "getChar", desc := "([BI)C", sig := { parameters := [(.array .byte), .int], returnType := some .char }, accessFlags := 8, code := some k13c4 }
def k13c5 : Code := { maxStack := 4, maxLocals := 5, code := jdk_52_method_14_code, exceptionTable := #[], attributes := #[] }
def k13m5 : Method := { name := "toBytes", desc := "([CII)[B", sig := { parameters := [(.array .char), .int, .int], returnType := some (.array .byte) }, accessFlags := 9, code := some k13c5 }
def k13c6 : Code := { maxStack := 2, maxLocals := 2, code := jdk_52_method_15_code, exceptionTable := #[], attributes := #[] }
def k13m6 : Method := { name := "coderFromArrayLen", desc := "([BI)B", sig := { parameters := [(.array .byte), .int], returnType := some .byte }, accessFlags := 8, code := some k13c6 }
def k13c7 : Code := { maxStack := 5, maxLocals := 6, code := jdk_52_method_16_code, exceptionTable := #[], attributes := #[] }
def k13m7 : Method := { name := "compress", desc := "([CII)[B", sig := { parameters := [(.array .char), .int, .int], returnType := some (.array .byte) }, accessFlags := 9, code := some k13c7 }
def k13c8 : Code := { maxStack := 3, maxLocals := 7, code := jdk_52_method_21_code, exceptionTable := #[], attributes := #[] }
def k13m8 : Method := { name := "compress", desc := "([CI[BII)I", sig := { parameters := [(.array .char), .int, (.array .byte), .int, .int], returnType := some .int }, accessFlags := 9, code := some k13c8 }
/-- java/lang/StringUTF16 -/
def k13 : Class := { plain "java/lang/StringUTF16" (some 0) with
  accessFlags := 48
  interfaces := #[]
  cf := some (fileOf pool13 12 #[.nestMembers #[627, 629, 369]] #[{ accessFlags := 0, nameIndex := 9, descriptorIndex := 10, attributes := #[] }, { accessFlags := 9, nameIndex := 109, descriptorIndex := 110, attributes := #[] }, { accessFlags := 9, nameIndex := 15, descriptorIndex := 16, attributes := #[] }, { accessFlags := 8, nameIndex := 113, descriptorIndex := 114, attributes := #[] }, { accessFlags := 8, nameIndex := 73, descriptorIndex := 74, attributes := #[] }, { accessFlags := 9, nameIndex := 121, descriptorIndex := 122, attributes := #[] }, { accessFlags := 8, nameIndex := 261, descriptorIndex := 262, attributes := #[] }, { accessFlags := 9, nameIndex := 117, descriptorIndex := 122, attributes := #[] }, { accessFlags := 9, nameIndex := 117, descriptorIndex := 118, attributes := #[] }] 48 6 #[] #[{ accessFlags := 26, nameIndex := 61, descriptorIndex := 62, attributes := #[] }, { accessFlags := 26, nameIndex := 65, descriptorIndex := 62, attributes := #[] }, { accessFlags := 24, nameIndex := 430, descriptorIndex := 62, attributes := #[] }, { accessFlags := 4120, nameIndex := 46, descriptorIndex := 47, attributes := #[] }])
  fields := #[{ name := "HI_BYTE_SHIFT", type := .int, accessFlags := 26, slot := 0, constantValue := 0 }, { name := "LO_BYTE_SHIFT", type := .int, accessFlags := 26, slot := 1, constantValue := 0 }, { name := "MAX_LENGTH", type := .int, accessFlags := 24, slot := 2, constantValue := 0 }, { name := "$assertionsDisabled", type := .boolean, accessFlags := 4120, slot := 3, constantValue := 0 }]
  methods := #[k13m0, k13m1, k13m2, k13m3, k13m4, k13m5, k13m6, k13m7, k13m8]
  instanceTypes := #[]
  staticTypes := #[.int, .int, .int, .boolean]
  resolved := Array.replicate 635 none
  statics := some 3 }

def pool14 : Array CpInfo := pool [(4, .class_ 6), (1, u "java/lang/Object"), (0, u "<init>"), (0, u "()V"), (5, .class_ 16), (1, u "java/lang/StringLatin1"), (104, u "$assertionsDisabled"), (0, u "Z"), (98, .class_ 223), (1, u "java/lang/StringLatin1$LinesSpliterator"), (166, .class_ 391), (0, u "java/lang/StringLatin1$CharsSpliterator")] 3

def k14m0 : Method := { name := "<init>", desc := "()V", sig := { parameters := [], returnType := none }, accessFlags := 0, code := none }
/-- java/lang/StringLatin1 -/
def k14 : Class := { plain "java/lang/StringLatin1" (some 0) with
  accessFlags := 48
  interfaces := #[]
  cf := some (fileOf pool14 14 #[.nestMembers #[390, 221]] #[{ accessFlags := 0, nameIndex := 7, descriptorIndex := 8, attributes := #[] }] 48 4 #[] #[{ accessFlags := 4120, nameIndex := 121, descriptorIndex := 122, attributes := #[] }])
  fields := #[{ name := "$assertionsDisabled", type := .boolean, accessFlags := 4120, slot := 0, constantValue := 0 }]
  methods := #[k14m0]
  instanceTypes := #[]
  staticTypes := #[.boolean]
  resolved := Array.replicate 395 none
  statics := none }

def pool15 : Array CpInfo := pool [(2, .class_ 4), (1, u "java/lang/Object"), (0, u "<init>"), (0, u "()V"), (17, .class_ 26), (1, u "jdk/internal/util/Preconditions"), (28, .class_ 56), (0, u "jdk/internal/util/Preconditions$4"), (57, .class_ 115), (0, u "jdk/internal/util/Preconditions$1"), (7, u "SIOOBE_FORMATTER"), (0, u "Ljava/util/function/BiFunction;"), (0, .class_ 126), (0, u "jdk/internal/util/Preconditions$2"), (3, u "AIOOBE_FORMATTER"), (0, .class_ 132), (0, u "jdk/internal/util/Preconditions$3"), (3, u "IOOBE_FORMATTER")] 57

def k15m0 : Method := { name := "<init>", desc := "()V", sig := { parameters := [], returnType := none }, accessFlags := 1, code := none }
/-- jdk/internal/util/Preconditions -/
def k15 : Class := { plain "jdk/internal/util/Preconditions" (some 0) with
  accessFlags := 33
  interfaces := #[]
  cf := some (fileOf pool15 24 #[.nestMembers #[55, 131, 125, 114]] #[{ accessFlags := 1, nameIndex := 5, descriptorIndex := 6, attributes := #[] }] 33 2 #[] #[{ accessFlags := 25, nameIndex := 123, descriptorIndex := 124, attributes := #[] }, { accessFlags := 25, nameIndex := 130, descriptorIndex := 124, attributes := #[] }, { accessFlags := 25, nameIndex := 136, descriptorIndex := 124, attributes := #[] }])
  fields := #[{ name := "SIOOBE_FORMATTER", type := (.object "java/util/function/BiFunction"), accessFlags := 25, slot := 0, constantValue := 0 }, { name := "AIOOBE_FORMATTER", type := (.object "java/util/function/BiFunction"), accessFlags := 25, slot := 1, constantValue := 0 }, { name := "IOOBE_FORMATTER", type := (.object "java/util/function/BiFunction"), accessFlags := 25, slot := 2, constantValue := 0 }]
  methods := #[k15m0]
  instanceTypes := #[]
  staticTypes := #[(.object "java/util/function/BiFunction"), (.object "java/util/function/BiFunction"), (.object "java/util/function/BiFunction")]
  resolved := Array.replicate 194 none
  statics := some 4 }

def pool16 : Array CpInfo := pool [(9, u "<init>"), (6, .class_ 18), (1, u "java/lang/Object"), (0, u "()V"), (1, .class_ 23), (1, u "jdk/internal/util/ArraysSupport"), (0, u "LOG2_ARRAY_LONG_INDEX_SCALE"), (0, u "I"), (2, u "U"), (0, u "Ljdk/internal/misc/Unsafe;"), (8, u "BIG_ENDIAN"), (0, u "Z"), (8, u "LOG2_BYTE_BIT_SIZE"), (4, u "LOG2_ARRAY_INT_INDEX_SCALE"), (54, u "JLA"), (0, u "Ljdk/internal/access/JavaLangAccess;"), (11, u "LOG2_ARRAY_BOOLEAN_INDEX_SCALE"), (9, u "LOG2_ARRAY_BYTE_INDEX_SCALE"), (5, u "LOG2_ARRAY_CHAR_INDEX_SCALE"), (5, u "LOG2_ARRAY_SHORT_INDEX_SCALE"), (18, u "LOG2_ARRAY_FLOAT_INDEX_SCALE"), (24, u "LOG2_ARRAY_DOUBLE_INDEX_SCALE"), (89, u "T_BOOLEAN"), (2, u "T_CHAR"), (1, u "T_FLOAT"), (1, u "T_DOUBLE"), (1, u "T_BYTE"), (1, u "T_SHORT"), (1, u "T_INT"), (1, u "T_LONG"), (1, u "SOFT_MAX_ARRAY_LENGTH")] 83

def k16m0 : Method := { name := "<init>", desc := "()V", sig := { parameters := [], returnType := none }, accessFlags := 2, code := none }
/-- jdk/internal/util/ArraysSupport -/
def k16 : Class := { plain "jdk/internal/util/ArraysSupport" (some 0) with
  accessFlags := 33
  interfaces := #[]
  cf := some (fileOf pool16 21 #[] #[{ accessFlags := 2, nameIndex := 9, descriptorIndex := 19, attributes := #[] }] 33 16 #[] #[{ accessFlags := 24, nameIndex := 28, descriptorIndex := 29, attributes := #[] }, { accessFlags := 26, nameIndex := 38, descriptorIndex := 39, attributes := #[] }, { accessFlags := 25, nameIndex := 121, descriptorIndex := 25, attributes := #[] }, { accessFlags := 25, nameIndex := 131, descriptorIndex := 25, attributes := #[] }, { accessFlags := 25, nameIndex := 137, descriptorIndex := 25, attributes := #[] }, { accessFlags := 25, nameIndex := 143, descriptorIndex := 25, attributes := #[] }, { accessFlags := 25, nameIndex := 53, descriptorIndex := 25, attributes := #[] }, { accessFlags := 25, nameIndex := 24, descriptorIndex := 25, attributes := #[] }, { accessFlags := 25, nameIndex := 162, descriptorIndex := 25, attributes := #[] }, { accessFlags := 25, nameIndex := 187, descriptorIndex := 25, attributes := #[] }, { accessFlags := 26, nameIndex := 48, descriptorIndex := 25, attributes := #[] }, { accessFlags := 25, nameIndex := 277, descriptorIndex := 25, attributes := #[] }, { accessFlags := 25, nameIndex := 280, descriptorIndex := 25, attributes := #[] }, { accessFlags := 25, nameIndex := 282, descriptorIndex := 25, attributes := #[] }, { accessFlags := 25, nameIndex := 284, descriptorIndex := 25, attributes := #[] }, { accessFlags := 25, nameIndex := 286, descriptorIndex := 25, attributes := #[] }, { accessFlags := 25, nameIndex := 288, descriptorIndex := 25, attributes := #[] }, { accessFlags := 25, nameIndex := 290, descriptorIndex := 25, attributes := #[] }, { accessFlags := 25, nameIndex := 292, descriptorIndex := 25, attributes := #[] }, { accessFlags := 26, nameIndex := 108, descriptorIndex := 109, attributes := #[] }, { accessFlags := 25, nameIndex := 294, descriptorIndex := 25, attributes := #[] }])
  fields := #[{ name := "U", type := (.object "jdk/internal/misc/Unsafe"), accessFlags := 24, slot := 0, constantValue := 0 }, { name := "BIG_ENDIAN", type := .boolean, accessFlags := 26, slot := 1, constantValue := 0 }, { name := "LOG2_ARRAY_BOOLEAN_INDEX_SCALE", type := .int, accessFlags := 25, slot := 2, constantValue := 0 }, { name := "LOG2_ARRAY_BYTE_INDEX_SCALE", type := .int, accessFlags := 25, slot := 3, constantValue := 0 }, { name := "LOG2_ARRAY_CHAR_INDEX_SCALE", type := .int, accessFlags := 25, slot := 4, constantValue := 0 }, { name := "LOG2_ARRAY_SHORT_INDEX_SCALE", type := .int, accessFlags := 25, slot := 5, constantValue := 0 }, { name := "LOG2_ARRAY_INT_INDEX_SCALE", type := .int, accessFlags := 25, slot := 6, constantValue := 0 }, { name := "LOG2_ARRAY_LONG_INDEX_SCALE", type := .int, accessFlags := 25, slot := 7, constantValue := 0 }, { name := "LOG2_ARRAY_FLOAT_INDEX_SCALE", type := .int, accessFlags := 25, slot := 8, constantValue := 0 }, { name := "LOG2_ARRAY_DOUBLE_INDEX_SCALE", type := .int, accessFlags := 25, slot := 9, constantValue := 0 }, { name := "LOG2_BYTE_BIT_SIZE", type := .int, accessFlags := 26, slot := 10, constantValue := 0 }, { name := "T_BOOLEAN", type := .int, accessFlags := 25, slot := 11, constantValue := 0 }, { name := "T_CHAR", type := .int, accessFlags := 25, slot := 12, constantValue := 0 }, { name := "T_FLOAT", type := .int, accessFlags := 25, slot := 13, constantValue := 0 }, { name := "T_DOUBLE", type := .int, accessFlags := 25, slot := 14, constantValue := 0 }, { name := "T_BYTE", type := .int, accessFlags := 25, slot := 15, constantValue := 0 }, { name := "T_SHORT", type := .int, accessFlags := 25, slot := 16, constantValue := 0 }, { name := "T_INT", type := .int, accessFlags := 25, slot := 17, constantValue := 0 }, { name := "T_LONG", type := .int, accessFlags := 25, slot := 18, constantValue := 0 }, { name := "JLA", type := (.object "jdk/internal/access/JavaLangAccess"), accessFlags := 26, slot := 19, constantValue := 0 }, { name := "SOFT_MAX_ARRAY_LENGTH", type := .int, accessFlags := 25, slot := 20, constantValue := 0 }]
  methods := #[k16m0]
  instanceTypes := #[]
  staticTypes := #[(.object "jdk/internal/misc/Unsafe"), .boolean, .int, .int, .int, .int, .int, .int, .int, .int, .int, .int, .int, .int, .int, .int, .int, .int, .int, (.object "jdk/internal/access/JavaLangAccess"), .int]
  resolved := Array.replicate 378 none
  statics := none }

def pool17 : Array CpInfo := pool [(1, u "java/lang/Cloneable"), (0, .class_ 1), (0, u "java/lang/Object"), (0, .class_ 3)] 3

/-- java/lang/Cloneable -/
def k17 : Class := { plain "java/lang/Cloneable" (some 0) with
  accessFlags := 1537
  interfaces := #[]
  cf := some (fileOf pool17 2 #[] #[] 1537 4 #[] #[])
  fields := #[]
  methods := #[]
  instanceTypes := #[]
  staticTypes := #[]
  resolved := Array.replicate 8 none
  statics := none }

/-- the primitive byte -/
def k18 : Class := { plain "byte" none with kind := .primitive 'B', accessFlags := 0x411 }
/-- [B -/
def k19 : Class := { plain "[B" (some 0) with kind := .array 18 .byte, interfaces := #[17, 2], accessFlags := 1041 }

/-- the primitive char -/
def k20 : Class := { plain "char" none with kind := .primitive 'C', accessFlags := 0x411 }
/-- [C -/
def k21 : Class := { plain "[C" (some 0) with kind := .array 20 .char, interfaces := #[17, 2], accessFlags := 1041 }

/-- the primitive int -/
def k22 : Class := { plain "int" none with kind := .primitive 'I', accessFlags := 0x411 }
/-- [I -/
def k23 : Class := { plain "[I" (some 0) with kind := .array 22 .int, interfaces := #[17, 2], accessFlags := 1041 }

/-- [Ljava/util/function/Function; -/
def k24 : Class := { plain "[Ljava/util/function/Function;" (some 0) with kind := .array 10 (.object "java/util/function/Function"), interfaces := #[17, 2], accessFlags := 1041 }

def heap : Heap := #[{ cls := 7, slots := #[.long 0, .int 1, .null, .int 0, .null, .int 0, .int 0], vm := .statics 7 },
  { cls := 8, slots := #[.int 4], vm := .statics 8 },
  { cls := 12, slots := #[.ref 5, .ref 6, .ref 7, .ref 8, .null], vm := .statics 12 },
  { cls := 13, slots := #[.int 0, .int 8, .int 0, .int 1], vm := .statics 13 },
  { cls := 15, slots := #[.null, .null, .null], vm := .statics 15 },
  { cls := 12, slots := #[.null, .int 0, .int 0, .null], vm := .none },
  { cls := 12, slots := #[.null, .int 1, .int 0, .null], vm := .none },
  { cls := 12, slots := #[.null, .int 2, .int 0, .null], vm := .none },
  { cls := 12, slots := #[.null, .int 3, .int 0, .null], vm := .none }]
def classes : Array Class := #[k0, k1, k2, k3, k4, k5, k6, k7, k8, k9, k10, k11, k12, k13, k14, k15, k16, k17, k18, k19, k20, k21, k22, k23, k24]
def interned : List (Array UInt16 × Addr) := []
def slotsUsed : Nat := 36
def theMethod : MethodId := ⟨1, 2⟩
def args0 : Array Value := #[.int 1, .int 2, .int 3, .int 4]
def aboutOver (below : List Frame) : State where
  vm := { classes := classes, interned := interned.toArray }
  heap := heap
  slotsUsed := slotsUsed
  threads := #[{ frames := .invoking theMethod args0 :: below }]
def below0 : List Frame := [.native { method := ⟨0, 0⟩, args := #[] }]
def about1 : State := aboutOver below0
def p0 : Program := .bare "" "" ""
def e0 : Env := launch0.env 0 0 0
theorem w_frames : about1.frames = Frame.invoking theMethod args0 :: below0 := rfl
set_option maxRecDepth 65536 in
theorem w_args : argsFit about1.vm theMethod args0 = true := by decide +kernel
set_option maxRecDepth 65536 in
theorem w_heap : heapFits about1 = true := by decide +kernel
set_option maxRecDepth 65536 in
theorem w_runnable : about1.curStatus? = some .runnable := by decide +kernel
set_option maxRecDepth 65536 in
theorem w_alone : about1.alone = true := by decide +kernel
set_option maxRecDepth 65536 in
theorem w_named : about1.methodNamed? x = some theMethod := by decide +kernel
set_option maxRecDepth 65536 in
theorem w_hears : about1.hears theMethod below0 = true := by decide +kernel
set_option maxRecDepth 65536 in
theorem w_ripe : about1.ripe theMethod args0 below0 = true := by decide +kernel
theorem w_running : about1.status = .running := rfl
set_option maxRecDepth 65536 in
theorem w_room : about1.hasRoom e0.platform room_1 = true :=
  launch0.hasRoom_least _ room_1 (by decide +kernel) (by decide +kernel) (by decide +kernel) (by decide +kernel) (by decide +kernel) (by decide +kernel)
theorem allAtoms_all (ts : List Jvm.Cond) (a : Array Jvm.Value) (st : Jvm.State) : (allAtoms ts).before a st = ts.all (fun c => c.before a st) := by
  induction ts with
  | nil => rfl
  | cons c t ih =>
    show (Jvm.Cond.and c (allAtoms t)).before a st = _
    rw [Jvm.Cond.before_and, ih, List.all_cons]
def words1 : List Jvm.Cond := Jvm.Cond.code x code maxLocals ret :: tables_1
/-- a 'code' word, met by the world's own term for the bytes: nothing is compared byte by byte -/
theorem code_word {y : MethodName} {bytes : ByteArray} {mx : Nat} {rt : Option FieldType} {a : Array Value} {s : State} {m : MethodId} {meth : Method} {c : Code} (h1 : s.methodNamed? y = some m) (h2 : s.vm.method? m = some meth) (h3 : meth.code = some c) (h4 : c.code = bytes)
    (h5 : (c.maxLocals == mx && c.exceptionTable.isEmpty && decide (c.maxStack ≤ mostOperands) && decide (meth.sig.returnType = rt) && !meth.locks && decide (parseMethodDescriptor y.desc = some meth.sig)) = true) : (Jvm.Cond.code y bytes mx rt).before a s = true := by
  simp only [Bool.and_eq_true, beq_iff_eq, Bool.not_eq_true', decide_eq_true_eq] at h5
  obtain ⟨⟨⟨⟨⟨g1, g2⟩, g3⟩, g4⟩, g5⟩, g6⟩ := h5
  simp [Cond.before, Cond.holds, Cond.value, h1, h2, h3, h4, g1, g2, g3, g4, g5, g6]
def isCode : Jvm.Cond → Bool
  | .code _ _ _ _ => true
  | _ => false
theorem all_split {L : List Jvm.Cond} {P : Jvm.Cond → Bool} (h1 : L.all (fun c => isCode c || P c) = true) (h2 : ∀ c ∈ L.filter isCode, P c = true) : L.all P = true := by
  refine List.all_eq_true.mpr fun c hc => ?_
  have h := List.all_eq_true.mp h1 c hc
  rcases Bool.eq_false_or_eq_true (isCode c) with hi | hi
  · exact h2 c (List.mem_filter.mpr ⟨hc, hi⟩)
  · simpa [hi] using h
set_option maxRecDepth 65536 in
theorem w_c0 : (Jvm.Cond.code x code maxLocals ret).before args0 about1 = true := code_word (m := ⟨1, 2⟩) (meth := k1m2) (c := k1c2) (by decide +kernel) rfl rfl rfl (by decide +kernel)
set_option maxRecDepth 65536 in
theorem w_c1 : (Jvm.Cond.code ({ cls := "com/example/hook3/hook3/InterceptorNamedPinLaw", name := "drawn", desc := "(ICCC)[C" } : Jvm.MethodName) method_2_code (5 : Nat) (Option.some (Jvm.ClassFile.FieldType.array Jvm.ClassFile.FieldType.char))).before args0 about1 = true := code_word (m := ⟨1, 1⟩) (meth := k1m1) (c := k1c1) (by decide +kernel) rfl rfl rfl (by decide +kernel)
set_option maxRecDepth 65536 in
theorem w_c2 : (Jvm.Cond.code ({ cls := "java/lang/String", name := "<init>", desc := "([C)V" } : Jvm.MethodName) jdk_42_method_3_code (2 : Nat) (Option.none : Option Jvm.ClassFile.FieldType)).before args0 about1 = true := code_word (m := ⟨7, 1⟩) (meth := k7m1) (c := k7c1) (by decide +kernel) rfl rfl rfl (by decide +kernel)
set_option maxRecDepth 65536 in
theorem w_c3 : (Jvm.Cond.code ({ cls := "java/lang/String", name := "<init>", desc := "([CIILjava/lang/Void;)V" } : Jvm.MethodName) jdk_42_method_149_code (6 : Nat) (Option.none : Option Jvm.ClassFile.FieldType)).before args0 about1 = true := code_word (m := ⟨7, 4⟩) (meth := k7m4) (c := k7c4) (by decide +kernel) rfl rfl rfl (by decide +kernel)
set_option maxRecDepth 65536 in
theorem w_c4 : (Jvm.Cond.code ({ cls := "java/lang/Object", name := "<init>", desc := "()V" } : Jvm.MethodName) object_method_1_code (1 : Nat) (Option.none : Option Jvm.ClassFile.FieldType)).before args0 about1 = true := code_word (m := ⟨0, 0⟩) (meth := k0m0) (c := k0c0) (by decide +kernel) rfl rfl rfl (by decide +kernel)
set_option maxRecDepth 65536 in
theorem w_c5 : (Jvm.Cond.code ({ cls := "com/example/hook3/hook3/Interceptor", name := "named", desc := "(Ljava/lang/String;)Lcom/example/hook3/hook3/Interceptor;" } : Jvm.MethodName) prog_5_method_2_code (1 : Nat) (Option.some (Jvm.ClassFile.FieldType.object "com/example/hook3/hook3/Interceptor"))).before args0 about1 = true := code_word (m := ⟨8, 1⟩) (meth := k8m1) (c := k8c1) (by decide +kernel) rfl rfl rfl (by decide +kernel)
set_option maxRecDepth 65536 in
theorem w_c6 : (Jvm.Cond.code ({ cls := "java/util/Objects", name := "requireNonNull", desc := "(Ljava/lang/Object;Ljava/lang/String;)Ljava/lang/Object;" } : Jvm.MethodName) jdk_31_method_11_code (2 : Nat) (Option.some (Jvm.ClassFile.FieldType.object "java/lang/Object"))).before args0 about1 = true := code_word (m := ⟨9, 1⟩) (meth := k9m1) (c := k9c1) (by decide +kernel) rfl rfl rfl (by decide +kernel)
set_option maxRecDepth 65536 in
theorem w_c7 : (Jvm.Cond.code ({ cls := "com/example/hook3/hook3/Interceptor", name := "noStages", desc := "()[Ljava/util/function/Function;" } : Jvm.MethodName) prog_5_method_24_code (0 : Nat) (Option.some (Jvm.ClassFile.FieldType.array (Jvm.ClassFile.FieldType.object "java/util/function/Function")))).before args0 about1 = true := code_word (m := ⟨8, 4⟩) (meth := k8m4) (c := k8c4) (by decide +kernel) rfl rfl rfl (by decide +kernel)
set_option maxRecDepth 65536 in
theorem w_c8 : (Jvm.Cond.code ({ cls := "com/example/hook3/hook3/Interceptor", name := "<init>", desc := "(Ljava/lang/String;[Ljava/util/function/Function;[Ljava/util/function/Function;)V" } : Jvm.MethodName) prog_5_method_1_code (4 : Nat) (Option.none : Option Jvm.ClassFile.FieldType)).before args0 about1 = true := code_word (m := ⟨8, 0⟩) (meth := k8m0) (c := k8c0) (by decide +kernel) rfl rfl rfl (by decide +kernel)
set_option maxRecDepth 65536 in
theorem w_c9 : (Jvm.Cond.code ({ cls := "com/example/hook3/hook3/Interceptor", name := "name", desc := "()Ljava/lang/String;" } : Jvm.MethodName) prog_5_method_16_code (1 : Nat) (Option.some (Jvm.ClassFile.FieldType.object "java/lang/String"))).before args0 about1 = true := code_word (m := ⟨8, 2⟩) (meth := k8m2) (c := k8c2) (by decide +kernel) rfl rfl rfl (by decide +kernel)
set_option maxRecDepth 65536 in
theorem w_c10 : (Jvm.Cond.code ({ cls := "java/lang/String", name := "length", desc := "()I" } : Jvm.MethodName) jdk_42_method_54_code (1 : Nat) (Option.some Jvm.ClassFile.FieldType.int)).before args0 about1 = true := code_word (m := ⟨7, 2⟩) (meth := k7m2) (c := k7c2) (by decide +kernel) rfl rfl rfl (by decide +kernel)
set_option maxRecDepth 65536 in
theorem w_c11 : (Jvm.Cond.code ({ cls := "java/lang/String", name := "coder", desc := "()B" } : Jvm.MethodName) jdk_42_method_152_code (1 : Nat) (Option.some Jvm.ClassFile.FieldType.byte)).before args0 about1 = true := code_word (m := ⟨7, 5⟩) (meth := k7m5) (c := k7c5) (by decide +kernel) rfl rfl rfl (by decide +kernel)
set_option maxRecDepth 65536 in
theorem w_c12 : (Jvm.Cond.code ({ cls := "java/lang/String", name := "equals", desc := "(Ljava/lang/Object;)Z" } : Jvm.MethodName) jdk_42_method_66_code (3 : Nat) (Option.some Jvm.ClassFile.FieldType.boolean)).before args0 about1 = true := code_word (m := ⟨7, 3⟩) (meth := k7m3) (c := k7c3) (by decide +kernel) rfl rfl rfl (by decide +kernel)
set_option maxRecDepth 65536 in
theorem w_c13 : (Jvm.Cond.code ({ cls := "com/example/hook3/hook3/Interceptor", name := "has", desc := "(Lcom/example/hook3/hook3/Stage;)Z" } : Jvm.MethodName) prog_5_method_19_code (2 : Nat) (Option.some Jvm.ClassFile.FieldType.boolean)).before args0 about1 = true := code_word (m := ⟨8, 3⟩) (meth := k8m3) (c := k8c3) (by decide +kernel) rfl rfl rfl (by decide +kernel)
set_option maxRecDepth 65536 in
theorem w_c14 : (Jvm.Cond.code ({ cls := "java/lang/Enum", name := "ordinal", desc := "()I" } : Jvm.MethodName) jdk_37_method_2_code (1 : Nat) (Option.some Jvm.ClassFile.FieldType.int)).before args0 about1 = true := code_word (m := ⟨11, 0⟩) (meth := k11m0) (c := k11c0) (by decide +kernel) rfl rfl rfl (by decide +kernel)
set_option maxRecDepth 65536 in
theorem w_c15 : (Jvm.Cond.code ({ cls := "java/lang/StringUTF16", name := "compress", desc := "([CII)[B" } : Jvm.MethodName) jdk_52_method_16_code (6 : Nat) (Option.some (Jvm.ClassFile.FieldType.array Jvm.ClassFile.FieldType.byte))).before args0 about1 = true := code_word (m := ⟨13, 7⟩) (meth := k13m7) (c := k13c7) (by decide +kernel) rfl rfl rfl (by decide +kernel)
set_option maxRecDepth 65536 in
theorem w_c16 : (Jvm.Cond.code ({ cls := "java/lang/StringUTF16", name := "compress", desc := "([CI[BII)I" } : Jvm.MethodName) jdk_52_method_21_code (7 : Nat) (Option.some Jvm.ClassFile.FieldType.int)).before args0 about1 = true := code_word (m := ⟨13, 8⟩) (meth := k13m8) (c := k13c8) (by decide +kernel) rfl rfl rfl (by decide +kernel)
set_option maxRecDepth 65536 in
theorem w_c17 : (Jvm.Cond.code ({ cls := "java/lang/StringUTF16", name := "coderFromArrayLen", desc := "([BI)B" } : Jvm.MethodName) jdk_52_method_15_code (2 : Nat) (Option.some Jvm.ClassFile.FieldType.byte)).before args0 about1 = true := code_word (m := ⟨13, 6⟩) (meth := k13m6) (c := k13c6) (by decide +kernel) rfl rfl rfl (by decide +kernel)
set_option maxRecDepth 65536 in
theorem w_c18 : (Jvm.Cond.code ({ cls := "java/lang/StringUTF16", name := "toBytes", desc := "([CII)[B" } : Jvm.MethodName) jdk_52_method_14_code (5 : Nat) (Option.some (Jvm.ClassFile.FieldType.array Jvm.ClassFile.FieldType.byte))).before args0 about1 = true := code_word (m := ⟨13, 5⟩) (meth := k13m5) (c := k13c5) (by decide +kernel) rfl rfl rfl (by decide +kernel)
set_option maxRecDepth 65536 in
theorem w_c19 : (Jvm.Cond.code ({ cls := "java/lang/StringUTF16", name := "newBytesFor", desc := "(I)[B" } : Jvm.MethodName) jdk_52_method_2_code (1 : Nat) (Option.some (Jvm.ClassFile.FieldType.array Jvm.ClassFile.FieldType.byte))).before args0 about1 = true := code_word (m := ⟨13, 1⟩) (meth := k13m1) (c := k13c1) (by decide +kernel) rfl rfl rfl (by decide +kernel)
set_option maxRecDepth 65536 in
theorem w_c20 : (Jvm.Cond.code ({ cls := "java/lang/StringUTF16", name := "newBytesLength", desc := "(I)I" } : Jvm.MethodName) jdk_52_method_3_code (1 : Nat) (Option.some Jvm.ClassFile.FieldType.int)).before args0 about1 = true := code_word (m := ⟨13, 2⟩) (meth := k13m2) (c := k13c2) (by decide +kernel) rfl rfl rfl (by decide +kernel)
set_option maxRecDepth 65536 in
theorem w_c21 : (Jvm.Cond.code ({ cls := "java/lang/StringUTF16", name := "putChar", desc := "([BII)V" } : Jvm.MethodName) jdk_52_method_4_code (3 : Nat) (Option.none : Option Jvm.ClassFile.FieldType)).before args0 about1 = true := code_word (m := ⟨13, 3⟩) (meth := k13m3) (c := k13c3) (by decide +kernel) rfl rfl rfl (by decide +kernel)
set_option maxRecDepth 65536 in
theorem w_c22 : (Jvm.Cond.code ({ cls := "java/lang/StringUTF16", name := "getChar", desc := "([BI)C" } : Jvm.MethodName) jdk_52_method_5_code (2 : Nat) (Option.some Jvm.ClassFile.FieldType.char)).before args0 about1 = true := code_word (m := ⟨13, 4⟩) (meth := k13m4) (c := k13c4) (by decide +kernel) rfl rfl rfl (by decide +kernel)
def codes1 : List Jvm.Cond := [Jvm.Cond.code x code maxLocals ret, Jvm.Cond.code ({ cls := "com/example/hook3/hook3/InterceptorNamedPinLaw", name := "drawn", desc := "(ICCC)[C" } : Jvm.MethodName) method_2_code (5 : Nat) (Option.some (Jvm.ClassFile.FieldType.array Jvm.ClassFile.FieldType.char)), Jvm.Cond.code ({ cls := "java/lang/String", name := "<init>", desc := "([C)V" } : Jvm.MethodName) jdk_42_method_3_code (2 : Nat) (Option.none : Option Jvm.ClassFile.FieldType), Jvm.Cond.code ({ cls := "java/lang/String", name := "<init>", desc := "([CIILjava/lang/Void;)V" } : Jvm.MethodName) jdk_42_method_149_code (6 : Nat) (Option.none : Option Jvm.ClassFile.FieldType), Jvm.Cond.code ({ cls := "java/lang/Object", name := "<init>", desc := "()V" } : Jvm.MethodName) object_method_1_code (1 : Nat) (Option.none : Option Jvm.ClassFile.FieldType), Jvm.Cond.code ({ cls := "com/example/hook3/hook3/Interceptor", name := "named", desc := "(Ljava/lang/String;)Lcom/example/hook3/hook3/Interceptor;" } : Jvm.MethodName) prog_5_method_2_code (1 : Nat) (Option.some (Jvm.ClassFile.FieldType.object "com/example/hook3/hook3/Interceptor")), Jvm.Cond.code ({ cls := "java/util/Objects", name := "requireNonNull", desc := "(Ljava/lang/Object;Ljava/lang/String;)Ljava/lang/Object;" } : Jvm.MethodName) jdk_31_method_11_code (2 : Nat) (Option.some (Jvm.ClassFile.FieldType.object "java/lang/Object")), Jvm.Cond.code ({ cls := "com/example/hook3/hook3/Interceptor", name := "noStages", desc := "()[Ljava/util/function/Function;" } : Jvm.MethodName) prog_5_method_24_code (0 : Nat) (Option.some (Jvm.ClassFile.FieldType.array (Jvm.ClassFile.FieldType.object "java/util/function/Function"))), Jvm.Cond.code ({ cls := "com/example/hook3/hook3/Interceptor", name := "<init>", desc := "(Ljava/lang/String;[Ljava/util/function/Function;[Ljava/util/function/Function;)V" } : Jvm.MethodName) prog_5_method_1_code (4 : Nat) (Option.none : Option Jvm.ClassFile.FieldType), Jvm.Cond.code ({ cls := "com/example/hook3/hook3/Interceptor", name := "name", desc := "()Ljava/lang/String;" } : Jvm.MethodName) prog_5_method_16_code (1 : Nat) (Option.some (Jvm.ClassFile.FieldType.object "java/lang/String")), Jvm.Cond.code ({ cls := "java/lang/String", name := "length", desc := "()I" } : Jvm.MethodName) jdk_42_method_54_code (1 : Nat) (Option.some Jvm.ClassFile.FieldType.int), Jvm.Cond.code ({ cls := "java/lang/String", name := "coder", desc := "()B" } : Jvm.MethodName) jdk_42_method_152_code (1 : Nat) (Option.some Jvm.ClassFile.FieldType.byte), Jvm.Cond.code ({ cls := "java/lang/String", name := "equals", desc := "(Ljava/lang/Object;)Z" } : Jvm.MethodName) jdk_42_method_66_code (3 : Nat) (Option.some Jvm.ClassFile.FieldType.boolean), Jvm.Cond.code ({ cls := "com/example/hook3/hook3/Interceptor", name := "has", desc := "(Lcom/example/hook3/hook3/Stage;)Z" } : Jvm.MethodName) prog_5_method_19_code (2 : Nat) (Option.some Jvm.ClassFile.FieldType.boolean), Jvm.Cond.code ({ cls := "java/lang/Enum", name := "ordinal", desc := "()I" } : Jvm.MethodName) jdk_37_method_2_code (1 : Nat) (Option.some Jvm.ClassFile.FieldType.int), Jvm.Cond.code ({ cls := "java/lang/StringUTF16", name := "compress", desc := "([CII)[B" } : Jvm.MethodName) jdk_52_method_16_code (6 : Nat) (Option.some (Jvm.ClassFile.FieldType.array Jvm.ClassFile.FieldType.byte)), Jvm.Cond.code ({ cls := "java/lang/StringUTF16", name := "compress", desc := "([CI[BII)I" } : Jvm.MethodName) jdk_52_method_21_code (7 : Nat) (Option.some Jvm.ClassFile.FieldType.int), Jvm.Cond.code ({ cls := "java/lang/StringUTF16", name := "coderFromArrayLen", desc := "([BI)B" } : Jvm.MethodName) jdk_52_method_15_code (2 : Nat) (Option.some Jvm.ClassFile.FieldType.byte), Jvm.Cond.code ({ cls := "java/lang/StringUTF16", name := "toBytes", desc := "([CII)[B" } : Jvm.MethodName) jdk_52_method_14_code (5 : Nat) (Option.some (Jvm.ClassFile.FieldType.array Jvm.ClassFile.FieldType.byte)), Jvm.Cond.code ({ cls := "java/lang/StringUTF16", name := "newBytesFor", desc := "(I)[B" } : Jvm.MethodName) jdk_52_method_2_code (1 : Nat) (Option.some (Jvm.ClassFile.FieldType.array Jvm.ClassFile.FieldType.byte)), Jvm.Cond.code ({ cls := "java/lang/StringUTF16", name := "newBytesLength", desc := "(I)I" } : Jvm.MethodName) jdk_52_method_3_code (1 : Nat) (Option.some Jvm.ClassFile.FieldType.int), Jvm.Cond.code ({ cls := "java/lang/StringUTF16", name := "putChar", desc := "([BII)V" } : Jvm.MethodName) jdk_52_method_4_code (3 : Nat) (Option.none : Option Jvm.ClassFile.FieldType), Jvm.Cond.code ({ cls := "java/lang/StringUTF16", name := "getChar", desc := "([BI)C" } : Jvm.MethodName) jdk_52_method_5_code (2 : Nat) (Option.some Jvm.ClassFile.FieldType.char)]
set_option maxRecDepth 65536 in
theorem codes_eq : words1.filter isCode = codes1 := rfl
theorem w_codes : ∀ c ∈ words1.filter isCode, c.before args0 about1 = true := by
  rw [codes_eq]
  intro c hc
  simp only [codes1, List.mem_cons, List.not_mem_nil, or_false] at hc
  rcases hc with rfl | rfl | rfl | rfl | rfl | rfl | rfl | rfl | rfl | rfl | rfl | rfl | rfl | rfl | rfl | rfl | rfl | rfl | rfl | rfl | rfl | rfl | rfl
  · exact w_c0
  · exact w_c1
  · exact w_c2
  · exact w_c3
  · exact w_c4
  · exact w_c5
  · exact w_c6
  · exact w_c7
  · exact w_c8
  · exact w_c9
  · exact w_c10
  · exact w_c11
  · exact w_c12
  · exact w_c13
  · exact w_c14
  · exact w_c15
  · exact w_c16
  · exact w_c17
  · exact w_c18
  · exact w_c19
  · exact w_c20
  · exact w_c21
  · exact w_c22
set_option maxRecDepth 65536 in
theorem w_t1 : (words1.take 24).all (fun c => isCode c || c.before args0 about1) = true := by decide +kernel
set_option maxRecDepth 65536 in
theorem w_t2 : ((words1.drop 24).take 24).all (fun c => isCode c || c.before args0 about1) = true := by decide +kernel
set_option maxRecDepth 65536 in
theorem w_t3 : (((words1.drop 24).drop 24).take 24).all (fun c => isCode c || c.before args0 about1) = true := by decide +kernel
set_option maxRecDepth 65536 in
theorem w_t4 : ((((words1.drop 24).drop 24).drop 24).take 24).all (fun c => isCode c || c.before args0 about1) = true := by decide +kernel
set_option maxRecDepth 65536 in
theorem w_t5 : (((((words1.drop 24).drop 24).drop 24).drop 24).take 24).all (fun c => isCode c || c.before args0 about1) = true := by decide +kernel
set_option maxRecDepth 65536 in
theorem w_t6 : (((((words1.drop 24).drop 24).drop 24).drop 24).drop 24).all (fun c => isCode c || c.before args0 about1) = true := by decide +kernel
theorem w_tables : (allAtoms (Jvm.Cond.code x code maxLocals ret :: tables_1)).before args0 about1 = true := by
  rw [allAtoms_all]
  show words1.all (fun c => c.before args0 about1) = true
  refine all_split ?_ w_codes
  rw [← List.take_append_drop 24 words1, List.all_append, w_t1, ← List.take_append_drop 24 (words1.drop 24), List.all_append, w_t2, ← List.take_append_drop 24 ((words1.drop 24).drop 24), List.all_append, w_t3, ← List.take_append_drop 24 (((words1.drop 24).drop 24).drop 24), List.all_append, w_t4, ← List.take_append_drop 24 ((((words1.drop 24).drop 24).drop 24).drop 24), List.all_append, w_t5, w_t6]
  rfl
set_option maxRecDepth 65536 in
theorem w_rest : rest_1_c.before args0 about1 = true := by decide +kernel
set_option maxRecDepth 65536 in
theorem w_case : (Jvm.Cond.and given_1 narrow_1).before args0 about1 = true := by decide +kernel
set_option maxRecDepth 65536 in
theorem w_consts : constsHeld consts_1 about1 := Jvm.Lit.constsHeldB_iff.mp (by decide +kernel)
theorem w_applies : (headSpec (Jvm.Cond.code x code maxLocals ret :: tables_1) room_1).applies x e0.platform about1 = true :=
  (Spec.applies_iff w_frames).mpr ⟨w_running, w_runnable, w_alone, w_named, w_hears, w_ripe, w_room, w_tables⟩
theorem atStart : AtStart classFile x code maxLocals ret World_1 tables_1 room_1 Calls_1 rest_1 Pre_1 launch0 p0 e0 about1 theMethod args0 below0 :=
  ⟨lists_1, trivial, launch0.admits_env _ _ _, launch0.least_env, fairChoices_fair.cas, fairChoices_fair.clock, w_frames, w_args, w_heap, w_applies, ⟨w_consts, trivial⟩, w_rest, w_case⟩
end start1
theorem witness_1 : WitnessClaimed_1 := ⟨start1.p0, start1.e0, start1.about1, start1.theMethod, start1.args0, start1.below0, start1.atStart⟩
end Jvm.Pilot.@@N@@
