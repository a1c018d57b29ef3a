import JvmDerived
import JvmDerived.Pilot.@@N@@Statement
import JvmDerived.Pilot.@@N@@Code
set_option linter.unusedVariables false
set_option linter.unusedSimpArgs false
namespace Jvm.Pilot.@@N@@
open Jvm Jvm.ClassFile Sem Op Lib Jvm.Free Jvm.Stand Jvm.LawKit Jvm.RoadKit Bundle Jvm.Free.SB Jvm.Free.SBG Jvm.Pilot.@@N@@.Jvm.D
abbrev Kx : Type := Program × Env × State × MethodId × Array Value × List Frame × Method × Code
def Inv (Z : State) (ws : List Addr) (h0 : Heap) (S : List Addr) (h : Heap) : Prop :=
  Ext Z.heap h ∧ Keep h0 h ws ∧ ∀ x ∈ S, x < h.size ∧ Z.heap.size ≤ x ∧ (x ∈ ws ∨ h0.size ≤ x)
def Cx (Z : State) (a0 : Array Value) (y : MethodName) (by0 : ByteArray) (ml : Nat) (rt : Option FieldType) : Kx → Prop
  | (p, _, s, m, _, _, meth, c) => p.tables.exec = Jvm.exec ∧ c.code = by0 ∧ c.maxLocals = ml ∧ s.vm.findClass y.cls = some m.cls ∧ meth.name = y.name ∧ meth.sig.returnType = rt ∧ meth.locks = false ∧ Z.Warmed39 s.vm
theorem fr_snoc {k : Nat} {L : List Loc} (N : Fr k L) {a : Addr} {i : Nat} (q : k ≤ a) : Fr k (L ++ [⟨a, i⟩]) := fun y hy => by
  rcases List.mem_append.mp hy with hy | hy
  · exact N y hy
  · rw [List.mem_singleton.mp hy]; exact q
theorem hq {Z : State} {a0 : Array Value} {ts : List Jvm.Cond} (hw : ∀ d ∈ ts, d.before a0 Z = true) (i : Nat) {d : Jvm.Cond} (q : ts[i]? = some d) : d.before a0 Z = true := hw _ (List.mem_of_getElem? q)
theorem nble {a b : Nat} (h : Nat.ble a b = true) : a ≤ b := Nat.le_of_ble_eq_true h
theorem mi {S : List Addr} (i : Nat) {a : Addr} (q : S[i]? = some a) : a ∈ S := List.mem_of_getElem? q
section InvLaws
variable {Z : State} {ws ws' S bs : List Addr} {h0 h h' : Heap} {a : Addr} {i : Nat} {v : Value}
theorem Inv.new (I : Inv Z ws h0 S h) (E : Ext h h') (hl : h.size < h'.size) : Inv Z ws h0 (h.size :: S) h' := by
  refine ⟨⟨Nat.le_trans I.1.1 E.1, fun a c q => E.2 a c (I.1.2 a c q)⟩, I.2.1.ext E, fun x hx => ?_⟩
  rcases List.mem_cons.mp hx with rfl | hx
  · exact ⟨hl, I.1.1, Or.inr I.2.1.1⟩
  · exact ⟨Nat.lt_of_lt_of_le (I.2.2 x hx).1 E.1, (I.2.2 x hx).2⟩
theorem Inv.ext (I : Inv Z ws h0 S h) (E : Ext h h') : Inv Z ws h0 S h' :=
  ⟨⟨Nat.le_trans I.1.1 E.1, fun a c q => E.2 a c (I.1.2 a c q)⟩, I.2.1.ext E, fun x hx => ⟨Nat.lt_of_lt_of_le (I.2.2 x hx).1 E.1, (I.2.2 x hx).2⟩⟩
theorem Inv.wr (I : Inv Z ws h0 S h) (W : Wr h h' a i v) (ha : a ∈ S) : Inv Z ws h0 S h' :=
  ⟨(Old.wr ⟨rfl, I.1⟩ W (I.2.2 a ha).2.1).2, I.2.1.wr W (I.2.2 a ha).2.2, fun x hx => ⟨W.size.symm ▸ (I.2.2 x hx).1, (I.2.2 x hx).2⟩⟩
theorem Inv.keep (I : Inv Z ws h0 S h) (K : Keep h h' ws') (hs : ∀ x ∈ ws', x ∈ S) : Inv Z ws h0 S h' :=
  ⟨(Old.keep ⟨rfl, I.1⟩ K (fun x hx => (I.2.2 x (hs x hx)).2.1)).2, I.2.1.trans K (fun x hx => (I.2.2 x (hs x hx)).2.2), fun x hx => ⟨Nat.lt_of_lt_of_le (I.2.2 x hx).1 K.1, (I.2.2 x hx).2⟩⟩
theorem Inv.add (I : Inv Z ws h0 S h) (I' : Inv Z ws h0 S h') (hb : ∀ b ∈ bs, h.size ≤ b ∧ b < h'.size) : Inv Z ws h0 (bs ++ S) h' :=
  ⟨I'.1, I'.2.1, fun x hx => (List.mem_append.mp hx).elim (fun q => ⟨(hb x q).2, Nat.le_trans I.1.1 (hb x q).1, Or.inr (Nat.le_trans I.2.1.1 (hb x q).1)⟩) (fun q => I'.2.2 x q)⟩
theorem Inv.drop (I : Inv Z ws h0 S h) {S' : List Addr} (hs : ∀ x ∈ S', x ∈ S) : Inv Z ws h0 S' h := ⟨I.1, I.2.1, fun x hx => I.2.2 x (hs x hx)⟩
end InvLaws
theorem decl_of {Z : State} {a0 : Array Value} {y : MethodName} {b : ByteArray} {ml : Nat} {rt : Option FieldType} (wi : (Cond.instanceMethod y).before a0 Z = true) (wc : (Cond.code y b ml rt).before a0 Z = true) : (Cond.declares y).before a0 Z = true := by
  obtain ⟨mk, meth, h1, h2, h3, h4⟩ := Cond.instanceMethod_spec wi
  obtain ⟨m2, c, q1, -, -, -, -, -, -, hsig⟩ := Cond.code_spec h1 wc
  cases h2.symm.trans q1
  simp [Cond.before, Cond.holds, Cond.value, h1, h2, h3, hsig]
theorem nf_cls {s : State} {a0 : Array Value} {y y' y0 : MethodName} {C : String} (w : (Cond.selects C y0 y').before a0 s = true) (hc : y'.cls = y.cls) : NotFace s y := fun r0 h0 => by
  obtain ⟨c2, r2, m2, q1, q2, q3, q4, kP, hkP, hkPi⟩ := Cond.selects_spec w
  have e1 := findClass_of_methodNamed h0
  have e2 := findClass_of_methodNamed q3
  rw [hc] at e2
  have e3 : r0.cls = m2.cls := Option.some.inj (e1.symm.trans e2)
  exact ⟨kP, by rw [e3]; exact hkP, hkPi⟩
theorem same_of {Z : State} {a0 : Array Value} {y : MethodName} (wi : (Cond.instanceMethod y).before a0 Z = true) (nf : NotFace Z y) (hx : y.cls ≠ "java/lang/invoke/MethodHandle" ∧ y.cls ≠ "java/lang/invoke/VarHandle") : (Cond.sameMethod y.cls y.cls y.name y.desc).before a0 Z = true := by
  obtain ⟨mk, meth, h1, h2, h3, h4⟩ := Cond.instanceMethod_spec wi
  have hf := State.methodFound?_of_named h1 hx
  have hc := findClass_of_methodNamed h1
  obtain ⟨k, hk, hi⟩ := nf mk h1
  have h1' : Z.methodNamed? ⟨y.cls, y.name, y.desc⟩ = some mk := h1
  simp [Cond.before, Cond.holds, Cond.value, hc, hf, h1', hk, hi]
theorem ext_refl (h : Heap) : Ext h h := ⟨Nat.le_refl _, fun _ _ q => q⟩
theorem mems0 {S : List Addr} : ∀ x ∈ ([] : List Addr), x ∈ S := fun _ q => nomatch q
theorem memsS {x : Addr} {L S : List Addr} (q : x ∈ S) (r : ∀ z ∈ L, z ∈ S) : ∀ z ∈ x :: L, z ∈ S := fun z hz => by
  rcases List.mem_cons.mp hz with rfl | hz
  · exact q
  · exact r z hz
theorem fresh0 {n n' : Nat} : ∀ b ∈ ([] : List Addr), n ≤ b ∧ b < n' := fun _ q => nomatch q
theorem freshS {n n' : Nat} {b : Addr} {L : List Addr} (q : n ≤ b ∧ b < n') (r : ∀ z ∈ L, n ≤ z ∧ z < n') : ∀ z ∈ b :: L, n ≤ z ∧ z < n' := fun z hz => by
  rcases List.mem_cons.mp hz with rfl | hz
  · exact q
  · exact r z hz
/-- the contract of a body that interns nothing -/
def Ct (l : Launch) (Z : State) (y : MethodName) (by0 : ByteArray) (ml : Nat) (rt : Option FieldType) (rm : Room) (as : Array Value) (h0 : Heap) (ws : List Addr) (Q : Option Value → Heap → Prop) : Prop :=
  Ext Z.heap h0 → (∀ x ∈ ws, x < h0.size ∧ Z.heap.size ≤ x) → ∀ tw : List Jvm.Cond, MetFree l y (head1 (Jvm.Cond.code y by0 ml rt :: tw) rm) (fun a U => a = as ∧ Z.Warmed39 U.vm ∧ U.heap = h0) (fun _ _ _ _ _ => True)
    (fun _ U o U' => ∃ v L, o = .returned v ∧ (Keep h0 U'.heap ws ∧ Q v U'.heap ∧ Fr Z.heap.size L) ∧ FrameEnd U o U' L rm.cells rm.slots)
/-- what a call of z costs and gives: fr frames, lo words, cc cells, ss slots -/
def Py (l : Launch) (Z : State) (z : MethodName) (fr lo cc ss : Nat) (as : Array Value) (h : Heap) (ws : List Addr) (Q : Option Value → Heap → Prop) : Prop :=
  Ext Z.heap h → (∀ x ∈ ws, x < h.size ∧ Z.heap.size ≤ x) → ∀ (p : Program) (e : Env) (R : Room) (below : List Frame) (s : State) (args : Array Value) (len W : Nat), Z.Warmed39 s.vm → fr ≤ R.frames → W + lo ≤ R.locals →
    Back l R p e below s args z len W (fun A a => a = as ∧ A.U.heap = h ∧ A.cells + cc ≤ R.cells ∧ A.slots + ss ≤ R.slots) (fun A _ v B => ∃ L, (Keep h B.U.heap ws ∧ Q v B.U.heap ∧ Fr Z.heap.size L) ∧ B.locs = A.locs ++ L ∧ B.cells = A.cells + cc ∧ B.slots = A.slots + ss)
theorem Ct.py {l : Launch} {Z : State} {a0 : Array Value} {y : MethodName} {by0 : ByteArray} {ml : Nat} {rt : Option FieldType} {rm : Room} {as : Array Value} {h0 : Heap} {ws : List Addr} {Q : Option Value → Heap → Prop} (hM : Ct l Z y by0 ml rt rm as h0 ws Q) (wc : (Cond.code y by0 ml rt).before a0 Z = true) (wz : (Cond.initialized y.cls).before a0 Z = true) : Py l Z y (rm.frames + 1) (ml + 11 + rm.locals) rm.cells rm.slots as h0 ws Q :=
  fun hO hws p e R below s args len W hZ hf hl => backOf (W := W) (Q := fun v hp L => Keep h0 hp ws ∧ Q v hp ∧ Fr Z.heap.size L) (hM hO hws []) hZ wc wz hf (by rw [Nat.add_assoc]; exact hl)
def Go (l : Launch) (R : Room) (Z : State) (ws : List Addr) (h0 : Heap) (Q : Option Value → Heap → Prop) (κ : Kx) (S : List Addr) (h : Heap) (pc : Nat) (Ls : Array Slot) (st : List Value) (ce sl : Nat) : Prop := match κ with
  | (p, e, s, m, args, below, meth, c) => ∀ T locs, Stand p l e R s m args below meth c T locs ce sl → Fr Z.heap.size locs → T.heap = h → Inv Z ws h0 S h →
    ∃ s₂ o, Steps p.tables e below (T.setTop (mkF m pc Ls st)) s₂ ∧ s₂.status = .running ∧ Ended s₂ below o ∧ ∃ v L, o = .returned v ∧ (Keep h0 s₂.heap ws ∧ Q v s₂.heap ∧ Fr Z.heap.size L) ∧ FrameEnd s o s₂ L R.cells R.slots
theorem Ct.mk {l : Launch} {Z : State} {a0 : Array Value} {y : MethodName} {by0 : ByteArray} {ml : Nat} {rt : Option FieldType} {rm : Room} {as : Array Value} {h0 : Heap} {ws : List Addr} {Q : Option Value → Heap → Prop} {Ls : Array Slot} (hpl : plainFor y = true) (hef : ∀ m, entryFrame m as ml = mkF m 0 Ls [])
    (k : ∀ κ, Cx Z a0 y by0 ml rt κ → Go l rm Z ws h0 Q κ ws h0 0 Ls [] 0 0) : Ct l Z y by0 ml rt rm as h0 ws Q := by
  intro hO hws tw
  refine MetFree.of_bodySF hpl hisR ?_
  intro p e s m args below meth c s₁ Bd hml0 hP hK
  obtain ⟨rfl, hZ, hh⟩ := hP
  have X0 : Stand p l e rm s m args below meth c s₁ [] 0 0 := Stand.of_body Bd
  have e0 : s₁.heap = h0 := by rw [← hh, Bd.state]; rfl
  obtain ⟨s₂, o, hs, r⟩ := k (p, e, s, m, args, below, meth, c) ⟨Bd.exec, Bd.bytes, hml0, findClass_of_methodNamed Bd.named, (name_of_methodNamed Bd.named Bd.method).1, Bd.returns, BodyLoose.notSynchronized Bd, hZ⟩ s₁ [] X0 (Fr.nil _) e0
    ⟨hO, Keep.refl _ _, fun x hx => ⟨(hws x hx).1, (hws x hx).2, Or.inl hx⟩⟩
  exact ⟨s₂, o, castTop (hef m) hs, r⟩
section StepsN
variable {Z : State} {a0 : Array Value} {y : MethodName} {by0 : ByteArray} {ml : Nat} {rt : Option FieldType} {l : Launch} {R : Room} {ws : List Addr} {h0 : Heap} {Q : Option Value → Heap → Prop} {κ : Kx} {S : List Addr} {h : Heap} {pc : Nat} {Ls : Array Slot} {st : List Value} {ce sl : Nat}
theorem go_iloadN (C : Cx Z a0 y by0 ml rt κ) (pc' : Nat) {j : Fin 4} {v : Int32} (hd : decode by0 pc = .ok (.iload_n j, 1)) (hpc : pc + 1 = pc') (hl : Ls[j.val]? = some (.val (.int v))) (k : Go l R Z ws h0 Q κ S h pc' Ls (.int v :: st) ce sl) : Go l R Z ws h0 Q κ S h pc Ls st ce sl := by
  subst hpc
  obtain ⟨p, e, s, m, args, below, meth, c⟩ := κ
  intro T locs X N eT I
  obtain ⟨hx, hby, hml, hown, hnm, hret, hlk, hZ⟩ := C
  obtain ⟨s₂, o, hs, r⟩ := k T _ X N eT I
  exact ⟨s₂, o, XS.iloadN X.here hx rfl (hb hby hd) hl hs, r⟩
theorem go_iload (C : Cx Z a0 y by0 ml rt κ) (pc' : Nat) {j : Nat} {v : Int32} (hd : decode by0 pc = .ok (.iload j, 2)) (hpc : pc + 2 = pc') (hl : Ls[j]? = some (.val (.int v))) (k : Go l R Z ws h0 Q κ S h pc' Ls (.int v :: st) ce sl) : Go l R Z ws h0 Q κ S h pc Ls st ce sl := by
  subst hpc
  obtain ⟨p, e, s, m, args, below, meth, c⟩ := κ
  intro T locs X N eT I
  obtain ⟨hx, hby, hml, hown, hnm, hret, hlk, hZ⟩ := C
  obtain ⟨s₂, o, hs, r⟩ := k T _ X N eT I
  exact ⟨s₂, o, XS.iload X.here hx rfl (hb hby hd) hl hs, r⟩
theorem go_aloadN (C : Cx Z a0 y by0 ml rt κ) (pc' : Nat) {j : Fin 4} {v : Value} (hd : decode by0 pc = .ok (.aload_n j, 1)) (hpc : pc + 1 = pc') (hl : Ls[j.val]? = some (.val v)) (hv : v.isRef = true) (k : Go l R Z ws h0 Q κ S h pc' Ls (v :: st) ce sl) : Go l R Z ws h0 Q κ S h pc Ls st ce sl := by
  subst hpc
  obtain ⟨p, e, s, m, args, below, meth, c⟩ := κ
  intro T locs X N eT I
  obtain ⟨hx, hby, hml, hown, hnm, hret, hlk, hZ⟩ := C
  obtain ⟨s₂, o, hs, r⟩ := k T _ X N eT I
  exact ⟨s₂, o, XS.aloadN X.here hx rfl (hb hby hd) hl hv hs, r⟩
theorem go_aload (C : Cx Z a0 y by0 ml rt κ) (pc' : Nat) {j : Nat} {v : Value} (hd : decode by0 pc = .ok (.aload j, 2)) (hpc : pc + 2 = pc') (hl : Ls[j]? = some (.val v)) (hv : v.isRef = true) (k : Go l R Z ws h0 Q κ S h pc' Ls (v :: st) ce sl) : Go l R Z ws h0 Q κ S h pc Ls st ce sl := by
  subst hpc
  obtain ⟨p, e, s, m, args, below, meth, c⟩ := κ
  intro T locs X N eT I
  obtain ⟨hx, hby, hml, hown, hnm, hret, hlk, hZ⟩ := C
  obtain ⟨s₂, o, hs, r⟩ := k T _ X N eT I
  exact ⟨s₂, o, XS.aload X.here hx rfl (hb hby hd) hl hv hs, r⟩
theorem go_iconst (C : Cx Z a0 y by0 ml rt κ) (pc' : Nat) {i : Int} (v : Int32) (hd : decode by0 pc = .ok (.iconst i, 1)) (hpc : pc + 1 = pc') (hv : Int32.ofInt i = v) (k : Go l R Z ws h0 Q κ S h pc' Ls (.int v :: st) ce sl) : Go l R Z ws h0 Q κ S h pc Ls st ce sl := by
  subst hpc
  obtain ⟨p, e, s, m, args, below, meth, c⟩ := κ
  intro T locs X N eT I
  obtain ⟨hx, hby, hml, hown, hnm, hret, hlk, hZ⟩ := C
  obtain ⟨s₂, o, hs, r⟩ := k T _ X N eT I
  exact ⟨s₂, o, XT.iconstV X.here hx rfl v (hb hby hd) hv hs, r⟩
theorem go_bipush (C : Cx Z a0 y by0 ml rt κ) (pc' : Nat) {i : Int} (v : Int32) (hd : decode by0 pc = .ok (.bipush i, 2)) (hpc : pc + 2 = pc') (hv : (Int8.ofInt i).toInt32 = v) (k : Go l R Z ws h0 Q κ S h pc' Ls (.int v :: st) ce sl) : Go l R Z ws h0 Q κ S h pc Ls st ce sl := by
  subst hpc
  obtain ⟨p, e, s, m, args, below, meth, c⟩ := κ
  intro T locs X N eT I
  obtain ⟨hx, hby, hml, hown, hnm, hret, hlk, hZ⟩ := C
  obtain ⟨s₂, o, hs, r⟩ := k T _ X N eT I
  exact ⟨s₂, o, XT.bipushV X.here hx rfl v (hb hby hd) hv hs, r⟩
theorem go_sipush (C : Cx Z a0 y by0 ml rt κ) (pc' : Nat) {i : Int} (v : Int32) (hd : decode by0 pc = .ok (.sipush i, 3)) (hpc : pc + 3 = pc') (hv : (Int16.ofInt i).toInt32 = v) (k : Go l R Z ws h0 Q κ S h pc' Ls (.int v :: st) ce sl) : Go l R Z ws h0 Q κ S h pc Ls st ce sl := by
  subst hpc
  obtain ⟨p, e, s, m, args, below, meth, c⟩ := κ
  intro T locs X N eT I
  obtain ⟨hx, hby, hml, hown, hnm, hret, hlk, hZ⟩ := C
  obtain ⟨s₂, o, hs, r⟩ := k T _ X N eT I
  exact ⟨s₂, o, XT.sipushV X.here hx rfl v (hb hby hd) hv hs, r⟩
theorem go_aconstNull (C : Cx Z a0 y by0 ml rt κ) (pc' : Nat)  (hd : decode by0 pc = .ok (.aconst_null, 1)) (hpc : pc + 1 = pc')  (k : Go l R Z ws h0 Q κ S h pc' Ls (.null :: st) ce sl) : Go l R Z ws h0 Q κ S h pc Ls st ce sl := by
  subst hpc
  obtain ⟨p, e, s, m, args, below, meth, c⟩ := κ
  intro T locs X N eT I
  obtain ⟨hx, hby, hml, hown, hnm, hret, hlk, hZ⟩ := C
  obtain ⟨s₂, o, hs, r⟩ := k T _ X N eT I
  exact ⟨s₂, o, XS.aconstNull X.here hx rfl (hb hby hd) hs, r⟩
theorem go_isub (C : Cx Z a0 y by0 ml rt κ) (pc' : Nat) {x z : Int32} (v : Int32) (hd : decode by0 pc = .ok (.isub, 1)) (hpc : pc + 1 = pc') (hv : x - z = v) (k : Go l R Z ws h0 Q κ S h pc' Ls (.int v :: st) ce sl) : Go l R Z ws h0 Q κ S h pc Ls (.int z :: .int x :: st) ce sl := by
  subst hpc
  subst hv
  obtain ⟨p, e, s, m, args, below, meth, c⟩ := κ
  intro T locs X N eT I
  obtain ⟨hx, hby, hml, hown, hnm, hret, hlk, hZ⟩ := C
  obtain ⟨s₂, o, hs, r⟩ := k T _ X N eT I
  exact ⟨s₂, o, XS.isub X.here hx rfl (hb hby hd) rfl hs, r⟩
theorem go_iushr (C : Cx Z a0 y by0 ml rt κ) (pc' : Nat) {x z : Int32} (v : Int32) (hd : decode by0 pc = .ok (.iushr, 1)) (hpc : pc + 1 = pc') (hv : XT.ushr x z = v) (k : Go l R Z ws h0 Q κ S h pc' Ls (.int v :: st) ce sl) : Go l R Z ws h0 Q κ S h pc Ls (.int z :: .int x :: st) ce sl := by
  subst hpc
  subst hv
  obtain ⟨p, e, s, m, args, below, meth, c⟩ := κ
  intro T locs X N eT I
  obtain ⟨hx, hby, hml, hown, hnm, hret, hlk, hZ⟩ := C
  obtain ⟨s₂, o, hs, r⟩ := k T _ X N eT I
  exact ⟨s₂, o, XT.iushr X.here hx rfl (hb hby hd) rfl hs, r⟩
theorem go_i2b (C : Cx Z a0 y by0 ml rt κ) (pc' : Nat) {x : Int32} (v : Int32) (hd : decode by0 pc = .ok (.i2b, 1)) (hpc : pc + 1 = pc') (hv : x.toInt8.toInt32 = v) (k : Go l R Z ws h0 Q κ S h pc' Ls (.int v :: st) ce sl) : Go l R Z ws h0 Q κ S h pc Ls (.int x :: st) ce sl := by
  subst hpc
  subst hv
  obtain ⟨p, e, s, m, args, below, meth, c⟩ := κ
  intro T locs X N eT I
  obtain ⟨hx, hby, hml, hown, hnm, hret, hlk, hZ⟩ := C
  obtain ⟨s₂, o, hs, r⟩ := k T _ X N eT I
  exact ⟨s₂, o, XT.i2b X.here hx rfl (hb hby hd) rfl hs, r⟩
theorem go_dup (C : Cx Z a0 y by0 ml rt κ) (pc' : Nat) {x : Value} (hd : decode by0 pc = .ok (.dup, 1)) (hpc : pc + 1 = pc') (hc : x.category = 1) (k : Go l R Z ws h0 Q κ S h pc' Ls (x :: x :: st) ce sl) : Go l R Z ws h0 Q κ S h pc Ls (x :: st) ce sl := by
  subst hpc
  obtain ⟨p, e, s, m, args, below, meth, c⟩ := κ
  intro T locs X N eT I
  obtain ⟨hx, hby, hml, hown, hnm, hret, hlk, hZ⟩ := C
  obtain ⟨s₂, o, hs, r⟩ := k T _ X N eT I
  exact ⟨s₂, o, XS.dup X.here hx rfl (hb hby hd) rfl hc hs, r⟩
theorem go_istoreN (C : Cx Z a0 y by0 ml rt κ) (pc' : Nat) {j : Fin 4} {x : Int32} {Ls' : Array Slot} (hd : decode by0 pc = .ok (.istore_n j, 1)) (hpc : pc + 1 = pc') (hl : storeLocals Ls j.val (.int x) = some Ls') (k : Go l R Z ws h0 Q κ S h pc' Ls' st ce sl) : Go l R Z ws h0 Q κ S h pc Ls (.int x :: st) ce sl := by
  subst hpc
  obtain ⟨p, e, s, m, args, below, meth, c⟩ := κ
  intro T locs X N eT I
  obtain ⟨hx, hby, hml, hown, hnm, hret, hlk, hZ⟩ := C
  obtain ⟨s₂, o, hs, r⟩ := k T _ X N eT I
  exact ⟨s₂, o, XS.istoreN X.here hx rfl (hb hby hd) rfl hl hs, r⟩
theorem go_istore (C : Cx Z a0 y by0 ml rt κ) (pc' : Nat) {j : Nat} {x : Int32} {Ls' : Array Slot} (hd : decode by0 pc = .ok (.istore j, 2)) (hpc : pc + 2 = pc') (hl : storeLocals Ls j (.int x) = some Ls') (k : Go l R Z ws h0 Q κ S h pc' Ls' st ce sl) : Go l R Z ws h0 Q κ S h pc Ls (.int x :: st) ce sl := by
  subst hpc
  obtain ⟨p, e, s, m, args, below, meth, c⟩ := κ
  intro T locs X N eT I
  obtain ⟨hx, hby, hml, hown, hnm, hret, hlk, hZ⟩ := C
  obtain ⟨s₂, o, hs, r⟩ := k T _ X N eT I
  exact ⟨s₂, o, XS.istore X.here hx rfl (hb hby hd) rfl hl hs, r⟩
theorem go_astoreN (C : Cx Z a0 y by0 ml rt κ) (pc' : Nat) {j : Fin 4} {x : Value} {Ls' : Array Slot} (hd : decode by0 pc = .ok (.astore_n j, 1)) (hpc : pc + 1 = pc') (hv : x.isRef = true) (hl : storeLocals Ls j.val x = some Ls') (k : Go l R Z ws h0 Q κ S h pc' Ls' st ce sl) : Go l R Z ws h0 Q κ S h pc Ls (x :: st) ce sl := by
  subst hpc
  obtain ⟨p, e, s, m, args, below, meth, c⟩ := κ
  intro T locs X N eT I
  obtain ⟨hx, hby, hml, hown, hnm, hret, hlk, hZ⟩ := C
  obtain ⟨s₂, o, hs, r⟩ := k T _ X N eT I
  exact ⟨s₂, o, XS.astoreN X.here hx rfl (hb hby hd) rfl hv hl hs, r⟩
theorem go_astore (C : Cx Z a0 y by0 ml rt κ) (pc' : Nat) {j : Nat} {x : Value} {Ls' : Array Slot} (hd : decode by0 pc = .ok (.astore j, 2)) (hpc : pc + 2 = pc') (hv : x.isRef = true) (hl : storeLocals Ls j x = some Ls') (k : Go l R Z ws h0 Q κ S h pc' Ls' st ce sl) : Go l R Z ws h0 Q κ S h pc Ls (x :: st) ce sl := by
  subst hpc
  obtain ⟨p, e, s, m, args, below, meth, c⟩ := κ
  intro T locs X N eT I
  obtain ⟨hx, hby, hml, hown, hnm, hret, hlk, hZ⟩ := C
  obtain ⟨s₂, o, hs, r⟩ := k T _ X N eT I
  exact ⟨s₂, o, XS.astore X.here hx rfl (hb hby hd) rfl hv hl hs, r⟩
theorem go_iinc (C : Cx Z a0 y by0 ml rt κ) (pc' : Nat) {j : Nat} {i : Int} {x : Int32} {Ls' : Array Slot} (v : Int32) (hd : decode by0 pc = .ok (.iinc j i, 3)) (hpc : pc + 3 = pc') (hv : Int32.ofInt i = v) (hg : Ls[j]? = some (.val (.int x))) (hl : storeLocals Ls j (.int (x + v)) = some Ls') (k : Go l R Z ws h0 Q κ S h pc' Ls' st ce sl) : Go l R Z ws h0 Q κ S h pc Ls st ce sl := by
  subst hpc
  obtain ⟨p, e, s, m, args, below, meth, c⟩ := κ
  intro T locs X N eT I
  obtain ⟨hx, hby, hml, hown, hnm, hret, hlk, hZ⟩ := C
  obtain ⟨s₂, o, hs, r⟩ := k T _ X N eT I
  exact ⟨s₂, o, XT.iincV X.here hx rfl v (hb hby hd) hv hg hl hs, r⟩
theorem go_ifN (C : Cx Z a0 y by0 ml rt κ) (pc' : Nat) {o : Int} {cd : ClassFile.Cond} {x : Int32} (hd : decode by0 pc = .ok (.ifCond cd o, 3)) (hpc : pc + 3 = pc') (hc : if_icmp.holds cd x 0 = false) (k : Go l R Z ws h0 Q κ S h pc' Ls st ce sl) : Go l R Z ws h0 Q κ S h pc Ls (.int x :: st) ce sl := by
  subst hpc
  obtain ⟨p, e, s, m, args, below, meth, c⟩ := κ
  intro T locs X N eT I
  obtain ⟨hx, hby, hml, hown, hnm, hret, hlk, hZ⟩ := C
  obtain ⟨s₂, o, hs, r⟩ := k T _ X N eT I
  exact ⟨s₂, o, XS.ifNo X.here hx rfl (hb hby hd) rfl ((if0 _ _).trans hc) hs, r⟩
theorem go_icmpN (C : Cx Z a0 y by0 ml rt κ) (pc' : Nat) {o : Int} {cd : ClassFile.Cond} {x z : Int32} (hd : decode by0 pc = .ok (.if_icmp cd o, 3)) (hpc : pc + 3 = pc') (hc : if_icmp.holds cd x z = false) (k : Go l R Z ws h0 Q κ S h pc' Ls st ce sl) : Go l R Z ws h0 Q κ S h pc Ls (.int z :: .int x :: st) ce sl := by
  subst hpc
  obtain ⟨p, e, s, m, args, below, meth, c⟩ := κ
  intro T locs X N eT I
  obtain ⟨hx, hby, hml, hown, hnm, hret, hlk, hZ⟩ := C
  obtain ⟨s₂, o, hs, r⟩ := k T _ X N eT I
  exact ⟨s₂, o, XS.icmpNo X.here hx rfl (hb hby hd) rfl hc hs, r⟩
theorem go_instNull (C : Cx Z a0 y by0 ml rt κ) (pc' : Nat) {ix : Nat} (hd : decode by0 pc = .ok (.instanceof ix, 3)) (hpc : pc + 3 = pc')  (k : Go l R Z ws h0 Q κ S h pc' Ls (.int 0 :: st) ce sl) : Go l R Z ws h0 Q κ S h pc Ls (.null :: st) ce sl := by
  subst hpc
  obtain ⟨p, e, s, m, args, below, meth, c⟩ := κ
  intro T locs X N eT I
  obtain ⟨hx, hby, hml, hown, hnm, hret, hlk, hZ⟩ := C
  obtain ⟨s₂, o, hs, r⟩ := k T _ X N eT I
  exact ⟨s₂, o, X.instanceofNull hx (g := mkF m pc Ls (.null :: st)) rfl rfl (hb hby hd) _ hs, r⟩
theorem go_caload (C : Cx Z a0 y by0 ml rt κ) (pc' : Nat) {a : Addr} {kc : ClassId} {n j : Int32} {vs : List Value} {d v : Value} (hd : decode by0 pc = .ok (.caload, 1)) (hpc : pc + 1 = pc') (F : Arv Z h a kc .char n vs d) (hj : ¬ j < 0 ∧ j < n) (hv : vs.getD j.toNatClampNeg d = v) (k : Go l R Z ws h0 Q κ S h pc' Ls (v :: st) ce sl) : Go l R Z ws h0 Q κ S h pc Ls (.int j :: .ref a :: st) ce sl := by
  subst hpc
  obtain ⟨p, e, s, m, args, below, meth, c⟩ := κ
  intro T locs X N eT I
  obtain ⟨hx, hby, hml, hown, hnm, hret, hlk, hZ⟩ := C
  obtain ⟨s₂, o, hs, r⟩ := k T _ X N eT I
  obtain ⟨_, A, q1, S1, q3, H, G⟩ := F
  exact ⟨s₂, o, X.caload hx (j := j) (by rw [eT]; exact A.1) (State.isArrayOf_alike hZ.alike A.2.1) A.2.2 (inb_of S1 hj) (H.at (inb_of S1 hj) hv) (g := mkF m pc Ls (.int j :: .ref a :: st)) rfl rfl (hb hby hd) _ hs, r⟩
theorem go_baload (C : Cx Z a0 y by0 ml rt κ) (pc' : Nat) {a : Addr} {kc : ClassId} {n j : Int32} {vs : List Value} {d v : Value} (hd : decode by0 pc = .ok (.baload, 1)) (hpc : pc + 1 = pc') (F : Arv Z h a kc .byte n vs d) (hj : ¬ j < 0 ∧ j < n) (hv : vs.getD j.toNatClampNeg d = v) (k : Go l R Z ws h0 Q κ S h pc' Ls (v :: st) ce sl) : Go l R Z ws h0 Q κ S h pc Ls (.int j :: .ref a :: st) ce sl := by
  subst hpc
  obtain ⟨p, e, s, m, args, below, meth, c⟩ := κ
  intro T locs X N eT I
  obtain ⟨hx, hby, hml, hown, hnm, hret, hlk, hZ⟩ := C
  obtain ⟨s₂, o, hs, r⟩ := k T _ X N eT I
  obtain ⟨_, A, q1, S1, q3, H, G⟩ := F
  exact ⟨s₂, o, X.baloadBytes hx (j := j) (by rw [eT]; exact A.1) (State.isArrayOf_alike hZ.alike A.2.1) A.2.2 (inb_of S1 hj) (H.at (inb_of S1 hj) hv) (g := mkF m pc Ls (.int j :: .ref a :: st)) rfl rfl (hb hby hd) _ hs, r⟩
theorem go_arraylength (C : Cx Z a0 y by0 ml rt κ) (pc' : Nat) {a : Addr} {kc : ClassId} {ty : FieldType} {n : Int32} {vs : List Value} {d : Value} (hd : decode by0 pc = .ok (.arraylength, 1)) (hpc : pc + 1 = pc') (F : Arv Z h a kc ty n vs d) (k : Go l R Z ws h0 Q κ S h pc' Ls (.int n :: st) ce sl) : Go l R Z ws h0 Q κ S h pc Ls (.ref a :: st) ce sl := by
  subst hpc
  obtain ⟨p, e, s, m, args, below, meth, c⟩ := κ
  intro T locs X N eT I
  obtain ⟨hx, hby, hml, hown, hnm, hret, hlk, hZ⟩ := C
  obtain ⟨s₂, o, hs, r⟩ := k T _ X N eT I
  obtain ⟨cl, A, q1, S1, q3, H, G⟩ := F
  rw [← len_of S1 q3] at hs
  exact ⟨s₂, o, X.arraylength hx (by rw [eT]; exact A.1) (State.isArrayOf_alike hZ.alike A.2.1) (g := mkF m pc Ls (.ref a :: st)) rfl rfl (hb hby hd) _ hs, r⟩
theorem go_goto (C : Cx Z a0 y by0 ml rt κ) {o : Int} {pc' : Nat} (hd : decode by0 pc = .ok (.goto o, 3))  (ho : 0 ≤ (pc : Int) + o) (hp : ((pc : Int) + o).toNat = pc') (k : Go l R Z ws h0 Q κ S h pc' Ls st ce sl) : Go l R Z ws h0 Q κ S h pc Ls st ce sl := by
  obtain ⟨p, e, s, m, args, below, meth, c⟩ := κ
  intro T locs X N eT I
  obtain ⟨hx, hby, hml, hown, hnm, hret, hlk, hZ⟩ := C
  obtain ⟨s₂, o, hs, r⟩ := k T _ X N eT I
  exact ⟨s₂, o, XS.goto X.here hx rfl (pc0 := pc) rfl (hb hby hd) ho hp hs, r⟩
theorem go_ifY (C : Cx Z a0 y by0 ml rt κ) {o : Int} {cd : ClassFile.Cond} {x : Int32} {pc' : Nat} (hd : decode by0 pc = .ok (.ifCond cd o, 3)) (hc : if_icmp.holds cd x 0 = true) (ho : 0 ≤ (pc : Int) + o) (hp : ((pc : Int) + o).toNat = pc') (k : Go l R Z ws h0 Q κ S h pc' Ls st ce sl) : Go l R Z ws h0 Q κ S h pc Ls (.int x :: st) ce sl := by
  obtain ⟨p, e, s, m, args, below, meth, c⟩ := κ
  intro T locs X N eT I
  obtain ⟨hx, hby, hml, hown, hnm, hret, hlk, hZ⟩ := C
  obtain ⟨s₂, o, hs, r⟩ := k T _ X N eT I
  exact ⟨s₂, o, XS.ifYes X.here hx rfl (pc0 := pc) rfl (hb hby hd) rfl ((if0 _ _).trans hc) ho hp hs, r⟩
theorem go_icmpY (C : Cx Z a0 y by0 ml rt κ) {o : Int} {cd : ClassFile.Cond} {x z : Int32} {pc' : Nat} (hd : decode by0 pc = .ok (.if_icmp cd o, 3)) (hc : if_icmp.holds cd x z = true) (ho : 0 ≤ (pc : Int) + o) (hp : ((pc : Int) + o).toNat = pc') (k : Go l R Z ws h0 Q κ S h pc' Ls st ce sl) : Go l R Z ws h0 Q κ S h pc Ls (.int z :: .int x :: st) ce sl := by
  obtain ⟨p, e, s, m, args, below, meth, c⟩ := κ
  intro T locs X N eT I
  obtain ⟨hx, hby, hml, hown, hnm, hret, hlk, hZ⟩ := C
  obtain ⟨s₂, o, hs, r⟩ := k T _ X N eT I
  exact ⟨s₂, o, XS.icmpYes X.here hx rfl (pc0 := pc) rfl (hb hby hd) rfl hc ho hp hs, r⟩
theorem go_acmp (C : Cx Z a0 y by0 ml rt κ) {o : Int} {cd : ACond} {x z : Value} {b : Bool} {pc' : Nat} (hd : decode by0 pc = .ok (.if_acmp cd o, 3)) (h1 : x.isRef = true) (h2 : z.isRef = true) (hq : decide (x = z) = b) (ho : 0 ≤ (pc : Int) + o) (hp : pc' = if acV cd b = true then ((pc : Int) + o).toNat else pc + 3) (k : Go l R Z ws h0 Q κ S h pc' Ls st ce sl) : Go l R Z ws h0 Q κ S h pc Ls (z :: x :: st) ce sl := by
  obtain ⟨p, e, s, m, args, below, meth, c⟩ := κ
  intro T locs X N eT I
  obtain ⟨hx, hby, hml, hown, hnm, hret, hlk, hZ⟩ := C
  obtain ⟨s₂, o, hs, r⟩ := k T _ X N eT I
  exact ⟨s₂, o, Jvm.RoadKit.acmp (g := mkF m pc Ls (z :: x :: st)) X hx rfl h1 h2 (pc0 := pc) rfl (hb hby hd) rfl hq ho hp hs, r⟩
theorem go_getF (C : Cx Z a0 y by0 ml rt κ) (pc' : Nat) {ix : Nat} {R0 O n d : String} {a : Addr} {v : Value} (hd : decode by0 pc = .ok (.getfield ix, 3)) (hpc : pc + 3 = pc') (w : (Cond.fieldLink y.cls ix R0 n d).before a0 Z = true) (via : Via Z R0 O n d) (F : Fld Z h a O n d v) (k : Go l R Z ws h0 Q κ S h pc' Ls (v :: st) ce sl) : Go l R Z ws h0 Q κ S h pc Ls (.ref a :: st) ce sl := by
  subst hpc
  obtain ⟨p, e, s, m, args, below, meth, c⟩ := κ
  intro T locs X N eT I
  obtain ⟨hx, hby, hml, hown, hnm, hret, hlk, hZ⟩ := C
  obtain ⟨T', X', e', st'⟩ := getF X hx hZ hown (host := "") (Or.inl w) via eT F (g := mkF m pc Ls (.ref a :: st)) rfl rfl (hb hby hd)
  obtain ⟨s₂, o, hs, r⟩ := k T' _ X' N e' I
  exact ⟨s₂, o, st' _ hs, r⟩
theorem go_getS (C : Cx Z a0 y by0 ml rt κ) (pc' : Nat) {ix : Nat} {O n d : String} {v : Value} (hd : decode by0 pc = .ok (.getstatic ix, 3)) (hpc : pc + 3 = pc') (w : (Cond.fieldLink y.cls ix O n d).before a0 Z = true) (F : Sta Z Z.heap O n d v) (k : Go l R Z ws h0 Q κ S h pc' Ls (v :: st) ce sl) : Go l R Z ws h0 Q κ S h pc Ls st ce sl := by
  subst hpc
  obtain ⟨p, e, s, m, args, below, meth, c⟩ := κ
  intro T locs X N eT I
  obtain ⟨hx, hby, hml, hown, hnm, hret, hlk, hZ⟩ := C
  obtain ⟨T', X', e', st'⟩ := getS2 X hx hZ hown (host := "") (Or.inl w) Via.refl eT (F.ext I.1) (g := mkF m pc Ls st) rfl (hb hby hd)
  obtain ⟨s₂, o, hs, r⟩ := k T' _ X' N e' I
  exact ⟨s₂, o, st' _ hs, r⟩
theorem go_cast (C : Cx Z a0 y by0 ml rt κ) (pc' : Nat) {ix : Nat} {K : String} {a : Addr} (hd : decode by0 pc = .ok (.checkcast ix, 3)) (hpc : pc + 3 = pc') (w : (Cond.classLink y.cls ix K).before a0 Z = true) (F : Ins Z h a K true) (k : Go l R Z ws h0 Q κ S h pc' Ls (.ref a :: st) ce sl) : Go l R Z ws h0 Q κ S h pc Ls (.ref a :: st) ce sl := by
  subst hpc
  obtain ⟨p, e, s, m, args, below, meth, c⟩ := κ
  intro T locs X N eT I
  obtain ⟨hx, hby, hml, hown, hnm, hret, hlk, hZ⟩ := C
  obtain ⟨T', X', e', st'⟩ := castY X hx hZ hown w eT F (g := mkF m pc Ls (.ref a :: st)) rfl rfl (hb hby hd)
  obtain ⟨s₂, o, hs, r⟩ := k T' _ X' N e' I
  exact ⟨s₂, o, st' _ hs, r⟩
theorem go_instY (C : Cx Z a0 y by0 ml rt κ) (pc' : Nat) {ix : Nat} {K : String} {a : Addr} (hd : decode by0 pc = .ok (.instanceof ix, 3)) (hpc : pc + 3 = pc') (w : (Cond.classLink y.cls ix K).before a0 Z = true) (F : Ins Z h a K true) (k : Go l R Z ws h0 Q κ S h pc' Ls (.int 1 :: st) ce sl) : Go l R Z ws h0 Q κ S h pc Ls (.ref a :: st) ce sl := by
  subst hpc
  obtain ⟨p, e, s, m, args, below, meth, c⟩ := κ
  intro T locs X N eT I
  obtain ⟨hx, hby, hml, hown, hnm, hret, hlk, hZ⟩ := C
  obtain ⟨T', X', e', st'⟩ := instY X hx hZ hown w eT F (g := mkF m pc Ls (.ref a :: st)) rfl rfl (hb hby hd)
  obtain ⟨s₂, o, hs, r⟩ := k T' _ X' N e' I
  exact ⟨s₂, o, st' _ hs, r⟩
theorem go_initO (C : Cx Z a0 y by0 ml rt κ) (pc' : Nat) {ix : Nat} {a : Addr} {W : Nat} (hd : decode by0 pc = .ok (.invokespecial ix, 3)) (hpc : pc + 3 = pc') (w1 : (Cond.methodLink y.cls ix Lib.objectInit).before a0 Z = true) (w2 : (Cond.instanceMethod Lib.objectInit).before a0 Z = true) (w3 : (Cond.code Lib.objectInit ⟨#[0xb1]⟩ 1 none).before a0 Z = true) (hls : Ls.size = ml) (hf : 1 ≤ R.frames) (hW : (st.map fun v => v.category).sum ≤ W) (hlo : W + 12 ≤ R.locals) (k : Go l R Z ws h0 Q κ S h pc' Ls st ce sl) : Go l R Z ws h0 Q κ S h pc Ls (.ref a :: st) ce sl := by
  subst hpc
  obtain ⟨p, e, s, m, args, below, meth, c⟩ := κ
  intro T locs X N eT I
  obtain ⟨hx, hby, hml, hown, hnm, hret, hlk, hZ⟩ := C
  obtain ⟨T', X', e', st'⟩ := initO X hx hZ hown w1 w2 w3 eT (g := mkF m pc Ls (.ref a :: st)) rfl (hls.trans hml.symm) rfl (hb hby hd) hf (W := W) (by show 2 * 0 + _ ≤ _; rw [Nat.mul_zero, Nat.zero_add]; exact hW) hlo
  obtain ⟨s₂, o, hs, r⟩ := k T' _ X' N e' I
  exact ⟨s₂, o, st' _ hs, r⟩
theorem go_putF (C : Cx Z a0 y by0 ml rt κ) (pc' : Nat) {ix kk : Nat} {R0 O n d Cn : String} {ty : FieldType} {a : Addr} {v old : Value} (hd : decode by0 pc = .ok (.putfield ix, 3)) (hpc : pc + 3 = pc') (w : (Cond.fieldLink y.cls ix R0 n d).before a0 Z = true) (via : Via Z R0 O n d) (F : Fld Z h a O n d old) (E : Exa Z h a Cn) (L : (Cond.lays Cn O n d).before a0 Z = true ∨ ((Cond.laysFinal Cn O n d).before a0 Z = true ∧ y.cls = O ∧ y.name = "<init>")) (wi : (Cond.instantiable Cn kk).before a0 Z = true) (hty : parseFieldDescriptor d = some ty) (hn : narrow ty v = v) (hf : fits ty v = true) (ha : a ∈ S) (k : ∀ h', Wr h h' a (RoadKit.slotOf Z O n d) v → Go l R Z ws h0 Q κ S h' pc' Ls st ce sl) : Go l R Z ws h0 Q κ S h pc Ls (v :: .ref a :: st) ce sl := by
  subst hpc
  obtain ⟨p, e, s, m, args, below, meth, c⟩ := κ
  intro T locs X N eT I
  obtain ⟨hx, hby, hml, hown, hnm, hret, hlk, hZ⟩ := C
  obtain ⟨T', h', X', e', W, st'⟩ := putF X hx hZ hown (host := "") (Or.inl w) via eT F E (L.imp id fun q => ⟨q.1, q.2.1, hnm.trans q.2.2⟩) wi hty hn hf (g := mkF m pc Ls (v :: .ref a :: st)) rfl rfl (hb hby hd)
  obtain ⟨s₂, o, hs, r⟩ := (k h' W) T' _ X' (fr_snoc N (I.2.2 _ ha).2.1) e' (I.wr W ha)
  exact ⟨s₂, o, st' _ hs, r⟩
theorem go_putFN (C : Cx Z a0 y by0 ml rt κ) (pc' : Nat) {ix kk : Nat} {R0 O n d Cn : String} {ty : FieldType} {a : Addr} {v v' old : Value} (hd : decode by0 pc = .ok (.putfield ix, 3)) (hpc : pc + 3 = pc') (w : (Cond.fieldLink y.cls ix R0 n d).before a0 Z = true) (via : Via Z R0 O n d) (F : Fld Z h a O n d old) (E : Exa Z h a Cn) (L : (Cond.lays Cn O n d).before a0 Z = true ∨ ((Cond.laysFinal Cn O n d).before a0 Z = true ∧ y.cls = O ∧ y.name = "<init>")) (wi : (Cond.instantiable Cn kk).before a0 Z = true) (hty : parseFieldDescriptor d = some ty) (hn : narrow ty v = v') (hf : fits ty v' = true) (ha : a ∈ S) (k : ∀ h', Wr h h' a (RoadKit.slotOf Z O n d) v' → Go l R Z ws h0 Q κ S h' pc' Ls st ce sl) : Go l R Z ws h0 Q κ S h pc Ls (v :: .ref a :: st) ce sl := by
  subst hpc
  obtain ⟨p, e, s, m, args, below, meth, c⟩ := κ
  intro T locs X N eT I
  obtain ⟨hx, hby, hml, hown, hnm, hret, hlk, hZ⟩ := C
  obtain ⟨T', h', X', e', W, st'⟩ := putFN X hx hZ hown w via eT F E (L.imp id fun q => ⟨q.1, q.2.1, hnm.trans q.2.2⟩) wi hty hn hf (g := mkF m pc Ls (v :: .ref a :: st)) rfl rfl (hb hby hd)
  obtain ⟨s₂, o, hs, r⟩ := (k h' W) T' _ X' (fr_snoc N (I.2.2 _ ha).2.1) e' (I.wr W ha)
  exact ⟨s₂, o, st' _ hs, r⟩
theorem go_new (C : Cx Z a0 y by0 ml rt κ) (pc' ce' sl' : Nat) {ix n : Nat} {Cn : String} (hd : decode by0 pc = .ok (.new ix, 3)) (hce : ce + 1 = ce') (hsl' : sl + n = sl') (hpc : pc + 3 = pc') (w : (Cond.classLink y.cls ix Cn).before a0 Z = true) (wi : (Cond.instantiable Cn n).before a0 Z = true) (wz : (Cond.initialized Cn).before a0 Z = true) (hc : ce + 1 ≤ R.cells) (hsl : sl + n ≤ R.slots) (k : ∀ (a : Addr) h', a = h.size → Ext h h' → Exa Z h' a Cn → (∀ {O nm d : String} {ty : FieldType}, Laid Z a0 Cn O nm d → parseFieldDescriptor d = some ty → Fld Z h' a O nm d (defaultValue ty)) → Go l R Z ws h0 Q κ (a :: S) h' pc' Ls (.ref a :: st) ce' sl') : Go l R Z ws h0 Q κ S h pc Ls st ce sl := by
  subst hpc hce hsl'
  obtain ⟨p, e, s, m, args, below, meth, c⟩ := κ
  intro T locs X N eT I
  obtain ⟨hx, hby, hml, hown, hnm, hret, hlk, hZ⟩ := C
  obtain ⟨T', h', X', e', E, A, D, -, st'⟩ := newO X hx hZ hown w wi wz eT (g := mkF m pc Ls st) rfl (hb hby hd) hc hsl
  obtain ⟨s₂, o, hs, r⟩ := (k _ h' rfl E A @D) T' _ X' N e' (I.new E A.lt)
  exact ⟨s₂, o, st' _ hs, r⟩
theorem go_newP (C : Cx Z a0 y by0 ml rt κ) (pc' ce' sl' : Nat) {aty : ArrayType} {ty : FieldType} {n : Int32} {cap : Nat} (hd : decode by0 pc = .ok (.newarray aty, 2)) (hce : ce + 1 = ce') (hsl' : sl + cap = sl') (hpc : pc + 2 = pc') (hty : newarray.typeOf aty = ty) (w : (Cond.arrayClass ty).before a0 Z = true) (hn : ¬ n < 0) (hcap : n.toNatClampNeg ≤ cap) (hbig : cap * 8 ≤ 536870912) (hc : ce + 1 ≤ R.cells) (hsl : sl + cap ≤ R.slots) (k : ∀ (a : Addr) h' kc, a = h.size → Ext h h' → Arv Z h' a kc ty n (List.replicate n.toNatClampNeg (defaultValue ty)) (defaultValue ty) → Go l R Z ws h0 Q κ (a :: S) h' pc' Ls (.ref a :: st) ce' sl') : Go l R Z ws h0 Q κ S h pc Ls (.int n :: st) ce sl := by
  subst hpc hce hsl'
  subst hty
  obtain ⟨p, e, s, m, args, below, meth, c⟩ := κ
  intro T locs X N eT I
  obtain ⟨hx, hby, hml, hown, hnm, hret, hlk, hZ⟩ := C
  obtain ⟨T', h', kc, X', e', E, A, st'⟩ := newP X hx hZ w eT (g := mkF m pc Ls (.int n :: st)) rfl (hb hby hd) rfl hn hcap hbig hc hsl
  have V := (Arv.new A hn).pad (vs' := List.replicate n.toNatClampNeg (defaultValue (newarray.typeOf aty))) (pad_rep [] (defaultValue (newarray.typeOf aty)) n.toNatClampNeg)
  obtain ⟨s₂, o, hs, r⟩ := (k _ h' kc rfl E V) T' _ X' N e' (I.new E A.lt)
  exact ⟨s₂, o, st' _ hs, r⟩
theorem go_castore (C : Cx Z a0 y by0 ml rt κ) (pc' : Nat) {a : Addr} {kc : ClassId} {n j x : Int32} {vs : List Value} {d : Value} (i : Nat) {v : Int32} (hv : nar .char x = v) (hd : decode by0 pc = .ok (.castore, 1)) (hpc : pc + 1 = pc') (F : Arv Z h a kc .char n vs d) (hj : ¬ j < 0 ∧ j < n) (hi : j.toNatClampNeg = i) (hl : i < vs.length) (ha : a ∈ S) (k : ∀ h', Wr h h' a j.toNatClampNeg (.int v) → Arv Z h' a kc .char n (vs.set i (.int v)) d → Go l R Z ws h0 Q κ S h' pc' Ls st ce sl) : Go l R Z ws h0 Q κ S h pc Ls (.int x :: .int j :: .ref a :: st) ce sl := by
  subst hv hpc
  obtain ⟨p, e, s, m, args, below, meth, c⟩ := κ
  intro T locs X N eT I
  obtain ⟨hx, hby, hml, hown, hnm, hret, hlk, hZ⟩ := C
  obtain ⟨cl, A, q1, S1, q3, H, G⟩ := F
  obtain ⟨T', h', X', e', W, st'⟩ := stC X hx hZ eT A (inb_of S1 hj) (g := mkF m pc Ls (.int x :: .int j :: .ref a :: st)) rfl rfl (hb hby hd)
  have V := Arv.set A q1 S1 q3 H G (fits_nar_char _) W i hi hl
  obtain ⟨s₂, o, hs, r⟩ := (k h' W V) T' _ X' (fr_snoc N (I.2.2 _ ha).2.1) e' (I.wr W ha)
  exact ⟨s₂, o, st' _ hs, r⟩
theorem go_bastore (C : Cx Z a0 y by0 ml rt κ) (pc' : Nat) {a : Addr} {kc : ClassId} {n j x : Int32} {vs : List Value} {d : Value} (i : Nat) {v : Int32} (hv : nar .byte x = v) (hd : decode by0 pc = .ok (.bastore, 1)) (hpc : pc + 1 = pc') (F : Arv Z h a kc .byte n vs d) (hj : ¬ j < 0 ∧ j < n) (hi : j.toNatClampNeg = i) (hl : i < vs.length) (ha : a ∈ S) (k : ∀ h', Wr h h' a j.toNatClampNeg (.int v) → Arv Z h' a kc .byte n (vs.set i (.int v)) d → Go l R Z ws h0 Q κ S h' pc' Ls st ce sl) : Go l R Z ws h0 Q κ S h pc Ls (.int x :: .int j :: .ref a :: st) ce sl := by
  subst hv hpc
  obtain ⟨p, e, s, m, args, below, meth, c⟩ := κ
  intro T locs X N eT I
  obtain ⟨hx, hby, hml, hown, hnm, hret, hlk, hZ⟩ := C
  obtain ⟨cl, A, q1, S1, q3, H, G⟩ := F
  obtain ⟨T', h', X', e', W, st'⟩ := stB X hx hZ eT A (inb_of S1 hj) (g := mkF m pc Ls (.int x :: .int j :: .ref a :: st)) rfl rfl (hb hby hd)
  have V := Arv.set A q1 S1 q3 H G (fits_nar_byte _) W i hi hl
  obtain ⟨s₂, o, hs, r⟩ := (k h' W V) T' _ X' (fr_snoc N (I.2.2 _ ha).2.1) e' (I.wr W ha)
  exact ⟨s₂, o, st' _ hs, r⟩
theorem go_ret (C : Cx Z a0 y by0 ml rt κ) (hd : decode by0 pc = .ok (.return_, 1)) (hrt : rt = none) (hc : ce ≤ R.cells) (hsl : sl ≤ R.slots) (hq : Q none h) : Go l R Z ws h0 Q κ S h pc Ls [] ce sl := by
  obtain ⟨p, e, s, m, args, below, meth, c⟩ := κ
  intro T locs X N eT I
  obtain ⟨hx, hby, hml, hown, hnm, hret, hlk, hZ⟩ := C
  obtain ⟨fs, hr, hrun, hended, hW, hsame⟩ := X.leave (v := none) (fun _ => rfl) hlk
  have hq' : Keep h0 (T.setFrames fs).heap ws ∧ Q (none) (T.setFrames fs).heap := by
    show Keep h0 T.heap ws ∧ Q _ T.heap
    rw [eT]; exact ⟨I.2.1, hq⟩
  exact ⟨_, _, X.returnOut hx (hret.trans hrt) (hb hby hd) hr, hrun, hended, _, _, rfl, ⟨hq'.1, hq'.2, N⟩, ⟨_, rfl⟩, hW, hsame.mono hc hsl⟩
theorem go_retN (C : Cx Z a0 y by0 ml rt κ) {t : FieldType} {x z : Int32} (hd : decode by0 pc = .ok (.ireturn, 1)) (hrt : rt = some t) (ht : t = .boolean ∨ t = .byte ∨ t = .char ∨ t = .short) (hz : nar t x = z) (hc : ce ≤ R.cells) (hsl : sl ≤ R.slots) (hq : Q (some (.int z)) h) : Go l R Z ws h0 Q κ S h pc Ls (.int x :: st) ce sl := by
  subst hz
  obtain ⟨p, e, s, m, args, below, meth, c⟩ := κ
  intro T locs X N eT I
  obtain ⟨hx, hby, hml, hown, hnm, hret, hlk, hZ⟩ := C
  obtain ⟨fs, hr, hrun, hended, hW, hsame⟩ := X.leave (v := some (.int (nar t x))) (fun q => by rw [hret, hrt] at q; cases q) hlk
  have hq' : Keep h0 (T.setFrames fs).heap ws ∧ Q (some (.int (nar t x))) (T.setFrames fs).heap := by
    show Keep h0 T.heap ws ∧ Q _ T.heap
    rw [eT]; exact ⟨I.2.1, hq⟩
  exact ⟨_, _, retN X hx (hret.trans hrt) ht (hb hby hd) hr, hrun, hended, _, _, rfl, ⟨hq'.1, hq'.2, N⟩, ⟨_, rfl⟩, hW, hsame.mono hc hsl⟩
theorem go_retI (C : Cx Z a0 y by0 ml rt κ) {x : Int32} (hd : decode by0 pc = .ok (.ireturn, 1)) (hrt : rt = some .int) (hc : ce ≤ R.cells) (hsl : sl ≤ R.slots) (hq : Q (some (.int x)) h) : Go l R Z ws h0 Q κ S h pc Ls (.int x :: st) ce sl := by
  obtain ⟨p, e, s, m, args, below, meth, c⟩ := κ
  intro T locs X N eT I
  obtain ⟨hx, hby, hml, hown, hnm, hret, hlk, hZ⟩ := C
  obtain ⟨fs, hr, hrun, hended, hW, hsame⟩ := X.leave (v := some (.int x)) (fun q => by rw [hret, hrt] at q; cases q) hlk
  have hq' : Keep h0 (T.setFrames fs).heap ws ∧ Q (some (.int x)) (T.setFrames fs).heap := by
    show Keep h0 T.heap ws ∧ Q _ T.heap
    rw [eT]; exact ⟨I.2.1, hq⟩
  exact ⟨_, _, retOut X hx (hret.trans hrt) rfl (Or.inl ⟨rfl, Or.inl rfl, _, rfl⟩) (hb hby hd) hr, hrun, hended, _, _, rfl, ⟨hq'.1, hq'.2, N⟩, ⟨_, rfl⟩, hW, hsame.mono hc hsl⟩
theorem go_retA (C : Cx Z a0 y by0 ml rt κ) {v : Value} {t : FieldType} (hd : decode by0 pc = .ok (.areturn, 1)) (hrt : rt = some t) (ht : t.isReference = true) (hv : v.isRef = true) (hc : ce ≤ R.cells) (hsl : sl ≤ R.slots) (hq : Q (some v) h) : Go l R Z ws h0 Q κ S h pc Ls (v :: st) ce sl := by
  obtain ⟨p, e, s, m, args, below, meth, c⟩ := κ
  intro T locs X N eT I
  obtain ⟨hx, hby, hml, hown, hnm, hret, hlk, hZ⟩ := C
  obtain ⟨fs, hr, hrun, hended, hW, hsame⟩ := X.leave (v := some v) (fun q => by rw [hret, hrt] at q; cases q) hlk
  have hq' : Keep h0 (T.setFrames fs).heap ws ∧ Q (some v) (T.setFrames fs).heap := by
    show Keep h0 T.heap ws ∧ Q _ T.heap
    rw [eT]; exact ⟨I.2.1, hq⟩
  have hn : narrow t v = v := by cases t <;> first | (cases ht; done) | (cases v <;> first | rfl | cases hv)
  exact ⟨_, _, retOut X hx (hret.trans hrt) hn (Or.inr (Or.inr (Or.inr (Or.inr ⟨rfl, ht, hv⟩)))) (hb hby hd) hr, hrun, hended, _, _, rfl, ⟨hq'.1, hq'.2, N⟩, ⟨_, rfl⟩, hW, hsame.mono hc hsl⟩
theorem go_callS (C : Cx Z a0 y by0 ml rt κ) {z : MethodName} {fr lo cc ss : Nat} {ws' : List Addr} {Qz : Option Value → Heap → Prop} {ps : List FieldType} {rr : Option FieldType} {argsL : List Value} {ix W : Nat} (hd : decode by0 pc = .ok (.invokestatic ix, 3)) {bz : ByteArray} {mlz : Nat} {rtz : Option FieldType} (w1 : (Cond.methodLink y.cls ix z).before a0 Z = true) (w2 : (Cond.static z).before a0 Z = true) (wz : (Cond.initialized z.cls).before a0 Z = true) (wc : (Cond.code z bz mlz rtz).before a0 Z = true) (hy : z.cls ≠ "java/lang/invoke/MethodHandle" ∧ z.cls ≠ "java/lang/invoke/VarHandle") (hps : parseMethodDescriptor z.desc = some ⟨ps, rr⟩) (hM : Py l Z z fr lo cc ss argsL.toArray h ws' Qz) (hlen : argsL.length = ps.length) (hf : fr ≤ R.frames) (hW : (st.map fun v => v.category).sum ≤ W) (hlo : W + lo ≤ R.locals) (hls : Ls.size = ml) (hc : ce + cc ≤ R.cells) (hsl : sl + ss ≤ R.slots) (hws : ∀ x ∈ ws', x ∈ S) (k : ∀ v h', Keep h h' ws' → Qz v h' → ∃ bs, (∀ b ∈ bs, h.size ≤ b ∧ b < h'.size) ∧ Go l R Z ws h0 Q κ (bs ++ S) h' (pc + 3) Ls (v.toList ++ st) (ce + cc) (sl + ss)) : Go l R Z ws h0 Q κ S h pc Ls (argsL.reverse ++ st) ce sl := by
  obtain ⟨p, e, s, m, args, below, meth, c⟩ := κ
  intro T locs X N eT I
  obtain ⟨hx, hby, hml, hown, hnm, hret, hlk, hZ⟩ := C
  have hO := fun x hx => (⟨(I.2.2 x (hws x hx)).1, (I.2.2 x (hws x hx)).2.1⟩ : x < h.size ∧ Z.heap.size ≤ x)
  have hB := hM I.1 hO p e R below s args 3 W hZ hf hlo
  obtain ⟨v, _, ⟨T', L', k', n'⟩, -, X', ⟨Lc, hQ, l', y', z'⟩, st'⟩ := Jvm.LawKit.callS X hx hown (mvT hZ w1) (mvT hZ w2) (mvT hZ wz) (mvT hZ wc) hy hB (g := mkF m pc Ls (argsL.reverse ++ st)) rfl (hls.trans hml.symm) (argsL := argsL) (rest := st) (lenOf hps hlen) rfl (by show 2 * 0 + _ ≤ _; rw [Nat.mul_zero, Nat.zero_add]; exact hW) (hb hby hd) (fun _ _ => ⟨rfl, eT, hc, hsl⟩)
  dsimp only [Pt.U, Pt.locs, Pt.cells, Pt.slots] at X' l' y' z' st' hQ
  subst l' y' z'
  obtain ⟨K, hQ, N'⟩ := hQ
  have NN := Fr.app N N'
  obtain ⟨bs, hbs, kk⟩ := k v T'.heap K hQ
  obtain ⟨s₂, o, hs, r⟩ := kk T' _ X' NN rfl (I.add (I.keep K hws) hbs)
  exact ⟨s₂, o, st' _ hs, r⟩
theorem go_callI (C : Cx Z a0 y by0 ml rt κ) {z : MethodName} {fr lo cc ss : Nat} {ws' : List Addr} {Qz : Option Value → Heap → Prop} {ps : List FieldType} {rr : Option FieldType} {argsL : List Value} {ix W : Nat} {a : Addr} (hd : decode by0 pc = .ok (.invokespecial ix, 3)) {bz : ByteArray} {mlz : Nat} (hin : z.name = "<init>") (w1 : (Cond.methodLink y.cls ix z).before a0 Z = true) (w2 : (Cond.instanceMethod z).before a0 Z = true) (wc : (Cond.code z bz mlz none).before a0 Z = true) (hy : z.cls ≠ "java/lang/invoke/MethodHandle" ∧ z.cls ≠ "java/lang/invoke/VarHandle") (hps : parseMethodDescriptor z.desc = some ⟨ps, rr⟩) (hM : Py l Z z fr lo cc ss (.ref a :: argsL).toArray h ws' Qz) (hlen : argsL.length = ps.length) (hf : fr ≤ R.frames) (hW : (st.map fun v => v.category).sum ≤ W) (hlo : W + lo ≤ R.locals) (hls : Ls.size = ml) (hc : ce + cc ≤ R.cells) (hsl : sl + ss ≤ R.slots) (hws : ∀ x ∈ ws', x ∈ S) (k : ∀ v h', Keep h h' ws' → Qz v h' → ∃ bs, (∀ b ∈ bs, h.size ≤ b ∧ b < h'.size) ∧ Go l R Z ws h0 Q κ (bs ++ S) h' (pc + 3) Ls (v.toList ++ st) (ce + cc) (sl + ss)) : Go l R Z ws h0 Q κ S h pc Ls (argsL.reverse ++ .ref a :: st) ce sl := by
  obtain ⟨p, e, s, m, args, below, meth, c⟩ := κ
  intro T locs X N eT I
  obtain ⟨hx, hby, hml, hown, hnm, hret, hlk, hZ⟩ := C
  have hO := fun x hx => (⟨(I.2.2 x (hws x hx)).1, (I.2.2 x (hws x hx)).2.1⟩ : x < h.size ∧ Z.heap.size ≤ x)
  have hB := hM I.1 hO p e R below s args 3 W hZ hf hlo
  obtain ⟨v, _, ⟨T', L', k', n'⟩, -, X', ⟨Lc, hQ, l', y', z'⟩, st'⟩ := X.specialBack hx hin hown (mvT hZ w1) (mvT hZ w2) (mvT hZ wc) hy hB (g := mkF m pc Ls (argsL.reverse ++ Value.ref a :: st)) rfl (hls.trans hml.symm) (Steps.refl _) (a := a) (argsL := argsL) (rest := st) (lenOf hps hlen) rfl (by show 2 * 0 + _ ≤ _; rw [Nat.mul_zero, Nat.zero_add]; exact hW) (hb hby hd) (fun _ _ => ⟨rfl, eT, hc, hsl⟩)
  dsimp only [Pt.U, Pt.locs, Pt.cells, Pt.slots] at X' l' y' z' st' hQ
  subst l' y' z'
  obtain ⟨K, hQ, N'⟩ := hQ
  have NN := Fr.app N N'
  obtain ⟨bs, hbs, kk⟩ := k v T'.heap K hQ
  obtain ⟨s₂, o, hs, r⟩ := kk T' _ X' NN rfl (I.add (I.keep K hws) hbs)
  exact ⟨s₂, o, st'.trans hs, r⟩
end StepsN
def IW (Z : State) (EL : List (String × Nat)) (own : String) (s : State) (m : MethodId) (h0 : Heap) (S : List Addr) (h : Heap) (vm0 : Vm) (k0 : Nat) : Prop :=
  s.Since vm0 k0 ∧ k0 ≤ h.size ∧ Z.Warmed39 vm0 ∧ vm0.findClass own = some m.cls ∧ CHr Z EL s.vm h0 vm0 h ∧ ∀ x ∈ S, Safe Z EL vm0 h x
section IWLaws
variable {Z s : State} {EL : List (String × Nat)} {own : String} {m : MethodId} {ws' S bs : List Addr} {h0 h h' : Heap} {a : Addr} {i : Nat} {v : Value} {vm0 : Vm} {k0 : Nat}
theorem IW.ext (J : IW Z EL own s m h0 S h vm0 k0) (E : Ext h h') : IW Z EL own s m h0 S h' vm0 k0 :=
  ⟨J.1, Nat.le_trans J.2.1 E.1, J.2.2.1, J.2.2.2.1, J.2.2.2.2.1.trans (CHr.ext E J.2.2.2.2.1.1), fun x hx => Safe.ext E J.2.2.2.2.1.1 (J.2.2.2.2.2 x hx)⟩
theorem IW.new (J : IW Z EL own s m h0 S h vm0 k0) (E : Ext h h') : IW Z EL own s m h0 (h.size :: S) h' vm0 k0 :=
  ⟨J.1, Nat.le_trans J.2.1 E.1, J.2.2.1, J.2.2.2.1, J.2.2.2.2.1.trans (CHr.ext E J.2.2.2.2.1.1), fun x hx => by
    rcases List.mem_cons.mp hx with rfl | hx
    · exact Safe.ext E J.2.2.2.2.1.1 (Safe.new (Nat.le_refl _))
    · exact Safe.ext E J.2.2.2.2.1.1 (J.2.2.2.2.2 x hx)⟩
theorem IW.wr (J : IW Z EL own s m h0 S h vm0 k0) (W : Wr h h' a i v) (ha : a ∈ S) : IW Z EL own s m h0 S h' vm0 k0 :=
  ⟨J.1, Nat.le_trans J.2.1 (Nat.le_of_eq W.size.symm), J.2.2.1, J.2.2.2.1, J.2.2.2.2.1.trans (CHr.wr W (J.2.2.2.2.2 a ha) J.2.2.2.2.1.1), fun x hx => Safe.wr W (J.2.2.2.2.2 a ha) J.2.2.2.2.1.1 (J.2.2.2.2.2 x hx)⟩
theorem IW.keep (J : IW Z EL own s m h0 S h vm0 k0) (K : Keep h h' ws') (hs : ∀ x ∈ ws', x ∈ S) : IW Z EL own s m h0 S h' vm0 k0 :=
  ⟨J.1, Nat.le_trans J.2.1 K.1, J.2.2.1, J.2.2.2.1, J.2.2.2.2.1.trans (CHr.keep K (fun x hx => J.2.2.2.2.2 x (hs x hx)) J.2.2.2.2.1.1), fun x hx => Safe.keep K (fun x hx => J.2.2.2.2.2 x (hs x hx)) J.2.2.2.2.1.1 (J.2.2.2.2.2 x hx)⟩
theorem IW.add (J : IW Z EL own s m h0 S h vm0 k0) (K : Keep h h' ws') (hs : ∀ x ∈ ws', x ∈ S) (hb : ∀ b ∈ bs, h.size ≤ b ∧ b < h'.size) : IW Z EL own s m h0 (bs ++ S) h' vm0 k0 :=
  have J' := J.keep K hs
  ⟨J'.1, J'.2.1, J'.2.2.1, J'.2.2.2.1, J'.2.2.2.2.1, fun x hx => (List.mem_append.mp hx).elim (fun q => Safe.keep K (fun x hx => J.2.2.2.2.2 x (hs x hx)) J.2.2.2.2.1.1 (Safe.new (hb x q).1)) (fun q => J'.2.2.2.2.2 x q)⟩
end IWLaws
def GoW (l : Launch) (R : Room) (Z : State) (EL : List (String × Nat)) (own : String) (ws : List Addr) (h0 : Heap) (Q : Option Value → Heap → Prop) (κ : Kx) (S : List Addr) (h : Heap) (pc : Nat) (Ls : Array Slot) (st : List Value) (ce sl : Nat) : Prop := match κ with
  | (p, e, s, m, args, below, meth, c) => ∀ vm0 k0 T locs, Stand p l e R (s.setVm vm0) m args below meth c T locs ce sl → Fr Z.heap.size locs → T.heap = h → Inv Z ws h0 S h → IW Z EL own s m h0 S h vm0 k0 →
    ∃ s₂ o, Steps p.tables e below (T.setTop (mkF m pc Ls st)) s₂ ∧ s₂.status = .running ∧ Ended s₂ below o ∧ ∃ v L, o = .returned v ∧ (Keep h0 s₂.heap ws ∧ Q v s₂.heap ∧ Fr Z.heap.size L) ∧ CHr Z EL s.vm h0 s₂.vm s₂.heap ∧ ReturnedEndW s o s₂ L R.cells R.slots
/-- the contract of a body that may intern -/
def CtW (l : Launch) (Z : State) (EL : List (String × Nat)) (y : MethodName) (by0 : ByteArray) (ml : Nat) (rt : Option FieldType) (rm : Room) (as : Array Value) (h0 : Heap) (ws : List Addr) (Q : Option Value → Heap → Prop) : Prop :=
  Ext Z.heap h0 → (∀ x ∈ ws, x < h0.size ∧ Z.heap.size ≤ x) → ∀ tw : List Jvm.Cond, MetFree l y (head1 (Jvm.Cond.code y by0 ml rt :: tw) rm) (fun a U => a = as ∧ Z.Warmed39 U.vm ∧ U.heap = h0 ∧ CHv Z EL U.vm h0 ∧ ∀ x ∈ ws, Safe Z EL U.vm h0 x) (fun _ _ _ _ _ => True)
    (fun _ U o U' => ∃ v L, o = .returned v ∧ (Keep h0 U'.heap ws ∧ Q v U'.heap ∧ Fr Z.heap.size L) ∧ CHr Z EL U.vm h0 U'.vm U'.heap ∧ ReturnedEndW U o U' L rm.cells rm.slots)
theorem CtW.mk {l : Launch} {Z : State} {EL : List (String × Nat)} {a0 : Array Value} {y : MethodName} {by0 : ByteArray} {ml : Nat} {rt : Option FieldType} {rm : Room} {as : Array Value} {h0 : Heap} {ws : List Addr} {Q : Option Value → Heap → Prop} {Ls : Array Slot} (hpl : plainFor y = true) (hef : ∀ m, entryFrame m as ml = mkF m 0 Ls [])
    (k : ∀ κ, Cx Z a0 y by0 ml rt κ → GoW l rm Z EL y.cls ws h0 Q κ ws h0 0 Ls [] 0 0) : CtW l Z EL y by0 ml rt rm as h0 ws Q := by
  intro hO hws tw
  refine MetFree.of_bodySF hpl hisR ?_
  intro p e s m args below meth c s₁ Bd hml0 hP hK
  obtain ⟨rfl, hZ, hh, hCH, hSf⟩ := hP
  have X0 : Stand p l e rm s m args below meth c s₁ [] 0 0 := Stand.of_body Bd
  have e0 : s₁.heap = h0 := by rw [← hh, Bd.state]; rfl
  have hown := findClass_of_methodNamed Bd.named
  obtain ⟨s₂, o, hs, r⟩ := k (p, e, s, m, args, below, meth, c) ⟨Bd.exec, Bd.bytes, hml0, hown, (name_of_methodNamed Bd.named Bd.method).1, Bd.returns, BodyLoose.notSynchronized Bd, hZ⟩ s.vm 0 s₁ [] X0 (Fr.nil _) e0
    ⟨hO, Keep.refl _ _, fun x hx => ⟨(hws x hx).1, (hws x hx).2, Or.inl hx⟩⟩ ⟨(State.WarmedH.refl s).since 0, Nat.zero_le _, hZ, hown, CHr.refl hCH, hSf⟩
  exact ⟨s₂, o, castTop (hef m) hs, r⟩
/-- what a call of a body costs that may intern -/
def PyW (l : Launch) (Z : State) (EL : List (String × Nat)) (a0 : Array Value) (z : MethodName) (fr lo cc ss : Nat) (as : Array Value) (h : Heap) (ws : List Addr) (Q : Option Value → Heap → Prop) : Prop :=
  Ext Z.heap h → (∀ x ∈ ws, x < h.size ∧ Z.heap.size ≤ x) → EW Z a0 EL → ∀ (p : Program) (e : Env) (R : Room) (below : List Frame) (s : State) (vm0 : Vm) (args : Array Value) (len W : Nat), Z.Warmed39 vm0 → fr ≤ R.frames → W + lo ≤ R.locals → CHv Z EL vm0 h → (∀ x ∈ ws, Safe Z EL vm0 h x) →
    BackS l R p e below (s.setVm vm0) args z len W (fun A a => a = as ∧ A.U.heap = h ∧ A.cells + cc ≤ R.cells ∧ A.slots + ss ≤ R.slots)
      (fun A _ v B => ∃ L, (Keep h B.U.heap ws ∧ Q v B.U.heap ∧ Fr Z.heap.size L) ∧ B.locs = A.locs ++ L ∧ B.cells = A.cells + cc ∧ B.slots = A.slots + ss ∧ CHr Z EL vm0 h B.U.vm B.U.heap)
theorem CtW.py {l : Launch} {Z : State} {a0 : Array Value} {EL : List (String × Nat)} {h : Heap} {ws : List Addr} {y : MethodName} {by0 : ByteArray} {ml : Nat} {rt : Option FieldType} {rm : Room} {as : Array Value} {Q : Option Value → Heap → Prop}
    (hM : CtW l Z EL y by0 ml rt rm as h ws Q) (wc : (Cond.code y by0 ml rt).before a0 Z = true) (wz : (Cond.initialized y.cls).before a0 Z = true) : PyW l Z EL a0 y (rm.frames + 1) (ml + 11 + rm.locals) rm.cells rm.slots as h ws Q :=
  fun hO hws hEL p e R below s vm0 args len W hZ hf hl H hSf =>
  BackS.of_freeW (bytes := by0) (maxL := ml) (ret := rt) (E := fun _ first o t L k n => k = rm.cells ∧ n = rm.slots ∧ (∃ v, o = .returned v ∧ (Keep h t.heap ws ∧ Q v t.heap ∧ Fr Z.heap.size L)) ∧ CHr Z EL first.vm h t.vm t.heap) (hM hO hws []) hf (by rw [Nat.add_assoc]; exact hl)
    (fun m meth c A a Y hp => by
      have hU : Z.Warmed39 A.U.vm := wtrans (s := s.setVm vm0) hZ Y.warmed
      refine ⟨?_, mv hU wc, mv hU wz, hp.2.2.1, hp.2.2.2⟩
      show (Cond.and _ .tt).before a A.U = true
      rw [Cond.before_and, mv hU wc]; rfl)
    (fun m meth c A a g mk Y hp => by
      have q := CHv.at Y hZ hEL H
      exact ⟨hp.1, wtrans (s := s.setVm vm0) hZ Y.warmed, hp.2.1, q.1, fun x hx => q.safe (hws x hx).1 (hSf x hx)⟩)
    (fun _ _ _ _ _ _ _ _ _ => trivial)
    (fun _ _ _ _ q => by obtain ⟨v, L, h1, h2, h3, h4⟩ := q; exact ⟨L, _, _, h4, rfl, rfl, ⟨v, h1, h2⟩, h3⟩)
    (fun m meth c A a g mk v t L k n Y hp _ _ q => by
      obtain ⟨e1, e2, ⟨v', e3, e4⟩, e5⟩ := q
      cases e3; subst e1 e2
      exact ⟨L, e4, rfl, rfl, rfl, (CHv.at Y hZ hEL H).trans e5⟩)
section StepsW
variable {Z : State} {a0 : Array Value} {y : MethodName} {by0 : ByteArray} {ml : Nat} {rt : Option FieldType} {l : Launch} {R : Room} {ws : List Addr} {h0 : Heap} {Q : Option Value → Heap → Prop} {κ : Kx} {S : List Addr} {h : Heap} {pc : Nat} {Ls : Array Slot} {st : List Value} {ce sl : Nat} {EL : List (String × Nat)}
theorem gw_iloadN (C : Cx Z a0 y by0 ml rt κ) (pc' : Nat) {j : Fin 4} {v : Int32} (hd : decode by0 pc = .ok (.iload_n j, 1)) (hpc : pc + 1 = pc') (hl : Ls[j.val]? = some (.val (.int v))) (k : GoW l R Z EL y.cls ws h0 Q κ S h pc' Ls (.int v :: st) ce sl) : GoW l R Z EL y.cls ws h0 Q κ S h pc Ls st ce sl := by
  subst hpc
  obtain ⟨p, e, s, m, args, below, meth, c⟩ := κ
  intro vm0 k0 T locs X N eT I J
  obtain ⟨hx, hby, hml, -, hnm, hret, hlk, -⟩ := C
  have hZ : Z.Warmed39 (s.setVm vm0).vm := J.2.2.1
  have hown : (s.setVm vm0).vm.findClass y.cls = some m.cls := J.2.2.2.1
  obtain ⟨s₂, o, hs, r⟩ := k vm0 k0 T _ X N eT I J
  exact ⟨s₂, o, XS.iloadN X.here hx rfl (hb hby hd) hl hs, r⟩
theorem gw_iload (C : Cx Z a0 y by0 ml rt κ) (pc' : Nat) {j : Nat} {v : Int32} (hd : decode by0 pc = .ok (.iload j, 2)) (hpc : pc + 2 = pc') (hl : Ls[j]? = some (.val (.int v))) (k : GoW l R Z EL y.cls ws h0 Q κ S h pc' Ls (.int v :: st) ce sl) : GoW l R Z EL y.cls ws h0 Q κ S h pc Ls st ce sl := by
  subst hpc
  obtain ⟨p, e, s, m, args, below, meth, c⟩ := κ
  intro vm0 k0 T locs X N eT I J
  obtain ⟨hx, hby, hml, -, hnm, hret, hlk, -⟩ := C
  have hZ : Z.Warmed39 (s.setVm vm0).vm := J.2.2.1
  have hown : (s.setVm vm0).vm.findClass y.cls = some m.cls := J.2.2.2.1
  obtain ⟨s₂, o, hs, r⟩ := k vm0 k0 T _ X N eT I J
  exact ⟨s₂, o, XS.iload X.here hx rfl (hb hby hd) hl hs, r⟩
theorem gw_aloadN (C : Cx Z a0 y by0 ml rt κ) (pc' : Nat) {j : Fin 4} {v : Value} (hd : decode by0 pc = .ok (.aload_n j, 1)) (hpc : pc + 1 = pc') (hl : Ls[j.val]? = some (.val v)) (hv : v.isRef = true) (k : GoW l R Z EL y.cls ws h0 Q κ S h pc' Ls (v :: st) ce sl) : GoW l R Z EL y.cls ws h0 Q κ S h pc Ls st ce sl := by
  subst hpc
  obtain ⟨p, e, s, m, args, below, meth, c⟩ := κ
  intro vm0 k0 T locs X N eT I J
  obtain ⟨hx, hby, hml, -, hnm, hret, hlk, -⟩ := C
  have hZ : Z.Warmed39 (s.setVm vm0).vm := J.2.2.1
  have hown : (s.setVm vm0).vm.findClass y.cls = some m.cls := J.2.2.2.1
  obtain ⟨s₂, o, hs, r⟩ := k vm0 k0 T _ X N eT I J
  exact ⟨s₂, o, XS.aloadN X.here hx rfl (hb hby hd) hl hv hs, r⟩
theorem gw_aload (C : Cx Z a0 y by0 ml rt κ) (pc' : Nat) {j : Nat} {v : Value} (hd : decode by0 pc = .ok (.aload j, 2)) (hpc : pc + 2 = pc') (hl : Ls[j]? = some (.val v)) (hv : v.isRef = true) (k : GoW l R Z EL y.cls ws h0 Q κ S h pc' Ls (v :: st) ce sl) : GoW l R Z EL y.cls ws h0 Q κ S h pc Ls st ce sl := by
  subst hpc
  obtain ⟨p, e, s, m, args, below, meth, c⟩ := κ
  intro vm0 k0 T locs X N eT I J
  obtain ⟨hx, hby, hml, -, hnm, hret, hlk, -⟩ := C
  have hZ : Z.Warmed39 (s.setVm vm0).vm := J.2.2.1
  have hown : (s.setVm vm0).vm.findClass y.cls = some m.cls := J.2.2.2.1
  obtain ⟨s₂, o, hs, r⟩ := k vm0 k0 T _ X N eT I J
  exact ⟨s₂, o, XS.aload X.here hx rfl (hb hby hd) hl hv hs, r⟩
theorem gw_iconst (C : Cx Z a0 y by0 ml rt κ) (pc' : Nat) {i : Int} (v : Int32) (hd : decode by0 pc = .ok (.iconst i, 1)) (hpc : pc + 1 = pc') (hv : Int32.ofInt i = v) (k : GoW l R Z EL y.cls ws h0 Q κ S h pc' Ls (.int v :: st) ce sl) : GoW l R Z EL y.cls ws h0 Q κ S h pc Ls st ce sl := by
  subst hpc
  obtain ⟨p, e, s, m, args, below, meth, c⟩ := κ
  intro vm0 k0 T locs X N eT I J
  obtain ⟨hx, hby, hml, -, hnm, hret, hlk, -⟩ := C
  have hZ : Z.Warmed39 (s.setVm vm0).vm := J.2.2.1
  have hown : (s.setVm vm0).vm.findClass y.cls = some m.cls := J.2.2.2.1
  obtain ⟨s₂, o, hs, r⟩ := k vm0 k0 T _ X N eT I J
  exact ⟨s₂, o, XT.iconstV X.here hx rfl v (hb hby hd) hv hs, r⟩
theorem gw_bipush (C : Cx Z a0 y by0 ml rt κ) (pc' : Nat) {i : Int} (v : Int32) (hd : decode by0 pc = .ok (.bipush i, 2)) (hpc : pc + 2 = pc') (hv : (Int8.ofInt i).toInt32 = v) (k : GoW l R Z EL y.cls ws h0 Q κ S h pc' Ls (.int v :: st) ce sl) : GoW l R Z EL y.cls ws h0 Q κ S h pc Ls st ce sl := by
  subst hpc
  obtain ⟨p, e, s, m, args, below, meth, c⟩ := κ
  intro vm0 k0 T locs X N eT I J
  obtain ⟨hx, hby, hml, -, hnm, hret, hlk, -⟩ := C
  have hZ : Z.Warmed39 (s.setVm vm0).vm := J.2.2.1
  have hown : (s.setVm vm0).vm.findClass y.cls = some m.cls := J.2.2.2.1
  obtain ⟨s₂, o, hs, r⟩ := k vm0 k0 T _ X N eT I J
  exact ⟨s₂, o, XT.bipushV X.here hx rfl v (hb hby hd) hv hs, r⟩
theorem gw_sipush (C : Cx Z a0 y by0 ml rt κ) (pc' : Nat) {i : Int} (v : Int32) (hd : decode by0 pc = .ok (.sipush i, 3)) (hpc : pc + 3 = pc') (hv : (Int16.ofInt i).toInt32 = v) (k : GoW l R Z EL y.cls ws h0 Q κ S h pc' Ls (.int v :: st) ce sl) : GoW l R Z EL y.cls ws h0 Q κ S h pc Ls st ce sl := by
  subst hpc
  obtain ⟨p, e, s, m, args, below, meth, c⟩ := κ
  intro vm0 k0 T locs X N eT I J
  obtain ⟨hx, hby, hml, -, hnm, hret, hlk, -⟩ := C
  have hZ : Z.Warmed39 (s.setVm vm0).vm := J.2.2.1
  have hown : (s.setVm vm0).vm.findClass y.cls = some m.cls := J.2.2.2.1
  obtain ⟨s₂, o, hs, r⟩ := k vm0 k0 T _ X N eT I J
  exact ⟨s₂, o, XT.sipushV X.here hx rfl v (hb hby hd) hv hs, r⟩
theorem gw_aconstNull (C : Cx Z a0 y by0 ml rt κ) (pc' : Nat)  (hd : decode by0 pc = .ok (.aconst_null, 1)) (hpc : pc + 1 = pc')  (k : GoW l R Z EL y.cls ws h0 Q κ S h pc' Ls (.null :: st) ce sl) : GoW l R Z EL y.cls ws h0 Q κ S h pc Ls st ce sl := by
  subst hpc
  obtain ⟨p, e, s, m, args, below, meth, c⟩ := κ
  intro vm0 k0 T locs X N eT I J
  obtain ⟨hx, hby, hml, -, hnm, hret, hlk, -⟩ := C
  have hZ : Z.Warmed39 (s.setVm vm0).vm := J.2.2.1
  have hown : (s.setVm vm0).vm.findClass y.cls = some m.cls := J.2.2.2.1
  obtain ⟨s₂, o, hs, r⟩ := k vm0 k0 T _ X N eT I J
  exact ⟨s₂, o, XS.aconstNull X.here hx rfl (hb hby hd) hs, r⟩
theorem gw_iand (C : Cx Z a0 y by0 ml rt κ) (pc' : Nat) {x z : Int32} (v : Int32) (hd : decode by0 pc = .ok (.iand, 1)) (hpc : pc + 1 = pc') (hv : x &&& z = v) (k : GoW l R Z EL y.cls ws h0 Q κ S h pc' Ls (.int v :: st) ce sl) : GoW l R Z EL y.cls ws h0 Q κ S h pc Ls (.int z :: .int x :: st) ce sl := by
  subst hpc
  subst hv
  obtain ⟨p, e, s, m, args, below, meth, c⟩ := κ
  intro vm0 k0 T locs X N eT I J
  obtain ⟨hx, hby, hml, -, hnm, hret, hlk, -⟩ := C
  have hZ : Z.Warmed39 (s.setVm vm0).vm := J.2.2.1
  have hown : (s.setVm vm0).vm.findClass y.cls = some m.cls := J.2.2.2.1
  obtain ⟨s₂, o, hs, r⟩ := k vm0 k0 T _ X N eT I J
  exact ⟨s₂, o, XS.iand X.here hx rfl (hb hby hd) rfl hs, r⟩
theorem gw_iushr (C : Cx Z a0 y by0 ml rt κ) (pc' : Nat) {x z : Int32} (v : Int32) (hd : decode by0 pc = .ok (.iushr, 1)) (hpc : pc + 1 = pc') (hv : XT.ushr x z = v) (k : GoW l R Z EL y.cls ws h0 Q κ S h pc' Ls (.int v :: st) ce sl) : GoW l R Z EL y.cls ws h0 Q κ S h pc Ls (.int z :: .int x :: st) ce sl := by
  subst hpc
  subst hv
  obtain ⟨p, e, s, m, args, below, meth, c⟩ := κ
  intro vm0 k0 T locs X N eT I J
  obtain ⟨hx, hby, hml, -, hnm, hret, hlk, -⟩ := C
  have hZ : Z.Warmed39 (s.setVm vm0).vm := J.2.2.1
  have hown : (s.setVm vm0).vm.findClass y.cls = some m.cls := J.2.2.2.1
  obtain ⟨s₂, o, hs, r⟩ := k vm0 k0 T _ X N eT I J
  exact ⟨s₂, o, XT.iushr X.here hx rfl (hb hby hd) rfl hs, r⟩
theorem gw_irem (C : Cx Z a0 y by0 ml rt κ) (pc' : Nat) {x z : Int32} (v : Int32) (hd : decode by0 pc = .ok (.irem, 1)) (hpc : pc + 1 = pc') (hz : z ≠ 0) (hv : x % z = v) (k : GoW l R Z EL y.cls ws h0 Q κ S h pc' Ls (.int v :: st) ce sl) : GoW l R Z EL y.cls ws h0 Q κ S h pc Ls (.int z :: .int x :: st) ce sl := by
  subst hpc
  subst hv
  obtain ⟨p, e, s, m, args, below, meth, c⟩ := κ
  intro vm0 k0 T locs X N eT I J
  obtain ⟨hx, hby, hml, -, hnm, hret, hlk, -⟩ := C
  have hZ : Z.Warmed39 (s.setVm vm0).vm := J.2.2.1
  have hown : (s.setVm vm0).vm.findClass y.cls = some m.cls := J.2.2.2.1
  obtain ⟨s₂, o, hs, r⟩ := k vm0 k0 T _ X N eT I J
  exact ⟨s₂, o, iremM X hx rfl (hb hby hd) rfl hz hs, r⟩
theorem gw_i2c (C : Cx Z a0 y by0 ml rt κ) (pc' : Nat) {x : Int32} (v : Int32) (hd : decode by0 pc = .ok (.i2c, 1)) (hpc : pc + 1 = pc') (hv : x.toUInt32.toUInt16.toUInt32.toInt32 = v) (k : GoW l R Z EL y.cls ws h0 Q κ S h pc' Ls (.int v :: st) ce sl) : GoW l R Z EL y.cls ws h0 Q κ S h pc Ls (.int x :: st) ce sl := by
  subst hpc
  subst hv
  obtain ⟨p, e, s, m, args, below, meth, c⟩ := κ
  intro vm0 k0 T locs X N eT I J
  obtain ⟨hx, hby, hml, -, hnm, hret, hlk, -⟩ := C
  have hZ : Z.Warmed39 (s.setVm vm0).vm := J.2.2.1
  have hown : (s.setVm vm0).vm.findClass y.cls = some m.cls := J.2.2.2.1
  obtain ⟨s₂, o, hs, r⟩ := k vm0 k0 T _ X N eT I J
  exact ⟨s₂, o, XT.i2c X.here hx rfl (hb hby hd) rfl hs, r⟩
theorem gw_dup (C : Cx Z a0 y by0 ml rt κ) (pc' : Nat) {x : Value} (hd : decode by0 pc = .ok (.dup, 1)) (hpc : pc + 1 = pc') (hc : x.category = 1) (k : GoW l R Z EL y.cls ws h0 Q κ S h pc' Ls (x :: x :: st) ce sl) : GoW l R Z EL y.cls ws h0 Q κ S h pc Ls (x :: st) ce sl := by
  subst hpc
  obtain ⟨p, e, s, m, args, below, meth, c⟩ := κ
  intro vm0 k0 T locs X N eT I J
  obtain ⟨hx, hby, hml, -, hnm, hret, hlk, -⟩ := C
  have hZ : Z.Warmed39 (s.setVm vm0).vm := J.2.2.1
  have hown : (s.setVm vm0).vm.findClass y.cls = some m.cls := J.2.2.2.1
  obtain ⟨s₂, o, hs, r⟩ := k vm0 k0 T _ X N eT I J
  exact ⟨s₂, o, XS.dup X.here hx rfl (hb hby hd) rfl hc hs, r⟩
theorem gw_istore (C : Cx Z a0 y by0 ml rt κ) (pc' : Nat) {j : Nat} {x : Int32} {Ls' : Array Slot} (hd : decode by0 pc = .ok (.istore j, 2)) (hpc : pc + 2 = pc') (hl : storeLocals Ls j (.int x) = some Ls') (k : GoW l R Z EL y.cls ws h0 Q κ S h pc' Ls' st ce sl) : GoW l R Z EL y.cls ws h0 Q κ S h pc Ls (.int x :: st) ce sl := by
  subst hpc
  obtain ⟨p, e, s, m, args, below, meth, c⟩ := κ
  intro vm0 k0 T locs X N eT I J
  obtain ⟨hx, hby, hml, -, hnm, hret, hlk, -⟩ := C
  have hZ : Z.Warmed39 (s.setVm vm0).vm := J.2.2.1
  have hown : (s.setVm vm0).vm.findClass y.cls = some m.cls := J.2.2.2.1
  obtain ⟨s₂, o, hs, r⟩ := k vm0 k0 T _ X N eT I J
  exact ⟨s₂, o, XS.istore X.here hx rfl (hb hby hd) rfl hl hs, r⟩
theorem gw_astoreN (C : Cx Z a0 y by0 ml rt κ) (pc' : Nat) {j : Fin 4} {x : Value} {Ls' : Array Slot} (hd : decode by0 pc = .ok (.astore_n j, 1)) (hpc : pc + 1 = pc') (hv : x.isRef = true) (hl : storeLocals Ls j.val x = some Ls') (k : GoW l R Z EL y.cls ws h0 Q κ S h pc' Ls' st ce sl) : GoW l R Z EL y.cls ws h0 Q κ S h pc Ls (x :: st) ce sl := by
  subst hpc
  obtain ⟨p, e, s, m, args, below, meth, c⟩ := κ
  intro vm0 k0 T locs X N eT I J
  obtain ⟨hx, hby, hml, -, hnm, hret, hlk, -⟩ := C
  have hZ : Z.Warmed39 (s.setVm vm0).vm := J.2.2.1
  have hown : (s.setVm vm0).vm.findClass y.cls = some m.cls := J.2.2.2.1
  obtain ⟨s₂, o, hs, r⟩ := k vm0 k0 T _ X N eT I J
  exact ⟨s₂, o, XS.astoreN X.here hx rfl (hb hby hd) rfl hv hl hs, r⟩
theorem gw_astore (C : Cx Z a0 y by0 ml rt κ) (pc' : Nat) {j : Nat} {x : Value} {Ls' : Array Slot} (hd : decode by0 pc = .ok (.astore j, 2)) (hpc : pc + 2 = pc') (hv : x.isRef = true) (hl : storeLocals Ls j x = some Ls') (k : GoW l R Z EL y.cls ws h0 Q κ S h pc' Ls' st ce sl) : GoW l R Z EL y.cls ws h0 Q κ S h pc Ls (x :: st) ce sl := by
  subst hpc
  obtain ⟨p, e, s, m, args, below, meth, c⟩ := κ
  intro vm0 k0 T locs X N eT I J
  obtain ⟨hx, hby, hml, -, hnm, hret, hlk, -⟩ := C
  have hZ : Z.Warmed39 (s.setVm vm0).vm := J.2.2.1
  have hown : (s.setVm vm0).vm.findClass y.cls = some m.cls := J.2.2.2.1
  obtain ⟨s₂, o, hs, r⟩ := k vm0 k0 T _ X N eT I J
  exact ⟨s₂, o, XS.astore X.here hx rfl (hb hby hd) rfl hv hl hs, r⟩
theorem gw_ifN (C : Cx Z a0 y by0 ml rt κ) (pc' : Nat) {o : Int} {cd : ClassFile.Cond} {x : Int32} (hd : decode by0 pc = .ok (.ifCond cd o, 3)) (hpc : pc + 3 = pc') (hc : if_icmp.holds cd x 0 = false) (k : GoW l R Z EL y.cls ws h0 Q κ S h pc' Ls st ce sl) : GoW l R Z EL y.cls ws h0 Q κ S h pc Ls (.int x :: st) ce sl := by
  subst hpc
  obtain ⟨p, e, s, m, args, below, meth, c⟩ := κ
  intro vm0 k0 T locs X N eT I J
  obtain ⟨hx, hby, hml, -, hnm, hret, hlk, -⟩ := C
  have hZ : Z.Warmed39 (s.setVm vm0).vm := J.2.2.1
  have hown : (s.setVm vm0).vm.findClass y.cls = some m.cls := J.2.2.2.1
  obtain ⟨s₂, o, hs, r⟩ := k vm0 k0 T _ X N eT I J
  exact ⟨s₂, o, XS.ifNo X.here hx rfl (hb hby hd) rfl ((if0 _ _).trans hc) hs, r⟩
theorem gw_icmpN (C : Cx Z a0 y by0 ml rt κ) (pc' : Nat) {o : Int} {cd : ClassFile.Cond} {x z : Int32} (hd : decode by0 pc = .ok (.if_icmp cd o, 3)) (hpc : pc + 3 = pc') (hc : if_icmp.holds cd x z = false) (k : GoW l R Z EL y.cls ws h0 Q κ S h pc' Ls st ce sl) : GoW l R Z EL y.cls ws h0 Q κ S h pc Ls (.int z :: .int x :: st) ce sl := by
  subst hpc
  obtain ⟨p, e, s, m, args, below, meth, c⟩ := κ
  intro vm0 k0 T locs X N eT I J
  obtain ⟨hx, hby, hml, -, hnm, hret, hlk, -⟩ := C
  have hZ : Z.Warmed39 (s.setVm vm0).vm := J.2.2.1
  have hown : (s.setVm vm0).vm.findClass y.cls = some m.cls := J.2.2.2.1
  obtain ⟨s₂, o, hs, r⟩ := k vm0 k0 T _ X N eT I J
  exact ⟨s₂, o, XS.icmpNo X.here hx rfl (hb hby hd) rfl hc hs, r⟩
theorem gw_ifnullN (C : Cx Z a0 y by0 ml rt κ) (pc' : Nat) {o : Int} {b : Addr} (hd : decode by0 pc = .ok (.ifnull o, 3)) (hpc : pc + 3 = pc')  (k : GoW l R Z EL y.cls ws h0 Q κ S h pc' Ls st ce sl) : GoW l R Z EL y.cls ws h0 Q κ S h pc Ls (.ref b :: st) ce sl := by
  subst hpc
  obtain ⟨p, e, s, m, args, below, meth, c⟩ := κ
  intro vm0 k0 T locs X N eT I J
  obtain ⟨hx, hby, hml, -, hnm, hret, hlk, -⟩ := C
  have hZ : Z.Warmed39 (s.setVm vm0).vm := J.2.2.1
  have hown : (s.setVm vm0).vm.findClass y.cls = some m.cls := J.2.2.2.1
  obtain ⟨s₂, o, hs, r⟩ := k vm0 k0 T _ X N eT I J
  exact ⟨s₂, o, XS.ifnullNo X.here hx rfl (hb hby hd) rfl hs, r⟩
theorem gw_ifnonnullN (C : Cx Z a0 y by0 ml rt κ) (pc' : Nat) {o : Int} (hd : decode by0 pc = .ok (.ifnonnull o, 3)) (hpc : pc + 3 = pc')  (k : GoW l R Z EL y.cls ws h0 Q κ S h pc' Ls st ce sl) : GoW l R Z EL y.cls ws h0 Q κ S h pc Ls (.null :: st) ce sl := by
  subst hpc
  obtain ⟨p, e, s, m, args, below, meth, c⟩ := κ
  intro vm0 k0 T locs X N eT I J
  obtain ⟨hx, hby, hml, -, hnm, hret, hlk, -⟩ := C
  have hZ : Z.Warmed39 (s.setVm vm0).vm := J.2.2.1
  have hown : (s.setVm vm0).vm.findClass y.cls = some m.cls := J.2.2.2.1
  obtain ⟨s₂, o, hs, r⟩ := k vm0 k0 T _ X N eT I J
  exact ⟨s₂, o, XT.ifnonnullNo X.here hx rfl (hb hby hd) rfl hs, r⟩
theorem gw_ldcInt (C : Cx Z a0 y by0 ml rt κ) (pc' : Nat) {ix : Nat} {v : Int32} (hd : decode by0 pc = .ok (.ldc ix, 2)) (hpc : pc + 2 = pc') (w : (Cond.constant y.cls ix v).before a0 Z = true) (k : GoW l R Z EL y.cls ws h0 Q κ S h pc' Ls (.int v :: st) ce sl) : GoW l R Z EL y.cls ws h0 Q κ S h pc Ls st ce sl := by
  subst hpc
  obtain ⟨p, e, s, m, args, below, meth, c⟩ := κ
  intro vm0 k0 T locs X N eT I J
  obtain ⟨hx, hby, hml, -, hnm, hret, hlk, -⟩ := C
  have hZ : Z.Warmed39 (s.setVm vm0).vm := J.2.2.1
  have hown : (s.setVm vm0).vm.findClass y.cls = some m.cls := J.2.2.2.1
  obtain ⟨s₂, o, hs, r⟩ := k vm0 k0 T _ X N eT I J
  exact ⟨s₂, o, X.ldcInt hx hown (mvT hZ w) (g := mkF m pc Ls st) rfl (hb hby hd) _ hs, r⟩
theorem gw_caload (C : Cx Z a0 y by0 ml rt κ) (pc' : Nat) {a : Addr} {kc : ClassId} {n j : Int32} {vs : List Value} {d v : Value} (hd : decode by0 pc = .ok (.caload, 1)) (hpc : pc + 1 = pc') (F : Arv Z h a kc .char n vs d) (hj : ¬ j < 0 ∧ j < n) (hv : vs.getD j.toNatClampNeg d = v) (k : GoW l R Z EL y.cls ws h0 Q κ S h pc' Ls (v :: st) ce sl) : GoW l R Z EL y.cls ws h0 Q κ S h pc Ls (.int j :: .ref a :: st) ce sl := by
  subst hpc
  obtain ⟨p, e, s, m, args, below, meth, c⟩ := κ
  intro vm0 k0 T locs X N eT I J
  obtain ⟨hx, hby, hml, -, hnm, hret, hlk, -⟩ := C
  have hZ : Z.Warmed39 (s.setVm vm0).vm := J.2.2.1
  have hown : (s.setVm vm0).vm.findClass y.cls = some m.cls := J.2.2.2.1
  obtain ⟨s₂, o, hs, r⟩ := k vm0 k0 T _ X N eT I J
  obtain ⟨_, A, q1, S1, q3, H, G⟩ := F
  exact ⟨s₂, o, X.caload hx (j := j) (by rw [eT]; exact A.1) (State.isArrayOf_alike hZ.alike A.2.1) A.2.2 (inb_of S1 hj) (H.at (inb_of S1 hj) hv) (g := mkF m pc Ls (.int j :: .ref a :: st)) rfl rfl (hb hby hd) _ hs, r⟩
theorem gw_arraylength (C : Cx Z a0 y by0 ml rt κ) (pc' : Nat) {a : Addr} {kc : ClassId} {ty : FieldType} {n : Int32} {vs : List Value} {d : Value} (hd : decode by0 pc = .ok (.arraylength, 1)) (hpc : pc + 1 = pc') (F : Arv Z h a kc ty n vs d) (k : GoW l R Z EL y.cls ws h0 Q κ S h pc' Ls (.int n :: st) ce sl) : GoW l R Z EL y.cls ws h0 Q κ S h pc Ls (.ref a :: st) ce sl := by
  subst hpc
  obtain ⟨p, e, s, m, args, below, meth, c⟩ := κ
  intro vm0 k0 T locs X N eT I J
  obtain ⟨hx, hby, hml, -, hnm, hret, hlk, -⟩ := C
  have hZ : Z.Warmed39 (s.setVm vm0).vm := J.2.2.1
  have hown : (s.setVm vm0).vm.findClass y.cls = some m.cls := J.2.2.2.1
  obtain ⟨s₂, o, hs, r⟩ := k vm0 k0 T _ X N eT I J
  obtain ⟨cl, A, q1, S1, q3, H, G⟩ := F
  rw [← len_of S1 q3] at hs
  exact ⟨s₂, o, X.arraylength hx (by rw [eT]; exact A.1) (State.isArrayOf_alike hZ.alike A.2.1) (g := mkF m pc Ls (.ref a :: st)) rfl rfl (hb hby hd) _ hs, r⟩
theorem gw_goto (C : Cx Z a0 y by0 ml rt κ) {o : Int} {pc' : Nat} (hd : decode by0 pc = .ok (.goto o, 3))  (ho : 0 ≤ (pc : Int) + o) (hp : ((pc : Int) + o).toNat = pc') (k : GoW l R Z EL y.cls ws h0 Q κ S h pc' Ls st ce sl) : GoW l R Z EL y.cls ws h0 Q κ S h pc Ls st ce sl := by
  obtain ⟨p, e, s, m, args, below, meth, c⟩ := κ
  intro vm0 k0 T locs X N eT I J
  obtain ⟨hx, hby, hml, -, hnm, hret, hlk, -⟩ := C
  have hZ : Z.Warmed39 (s.setVm vm0).vm := J.2.2.1
  have hown : (s.setVm vm0).vm.findClass y.cls = some m.cls := J.2.2.2.1
  obtain ⟨s₂, o, hs, r⟩ := k vm0 k0 T _ X N eT I J
  exact ⟨s₂, o, XS.goto X.here hx rfl (pc0 := pc) rfl (hb hby hd) ho hp hs, r⟩
theorem gw_ifY (C : Cx Z a0 y by0 ml rt κ) {o : Int} {cd : ClassFile.Cond} {x : Int32} {pc' : Nat} (hd : decode by0 pc = .ok (.ifCond cd o, 3)) (hc : if_icmp.holds cd x 0 = true) (ho : 0 ≤ (pc : Int) + o) (hp : ((pc : Int) + o).toNat = pc') (k : GoW l R Z EL y.cls ws h0 Q κ S h pc' Ls st ce sl) : GoW l R Z EL y.cls ws h0 Q κ S h pc Ls (.int x :: st) ce sl := by
  obtain ⟨p, e, s, m, args, below, meth, c⟩ := κ
  intro vm0 k0 T locs X N eT I J
  obtain ⟨hx, hby, hml, -, hnm, hret, hlk, -⟩ := C
  have hZ : Z.Warmed39 (s.setVm vm0).vm := J.2.2.1
  have hown : (s.setVm vm0).vm.findClass y.cls = some m.cls := J.2.2.2.1
  obtain ⟨s₂, o, hs, r⟩ := k vm0 k0 T _ X N eT I J
  exact ⟨s₂, o, XS.ifYes X.here hx rfl (pc0 := pc) rfl (hb hby hd) rfl ((if0 _ _).trans hc) ho hp hs, r⟩
theorem gw_icmpY (C : Cx Z a0 y by0 ml rt κ) {o : Int} {cd : ClassFile.Cond} {x z : Int32} {pc' : Nat} (hd : decode by0 pc = .ok (.if_icmp cd o, 3)) (hc : if_icmp.holds cd x z = true) (ho : 0 ≤ (pc : Int) + o) (hp : ((pc : Int) + o).toNat = pc') (k : GoW l R Z EL y.cls ws h0 Q κ S h pc' Ls st ce sl) : GoW l R Z EL y.cls ws h0 Q κ S h pc Ls (.int z :: .int x :: st) ce sl := by
  obtain ⟨p, e, s, m, args, below, meth, c⟩ := κ
  intro vm0 k0 T locs X N eT I J
  obtain ⟨hx, hby, hml, -, hnm, hret, hlk, -⟩ := C
  have hZ : Z.Warmed39 (s.setVm vm0).vm := J.2.2.1
  have hown : (s.setVm vm0).vm.findClass y.cls = some m.cls := J.2.2.2.1
  obtain ⟨s₂, o, hs, r⟩ := k vm0 k0 T _ X N eT I J
  exact ⟨s₂, o, XS.icmpYes X.here hx rfl (pc0 := pc) rfl (hb hby hd) rfl hc ho hp hs, r⟩
theorem gw_getF (C : Cx Z a0 y by0 ml rt κ) (pc' : Nat) {ix : Nat} {R0 O n d : String} {a : Addr} {v : Value} (hd : decode by0 pc = .ok (.getfield ix, 3)) (hpc : pc + 3 = pc') (w : (Cond.fieldLink y.cls ix R0 n d).before a0 Z = true) (via : Via Z R0 O n d) (F : Fld Z h a O n d v) (k : GoW l R Z EL y.cls ws h0 Q κ S h pc' Ls (v :: st) ce sl) : GoW l R Z EL y.cls ws h0 Q κ S h pc Ls (.ref a :: st) ce sl := by
  subst hpc
  obtain ⟨p, e, s, m, args, below, meth, c⟩ := κ
  intro vm0 k0 T locs X N eT I J
  obtain ⟨hx, hby, hml, -, hnm, hret, hlk, -⟩ := C
  have hZ : Z.Warmed39 (s.setVm vm0).vm := J.2.2.1
  have hown : (s.setVm vm0).vm.findClass y.cls = some m.cls := J.2.2.2.1
  obtain ⟨T', X', e', st'⟩ := getF X hx hZ hown (host := "") (Or.inl w) via eT F (g := mkF m pc Ls (.ref a :: st)) rfl rfl (hb hby hd)
  obtain ⟨s₂, o, hs, r⟩ := k vm0 k0 T' _ X' N e' I J
  exact ⟨s₂, o, st' _ hs, r⟩
theorem gw_getS (C : Cx Z a0 y by0 ml rt κ) (pc' : Nat) {ix : Nat} {O n d : String} {v : Value} (hd : decode by0 pc = .ok (.getstatic ix, 3)) (hpc : pc + 3 = pc') (w : (Cond.fieldLink y.cls ix O n d).before a0 Z = true) (F : Sta Z Z.heap O n d v) (k : GoW l R Z EL y.cls ws h0 Q κ S h pc' Ls (v :: st) ce sl) : GoW l R Z EL y.cls ws h0 Q κ S h pc Ls st ce sl := by
  subst hpc
  obtain ⟨p, e, s, m, args, below, meth, c⟩ := κ
  intro vm0 k0 T locs X N eT I J
  obtain ⟨hx, hby, hml, -, hnm, hret, hlk, -⟩ := C
  have hZ : Z.Warmed39 (s.setVm vm0).vm := J.2.2.1
  have hown : (s.setVm vm0).vm.findClass y.cls = some m.cls := J.2.2.2.1
  obtain ⟨T', X', e', st'⟩ := getS2 X hx hZ hown (host := "") (Or.inl w) Via.refl eT (F.ext I.1) (g := mkF m pc Ls st) rfl (hb hby hd)
  obtain ⟨s₂, o, hs, r⟩ := k vm0 k0 T' _ X' N e' I J
  exact ⟨s₂, o, st' _ hs, r⟩
theorem gw_initO (C : Cx Z a0 y by0 ml rt κ) (pc' : Nat) {ix : Nat} {a : Addr} {W : Nat} (hd : decode by0 pc = .ok (.invokespecial ix, 3)) (hpc : pc + 3 = pc') (w1 : (Cond.methodLink y.cls ix Lib.objectInit).before a0 Z = true) (w2 : (Cond.instanceMethod Lib.objectInit).before a0 Z = true) (w3 : (Cond.code Lib.objectInit ⟨#[0xb1]⟩ 1 none).before a0 Z = true) (hls : Ls.size = ml) (hf : 1 ≤ R.frames) (hW : (st.map fun v => v.category).sum ≤ W) (hlo : W + 12 ≤ R.locals) (k : GoW l R Z EL y.cls ws h0 Q κ S h pc' Ls st ce sl) : GoW l R Z EL y.cls ws h0 Q κ S h pc Ls (.ref a :: st) ce sl := by
  subst hpc
  obtain ⟨p, e, s, m, args, below, meth, c⟩ := κ
  intro vm0 k0 T locs X N eT I J
  obtain ⟨hx, hby, hml, -, hnm, hret, hlk, -⟩ := C
  have hZ : Z.Warmed39 (s.setVm vm0).vm := J.2.2.1
  have hown : (s.setVm vm0).vm.findClass y.cls = some m.cls := J.2.2.2.1
  obtain ⟨T', X', e', st'⟩ := initO X hx hZ hown w1 w2 w3 eT (g := mkF m pc Ls (.ref a :: st)) rfl (hls.trans hml.symm) rfl (hb hby hd) hf (W := W) (by show 2 * 0 + _ ≤ _; rw [Nat.mul_zero, Nat.zero_add]; exact hW) hlo
  obtain ⟨s₂, o, hs, r⟩ := k vm0 k0 T' _ X' N e' I J
  exact ⟨s₂, o, st' _ hs, r⟩
theorem gw_putF (C : Cx Z a0 y by0 ml rt κ) (pc' : Nat) {ix kk : Nat} {R0 O n d Cn : String} {ty : FieldType} {a : Addr} {v old : Value} (hd : decode by0 pc = .ok (.putfield ix, 3)) (hpc : pc + 3 = pc') (w : (Cond.fieldLink y.cls ix R0 n d).before a0 Z = true) (via : Via Z R0 O n d) (F : Fld Z h a O n d old) (E : Exa Z h a Cn) (L : (Cond.lays Cn O n d).before a0 Z = true ∨ ((Cond.laysFinal Cn O n d).before a0 Z = true ∧ y.cls = O ∧ y.name = "<init>")) (wi : (Cond.instantiable Cn kk).before a0 Z = true) (hty : parseFieldDescriptor d = some ty) (hn : narrow ty v = v) (hf : fits ty v = true) (ha : a ∈ S) (k : ∀ h', Wr h h' a (RoadKit.slotOf Z O n d) v → GoW l R Z EL y.cls ws h0 Q κ S h' pc' Ls st ce sl) : GoW l R Z EL y.cls ws h0 Q κ S h pc Ls (v :: .ref a :: st) ce sl := by
  subst hpc
  obtain ⟨p, e, s, m, args, below, meth, c⟩ := κ
  intro vm0 k0 T locs X N eT I J
  obtain ⟨hx, hby, hml, -, hnm, hret, hlk, -⟩ := C
  have hZ : Z.Warmed39 (s.setVm vm0).vm := J.2.2.1
  have hown : (s.setVm vm0).vm.findClass y.cls = some m.cls := J.2.2.2.1
  obtain ⟨T', h', X', e', W, st'⟩ := putF X hx hZ hown (host := "") (Or.inl w) via eT F E (L.imp id fun q => ⟨q.1, q.2.1, hnm.trans q.2.2⟩) wi hty hn hf (g := mkF m pc Ls (v :: .ref a :: st)) rfl rfl (hb hby hd)
  obtain ⟨s₂, o, hs, r⟩ := (k h' W) vm0 k0 T' _ X' (fr_snoc N (I.2.2 _ ha).2.1) e' (I.wr W ha) (J.wr W ha)
  exact ⟨s₂, o, st' _ hs, r⟩
theorem gw_putFN (C : Cx Z a0 y by0 ml rt κ) (pc' : Nat) {ix kk : Nat} {R0 O n d Cn : String} {ty : FieldType} {a : Addr} {v v' old : Value} (hd : decode by0 pc = .ok (.putfield ix, 3)) (hpc : pc + 3 = pc') (w : (Cond.fieldLink y.cls ix R0 n d).before a0 Z = true) (via : Via Z R0 O n d) (F : Fld Z h a O n d old) (E : Exa Z h a Cn) (L : (Cond.lays Cn O n d).before a0 Z = true ∨ ((Cond.laysFinal Cn O n d).before a0 Z = true ∧ y.cls = O ∧ y.name = "<init>")) (wi : (Cond.instantiable Cn kk).before a0 Z = true) (hty : parseFieldDescriptor d = some ty) (hn : narrow ty v = v') (hf : fits ty v' = true) (ha : a ∈ S) (k : ∀ h', Wr h h' a (RoadKit.slotOf Z O n d) v' → GoW l R Z EL y.cls ws h0 Q κ S h' pc' Ls st ce sl) : GoW l R Z EL y.cls ws h0 Q κ S h pc Ls (v :: .ref a :: st) ce sl := by
  subst hpc
  obtain ⟨p, e, s, m, args, below, meth, c⟩ := κ
  intro vm0 k0 T locs X N eT I J
  obtain ⟨hx, hby, hml, -, hnm, hret, hlk, -⟩ := C
  have hZ : Z.Warmed39 (s.setVm vm0).vm := J.2.2.1
  have hown : (s.setVm vm0).vm.findClass y.cls = some m.cls := J.2.2.2.1
  obtain ⟨T', h', X', e', W, st'⟩ := putFN X hx hZ hown w via eT F E (L.imp id fun q => ⟨q.1, q.2.1, hnm.trans q.2.2⟩) wi hty hn hf (g := mkF m pc Ls (v :: .ref a :: st)) rfl rfl (hb hby hd)
  obtain ⟨s₂, o, hs, r⟩ := (k h' W) vm0 k0 T' _ X' (fr_snoc N (I.2.2 _ ha).2.1) e' (I.wr W ha) (J.wr W ha)
  exact ⟨s₂, o, st' _ hs, r⟩
theorem gw_new (C : Cx Z a0 y by0 ml rt κ) (pc' ce' sl' : Nat) {ix n : Nat} {Cn : String} (hd : decode by0 pc = .ok (.new ix, 3)) (hce : ce + 1 = ce') (hsl' : sl + n = sl') (hpc : pc + 3 = pc') (w : (Cond.classLink y.cls ix Cn).before a0 Z = true) (wi : (Cond.instantiable Cn n).before a0 Z = true) (wz : (Cond.initialized Cn).before a0 Z = true) (hc : ce + 1 ≤ R.cells) (hsl : sl + n ≤ R.slots) (k : ∀ (a : Addr) h', a = h.size → Ext h h' → Exa Z h' a Cn → (∀ {O nm d : String} {ty : FieldType}, Laid Z a0 Cn O nm d → parseFieldDescriptor d = some ty → Fld Z h' a O nm d (defaultValue ty)) → GoW l R Z EL y.cls ws h0 Q κ (a :: S) h' pc' Ls (.ref a :: st) ce' sl') : GoW l R Z EL y.cls ws h0 Q κ S h pc Ls st ce sl := by
  subst hpc hce hsl'
  obtain ⟨p, e, s, m, args, below, meth, c⟩ := κ
  intro vm0 k0 T locs X N eT I J
  obtain ⟨hx, hby, hml, -, hnm, hret, hlk, -⟩ := C
  have hZ : Z.Warmed39 (s.setVm vm0).vm := J.2.2.1
  have hown : (s.setVm vm0).vm.findClass y.cls = some m.cls := J.2.2.2.1
  obtain ⟨T', h', X', e', E, A, D, -, st'⟩ := newO X hx hZ hown w wi wz eT (g := mkF m pc Ls st) rfl (hb hby hd) hc hsl
  obtain ⟨s₂, o, hs, r⟩ := (k _ h' rfl E A @D) vm0 k0 T' _ X' N e' (I.new E A.lt) (J.new E)
  exact ⟨s₂, o, st' _ hs, r⟩
theorem gw_newP (C : Cx Z a0 y by0 ml rt κ) (pc' ce' sl' : Nat) {aty : ArrayType} {ty : FieldType} {n : Int32} {cap : Nat} (hd : decode by0 pc = .ok (.newarray aty, 2)) (hce : ce + 1 = ce') (hsl' : sl + cap = sl') (hpc : pc + 2 = pc') (hty : newarray.typeOf aty = ty) (w : (Cond.arrayClass ty).before a0 Z = true) (hn : ¬ n < 0) (hcap : n.toNatClampNeg ≤ cap) (hbig : cap * 8 ≤ 536870912) (hc : ce + 1 ≤ R.cells) (hsl : sl + cap ≤ R.slots) (k : ∀ (a : Addr) h' kc, a = h.size → Ext h h' → Arv Z h' a kc ty n (List.replicate n.toNatClampNeg (defaultValue ty)) (defaultValue ty) → GoW l R Z EL y.cls ws h0 Q κ (a :: S) h' pc' Ls (.ref a :: st) ce' sl') : GoW l R Z EL y.cls ws h0 Q κ S h pc Ls (.int n :: st) ce sl := by
  subst hpc hce hsl'
  subst hty
  obtain ⟨p, e, s, m, args, below, meth, c⟩ := κ
  intro vm0 k0 T locs X N eT I J
  obtain ⟨hx, hby, hml, -, hnm, hret, hlk, -⟩ := C
  have hZ : Z.Warmed39 (s.setVm vm0).vm := J.2.2.1
  have hown : (s.setVm vm0).vm.findClass y.cls = some m.cls := J.2.2.2.1
  obtain ⟨T', h', kc, X', e', E, A, st'⟩ := newP X hx hZ w eT (g := mkF m pc Ls (.int n :: st)) rfl (hb hby hd) rfl hn hcap hbig hc hsl
  have V := (Arv.new A hn).pad (vs' := List.replicate n.toNatClampNeg (defaultValue (newarray.typeOf aty))) (pad_rep [] (defaultValue (newarray.typeOf aty)) n.toNatClampNeg)
  obtain ⟨s₂, o, hs, r⟩ := (k _ h' kc rfl E V) vm0 k0 T' _ X' N e' (I.new E A.lt) (J.new E)
  exact ⟨s₂, o, st' _ hs, r⟩
theorem gw_castore (C : Cx Z a0 y by0 ml rt κ) (pc' : Nat) {a : Addr} {kc : ClassId} {n j x : Int32} {vs : List Value} {d : Value} (i : Nat) {v : Int32} (hv : nar .char x = v) (hd : decode by0 pc = .ok (.castore, 1)) (hpc : pc + 1 = pc') (F : Arv Z h a kc .char n vs d) (hj : ¬ j < 0 ∧ j < n) (hi : j.toNatClampNeg = i) (hl : i < vs.length) (ha : a ∈ S) (k : ∀ h', Wr h h' a j.toNatClampNeg (.int v) → Arv Z h' a kc .char n (vs.set i (.int v)) d → GoW l R Z EL y.cls ws h0 Q κ S h' pc' Ls st ce sl) : GoW l R Z EL y.cls ws h0 Q κ S h pc Ls (.int x :: .int j :: .ref a :: st) ce sl := by
  subst hv hpc
  obtain ⟨p, e, s, m, args, below, meth, c⟩ := κ
  intro vm0 k0 T locs X N eT I J
  obtain ⟨hx, hby, hml, -, hnm, hret, hlk, -⟩ := C
  have hZ : Z.Warmed39 (s.setVm vm0).vm := J.2.2.1
  have hown : (s.setVm vm0).vm.findClass y.cls = some m.cls := J.2.2.2.1
  obtain ⟨cl, A, q1, S1, q3, H, G⟩ := F
  obtain ⟨T', h', X', e', W, st'⟩ := stC X hx hZ eT A (inb_of S1 hj) (g := mkF m pc Ls (.int x :: .int j :: .ref a :: st)) rfl rfl (hb hby hd)
  have V := Arv.set A q1 S1 q3 H G (fits_nar_char _) W i hi hl
  obtain ⟨s₂, o, hs, r⟩ := (k h' W V) vm0 k0 T' _ X' (fr_snoc N (I.2.2 _ ha).2.1) e' (I.wr W ha) (J.wr W ha)
  exact ⟨s₂, o, st' _ hs, r⟩
theorem gw_old (k : Ext Z.heap h → h0.size ≤ h.size → GoW l R Z EL y.cls ws h0 Q κ S h pc Ls st ce sl) : GoW l R Z EL y.cls ws h0 Q κ S h pc Ls st ce sl := by
  obtain ⟨p, e, s, m, args, below, meth, c⟩ := κ
  intro vm0 k0 T locs X N eT I J
  exact k I.1 I.2.1.1 vm0 k0 T locs X N eT I J
theorem gw_ret (C : Cx Z a0 y by0 ml rt κ) (hEL : EW Z a0 EL) (hd : decode by0 pc = .ok (.return_, 1)) (hrt : rt = none) (hc : ce ≤ R.cells) (hsl : sl ≤ R.slots) (hq : Q none h) : GoW l R Z EL y.cls ws h0 Q κ S h pc Ls [] ce sl := by
  obtain ⟨p, e, s, m, args, below, meth, c⟩ := κ
  intro vm0 k0 T locs X N eT I J
  obtain ⟨hx, hby, hml, -, hnm, hret, hlk, -⟩ := C
  have hZ : Z.Warmed39 (s.setVm vm0).vm := J.2.2.1
  have hown : (s.setVm vm0).vm.findClass y.cls = some m.cls := J.2.2.2.1
  obtain ⟨fs, hr, hrun, hended, hEnd⟩ := X.leaveW J.1 (by rw [eT]; exact J.2.1) (v := none) (fun _ => rfl) hlk
  have hq' : Keep h0 (T.setFrames fs).heap ws ∧ Q (none) (T.setFrames fs).heap := by
    show Keep h0 T.heap ws ∧ Q _ T.heap
    rw [eT]; exact ⟨I.2.1, hq⟩
  have hch : CHr Z EL s.vm h0 (T.setFrames fs).vm (T.setFrames fs).heap := by
    show CHr Z EL s.vm h0 T.vm T.heap
    rw [eT]; exact J.2.2.2.2.1.trans (CHv.at X J.2.2.1 hEL J.2.2.2.2.1.1)
  exact ⟨_, _, X.returnOut hx (hret.trans hrt) (hb hby hd) hr, hrun, hended, _, _, rfl, ⟨hq'.1, hq'.2, N⟩, hch, hEnd.1, hEnd.2.1, hEnd.2.2.1, hEnd.2.2.2.mono hc hsl⟩
theorem gw_retN (C : Cx Z a0 y by0 ml rt κ) (hEL : EW Z a0 EL) {t : FieldType} {x z : Int32} (hd : decode by0 pc = .ok (.ireturn, 1)) (hrt : rt = some t) (ht : t = .boolean ∨ t = .byte ∨ t = .char ∨ t = .short) (hz : nar t x = z) (hc : ce ≤ R.cells) (hsl : sl ≤ R.slots) (hq : Q (some (.int z)) h) : GoW l R Z EL y.cls ws h0 Q κ S h pc Ls (.int x :: st) ce sl := by
  subst hz
  obtain ⟨p, e, s, m, args, below, meth, c⟩ := κ
  intro vm0 k0 T locs X N eT I J
  obtain ⟨hx, hby, hml, -, hnm, hret, hlk, -⟩ := C
  have hZ : Z.Warmed39 (s.setVm vm0).vm := J.2.2.1
  have hown : (s.setVm vm0).vm.findClass y.cls = some m.cls := J.2.2.2.1
  obtain ⟨fs, hr, hrun, hended, hEnd⟩ := X.leaveW J.1 (by rw [eT]; exact J.2.1) (v := some (.int (nar t x))) (fun q => by rw [hret, hrt] at q; cases q) hlk
  have hq' : Keep h0 (T.setFrames fs).heap ws ∧ Q (some (.int (nar t x))) (T.setFrames fs).heap := by
    show Keep h0 T.heap ws ∧ Q _ T.heap
    rw [eT]; exact ⟨I.2.1, hq⟩
  have hch : CHr Z EL s.vm h0 (T.setFrames fs).vm (T.setFrames fs).heap := by
    show CHr Z EL s.vm h0 T.vm T.heap
    rw [eT]; exact J.2.2.2.2.1.trans (CHv.at X J.2.2.1 hEL J.2.2.2.2.1.1)
  exact ⟨_, _, retN X hx (hret.trans hrt) ht (hb hby hd) hr, hrun, hended, _, _, rfl, ⟨hq'.1, hq'.2, N⟩, hch, hEnd.1, hEnd.2.1, hEnd.2.2.1, hEnd.2.2.2.mono hc hsl⟩
theorem gw_retA (C : Cx Z a0 y by0 ml rt κ) (hEL : EW Z a0 EL) {v : Value} {t : FieldType} (hd : decode by0 pc = .ok (.areturn, 1)) (hrt : rt = some t) (ht : t.isReference = true) (hv : v.isRef = true) (hc : ce ≤ R.cells) (hsl : sl ≤ R.slots) (hq : Q (some v) h) : GoW l R Z EL y.cls ws h0 Q κ S h pc Ls (v :: st) ce sl := by
  obtain ⟨p, e, s, m, args, below, meth, c⟩ := κ
  intro vm0 k0 T locs X N eT I J
  obtain ⟨hx, hby, hml, -, hnm, hret, hlk, -⟩ := C
  have hZ : Z.Warmed39 (s.setVm vm0).vm := J.2.2.1
  have hown : (s.setVm vm0).vm.findClass y.cls = some m.cls := J.2.2.2.1
  obtain ⟨fs, hr, hrun, hended, hEnd⟩ := X.leaveW J.1 (by rw [eT]; exact J.2.1) (v := some v) (fun q => by rw [hret, hrt] at q; cases q) hlk
  have hq' : Keep h0 (T.setFrames fs).heap ws ∧ Q (some v) (T.setFrames fs).heap := by
    show Keep h0 T.heap ws ∧ Q _ T.heap
    rw [eT]; exact ⟨I.2.1, hq⟩
  have hch : CHr Z EL s.vm h0 (T.setFrames fs).vm (T.setFrames fs).heap := by
    show CHr Z EL s.vm h0 T.vm T.heap
    rw [eT]; exact J.2.2.2.2.1.trans (CHv.at X J.2.2.1 hEL J.2.2.2.2.1.1)
  have hn : narrow t v = v := by cases t <;> first | (cases ht; done) | (cases v <;> first | rfl | cases hv)
  exact ⟨_, _, retOut X hx (hret.trans hrt) hn (Or.inr (Or.inr (Or.inr (Or.inr ⟨rfl, ht, hv⟩)))) (hb hby hd) hr, hrun, hended, _, _, rfl, ⟨hq'.1, hq'.2, N⟩, hch, hEnd.1, hEnd.2.1, hEnd.2.2.1, hEnd.2.2.2.mono hc hsl⟩
theorem gw_callS (C : Cx Z a0 y by0 ml rt κ) {z : MethodName} {fr lo cc ss : Nat} {ws' : List Addr} {Qz : Option Value → Heap → Prop} {ps : List FieldType} {rr : Option FieldType} {argsL : List Value} {ix W : Nat} (hd : decode by0 pc = .ok (.invokestatic ix, 3)) {bz : ByteArray} {mlz : Nat} {rtz : Option FieldType} (w1 : (Cond.methodLink y.cls ix z).before a0 Z = true) (w2 : (Cond.static z).before a0 Z = true) (wz : (Cond.initialized z.cls).before a0 Z = true) (wc : (Cond.code z bz mlz rtz).before a0 Z = true) (hy : z.cls ≠ "java/lang/invoke/MethodHandle" ∧ z.cls ≠ "java/lang/invoke/VarHandle") (hps : parseMethodDescriptor z.desc = some ⟨ps, rr⟩) (hM : Py l Z z fr lo cc ss argsL.toArray h ws' Qz) (hlen : argsL.length = ps.length) (hf : fr ≤ R.frames) (hW : (st.map fun v => v.category).sum ≤ W) (hlo : W + lo ≤ R.locals) (hls : Ls.size = ml) (hc : ce + cc ≤ R.cells) (hsl : sl + ss ≤ R.slots) (hws : ∀ x ∈ ws', x ∈ S) (k : ∀ v h', Keep h h' ws' → Qz v h' → ∃ bs, (∀ b ∈ bs, h.size ≤ b ∧ b < h'.size) ∧ GoW l R Z EL y.cls ws h0 Q κ (bs ++ S) h' (pc + 3) Ls (v.toList ++ st) (ce + cc) (sl + ss)) : GoW l R Z EL y.cls ws h0 Q κ S h pc Ls (argsL.reverse ++ st) ce sl := by
  obtain ⟨p, e, s, m, args, below, meth, c⟩ := κ
  intro vm0 k0 T locs X N eT I J
  obtain ⟨hx, hby, hml, -, hnm, hret, hlk, -⟩ := C
  have hZ : Z.Warmed39 (s.setVm vm0).vm := J.2.2.1
  have hown : (s.setVm vm0).vm.findClass y.cls = some m.cls := J.2.2.2.1
  have hO := fun x hx => (⟨(I.2.2 x (hws x hx)).1, (I.2.2 x (hws x hx)).2.1⟩ : x < h.size ∧ Z.heap.size ≤ x)
  have hB := hM I.1 hO p e R below (s.setVm vm0) args 3 W hZ hf hlo
  obtain ⟨v, _, ⟨T', L', k', n'⟩, -, X', ⟨Lc, hQ, l', y', z'⟩, st'⟩ := Jvm.LawKit.callS X hx hown (mvT hZ w1) (mvT hZ w2) (mvT hZ wz) (mvT hZ wc) hy hB (g := mkF m pc Ls (argsL.reverse ++ st)) rfl (hls.trans hml.symm) (argsL := argsL) (rest := st) (lenOf hps hlen) rfl (by show 2 * 0 + _ ≤ _; rw [Nat.mul_zero, Nat.zero_add]; exact hW) (hb hby hd) (fun _ _ => ⟨rfl, eT, hc, hsl⟩)
  dsimp only [Pt.U, Pt.locs, Pt.cells, Pt.slots] at X' l' y' z' st' hQ
  subst l' y' z'
  obtain ⟨K, hQ, N'⟩ := hQ
  have NN := Fr.app N N'
  obtain ⟨bs, hbs, kk⟩ := k v T'.heap K hQ
  obtain ⟨s₂, o, hs, r⟩ := kk vm0 k0 T' _ X' NN rfl (I.add (I.keep K hws) hbs) (J.add K hws hbs)
  exact ⟨s₂, o, st' _ hs, r⟩
theorem gw_callI (C : Cx Z a0 y by0 ml rt κ) {z : MethodName} {fr lo cc ss : Nat} {ws' : List Addr} {Qz : Option Value → Heap → Prop} {ps : List FieldType} {rr : Option FieldType} {argsL : List Value} {ix W : Nat} {a : Addr} (hd : decode by0 pc = .ok (.invokespecial ix, 3)) {bz : ByteArray} {mlz : Nat} (hin : z.name = "<init>") (w1 : (Cond.methodLink y.cls ix z).before a0 Z = true) (w2 : (Cond.instanceMethod z).before a0 Z = true) (wc : (Cond.code z bz mlz none).before a0 Z = true) (hy : z.cls ≠ "java/lang/invoke/MethodHandle" ∧ z.cls ≠ "java/lang/invoke/VarHandle") (hps : parseMethodDescriptor z.desc = some ⟨ps, rr⟩) (hM : Py l Z z fr lo cc ss (.ref a :: argsL).toArray h ws' Qz) (hlen : argsL.length = ps.length) (hf : fr ≤ R.frames) (hW : (st.map fun v => v.category).sum ≤ W) (hlo : W + lo ≤ R.locals) (hls : Ls.size = ml) (hc : ce + cc ≤ R.cells) (hsl : sl + ss ≤ R.slots) (hws : ∀ x ∈ ws', x ∈ S) (k : ∀ v h', Keep h h' ws' → Qz v h' → ∃ bs, (∀ b ∈ bs, h.size ≤ b ∧ b < h'.size) ∧ GoW l R Z EL y.cls ws h0 Q κ (bs ++ S) h' (pc + 3) Ls (v.toList ++ st) (ce + cc) (sl + ss)) : GoW l R Z EL y.cls ws h0 Q κ S h pc Ls (argsL.reverse ++ .ref a :: st) ce sl := by
  obtain ⟨p, e, s, m, args, below, meth, c⟩ := κ
  intro vm0 k0 T locs X N eT I J
  obtain ⟨hx, hby, hml, -, hnm, hret, hlk, -⟩ := C
  have hZ : Z.Warmed39 (s.setVm vm0).vm := J.2.2.1
  have hown : (s.setVm vm0).vm.findClass y.cls = some m.cls := J.2.2.2.1
  have hO := fun x hx => (⟨(I.2.2 x (hws x hx)).1, (I.2.2 x (hws x hx)).2.1⟩ : x < h.size ∧ Z.heap.size ≤ x)
  have hB := hM I.1 hO p e R below (s.setVm vm0) args 3 W hZ hf hlo
  obtain ⟨v, _, ⟨T', L', k', n'⟩, -, X', ⟨Lc, hQ, l', y', z'⟩, st'⟩ := X.specialBack hx hin hown (mvT hZ w1) (mvT hZ w2) (mvT hZ wc) hy hB (g := mkF m pc Ls (argsL.reverse ++ Value.ref a :: st)) rfl (hls.trans hml.symm) (Steps.refl _) (a := a) (argsL := argsL) (rest := st) (lenOf hps hlen) rfl (by show 2 * 0 + _ ≤ _; rw [Nat.mul_zero, Nat.zero_add]; exact hW) (hb hby hd) (fun _ _ => ⟨rfl, eT, hc, hsl⟩)
  dsimp only [Pt.U, Pt.locs, Pt.cells, Pt.slots] at X' l' y' z' st' hQ
  subst l' y' z'
  obtain ⟨K, hQ, N'⟩ := hQ
  have NN := Fr.app N N'
  obtain ⟨bs, hbs, kk⟩ := k v T'.heap K hQ
  obtain ⟨s₂, o, hs, r⟩ := kk vm0 k0 T' _ X' NN rfl (I.add (I.keep K hws) hbs) (J.add K hws hbs)
  exact ⟨s₂, o, st'.trans hs, r⟩
theorem gw_callV (C : Cx Z a0 y by0 ml rt κ) {z : MethodName} {fr lo cc ss : Nat} {ws' : List Addr} {Qz : Option Value → Heap → Prop} {ps : List FieldType} {rr : Option FieldType} {argsL : List Value} {ix W : Nat} {a : Addr} (hd : decode by0 pc = .ok (.invokevirtual ix, 3)) {y1 : MethodName} {Cn : String} (w1 : (Cond.methodLink y.cls ix y1).before a0 Z = true) (w2 : (Cond.declares y1).before a0 Z = true) (nf : ∀ (s : State), Z.Warmed39 s.vm → NotFace s y1) (w3 : (Cond.selects Cn y1 z).before a0 Z = true) (w4 : (Cond.instanceMethod z).before a0 Z = true) (EX : Exa Z h a Cn) (hy : y1.cls ≠ "java/lang/invoke/MethodHandle" ∧ y1.cls ≠ "java/lang/invoke/VarHandle") (hps : parseMethodDescriptor y1.desc = some ⟨ps, rr⟩) (hM : Py l Z z fr lo cc ss (.ref a :: argsL).toArray h ws' Qz) (hlen : argsL.length = ps.length) (hf : fr ≤ R.frames) (hW : (st.map fun v => v.category).sum ≤ W) (hlo : W + lo ≤ R.locals) (hls : Ls.size = ml) (hc : ce + cc ≤ R.cells) (hsl : sl + ss ≤ R.slots) (hws : ∀ x ∈ ws', x ∈ S) (k : ∀ v h', Keep h h' ws' → Qz v h' → ∃ bs, (∀ b ∈ bs, h.size ≤ b ∧ b < h'.size) ∧ GoW l R Z EL y.cls ws h0 Q κ (bs ++ S) h' (pc + 3) Ls (v.toList ++ st) (ce + cc) (sl + ss)) : GoW l R Z EL y.cls ws h0 Q κ S h pc Ls (argsL.reverse ++ .ref a :: st) ce sl := by
  obtain ⟨p, e, s, m, args, below, meth, c⟩ := κ
  intro vm0 k0 T locs X N eT I J
  obtain ⟨hx, hby, hml, -, hnm, hret, hlk, -⟩ := C
  have hZ : Z.Warmed39 (s.setVm vm0).vm := J.2.2.1
  have hown : (s.setVm vm0).vm.findClass y.cls = some m.cls := J.2.2.2.1
  have hO := fun x hx => (⟨(I.2.2 x (hws x hx)).1, (I.2.2 x (hws x hx)).2.1⟩ : x < h.size ∧ Z.heap.size ≤ x)
  have hB := hM I.1 hO p e R below (s.setVm vm0) args 3 W hZ hf hlo
  obtain ⟨v, _, ⟨T', L', k', n'⟩, -, X', ⟨Lc, hQ, l', y', z'⟩, st'⟩ := (let ⟨cq, kq, qa, qb, qc⟩ := isOf hZ eT EX; X.virtualBack hx hown (mvT hZ w1) (mvT hZ w2) (nf _ hZ) (mvT hZ w3) (mvT hZ w4) hy hB qa qc (g := mkF m pc Ls (argsL.reverse ++ Value.ref a :: st)) rfl (hls.trans hml.symm) (Steps.refl _) (argsL := argsL) (rest := st) (lenOf hps hlen) rfl (by show 2 * 0 + _ ≤ _; rw [Nat.mul_zero, Nat.zero_add]; exact hW) (hb hby hd) (fun _ _ => ⟨rfl, eT, hc, hsl⟩))
  dsimp only [Pt.U, Pt.locs, Pt.cells, Pt.slots] at X' l' y' z' st' hQ
  subst l' y' z'
  obtain ⟨K, hQ, N'⟩ := hQ
  have NN := Fr.app N N'
  obtain ⟨bs, hbs, kk⟩ := k v T'.heap K hQ
  obtain ⟨s₂, o, hs, r⟩ := kk vm0 k0 T' _ X' NN rfl (I.add (I.keep K hws) hbs) (J.add K hws hbs)
  exact ⟨s₂, o, st'.trans hs, r⟩
theorem gw_callIW (C : Cx Z a0 y by0 ml rt κ) (hEL : EW Z a0 EL) {z : MethodName} {fr lo cc ss : Nat} {ws' : List Addr} {Qz : Option Value → Heap → Prop} {ps : List FieldType} {rr : Option FieldType} {argsL : List Value} {ix W : Nat} {a : Addr} (hd : decode by0 pc = .ok (.invokespecial ix, 3)) {bz : ByteArray} {mlz : Nat} (hin : z.name = "<init>") (w1 : (Cond.methodLink y.cls ix z).before a0 Z = true) (w2 : (Cond.instanceMethod z).before a0 Z = true) (wc : (Cond.code z bz mlz none).before a0 Z = true) (hy : z.cls ≠ "java/lang/invoke/MethodHandle" ∧ z.cls ≠ "java/lang/invoke/VarHandle") (hps : parseMethodDescriptor z.desc = some ⟨ps, rr⟩) (hM : PyW l Z EL a0 z fr lo cc ss (.ref a :: argsL).toArray h ws' Qz) (hlen : argsL.length = ps.length) (hf : fr ≤ R.frames) (hW : (st.map fun v => v.category).sum ≤ W) (hlo : W + lo ≤ R.locals) (hls : Ls.size = ml) (hc : ce + cc ≤ R.cells) (hsl : sl + ss ≤ R.slots) (hws : ∀ x ∈ ws', x ∈ S) (k : ∀ v h', Keep h h' ws' → Qz v h' → GoW l R Z EL y.cls ws h0 Q κ S h' (pc + 3) Ls (v.toList ++ st) (ce + cc) (sl + ss)) : GoW l R Z EL y.cls ws h0 Q κ S h pc Ls (argsL.reverse ++ .ref a :: st) ce sl := by
  obtain ⟨p, e, s, m, args, below, meth, c⟩ := κ
  intro vm0 k0 T locs X N eT I J
  obtain ⟨hx, hby, hml, -, hnm, hret, hlk, -⟩ := C
  have hZ : Z.Warmed39 (s.setVm vm0).vm := J.2.2.1
  have hown : (s.setVm vm0).vm.findClass y.cls = some m.cls := J.2.2.2.1
  have hO := fun x hx => (⟨(I.2.2 x (hws x hx)).1, (I.2.2 x (hws x hx)).2.1⟩ : x < h.size ∧ Z.heap.size ≤ x)
  have hB := hM I.1 hO hEL p e R below s vm0 args 3 W J.2.2.1 hf hlo J.2.2.2.2.1.1 (fun x hx => J.2.2.2.2.2 x (hws x hx))
  obtain ⟨v, _, ⟨T', L', k', n'⟩, -, X', hS', hg', ⟨Lc, hQ, l', y', z', hch'⟩, st'⟩ := X.specialBackS hx hin hown (mvT hZ w1) (mvT hZ w2) (mvT hZ wc) hy hB (g := mkF m pc Ls (argsL.reverse ++ Value.ref a :: st)) rfl (hls.trans hml.symm) (Steps.refl _) (a := a) (argsL := argsL) (rest := st) (lenOf hps hlen) rfl (by show 2 * 0 + _ ≤ _; rw [Nat.mul_zero, Nat.zero_add]; exact hW) (hb hby hd) (fun _ _ => ⟨rfl, eT, hc, hsl⟩)
  dsimp only [Pt.U, Pt.locs, Pt.cells, Pt.slots] at X' l' y' z' st' hQ hS' hg' hch'
  subst l' y' z'
  obtain ⟨K, hQ, N'⟩ := hQ
  have NN := Fr.app N N'
  obtain ⟨X2, hS2, hZ2, hown2⟩ := rebS J.1 (by rw [eT]; exact J.2.1 : k0 ≤ T.heap.size) X' hS' hg' hZ hown
  obtain ⟨s₂, o, hs, r⟩ := k v T'.heap K hQ _ _ T' _ X2 NN rfl (I.keep K hws) ⟨hS2, Nat.le_refl _, hZ2, hown2, J.2.2.2.2.1.trans hch', fun x hx => hch'.safe (I.2.2 x hx).1 (J.2.2.2.2.2 x hx)⟩
  exact ⟨s₂, o, st'.trans hs, r⟩
theorem gw_callVW (C : Cx Z a0 y by0 ml rt κ) (hEL : EW Z a0 EL) {z : MethodName} {fr lo cc ss : Nat} {ws' : List Addr} {Qz : Option Value → Heap → Prop} {ps : List FieldType} {rr : Option FieldType} {argsL : List Value} {ix W : Nat} {a : Addr} (hd : decode by0 pc = .ok (.invokevirtual ix, 3)) {y1 : MethodName} {Cn : String} (w1 : (Cond.methodLink y.cls ix y1).before a0 Z = true) (w2 : (Cond.declares y1).before a0 Z = true) (nf : ∀ (s : State), Z.Warmed39 s.vm → NotFace s y1) (w3 : (Cond.selects Cn y1 z).before a0 Z = true) (w4 : (Cond.instanceMethod z).before a0 Z = true) (EX : Exa Z h a Cn) (hy : y1.cls ≠ "java/lang/invoke/MethodHandle" ∧ y1.cls ≠ "java/lang/invoke/VarHandle") (hps : parseMethodDescriptor y1.desc = some ⟨ps, rr⟩) (hM : PyW l Z EL a0 z fr lo cc ss (.ref a :: argsL).toArray h ws' Qz) (hlen : argsL.length = ps.length) (hf : fr ≤ R.frames) (hW : (st.map fun v => v.category).sum ≤ W) (hlo : W + lo ≤ R.locals) (hls : Ls.size = ml) (hc : ce + cc ≤ R.cells) (hsl : sl + ss ≤ R.slots) (hws : ∀ x ∈ ws', x ∈ S) (k : ∀ v h', Keep h h' ws' → Qz v h' → GoW l R Z EL y.cls ws h0 Q κ S h' (pc + 3) Ls (v.toList ++ st) (ce + cc) (sl + ss)) : GoW l R Z EL y.cls ws h0 Q κ S h pc Ls (argsL.reverse ++ .ref a :: st) ce sl := by
  obtain ⟨p, e, s, m, args, below, meth, c⟩ := κ
  intro vm0 k0 T locs X N eT I J
  obtain ⟨hx, hby, hml, -, hnm, hret, hlk, -⟩ := C
  have hZ : Z.Warmed39 (s.setVm vm0).vm := J.2.2.1
  have hown : (s.setVm vm0).vm.findClass y.cls = some m.cls := J.2.2.2.1
  have hO := fun x hx => (⟨(I.2.2 x (hws x hx)).1, (I.2.2 x (hws x hx)).2.1⟩ : x < h.size ∧ Z.heap.size ≤ x)
  have hB := hM I.1 hO hEL p e R below s vm0 args 3 W J.2.2.1 hf hlo J.2.2.2.2.1.1 (fun x hx => J.2.2.2.2.2 x (hws x hx))
  obtain ⟨v, _, ⟨T', L', k', n'⟩, -, X', hS', hg', ⟨Lc, hQ, l', y', z', hch'⟩, st'⟩ := (let ⟨cq, kq, qa, qb, qc⟩ := isOf hZ eT EX; X.virtualBackS hx hown (mvT hZ w1) (mvT hZ w2) (nf _ hZ) (mvT hZ w3) (mvT hZ w4) hy hB qa qc (g := mkF m pc Ls (argsL.reverse ++ Value.ref a :: st)) rfl (hls.trans hml.symm) (Steps.refl _) (argsL := argsL) (rest := st) (lenOf hps hlen) rfl (by show 2 * 0 + _ ≤ _; rw [Nat.mul_zero, Nat.zero_add]; exact hW) (hb hby hd) (fun _ _ => ⟨rfl, eT, hc, hsl⟩))
  dsimp only [Pt.U, Pt.locs, Pt.cells, Pt.slots] at X' l' y' z' st' hQ hS' hg' hch'
  subst l' y' z'
  obtain ⟨K, hQ, N'⟩ := hQ
  have NN := Fr.app N N'
  obtain ⟨X2, hS2, hZ2, hown2⟩ := rebS J.1 (by rw [eT]; exact J.2.1 : k0 ≤ T.heap.size) X' hS' hg' hZ hown
  obtain ⟨s₂, o, hs, r⟩ := k v T'.heap K hQ _ _ T' _ X2 NN rfl (I.keep K hws) ⟨hS2, Nat.le_refl _, hZ2, hown2, J.2.2.2.2.1.trans hch', fun x hx => hch'.safe (I.2.2 x hx).1 (J.2.2.2.2.2 x hx)⟩
  exact ⟨s₂, o, st'.trans hs, r⟩
theorem gw_ldcS (C : Cx Z a0 y by0 ml rt κ) (hEL : EW Z a0 EL) (pc' ce' sl' : Nat) {ix n : Nat} {text : String} {vs : List Value} {zn : Int32} (hd : decode by0 pc = .ok (.ldc ix, 2)) (hce : ce + 2 = ce') (hsl' : sl + (n + 4) = sl') (hpc : pc + 2 = pc') (w : (Cond.stringLink y.cls ix text).before a0 Z = true) (wS : ∀ a ∈ Bundle.stringAtoms, a.before a0 Z = true) (hmem : (y.cls, ix) ∈ EL) (ht : (∀ c ∈ text.toList, c.toNat < 256) ∧ text.toList.map (fun c => Value.int (Jvm.Lit.byteI c.toNat.toUInt16)) = vs) (hz : ¬ zn < 0) (hl : zn.toNatClampNeg = vs.length) (hn : 4 * text.toList.length ≤ n) (hbig : n ≤ 536870912) (hc : ce + 2 ≤ R.cells) (hsl : sl + (n + 4) ≤ R.slots) (k : ∀ (a b : Addr) kc h', Ext h h' → Exa Z h' a "java/lang/String" → Fld Z h' a "java/lang/String" "coder" "B" (.int 0) → Fld Z h' a "java/lang/String" "value" "[B" (.ref b) → Arv Z h' b kc .byte zn vs (.int 0) → (∀ x ∈ S, x ≠ a ∧ x ≠ b) → GoW l R Z EL y.cls ws h0 Q κ S h' pc' Ls (.ref a :: st) ce' sl') : GoW l R Z EL y.cls ws h0 Q κ S h pc Ls st ce sl := by
  subst hpc hce hsl'
  obtain ⟨p, e, s, m, args, below, meth, c⟩ := κ
  intro vm0 k0 T locs X N eT I J
  obtain ⟨hx, hby, hml, -, hnm, hret, hlk, -⟩ := C
  have hZ : Z.Warmed39 (s.setVm vm0).vm := J.2.2.1
  have hown : (s.setVm vm0).vm.findClass y.cls = some m.cls := J.2.2.2.1
  obtain ⟨a, T', h', k1, b, kc, X', e', E, hS', hk', hZ', hown', q1, q2, q3, q4, -, -, hch', -, hsf, st'⟩ := ldcCH X hx J.2.2.1 J.2.2.2.1 w wS eT J.1 J.2.1 hEL hmem J.2.2.2.2.1.1 ht hz hl (g := mkF m pc Ls st) rfl (hb hby hd) hn hbig hc hsl
  have hs2 : ∀ x ∈ S, Safe Z EL T'.vm h' x := fun x hx => hch'.safe (I.2.2 x hx).1 (J.2.2.2.2.2 x hx)
  obtain ⟨s₂, o, hs, r⟩ := k a b kc h' E q1 q2 q3 q4 (fun x hx => hsf x (hs2 x hx)) _ _ T' _ X' N e' (I.ext E) ⟨hS', hk', hZ', hown', J.2.2.2.2.1.trans hch', hs2⟩
  exact ⟨s₂, o, st' _ hs, r⟩
end StepsW

theorem sto_arv {Z : State} {h : Heap} {a b : Addr} {kc : ClassId} {ty : FieldType} {n : Int32} {vs : List Value} {d : Value} {C : String} (F : Arv Z h a kc ty n vs d) (O : Ovr Z kc C) (I : Ins Z h b C true) : Sto Z h a (.ref b) := by
  obtain ⟨c, A, q, -⟩ := F
  exact Sto.ofV A q O I
theorem and_small (x m : Int32) (hm : 0 ≤ m.toInt) : ¬ (x &&& m) < 0 ∧ ¬ m < (x &&& m) := by
  have h := c_and x m hm
  constructor
  · rw [Int32.lt_iff_toInt_lt]; have e : (0 : Int32).toInt = 0 := rfl; omega
  · rw [Int32.lt_iff_toInt_lt]; omega
/-- a char: 0 to 65535 -/
def Chr (c : Int32) : Prop := ¬ c < 0 ∧ ¬ (65535 : Int32) < c
theorem Chr.nar {c : Int32} (h : Chr c) : nar .char c = c := by
  have e := c_i2c c
  have r := h
  unfold Chr at r
  rw [Int32.lt_iff_toInt_lt, Int32.lt_iff_toInt_lt] at r
  have e0 : (0 : Int32).toInt = 0 := rfl
  have e1 : (65535 : Int32).toInt = 65535 := rfl
  have q := rng32 c
  show c.toUInt32.toUInt16.toUInt32.toInt32 = c
  rw [← Int32.toInt_inj]
  omega
theorem Chr.i2c {c : Int32} (h : Chr c) : c.toUInt32.toUInt16.toUInt32.toInt32 = c := h.nar
theorem Chr.lat {c : Int32} (h0 : ¬ c < 0) (h1 : ¬ (255 : Int32) < c) : Chr c := ⟨h0, fun q => h1 (by rw [Int32.lt_iff_toInt_lt] at q ⊢; have e1 : (65535 : Int32).toInt = 65535 := rfl; have e2 : (255 : Int32).toInt = 255 := rfl; omega)⟩
theorem chr_and255 (x : Int32) : Chr (x &&& 255) := Chr.lat (and_small x 255 (by decide)).1 (and_small x 255 (by decide)).2
def lo8 (c : Int32) : Int32 := c.toInt8.toInt32
def hi8 (c : Int32) : Int32 := (c >>> ((8 : Int32) &&& 31)).toInt8.toInt32
theorem nar_byte (c : Int32) : nar .byte (c.toInt8.toInt32) = c.toInt8.toInt32 := by show c.toInt8.toInt32.toInt8.toInt32 = _; simp
theorem nar_lo8 (c : Int32) : nar .byte (lo8 c) = lo8 c := nar_byte c
theorem nar_hi8 (c : Int32) : nar .byte (hi8 c) = hi8 c := nar_byte _
theorem shr_0 (c : Int32) : c >>> ((0 : Int32) &&& 31) = c := by
  have h := c_ishr c 0 0 (by decide)
  rw [← Int32.toInt_inj, h]; simp
theorem lo8_and (c : Int32) : (lo8 c &&& 255).toInt = c.toInt % 256 := by
  have h := c_mask (lo8 c) 255 8 (by decide) (by decide)
  have q := c_i2b c
  have e : (lo8 c).toInt = c.toInt8.toInt32.toInt := rfl
  rw [h, e]
  have e2 : ((2 ^ 8 : Nat) : Int) = 256 := rfl
  rw [e2]; omega
theorem hi8_and {c : Int32} (hc : Chr c) : (hi8 c &&& 255).toInt = c.toInt / 256 := by
  have h := c_mask (hi8 c) 255 8 (by decide) (by decide)
  have q := c_i2b (c >>> ((8 : Int32) &&& 31))
  have s := c_ishr c 8 8 (by decide)
  have e : (hi8 c).toInt = (c >>> ((8 : Int32) &&& 31)).toInt8.toInt32.toInt := rfl
  obtain ⟨r1, r2⟩ := hc
  rw [Int32.lt_iff_toInt_lt] at r1 r2
  have e0 : (0 : Int32).toInt = 0 := rfl
  have e1 : (65535 : Int32).toInt = 65535 := rfl
  have e2 : ((2 ^ 8 : Nat) : Int) = 256 := rfl
  rw [h, e, e2]
  rw [e2] at s
  omega
theorem lo8_mask {c : Int32} (h0 : ¬ c < 0) (h1 : ¬ (255 : Int32) < c) : lo8 c &&& 255 = c := by
  have h := lo8_and c
  rw [Int32.lt_iff_toInt_lt] at h0 h1
  have e0 : (0 : Int32).toInt = 0 := rfl
  have e1 : (255 : Int32).toInt = 255 := rfl
  rw [← Int32.toInt_inj, h]; omega
theorem get16 {c : Int32} (hc : Chr c) : (((lo8 c &&& 255) <<< ((0 : Int32) &&& 31)) ||| ((hi8 c &&& 255) <<< ((8 : Int32) &&& 31))).toUInt32.toUInt16.toUInt32.toInt32 = c := by
  have a1 := lo8_and c
  have a2 := hi8_and hc
  have s1 := c_ishl (lo8 c &&& 255) 0 0 (by decide)
  have s2 := c_ishl (hi8 c &&& 255) 8 8 (by decide)
  have e8 : ((2 ^ 8 : Nat) : Int) = 256 := rfl
  have e00 : ((2 ^ 0 : Nat) : Int) = 1 := rfl
  rw [e00] at s1
  rw [e8] at s2
  have o := c_or' ((lo8 c &&& 255) <<< ((0 : Int32) &&& 31)) ((hi8 c &&& 255) <<< ((8 : Int32) &&& 31)) 8 (by decide) 256 rfl
  have z := c_i2c (((lo8 c &&& 255) <<< ((0 : Int32) &&& 31)) ||| ((hi8 c &&& 255) <<< ((8 : Int32) &&& 31)))
  obtain ⟨r1, r2⟩ := hc
  rw [Int32.lt_iff_toInt_lt] at r1 r2
  have e0 : (0 : Int32).toInt = 0 := rfl
  have e1 : (65535 : Int32).toInt = 65535 := rfl
  have t1 := rng32 ((lo8 c &&& 255) <<< ((0 : Int32) &&& 31))
  have t2 := rng32 ((hi8 c &&& 255) <<< ((8 : Int32) &&& 31))
  have t3 := rng32 (((lo8 c &&& 255) <<< ((0 : Int32) &&& 31)) ||| ((hi8 c &&& 255) <<< ((8 : Int32) &&& 31)))
  rw [← Int32.toInt_inj]
  have o' := o (by omega) (by omega) (by omega)
  omega
theorem wS {Z : State} {a0 : Array Value} (hw : ∀ d ∈ tables_1, d.before a0 Z = true) : ∀ a ∈ Bundle.stringAtoms, a.before a0 Z = true := fun d hd => hw d ((by decide +kernel : ∀ d ∈ Bundle.stringAtoms, d ∈ tables_1) d hd)
theorem mod23 (x : Int32) : ((x &&& (2147483647 : Int32)) % (23 : Int32)) = 0 ∨ ((x &&& (2147483647 : Int32)) % (23 : Int32)) = 1 ∨ ((x &&& (2147483647 : Int32)) % (23 : Int32)) = 2 ∨ ((x &&& (2147483647 : Int32)) % (23 : Int32)) = 3 ∨ ((x &&& (2147483647 : Int32)) % (23 : Int32)) = 4 ∨ ((x &&& (2147483647 : Int32)) % (23 : Int32)) = 5 ∨ ((x &&& (2147483647 : Int32)) % (23 : Int32)) = 6 ∨ ((x &&& (2147483647 : Int32)) % (23 : Int32)) = 7 ∨ ((x &&& (2147483647 : Int32)) % (23 : Int32)) = 8 ∨ ((x &&& (2147483647 : Int32)) % (23 : Int32)) = 9 ∨ ((x &&& (2147483647 : Int32)) % (23 : Int32)) = 10 ∨ ((x &&& (2147483647 : Int32)) % (23 : Int32)) = 11 ∨ ((x &&& (2147483647 : Int32)) % (23 : Int32)) = 12 ∨ ((x &&& (2147483647 : Int32)) % (23 : Int32)) = 13 ∨ ((x &&& (2147483647 : Int32)) % (23 : Int32)) = 14 ∨ ((x &&& (2147483647 : Int32)) % (23 : Int32)) = 15 ∨ ((x &&& (2147483647 : Int32)) % (23 : Int32)) = 16 ∨ ((x &&& (2147483647 : Int32)) % (23 : Int32)) = 17 ∨ ((x &&& (2147483647 : Int32)) % (23 : Int32)) = 18 ∨ ((x &&& (2147483647 : Int32)) % (23 : Int32)) = 19 ∨ ((x &&& (2147483647 : Int32)) % (23 : Int32)) = 20 ∨ ((x &&& (2147483647 : Int32)) % (23 : Int32)) = 21 ∨ ((x &&& (2147483647 : Int32)) % (23 : Int32)) = 22 := by
  have h := c_and x (2147483647 : Int32) (by decide)
  have q := (c_irem (x &&& (2147483647 : Int32)) 23 23 (by decide)).1 h.1
  simp only [← Int32.toInt_inj]
  have e0 : (0 : Int32).toInt = 0 := rfl
  have e1 : (1 : Int32).toInt = 1 := rfl
  have e2 : (2 : Int32).toInt = 2 := rfl
  have e3 : (3 : Int32).toInt = 3 := rfl
  have e4 : (4 : Int32).toInt = 4 := rfl
  have e5 : (5 : Int32).toInt = 5 := rfl
  have e6 : (6 : Int32).toInt = 6 := rfl
  have e7 : (7 : Int32).toInt = 7 := rfl
  have e8 : (8 : Int32).toInt = 8 := rfl
  have e9 : (9 : Int32).toInt = 9 := rfl
  have e10 : (10 : Int32).toInt = 10 := rfl
  have e11 : (11 : Int32).toInt = 11 := rfl
  have e12 : (12 : Int32).toInt = 12 := rfl
  have e13 : (13 : Int32).toInt = 13 := rfl
  have e14 : (14 : Int32).toInt = 14 := rfl
  have e15 : (15 : Int32).toInt = 15 := rfl
  have e16 : (16 : Int32).toInt = 16 := rfl
  have e17 : (17 : Int32).toInt = 17 := rfl
  have e18 : (18 : Int32).toInt = 18 := rfl
  have e19 : (19 : Int32).toInt = 19 := rfl
  have e20 : (20 : Int32).toInt = 20 := rfl
  have e21 : (21 : Int32).toInt = 21 := rfl
  have e22 : (22 : Int32).toInt = 22 := rfl
  have e23 : (23 : Int32).toInt = 23 := rfl
  omega

def Amb (Z : State) (a0 : Array Value) (cS : Int32) (m1 : Addr) (m2 : Addr) : Prop := EW Z a0 consts_1 ∧ Sta Z Z.heap "java/lang/String" "COMPACT_STRINGS" "Z" (.int cS) ∧ ¬ (cS = 0) ∧ Sta Z Z.heap "com/example/holdfast/holdfast/sasl/Mechanism" "SAML20EC" "Lcom/example/holdfast/holdfast/sasl/Mechanism;" (.ref m1) ∧ Sta Z Z.heap "com/example/holdfast/holdfast/sasl/Mechanism" "SAML20" "Lcom/example/holdfast/holdfast/sasl/Mechanism;" (.ref m2) ∧ Exa Z Z.heap m1 "com/example/holdfast/holdfast/sasl/Mechanism" ∧ Exa Z Z.heap m2 "com/example/holdfast/holdfast/sasl/Mechanism"
abbrev HW (a0 : Array Value) (Z : State) : Prop := ∀ d ∈ tables_1, d.before a0 Z = true
set_option maxRecDepth 65536
set_option maxHeartbeats 40000000
theorem d6_0 : decode jdk_52_method_21_code 0 = .ok (.iconst 0, 1) := by decide +kernel
theorem d6_1 : decode jdk_52_method_21_code 1 = .ok (.istore 5, 2) := by decide +kernel
theorem d6_3 : decode jdk_52_method_21_code 3 = .ok (.iload 5, 2) := by decide +kernel
theorem d6_5 : decode jdk_52_method_21_code 5 = .ok (.iload 4, 2) := by decide +kernel
theorem d6_7 : decode jdk_52_method_21_code 7 = .ok (.if_icmp .ge 37, 3) := by decide +kernel
theorem d6_10 : decode jdk_52_method_21_code 10 = .ok (.aload_n 0, 1) := by decide +kernel
theorem d6_11 : decode jdk_52_method_21_code 11 = .ok (.iload_n 1, 1) := by decide +kernel
theorem d6_12 : decode jdk_52_method_21_code 12 = .ok (.caload, 1) := by decide +kernel
theorem d6_13 : decode jdk_52_method_21_code 13 = .ok (.istore 6, 2) := by decide +kernel
theorem d6_15 : decode jdk_52_method_21_code 15 = .ok (.iload 6, 2) := by decide +kernel
theorem d6_17 : decode jdk_52_method_21_code 17 = .ok (.sipush 255, 3) := by decide +kernel
theorem d6_20 : decode jdk_52_method_21_code 20 = .ok (.if_icmp .le 6, 3) := by decide +kernel
theorem d6_26 : decode jdk_52_method_21_code 26 = .ok (.aload_n 2, 1) := by decide +kernel
theorem d6_27 : decode jdk_52_method_21_code 27 = .ok (.iload_n 3, 1) := by decide +kernel
theorem d6_28 : decode jdk_52_method_21_code 28 = .ok (.iload 6, 2) := by decide +kernel
theorem d6_30 : decode jdk_52_method_21_code 30 = .ok (.i2b, 1) := by decide +kernel
theorem d6_31 : decode jdk_52_method_21_code 31 = .ok (.bastore, 1) := by decide +kernel
theorem d6_32 : decode jdk_52_method_21_code 32 = .ok (.iinc 1 1, 3) := by decide +kernel
theorem d6_35 : decode jdk_52_method_21_code 35 = .ok (.iinc 3 1, 3) := by decide +kernel
theorem d6_38 : decode jdk_52_method_21_code 38 = .ok (.iinc 5 1, 3) := by decide +kernel
theorem d6_41 : decode jdk_52_method_21_code 41 = .ok (.goto (-38), 3) := by decide +kernel
theorem d6_44 : decode jdk_52_method_21_code 44 = .ok (.iload 4, 2) := by decide +kernel
theorem d6_46 : decode jdk_52_method_21_code 46 = .ok (.ireturn, 1) := by decide +kernel
theorem pn_java_lang_StringUTF16 : plainName "java/lang/StringUTF16" = true := by first | (simp [plainName, overriddenIn]; done) | decide +kernel
theorem d5_0 : decode jdk_52_method_16_code 0 = .ok (.iload_n 2, 1) := by decide +kernel
theorem d5_1 : decode jdk_52_method_16_code 1 = .ok (.newarray .byte, 2) := by decide +kernel
theorem d5_3 : decode jdk_52_method_16_code 3 = .ok (.astore_n 3, 1) := by decide +kernel
theorem d5_4 : decode jdk_52_method_16_code 4 = .ok (.aload_n 0, 1) := by decide +kernel
theorem d5_5 : decode jdk_52_method_16_code 5 = .ok (.iload_n 1, 1) := by decide +kernel
theorem d5_6 : decode jdk_52_method_16_code 6 = .ok (.aload_n 3, 1) := by decide +kernel
theorem d5_7 : decode jdk_52_method_16_code 7 = .ok (.iconst 0, 1) := by decide +kernel
theorem d5_8 : decode jdk_52_method_16_code 8 = .ok (.iload_n 2, 1) := by decide +kernel
theorem d5_9 : decode jdk_52_method_16_code 9 = .ok (.invokestatic 115, 3) := by decide +kernel
theorem pd___CI_BII_I : parseMethodDescriptor "([CI[BII)I" = some ⟨[(.array .char), .int, (.array .byte), .int, .int], some .int⟩ := by decide +kernel
theorem d5_12 : decode jdk_52_method_16_code 12 = .ok (.istore 4, 2) := by decide +kernel
theorem d5_14 : decode jdk_52_method_16_code 14 = .ok (.iload 4, 2) := by decide +kernel
theorem d5_16 : decode jdk_52_method_16_code 16 = .ok (.iload_n 2, 1) := by decide +kernel
theorem d5_17 : decode jdk_52_method_16_code 17 = .ok (.if_icmp .eq 40, 3) := by decide +kernel
theorem d5_57 : decode jdk_52_method_16_code 57 = .ok (.aload_n 3, 1) := by decide +kernel
theorem d5_58 : decode jdk_52_method_16_code 58 = .ok (.areturn, 1) := by decide +kernel
theorem d7_0 : decode jdk_52_method_15_code 0 = .ok (.iload_n 1, 1) := by decide +kernel
theorem d7_1 : decode jdk_52_method_15_code 1 = .ok (.aload_n 0, 1) := by decide +kernel
theorem d7_2 : decode jdk_52_method_15_code 2 = .ok (.arraylength, 1) := by decide +kernel
theorem d7_3 : decode jdk_52_method_15_code 3 = .ok (.isub, 1) := by decide +kernel
theorem d7_4 : decode jdk_52_method_15_code 4 = .ok (.bipush 31, 2) := by decide +kernel
theorem d7_6 : decode jdk_52_method_15_code 6 = .ok (.iushr, 1) := by decide +kernel
theorem d7_7 : decode jdk_52_method_15_code 7 = .ok (.i2b, 1) := by decide +kernel
theorem d7_8 : decode jdk_52_method_15_code 8 = .ok (.ireturn, 1) := by decide +kernel
theorem d3_0 : decode jdk_42_method_149_code 0 = .ok (.aload_n 0, 1) := by decide +kernel
theorem d3_1 : decode jdk_42_method_149_code 1 = .ok (.invokespecial 1, 3) := by decide +kernel
theorem d3_4 : decode jdk_42_method_149_code 4 = .ok (.iload_n 3, 1) := by decide +kernel
theorem d3_5 : decode jdk_42_method_149_code 5 = .ok (.ifCond .ne 22, 3) := by decide +kernel
theorem d3_27 : decode jdk_42_method_149_code 27 = .ok (.getstatic 38, 3) := by decide +kernel
theorem d3_30 : decode jdk_42_method_149_code 30 = .ok (.ifCond .eq 28, 3) := by decide +kernel
theorem d3_33 : decode jdk_42_method_149_code 33 = .ok (.aload_n 1, 1) := by decide +kernel
theorem d3_34 : decode jdk_42_method_149_code 34 = .ok (.iload_n 2, 1) := by decide +kernel
theorem d3_35 : decode jdk_42_method_149_code 35 = .ok (.iload_n 3, 1) := by decide +kernel
theorem d3_36 : decode jdk_42_method_149_code 36 = .ok (.invokestatic 177, 3) := by decide +kernel
theorem pd___CII__B : parseMethodDescriptor "([CII)[B" = some ⟨[(.array .char), .int, .int], some (.array .byte)⟩ := by decide +kernel
theorem d3_39 : decode jdk_42_method_149_code 39 = .ok (.astore 5, 2) := by decide +kernel
theorem d3_41 : decode jdk_42_method_149_code 41 = .ok (.aload_n 0, 1) := by decide +kernel
theorem d3_42 : decode jdk_42_method_149_code 42 = .ok (.aload 5, 2) := by decide +kernel
theorem d3_44 : decode jdk_42_method_149_code 44 = .ok (.iload_n 3, 1) := by decide +kernel
theorem d3_45 : decode jdk_42_method_149_code 45 = .ok (.invokestatic 47, 3) := by decide +kernel
theorem pd___BI_B : parseMethodDescriptor "([BI)B" = some ⟨[(.array .byte), .int], some .byte⟩ := by decide +kernel
theorem d3_48 : decode jdk_42_method_149_code 48 = .ok (.putfield 15, 3) := by decide +kernel
theorem d3_51 : decode jdk_42_method_149_code 51 = .ok (.aload_n 0, 1) := by decide +kernel
theorem d3_52 : decode jdk_42_method_149_code 52 = .ok (.aload 5, 2) := by decide +kernel
theorem d3_54 : decode jdk_42_method_149_code 54 = .ok (.putfield 9, 3) := by decide +kernel
theorem d3_57 : decode jdk_42_method_149_code 57 = .ok (.return_, 1) := by decide +kernel
theorem pn_java_lang_String : plainName "java/lang/String" = true := by first | (simp [plainName, overriddenIn]; done) | decide +kernel
theorem d2_0 : decode jdk_42_method_3_code 0 = .ok (.aload_n 0, 1) := by decide +kernel
theorem d2_1 : decode jdk_42_method_3_code 1 = .ok (.aload_n 1, 1) := by decide +kernel
theorem d2_2 : decode jdk_42_method_3_code 2 = .ok (.iconst 0, 1) := by decide +kernel
theorem d2_3 : decode jdk_42_method_3_code 3 = .ok (.aload_n 1, 1) := by decide +kernel
theorem d2_4 : decode jdk_42_method_3_code 4 = .ok (.arraylength, 1) := by decide +kernel
theorem d2_5 : decode jdk_42_method_3_code 5 = .ok (.aconst_null, 1) := by decide +kernel
theorem d2_6 : decode jdk_42_method_3_code 6 = .ok (.invokespecial 27, 3) := by decide +kernel
theorem pd___CIILjava_lang_Void__V : parseMethodDescriptor "([CIILjava/lang/Void;)V" = some ⟨[(.array .char), .int, .int, (.object "java/lang/Void")], none⟩ := by decide +kernel
theorem d2_9 : decode jdk_42_method_3_code 9 = .ok (.return_, 1) := by decide +kernel
theorem d3_8 : decode jdk_42_method_149_code 8 = .ok (.aload_n 0, 1) := by decide +kernel
theorem d3_9 : decode jdk_42_method_149_code 9 = .ok (.ldc 7, 2) := by decide +kernel
theorem d3_11 : decode jdk_42_method_149_code 11 = .ok (.getfield 9, 3) := by decide +kernel
theorem d3_14 : decode jdk_42_method_149_code 14 = .ok (.putfield 9, 3) := by decide +kernel
theorem d3_17 : decode jdk_42_method_149_code 17 = .ok (.aload_n 0, 1) := by decide +kernel
theorem d3_18 : decode jdk_42_method_149_code 18 = .ok (.ldc 7, 2) := by decide +kernel
theorem d3_20 : decode jdk_42_method_149_code 20 = .ok (.getfield 15, 3) := by decide +kernel
theorem d3_23 : decode jdk_42_method_149_code 23 = .ok (.putfield 15, 3) := by decide +kernel
theorem d3_26 : decode jdk_42_method_149_code 26 = .ok (.return_, 1) := by decide +kernel
theorem d1_0 : decode method_2_code 0 = .ok (.bipush 23, 2) := by decide +kernel
theorem d1_2 : decode method_2_code 2 = .ok (.newarray .char, 2) := by decide +kernel
theorem d1_4 : decode method_2_code 4 = .ok (.dup, 1) := by decide +kernel
theorem d1_5 : decode method_2_code 5 = .ok (.iconst 0, 1) := by decide +kernel
theorem d1_6 : decode method_2_code 6 = .ok (.bipush 106, 2) := by decide +kernel
theorem d1_8 : decode method_2_code 8 = .ok (.castore, 1) := by decide +kernel
theorem d1_9 : decode method_2_code 9 = .ok (.dup, 1) := by decide +kernel
theorem d1_10 : decode method_2_code 10 = .ok (.iconst 1, 1) := by decide +kernel
theorem d1_11 : decode method_2_code 11 = .ok (.bipush 97, 2) := by decide +kernel
theorem d1_13 : decode method_2_code 13 = .ok (.castore, 1) := by decide +kernel
theorem d1_14 : decode method_2_code 14 = .ok (.dup, 1) := by decide +kernel
theorem d1_15 : decode method_2_code 15 = .ok (.iconst 2, 1) := by decide +kernel
theorem d1_16 : decode method_2_code 16 = .ok (.bipush 118, 2) := by decide +kernel
theorem d1_18 : decode method_2_code 18 = .ok (.castore, 1) := by decide +kernel
theorem d1_19 : decode method_2_code 19 = .ok (.dup, 1) := by decide +kernel
theorem d1_20 : decode method_2_code 20 = .ok (.iconst 3, 1) := by decide +kernel
theorem d1_21 : decode method_2_code 21 = .ok (.bipush 97, 2) := by decide +kernel
theorem d1_23 : decode method_2_code 23 = .ok (.castore, 1) := by decide +kernel
theorem d1_24 : decode method_2_code 24 = .ok (.dup, 1) := by decide +kernel
theorem d1_25 : decode method_2_code 25 = .ok (.iconst 4, 1) := by decide +kernel
theorem d1_26 : decode method_2_code 26 = .ok (.bipush 120, 2) := by decide +kernel
theorem d1_28 : decode method_2_code 28 = .ok (.castore, 1) := by decide +kernel
theorem d1_29 : decode method_2_code 29 = .ok (.dup, 1) := by decide +kernel
theorem d1_30 : decode method_2_code 30 = .ok (.iconst 5, 1) := by decide +kernel
theorem d1_31 : decode method_2_code 31 = .ok (.bipush 46, 2) := by decide +kernel
theorem d1_33 : decode method_2_code 33 = .ok (.castore, 1) := by decide +kernel
theorem d1_34 : decode method_2_code 34 = .ok (.dup, 1) := by decide +kernel
theorem d1_35 : decode method_2_code 35 = .ok (.bipush 6, 2) := by decide +kernel
theorem d1_37 : decode method_2_code 37 = .ok (.bipush 115, 2) := by decide +kernel
theorem d1_39 : decode method_2_code 39 = .ok (.castore, 1) := by decide +kernel
theorem d1_40 : decode method_2_code 40 = .ok (.dup, 1) := by decide +kernel
theorem d1_41 : decode method_2_code 41 = .ok (.bipush 7, 2) := by decide +kernel
theorem d1_43 : decode method_2_code 43 = .ok (.bipush 101, 2) := by decide +kernel
theorem d1_45 : decode method_2_code 45 = .ok (.castore, 1) := by decide +kernel
theorem d1_46 : decode method_2_code 46 = .ok (.dup, 1) := by decide +kernel
theorem d1_47 : decode method_2_code 47 = .ok (.bipush 8, 2) := by decide +kernel
theorem d1_49 : decode method_2_code 49 = .ok (.bipush 99, 2) := by decide +kernel
theorem d1_51 : decode method_2_code 51 = .ok (.castore, 1) := by decide +kernel
theorem d1_52 : decode method_2_code 52 = .ok (.dup, 1) := by decide +kernel
theorem d1_53 : decode method_2_code 53 = .ok (.bipush 9, 2) := by decide +kernel
theorem d1_55 : decode method_2_code 55 = .ok (.bipush 117, 2) := by decide +kernel
theorem d1_57 : decode method_2_code 57 = .ok (.castore, 1) := by decide +kernel
theorem d1_58 : decode method_2_code 58 = .ok (.dup, 1) := by decide +kernel
theorem d1_59 : decode method_2_code 59 = .ok (.bipush 10, 2) := by decide +kernel
theorem d1_61 : decode method_2_code 61 = .ok (.bipush 114, 2) := by decide +kernel
theorem d1_63 : decode method_2_code 63 = .ok (.castore, 1) := by decide +kernel
theorem d1_64 : decode method_2_code 64 = .ok (.dup, 1) := by decide +kernel
theorem d1_65 : decode method_2_code 65 = .ok (.bipush 11, 2) := by decide +kernel
theorem d1_67 : decode method_2_code 67 = .ok (.bipush 105, 2) := by decide +kernel
theorem d1_69 : decode method_2_code 69 = .ok (.castore, 1) := by decide +kernel
theorem d1_70 : decode method_2_code 70 = .ok (.dup, 1) := by decide +kernel
theorem d1_71 : decode method_2_code 71 = .ok (.bipush 12, 2) := by decide +kernel
theorem d1_73 : decode method_2_code 73 = .ok (.bipush 116, 2) := by decide +kernel
theorem d1_75 : decode method_2_code 75 = .ok (.castore, 1) := by decide +kernel
theorem d1_76 : decode method_2_code 76 = .ok (.dup, 1) := by decide +kernel
theorem d1_77 : decode method_2_code 77 = .ok (.bipush 13, 2) := by decide +kernel
theorem d1_79 : decode method_2_code 79 = .ok (.bipush 121, 2) := by decide +kernel
theorem d1_81 : decode method_2_code 81 = .ok (.castore, 1) := by decide +kernel
theorem d1_82 : decode method_2_code 82 = .ok (.dup, 1) := by decide +kernel
theorem d1_83 : decode method_2_code 83 = .ok (.bipush 14, 2) := by decide +kernel
theorem d1_85 : decode method_2_code 85 = .ok (.bipush 46, 2) := by decide +kernel
theorem d1_87 : decode method_2_code 87 = .ok (.castore, 1) := by decide +kernel
theorem d1_88 : decode method_2_code 88 = .ok (.dup, 1) := by decide +kernel
theorem d1_89 : decode method_2_code 89 = .ok (.bipush 15, 2) := by decide +kernel
theorem d1_91 : decode method_2_code 91 = .ok (.bipush 115, 2) := by decide +kernel
theorem d1_93 : decode method_2_code 93 = .ok (.castore, 1) := by decide +kernel
theorem d1_94 : decode method_2_code 94 = .ok (.dup, 1) := by decide +kernel
theorem d1_95 : decode method_2_code 95 = .ok (.bipush 16, 2) := by decide +kernel
theorem d1_97 : decode method_2_code 97 = .ok (.bipush 97, 2) := by decide +kernel
theorem d1_99 : decode method_2_code 99 = .ok (.castore, 1) := by decide +kernel
theorem d1_100 : decode method_2_code 100 = .ok (.dup, 1) := by decide +kernel
theorem d1_101 : decode method_2_code 101 = .ok (.bipush 17, 2) := by decide +kernel
theorem d1_103 : decode method_2_code 103 = .ok (.bipush 115, 2) := by decide +kernel
theorem d1_105 : decode method_2_code 105 = .ok (.castore, 1) := by decide +kernel
theorem d1_106 : decode method_2_code 106 = .ok (.dup, 1) := by decide +kernel
theorem d1_107 : decode method_2_code 107 = .ok (.bipush 18, 2) := by decide +kernel
theorem d1_109 : decode method_2_code 109 = .ok (.bipush 108, 2) := by decide +kernel
theorem d1_111 : decode method_2_code 111 = .ok (.castore, 1) := by decide +kernel
theorem d1_112 : decode method_2_code 112 = .ok (.dup, 1) := by decide +kernel
theorem d1_113 : decode method_2_code 113 = .ok (.bipush 19, 2) := by decide +kernel
theorem d1_115 : decode method_2_code 115 = .ok (.bipush 46, 2) := by decide +kernel
theorem d1_117 : decode method_2_code 117 = .ok (.castore, 1) := by decide +kernel
theorem d1_118 : decode method_2_code 118 = .ok (.dup, 1) := by decide +kernel
theorem d1_119 : decode method_2_code 119 = .ok (.bipush 20, 2) := by decide +kernel
theorem d1_121 : decode method_2_code 121 = .ok (.bipush 113, 2) := by decide +kernel
theorem d1_123 : decode method_2_code 123 = .ok (.castore, 1) := by decide +kernel
theorem d1_124 : decode method_2_code 124 = .ok (.dup, 1) := by decide +kernel
theorem d1_125 : decode method_2_code 125 = .ok (.bipush 21, 2) := by decide +kernel
theorem d1_127 : decode method_2_code 127 = .ok (.bipush 111, 2) := by decide +kernel
theorem d1_129 : decode method_2_code 129 = .ok (.castore, 1) := by decide +kernel
theorem d1_130 : decode method_2_code 130 = .ok (.dup, 1) := by decide +kernel
theorem d1_131 : decode method_2_code 131 = .ok (.bipush 22, 2) := by decide +kernel
theorem d1_133 : decode method_2_code 133 = .ok (.bipush 112, 2) := by decide +kernel
theorem d1_135 : decode method_2_code 135 = .ok (.castore, 1) := by decide +kernel
theorem d1_136 : decode method_2_code 136 = .ok (.areturn, 1) := by decide +kernel
theorem pn_com_example_holdfast_holdfast_sasl_MechanismNegotiatedPropertyPinLaw : plainName "com/example/holdfast/holdfast/sasl/MechanismNegotiatedPropertyPinLaw" = true := by first | (simp [plainName, overriddenIn]; done) | decide +kernel
theorem d12_0 : decode jdk_43_method_3_code 0 = .ok (.iload_n 0, 1) := by decide +kernel
theorem d12_1 : decode jdk_43_method_3_code 1 = .ok (.sipush 255, 3) := by decide +kernel
theorem d12_4 : decode jdk_43_method_3_code 4 = .ok (.if_icmp .gt 7, 3) := by decide +kernel
theorem d12_7 : decode jdk_43_method_3_code 7 = .ok (.iconst 1, 1) := by decide +kernel
theorem d12_8 : decode jdk_43_method_3_code 8 = .ok (.goto 4, 3) := by decide +kernel
theorem d12_12 : decode jdk_43_method_3_code 12 = .ok (.ireturn, 1) := by decide +kernel
theorem pn_java_lang_StringLatin1 : plainName "java/lang/StringLatin1" = true := by first | (simp [plainName, overriddenIn]; done) | decide +kernel
theorem d13_0 : decode jdk_43_method_46_code 0 = .ok (.iconst 1, 1) := by decide +kernel
theorem d13_1 : decode jdk_43_method_46_code 1 = .ok (.newarray .byte, 2) := by decide +kernel
theorem d13_3 : decode jdk_43_method_46_code 3 = .ok (.dup, 1) := by decide +kernel
theorem d13_4 : decode jdk_43_method_46_code 4 = .ok (.iconst 0, 1) := by decide +kernel
theorem d13_5 : decode jdk_43_method_46_code 5 = .ok (.iload_n 0, 1) := by decide +kernel
theorem d13_6 : decode jdk_43_method_46_code 6 = .ok (.i2b, 1) := by decide +kernel
theorem d13_7 : decode jdk_43_method_46_code 7 = .ok (.bastore, 1) := by decide +kernel
theorem d13_8 : decode jdk_43_method_46_code 8 = .ok (.areturn, 1) := by decide +kernel
theorem d14_0 : decode jdk_42_method_151_code 0 = .ok (.aload_n 0, 1) := by decide +kernel
theorem d14_1 : decode jdk_42_method_151_code 1 = .ok (.invokespecial 1, 3) := by decide +kernel
theorem d14_4 : decode jdk_42_method_151_code 4 = .ok (.aload_n 0, 1) := by decide +kernel
theorem d14_5 : decode jdk_42_method_151_code 5 = .ok (.aload_n 1, 1) := by decide +kernel
theorem d14_6 : decode jdk_42_method_151_code 6 = .ok (.putfield 9, 3) := by decide +kernel
theorem d14_9 : decode jdk_42_method_151_code 9 = .ok (.aload_n 0, 1) := by decide +kernel
theorem d14_10 : decode jdk_42_method_151_code 10 = .ok (.iload_n 2, 1) := by decide +kernel
theorem d14_11 : decode jdk_42_method_151_code 11 = .ok (.putfield 15, 3) := by decide +kernel
theorem d14_14 : decode jdk_42_method_151_code 14 = .ok (.return_, 1) := by decide +kernel
theorem d11_0 : decode jdk_42_method_139_code 0 = .ok (.getstatic 38, 3) := by decide +kernel
theorem d11_3 : decode jdk_42_method_139_code 3 = .ok (.ifCond .eq 23, 3) := by decide +kernel
theorem d11_6 : decode jdk_42_method_139_code 6 = .ok (.iload_n 0, 1) := by decide +kernel
theorem d11_7 : decode jdk_42_method_139_code 7 = .ok (.invokestatic 1015, 3) := by decide +kernel
theorem pd__C_Z : parseMethodDescriptor "(C)Z" = some ⟨[.char], some .boolean⟩ := by decide +kernel
theorem d11_10 : decode jdk_42_method_139_code 10 = .ok (.ifCond .eq 16, 3) := by decide +kernel
theorem d11_13 : decode jdk_42_method_139_code 13 = .ok (.new 10, 3) := by decide +kernel
theorem d11_16 : decode jdk_42_method_139_code 16 = .ok (.dup, 1) := by decide +kernel
theorem d11_17 : decode jdk_42_method_139_code 17 = .ok (.iload_n 0, 1) := by decide +kernel
theorem d11_18 : decode jdk_42_method_139_code 18 = .ok (.invokestatic 1018, 3) := by decide +kernel
theorem pd__C__B : parseMethodDescriptor "(C)[B" = some ⟨[.char], some (.array .byte)⟩ := by decide +kernel
theorem d11_21 : decode jdk_42_method_139_code 21 = .ok (.iconst 0, 1) := by decide +kernel
theorem d11_22 : decode jdk_42_method_139_code 22 = .ok (.invokespecial 209, 3) := by decide +kernel
theorem pd___BB_V : parseMethodDescriptor "([BB)V" = some ⟨[(.array .byte), .byte], none⟩ := by decide +kernel
theorem d11_25 : decode jdk_42_method_139_code 25 = .ok (.areturn, 1) := by decide +kernel
theorem d10_0 : decode jdk_43_method_13_code 0 = .ok (.aload_n 0, 1) := by decide +kernel
theorem d10_1 : decode jdk_43_method_13_code 1 = .ok (.arraylength, 1) := by decide +kernel
theorem d10_2 : decode jdk_43_method_13_code 2 = .ok (.aload_n 1, 1) := by decide +kernel
theorem d10_3 : decode jdk_43_method_13_code 3 = .ok (.arraylength, 1) := by decide +kernel
theorem d10_4 : decode jdk_43_method_13_code 4 = .ok (.if_icmp .ne 30, 3) := by decide +kernel
theorem d10_7 : decode jdk_43_method_13_code 7 = .ok (.iconst 0, 1) := by decide +kernel
theorem d10_8 : decode jdk_43_method_13_code 8 = .ok (.istore_n 2, 1) := by decide +kernel
theorem d10_9 : decode jdk_43_method_13_code 9 = .ok (.iload_n 2, 1) := by decide +kernel
theorem d10_10 : decode jdk_43_method_13_code 10 = .ok (.aload_n 0, 1) := by decide +kernel
theorem d10_11 : decode jdk_43_method_13_code 11 = .ok (.arraylength, 1) := by decide +kernel
theorem d10_12 : decode jdk_43_method_13_code 12 = .ok (.if_icmp .ge 20, 3) := by decide +kernel
theorem d10_15 : decode jdk_43_method_13_code 15 = .ok (.aload_n 0, 1) := by decide +kernel
theorem d10_16 : decode jdk_43_method_13_code 16 = .ok (.iload_n 2, 1) := by decide +kernel
theorem d10_17 : decode jdk_43_method_13_code 17 = .ok (.baload, 1) := by decide +kernel
theorem d10_18 : decode jdk_43_method_13_code 18 = .ok (.aload_n 1, 1) := by decide +kernel
theorem d10_19 : decode jdk_43_method_13_code 19 = .ok (.iload_n 2, 1) := by decide +kernel
theorem d10_20 : decode jdk_43_method_13_code 20 = .ok (.baload, 1) := by decide +kernel
theorem d10_21 : decode jdk_43_method_13_code 21 = .ok (.if_icmp .eq 5, 3) := by decide +kernel
theorem d10_26 : decode jdk_43_method_13_code 26 = .ok (.iinc 2 1, 3) := by decide +kernel
theorem d10_29 : decode jdk_43_method_13_code 29 = .ok (.goto (-20), 3) := by decide +kernel
theorem d10_32 : decode jdk_43_method_13_code 32 = .ok (.iconst 1, 1) := by decide +kernel
theorem d10_33 : decode jdk_43_method_13_code 33 = .ok (.ireturn, 1) := by decide +kernel
theorem d10_24 : decode jdk_43_method_13_code 24 = .ok (.iconst 0, 1) := by decide +kernel
theorem d10_25 : decode jdk_43_method_13_code 25 = .ok (.ireturn, 1) := by decide +kernel
theorem d9_0 : decode jdk_42_method_66_code 0 = .ok (.aload_n 0, 1) := by decide +kernel
theorem d9_1 : decode jdk_42_method_66_code 1 = .ok (.aload_n 1, 1) := by decide +kernel
theorem d9_2 : decode jdk_42_method_66_code 2 = .ok (.if_acmp .ne 5, 3) := by decide +kernel
theorem d9_7 : decode jdk_42_method_66_code 7 = .ok (.aload_n 1, 1) := by decide +kernel
theorem d9_8 : decode jdk_42_method_66_code 8 = .ok (.instanceof 10, 3) := by decide +kernel
theorem d9_11 : decode jdk_42_method_66_code 11 = .ok (.ifCond .eq 43, 3) := by decide +kernel
theorem d9_14 : decode jdk_42_method_66_code 14 = .ok (.aload_n 1, 1) := by decide +kernel
theorem d9_15 : decode jdk_42_method_66_code 15 = .ok (.checkcast 10, 3) := by decide +kernel
theorem d9_18 : decode jdk_42_method_66_code 18 = .ok (.astore_n 2, 1) := by decide +kernel
theorem d9_19 : decode jdk_42_method_66_code 19 = .ok (.getstatic 38, 3) := by decide +kernel
theorem d9_22 : decode jdk_42_method_66_code 22 = .ok (.ifCond .eq 14, 3) := by decide +kernel
theorem d9_25 : decode jdk_42_method_66_code 25 = .ok (.aload_n 0, 1) := by decide +kernel
theorem d9_26 : decode jdk_42_method_66_code 26 = .ok (.getfield 15, 3) := by decide +kernel
theorem d9_29 : decode jdk_42_method_66_code 29 = .ok (.aload_n 2, 1) := by decide +kernel
theorem d9_30 : decode jdk_42_method_66_code 30 = .ok (.getfield 15, 3) := by decide +kernel
theorem d9_33 : decode jdk_42_method_66_code 33 = .ok (.if_icmp .ne 21, 3) := by decide +kernel
theorem d9_36 : decode jdk_42_method_66_code 36 = .ok (.aload_n 0, 1) := by decide +kernel
theorem d9_37 : decode jdk_42_method_66_code 37 = .ok (.getfield 9, 3) := by decide +kernel
theorem d9_40 : decode jdk_42_method_66_code 40 = .ok (.aload_n 2, 1) := by decide +kernel
theorem d9_41 : decode jdk_42_method_66_code 41 = .ok (.getfield 9, 3) := by decide +kernel
theorem d9_44 : decode jdk_42_method_66_code 44 = .ok (.invokestatic 541, 3) := by decide +kernel
theorem pd___B_B_Z : parseMethodDescriptor "([B[B)Z" = some ⟨[(.array .byte), (.array .byte)], some .boolean⟩ := by decide +kernel
theorem d9_47 : decode jdk_42_method_66_code 47 = .ok (.ifCond .eq 7, 3) := by decide +kernel
theorem d9_50 : decode jdk_42_method_66_code 50 = .ok (.iconst 1, 1) := by decide +kernel
theorem d9_51 : decode jdk_42_method_66_code 51 = .ok (.goto 4, 3) := by decide +kernel
theorem d9_55 : decode jdk_42_method_66_code 55 = .ok (.ireturn, 1) := by decide +kernel
theorem d9_54 : decode jdk_42_method_66_code 54 = .ok (.iconst 0, 1) := by decide +kernel
theorem d10_34 : decode jdk_43_method_13_code 34 = .ok (.iconst 0, 1) := by decide +kernel
theorem d10_35 : decode jdk_43_method_13_code 35 = .ok (.ireturn, 1) := by decide +kernel
theorem d9_5 : decode jdk_42_method_66_code 5 = .ok (.iconst 1, 1) := by decide +kernel
theorem d9_6 : decode jdk_42_method_66_code 6 = .ok (.ireturn, 1) := by decide +kernel
theorem d8_0 : decode prog_54_method_9_code 0 = .ok (.iload_n 1, 1) := by decide +kernel
theorem d8_1 : decode prog_54_method_9_code 1 = .ok (.ifCond .ne 8, 3) := by decide +kernel
theorem d8_9 : decode prog_54_method_9_code 9 = .ok (.ldc 97, 2) := by decide +kernel
theorem d8_11 : decode prog_54_method_9_code 11 = .ok (.aload_n 2, 1) := by decide +kernel
theorem d8_12 : decode prog_54_method_9_code 12 = .ok (.invokevirtual 99, 3) := by decide +kernel
theorem pd__Ljava_lang_Object__Z : parseMethodDescriptor "(Ljava/lang/Object;)Z" = some ⟨[(.object "java/lang/Object")], some .boolean⟩ := by decide +kernel
theorem d8_15 : decode prog_54_method_9_code 15 = .ok (.ifCond .eq 8, 3) := by decide +kernel
theorem d8_18 : decode prog_54_method_9_code 18 = .ok (.ldc 105, 2) := by decide +kernel
theorem d8_20 : decode prog_54_method_9_code 20 = .ok (.goto 4, 3) := by decide +kernel
theorem d8_24 : decode prog_54_method_9_code 24 = .ok (.areturn, 1) := by decide +kernel
theorem d8_23 : decode prog_54_method_9_code 23 = .ok (.aconst_null, 1) := by decide +kernel
theorem pn_com_example_holdfast_holdfast_sasl_Mechanism : plainName "com/example/holdfast/holdfast/sasl/Mechanism" = true := by first | (simp [plainName, overriddenIn]; done) | decide +kernel
theorem pd____C : parseMethodDescriptor "()[C" = some ⟨[], some (.array .char)⟩ := by decide +kernel
theorem pd___C_V : parseMethodDescriptor "([C)V" = some ⟨[(.array .char)], none⟩ := by decide +kernel
theorem pd__ZLjava_lang_String__Ljava_lang_Object_ : parseMethodDescriptor "(ZLjava/lang/String;)Ljava/lang/Object;" = some ⟨[.boolean, (.object "java/lang/String")], some (.object "java/lang/Object")⟩ := by decide +kernel
theorem pd__C_Ljava_lang_String_ : parseMethodDescriptor "(C)Ljava/lang/String;" = some ⟨[.char], some (.object "java/lang/String")⟩ := by decide +kernel
theorem ct_cmp22 (l : Launch) (Z : State) (a0 : Array Value) (hw : HW a0 Z) {cS : Int32} {m1 : Addr} {m2 : Addr} (am : Amb Z a0 cS m1 m2) {b : Addr} {t : Addr} {kC : ClassId} {kB : ClassId} {c0 : Int32} {c1 : Int32} {c2 : Int32} {c3 : Int32} {c4 : Int32} {c5 : Int32} {c6 : Int32} {c7 : Int32} {c8 : Int32} {c9 : Int32} {c10 : Int32} {c11 : Int32} {c12 : Int32} {c13 : Int32} {c14 : Int32} {c15 : Int32} {c16 : Int32} {c17 : Int32} {c18 : Int32} {c19 : Int32} {c20 : Int32} {c21 : Int32} {h0 : Heap} (p0 : Arv Z h0 b kC .char (22 : Int32) [(.int c0), (.int c1), (.int c2), (.int c3), (.int c4), (.int c5), (.int c6), (.int c7), (.int c8), (.int c9), (.int c10), (.int c11), (.int c12), (.int c13), (.int c14), (.int c15), (.int c16), (.int c17), (.int c18), (.int c19), (.int c20), (.int c21)] (.int 0)) (p1 : Arv Z h0 t kB .byte (22 : Int32) [(.int 0), (.int 0), (.int 0), (.int 0), (.int 0), (.int 0), (.int 0), (.int 0), (.int 0), (.int 0), (.int 0), (.int 0), (.int 0), (.int 0), (.int 0), (.int 0), (.int 0), (.int 0), (.int 0), (.int 0), (.int 0), (.int 0)] (.int 0)) (l0 : ¬ (255 : Int32) < c0) (l1 : ¬ (255 : Int32) < c1) (l2 : ¬ (255 : Int32) < c2) (l3 : ¬ (255 : Int32) < c3) (l4 : ¬ (255 : Int32) < c4) (l5 : ¬ (255 : Int32) < c5) (l6 : ¬ (255 : Int32) < c6) (l7 : ¬ (255 : Int32) < c7) (l8 : ¬ (255 : Int32) < c8) (l9 : ¬ (255 : Int32) < c9) (l10 : ¬ (255 : Int32) < c10) (l11 : ¬ (255 : Int32) < c11) (l12 : ¬ (255 : Int32) < c12) (l13 : ¬ (255 : Int32) < c13) (l14 : ¬ (255 : Int32) < c14) (l15 : ¬ (255 : Int32) < c15) (l16 : ¬ (255 : Int32) < c16) (l17 : ¬ (255 : Int32) < c17) (l18 : ¬ (255 : Int32) < c18) (l19 : ¬ (255 : Int32) < c19) (l20 : ¬ (255 : Int32) < c20) (l21 : ¬ (255 : Int32) < c21) (hbt : b ≠ t) :
    Py l Z (⟨"java/lang/StringUTF16", "compress", "([CI[BII)I"⟩ : MethodName) 1 18 0 0 #[(.ref b), (.int 0), (.ref t), (.int 0), (.int 22)] h0 [t] (fun rv h' => rv = some (.int 22) ∧ Arv Z h' t kB .byte (22 : Int32) [(.int (lo8 c0)), (.int (lo8 c1)), (.int (lo8 c2)), (.int (lo8 c3)), (.int (lo8 c4)), (.int (lo8 c5)), (.int (lo8 c6)), (.int (lo8 c7)), (.int (lo8 c8)), (.int (lo8 c9)), (.int (lo8 c10)), (.int (lo8 c11)), (.int (lo8 c12)), (.int (lo8 c13)), (.int (lo8 c14)), (.int (lo8 c15)), (.int (lo8 c16)), (.int (lo8 c17)), (.int (lo8 c18)), (.int (lo8 c19)), (.int (lo8 c20)), (.int (lo8 c21))] (.int 0)) := by
  refine Ct.py (by0 := jdk_52_method_21_code) (ml := 7) (rt := (some .int)) (rm := ({ frames := 0, cells := 0, slots := 0, locals := 0 } : Room)) ?_ (hq hw 29 rfl) (hq hw 24 rfl)
  refine Ct.mk (a0 := a0) (Ls := #[.val (.ref b), .val (.int 0), .val (.ref t), .val (.int 0), .val (.int 22), .unset, .unset]) (plainFor_of_name pn_java_lang_StringUTF16) (fun m => by first | (simp [entryFrame, mkF, argsToLocals, Value.category]; done) | rfl) ?_
  intro κ C
  show Go l _ Z _ _ _ κ [t] h0 0 #[.val (.ref b), .val (.int 0), .val (.ref t), .val (.int 0), .val (.int 22), .unset, .unset] [] 0 0
  refine go_iconst C 1 (0 : Int32) d6_0 rfl (by decide) ?_
  refine go_istore C 3 (Ls' := #[.val (.ref b), .val (.int 0), .val (.ref t), .val (.int 0), .val (.int 22), .val (.int 0), .unset]) d6_1 rfl rfl ?_
  refine go_iload C 5 d6_3 rfl rfl ?_
  refine go_iload C 7 d6_5 rfl rfl ?_
  refine go_icmpN C 10 d6_7 rfl (tlt ((by decide) : (0 : Int32) < (22 : Int32))).2.1 ?_
  refine go_aloadN C 11 d6_10 rfl rfl rfl ?_
  refine go_iloadN C 12 d6_11 rfl rfl ?_
  refine go_caload C 13 (v := (.int c0)) d6_12 rfl p0 (by decide) rfl ?_
  refine go_istore C 15 (Ls' := #[.val (.ref b), .val (.int 0), .val (.ref t), .val (.int 0), .val (.int 22), .val (.int 0), .val (.int c0)]) d6_13 rfl rfl ?_
  refine go_iload C 17 d6_15 rfl rfl ?_
  refine go_sipush C 20 (255 : Int32) d6_17 rfl (by decide) ?_
  refine go_icmpY C (pc' := 26) d6_20 (flt (l0 : ¬ ((255 : Int32) < c0))).2.2.2 (by decide) (by decide) ?_
  refine go_aloadN C 27 d6_26 rfl rfl rfl ?_
  refine go_iloadN C 28 d6_27 rfl rfl ?_
  refine go_iload C 30 d6_28 rfl rfl ?_
  refine go_i2b C 31 (lo8 c0) d6_30 rfl rfl ?_
  refine go_bastore C 32 0 (v := (lo8 c0)) (nar_lo8 _) d6_31 rfl p1 (by decide) rfl (nble rfl) (mi 0 rfl) ?_
  intro h1 W2 fx3
  have fx4 : Arv Z h1 t kB .byte (22 : Int32) [(.int (lo8 c0)), (.int 0), (.int 0), (.int 0), (.int 0), (.int 0), (.int 0), (.int 0), (.int 0), (.int 0), (.int 0), (.int 0), (.int 0), (.int 0), (.int 0), (.int 0), (.int 0), (.int 0), (.int 0), (.int 0), (.int 0), (.int 0)] (.int 0) := fx3
  refine go_iinc C 35 (Ls' := #[.val (.ref b), .val (.int 1), .val (.ref t), .val (.int 0), .val (.int 22), .val (.int 0), .val (.int c0)]) (1 : Int32) d6_32 rfl (by decide) rfl rfl ?_
  refine go_iinc C 38 (Ls' := #[.val (.ref b), .val (.int 1), .val (.ref t), .val (.int 1), .val (.int 22), .val (.int 0), .val (.int c0)]) (1 : Int32) d6_35 rfl (by decide) rfl rfl ?_
  refine go_iinc C 41 (Ls' := #[.val (.ref b), .val (.int 1), .val (.ref t), .val (.int 1), .val (.int 22), .val (.int 1), .val (.int c0)]) (1 : Int32) d6_38 rfl (by decide) rfl rfl ?_
  refine go_goto C (pc' := 3) d6_41 (by decide) (by decide) ?_
  refine go_iload C 5 d6_3 rfl rfl ?_
  refine go_iload C 7 d6_5 rfl rfl ?_
  refine go_icmpN C 10 d6_7 rfl (tlt ((by decide) : (1 : Int32) < (22 : Int32))).2.1 ?_
  refine go_aloadN C 11 d6_10 rfl rfl rfl ?_
  refine go_iloadN C 12 d6_11 rfl rfl ?_
  have fx5 := (p0.other W2 hbt)
  refine go_caload C 13 (v := (.int c1)) d6_12 rfl fx5 (by decide) rfl ?_
  refine go_istore C 15 (Ls' := #[.val (.ref b), .val (.int 1), .val (.ref t), .val (.int 1), .val (.int 22), .val (.int 1), .val (.int c1)]) d6_13 rfl rfl ?_
  refine go_iload C 17 d6_15 rfl rfl ?_
  refine go_sipush C 20 (255 : Int32) d6_17 rfl (by decide) ?_
  refine go_icmpY C (pc' := 26) d6_20 (flt (l1 : ¬ ((255 : Int32) < c1))).2.2.2 (by decide) (by decide) ?_
  refine go_aloadN C 27 d6_26 rfl rfl rfl ?_
  refine go_iloadN C 28 d6_27 rfl rfl ?_
  refine go_iload C 30 d6_28 rfl rfl ?_
  refine go_i2b C 31 (lo8 c1) d6_30 rfl rfl ?_
  refine go_bastore C 32 1 (v := (lo8 c1)) (nar_lo8 _) d6_31 rfl fx4 (by decide) rfl (nble rfl) (mi 0 rfl) ?_
  intro h6 W7 fx8
  have fx9 : Arv Z h6 t kB .byte (22 : Int32) [(.int (lo8 c0)), (.int (lo8 c1)), (.int 0), (.int 0), (.int 0), (.int 0), (.int 0), (.int 0), (.int 0), (.int 0), (.int 0), (.int 0), (.int 0), (.int 0), (.int 0), (.int 0), (.int 0), (.int 0), (.int 0), (.int 0), (.int 0), (.int 0)] (.int 0) := fx8
  refine go_iinc C 35 (Ls' := #[.val (.ref b), .val (.int 2), .val (.ref t), .val (.int 1), .val (.int 22), .val (.int 1), .val (.int c1)]) (1 : Int32) d6_32 rfl (by decide) rfl rfl ?_
  refine go_iinc C 38 (Ls' := #[.val (.ref b), .val (.int 2), .val (.ref t), .val (.int 2), .val (.int 22), .val (.int 1), .val (.int c1)]) (1 : Int32) d6_35 rfl (by decide) rfl rfl ?_
  refine go_iinc C 41 (Ls' := #[.val (.ref b), .val (.int 2), .val (.ref t), .val (.int 2), .val (.int 22), .val (.int 2), .val (.int c1)]) (1 : Int32) d6_38 rfl (by decide) rfl rfl ?_
  refine go_goto C (pc' := 3) d6_41 (by decide) (by decide) ?_
  refine go_iload C 5 d6_3 rfl rfl ?_
  refine go_iload C 7 d6_5 rfl rfl ?_
  refine go_icmpN C 10 d6_7 rfl (tlt ((by decide) : (2 : Int32) < (22 : Int32))).2.1 ?_
  refine go_aloadN C 11 d6_10 rfl rfl rfl ?_
  refine go_iloadN C 12 d6_11 rfl rfl ?_
  have fx10 := (fx5.other W7 hbt)
  refine go_caload C 13 (v := (.int c2)) d6_12 rfl fx10 (by decide) rfl ?_
  refine go_istore C 15 (Ls' := #[.val (.ref b), .val (.int 2), .val (.ref t), .val (.int 2), .val (.int 22), .val (.int 2), .val (.int c2)]) d6_13 rfl rfl ?_
  refine go_iload C 17 d6_15 rfl rfl ?_
  refine go_sipush C 20 (255 : Int32) d6_17 rfl (by decide) ?_
  refine go_icmpY C (pc' := 26) d6_20 (flt (l2 : ¬ ((255 : Int32) < c2))).2.2.2 (by decide) (by decide) ?_
  refine go_aloadN C 27 d6_26 rfl rfl rfl ?_
  refine go_iloadN C 28 d6_27 rfl rfl ?_
  refine go_iload C 30 d6_28 rfl rfl ?_
  refine go_i2b C 31 (lo8 c2) d6_30 rfl rfl ?_
  refine go_bastore C 32 2 (v := (lo8 c2)) (nar_lo8 _) d6_31 rfl fx9 (by decide) rfl (nble rfl) (mi 0 rfl) ?_
  intro h11 W12 fx13
  have fx14 : Arv Z h11 t kB .byte (22 : Int32) [(.int (lo8 c0)), (.int (lo8 c1)), (.int (lo8 c2)), (.int 0), (.int 0), (.int 0), (.int 0), (.int 0), (.int 0), (.int 0), (.int 0), (.int 0), (.int 0), (.int 0), (.int 0), (.int 0), (.int 0), (.int 0), (.int 0), (.int 0), (.int 0), (.int 0)] (.int 0) := fx13
  refine go_iinc C 35 (Ls' := #[.val (.ref b), .val (.int 3), .val (.ref t), .val (.int 2), .val (.int 22), .val (.int 2), .val (.int c2)]) (1 : Int32) d6_32 rfl (by decide) rfl rfl ?_
  refine go_iinc C 38 (Ls' := #[.val (.ref b), .val (.int 3), .val (.ref t), .val (.int 3), .val (.int 22), .val (.int 2), .val (.int c2)]) (1 : Int32) d6_35 rfl (by decide) rfl rfl ?_
  refine go_iinc C 41 (Ls' := #[.val (.ref b), .val (.int 3), .val (.ref t), .val (.int 3), .val (.int 22), .val (.int 3), .val (.int c2)]) (1 : Int32) d6_38 rfl (by decide) rfl rfl ?_
  refine go_goto C (pc' := 3) d6_41 (by decide) (by decide) ?_
  refine go_iload C 5 d6_3 rfl rfl ?_
  refine go_iload C 7 d6_5 rfl rfl ?_
  refine go_icmpN C 10 d6_7 rfl (tlt ((by decide) : (3 : Int32) < (22 : Int32))).2.1 ?_
  refine go_aloadN C 11 d6_10 rfl rfl rfl ?_
  refine go_iloadN C 12 d6_11 rfl rfl ?_
  have fx15 := (fx10.other W12 hbt)
  refine go_caload C 13 (v := (.int c3)) d6_12 rfl fx15 (by decide) rfl ?_
  refine go_istore C 15 (Ls' := #[.val (.ref b), .val (.int 3), .val (.ref t), .val (.int 3), .val (.int 22), .val (.int 3), .val (.int c3)]) d6_13 rfl rfl ?_
  refine go_iload C 17 d6_15 rfl rfl ?_
  refine go_sipush C 20 (255 : Int32) d6_17 rfl (by decide) ?_
  refine go_icmpY C (pc' := 26) d6_20 (flt (l3 : ¬ ((255 : Int32) < c3))).2.2.2 (by decide) (by decide) ?_
  refine go_aloadN C 27 d6_26 rfl rfl rfl ?_
  refine go_iloadN C 28 d6_27 rfl rfl ?_
  refine go_iload C 30 d6_28 rfl rfl ?_
  refine go_i2b C 31 (lo8 c3) d6_30 rfl rfl ?_
  refine go_bastore C 32 3 (v := (lo8 c3)) (nar_lo8 _) d6_31 rfl fx14 (by decide) rfl (nble rfl) (mi 0 rfl) ?_
  intro h16 W17 fx18
  have fx19 : Arv Z h16 t kB .byte (22 : Int32) [(.int (lo8 c0)), (.int (lo8 c1)), (.int (lo8 c2)), (.int (lo8 c3)), (.int 0), (.int 0), (.int 0), (.int 0), (.int 0), (.int 0), (.int 0), (.int 0), (.int 0), (.int 0), (.int 0), (.int 0), (.int 0), (.int 0), (.int 0), (.int 0), (.int 0), (.int 0)] (.int 0) := fx18
  refine go_iinc C 35 (Ls' := #[.val (.ref b), .val (.int 4), .val (.ref t), .val (.int 3), .val (.int 22), .val (.int 3), .val (.int c3)]) (1 : Int32) d6_32 rfl (by decide) rfl rfl ?_
  refine go_iinc C 38 (Ls' := #[.val (.ref b), .val (.int 4), .val (.ref t), .val (.int 4), .val (.int 22), .val (.int 3), .val (.int c3)]) (1 : Int32) d6_35 rfl (by decide) rfl rfl ?_
  refine go_iinc C 41 (Ls' := #[.val (.ref b), .val (.int 4), .val (.ref t), .val (.int 4), .val (.int 22), .val (.int 4), .val (.int c3)]) (1 : Int32) d6_38 rfl (by decide) rfl rfl ?_
  refine go_goto C (pc' := 3) d6_41 (by decide) (by decide) ?_
  refine go_iload C 5 d6_3 rfl rfl ?_
  refine go_iload C 7 d6_5 rfl rfl ?_
  refine go_icmpN C 10 d6_7 rfl (tlt ((by decide) : (4 : Int32) < (22 : Int32))).2.1 ?_
  refine go_aloadN C 11 d6_10 rfl rfl rfl ?_
  refine go_iloadN C 12 d6_11 rfl rfl ?_
  have fx20 := (fx15.other W17 hbt)
  refine go_caload C 13 (v := (.int c4)) d6_12 rfl fx20 (by decide) rfl ?_
  refine go_istore C 15 (Ls' := #[.val (.ref b), .val (.int 4), .val (.ref t), .val (.int 4), .val (.int 22), .val (.int 4), .val (.int c4)]) d6_13 rfl rfl ?_
  refine go_iload C 17 d6_15 rfl rfl ?_
  refine go_sipush C 20 (255 : Int32) d6_17 rfl (by decide) ?_
  refine go_icmpY C (pc' := 26) d6_20 (flt (l4 : ¬ ((255 : Int32) < c4))).2.2.2 (by decide) (by decide) ?_
  refine go_aloadN C 27 d6_26 rfl rfl rfl ?_
  refine go_iloadN C 28 d6_27 rfl rfl ?_
  refine go_iload C 30 d6_28 rfl rfl ?_
  refine go_i2b C 31 (lo8 c4) d6_30 rfl rfl ?_
  refine go_bastore C 32 4 (v := (lo8 c4)) (nar_lo8 _) d6_31 rfl fx19 (by decide) rfl (nble rfl) (mi 0 rfl) ?_
  intro h21 W22 fx23
  have fx24 : Arv Z h21 t kB .byte (22 : Int32) [(.int (lo8 c0)), (.int (lo8 c1)), (.int (lo8 c2)), (.int (lo8 c3)), (.int (lo8 c4)), (.int 0), (.int 0), (.int 0), (.int 0), (.int 0), (.int 0), (.int 0), (.int 0), (.int 0), (.int 0), (.int 0), (.int 0), (.int 0), (.int 0), (.int 0), (.int 0), (.int 0)] (.int 0) := fx23
  refine go_iinc C 35 (Ls' := #[.val (.ref b), .val (.int 5), .val (.ref t), .val (.int 4), .val (.int 22), .val (.int 4), .val (.int c4)]) (1 : Int32) d6_32 rfl (by decide) rfl rfl ?_
  refine go_iinc C 38 (Ls' := #[.val (.ref b), .val (.int 5), .val (.ref t), .val (.int 5), .val (.int 22), .val (.int 4), .val (.int c4)]) (1 : Int32) d6_35 rfl (by decide) rfl rfl ?_
  refine go_iinc C 41 (Ls' := #[.val (.ref b), .val (.int 5), .val (.ref t), .val (.int 5), .val (.int 22), .val (.int 5), .val (.int c4)]) (1 : Int32) d6_38 rfl (by decide) rfl rfl ?_
  refine go_goto C (pc' := 3) d6_41 (by decide) (by decide) ?_
  refine go_iload C 5 d6_3 rfl rfl ?_
  refine go_iload C 7 d6_5 rfl rfl ?_
  refine go_icmpN C 10 d6_7 rfl (tlt ((by decide) : (5 : Int32) < (22 : Int32))).2.1 ?_
  refine go_aloadN C 11 d6_10 rfl rfl rfl ?_
  refine go_iloadN C 12 d6_11 rfl rfl ?_
  have fx25 := (fx20.other W22 hbt)
  refine go_caload C 13 (v := (.int c5)) d6_12 rfl fx25 (by decide) rfl ?_
  refine go_istore C 15 (Ls' := #[.val (.ref b), .val (.int 5), .val (.ref t), .val (.int 5), .val (.int 22), .val (.int 5), .val (.int c5)]) d6_13 rfl rfl ?_
  refine go_iload C 17 d6_15 rfl rfl ?_
  refine go_sipush C 20 (255 : Int32) d6_17 rfl (by decide) ?_
  refine go_icmpY C (pc' := 26) d6_20 (flt (l5 : ¬ ((255 : Int32) < c5))).2.2.2 (by decide) (by decide) ?_
  refine go_aloadN C 27 d6_26 rfl rfl rfl ?_
  refine go_iloadN C 28 d6_27 rfl rfl ?_
  refine go_iload C 30 d6_28 rfl rfl ?_
  refine go_i2b C 31 (lo8 c5) d6_30 rfl rfl ?_
  refine go_bastore C 32 5 (v := (lo8 c5)) (nar_lo8 _) d6_31 rfl fx24 (by decide) rfl (nble rfl) (mi 0 rfl) ?_
  intro h26 W27 fx28
  have fx29 : Arv Z h26 t kB .byte (22 : Int32) [(.int (lo8 c0)), (.int (lo8 c1)), (.int (lo8 c2)), (.int (lo8 c3)), (.int (lo8 c4)), (.int (lo8 c5)), (.int 0), (.int 0), (.int 0), (.int 0), (.int 0), (.int 0), (.int 0), (.int 0), (.int 0), (.int 0), (.int 0), (.int 0), (.int 0), (.int 0), (.int 0), (.int 0)] (.int 0) := fx28
  refine go_iinc C 35 (Ls' := #[.val (.ref b), .val (.int 6), .val (.ref t), .val (.int 5), .val (.int 22), .val (.int 5), .val (.int c5)]) (1 : Int32) d6_32 rfl (by decide) rfl rfl ?_
  refine go_iinc C 38 (Ls' := #[.val (.ref b), .val (.int 6), .val (.ref t), .val (.int 6), .val (.int 22), .val (.int 5), .val (.int c5)]) (1 : Int32) d6_35 rfl (by decide) rfl rfl ?_
  refine go_iinc C 41 (Ls' := #[.val (.ref b), .val (.int 6), .val (.ref t), .val (.int 6), .val (.int 22), .val (.int 6), .val (.int c5)]) (1 : Int32) d6_38 rfl (by decide) rfl rfl ?_
  refine go_goto C (pc' := 3) d6_41 (by decide) (by decide) ?_
  refine go_iload C 5 d6_3 rfl rfl ?_
  refine go_iload C 7 d6_5 rfl rfl ?_
  refine go_icmpN C 10 d6_7 rfl (tlt ((by decide) : (6 : Int32) < (22 : Int32))).2.1 ?_
  refine go_aloadN C 11 d6_10 rfl rfl rfl ?_
  refine go_iloadN C 12 d6_11 rfl rfl ?_
  have fx30 := (fx25.other W27 hbt)
  refine go_caload C 13 (v := (.int c6)) d6_12 rfl fx30 (by decide) rfl ?_
  refine go_istore C 15 (Ls' := #[.val (.ref b), .val (.int 6), .val (.ref t), .val (.int 6), .val (.int 22), .val (.int 6), .val (.int c6)]) d6_13 rfl rfl ?_
  refine go_iload C 17 d6_15 rfl rfl ?_
  refine go_sipush C 20 (255 : Int32) d6_17 rfl (by decide) ?_
  refine go_icmpY C (pc' := 26) d6_20 (flt (l6 : ¬ ((255 : Int32) < c6))).2.2.2 (by decide) (by decide) ?_
  refine go_aloadN C 27 d6_26 rfl rfl rfl ?_
  refine go_iloadN C 28 d6_27 rfl rfl ?_
  refine go_iload C 30 d6_28 rfl rfl ?_
  refine go_i2b C 31 (lo8 c6) d6_30 rfl rfl ?_
  refine go_bastore C 32 6 (v := (lo8 c6)) (nar_lo8 _) d6_31 rfl fx29 (by decide) rfl (nble rfl) (mi 0 rfl) ?_
  intro h31 W32 fx33
  have fx34 : Arv Z h31 t kB .byte (22 : Int32) [(.int (lo8 c0)), (.int (lo8 c1)), (.int (lo8 c2)), (.int (lo8 c3)), (.int (lo8 c4)), (.int (lo8 c5)), (.int (lo8 c6)), (.int 0), (.int 0), (.int 0), (.int 0), (.int 0), (.int 0), (.int 0), (.int 0), (.int 0), (.int 0), (.int 0), (.int 0), (.int 0), (.int 0), (.int 0)] (.int 0) := fx33
  refine go_iinc C 35 (Ls' := #[.val (.ref b), .val (.int 7), .val (.ref t), .val (.int 6), .val (.int 22), .val (.int 6), .val (.int c6)]) (1 : Int32) d6_32 rfl (by decide) rfl rfl ?_
  refine go_iinc C 38 (Ls' := #[.val (.ref b), .val (.int 7), .val (.ref t), .val (.int 7), .val (.int 22), .val (.int 6), .val (.int c6)]) (1 : Int32) d6_35 rfl (by decide) rfl rfl ?_
  refine go_iinc C 41 (Ls' := #[.val (.ref b), .val (.int 7), .val (.ref t), .val (.int 7), .val (.int 22), .val (.int 7), .val (.int c6)]) (1 : Int32) d6_38 rfl (by decide) rfl rfl ?_
  refine go_goto C (pc' := 3) d6_41 (by decide) (by decide) ?_
  refine go_iload C 5 d6_3 rfl rfl ?_
  refine go_iload C 7 d6_5 rfl rfl ?_
  refine go_icmpN C 10 d6_7 rfl (tlt ((by decide) : (7 : Int32) < (22 : Int32))).2.1 ?_
  refine go_aloadN C 11 d6_10 rfl rfl rfl ?_
  refine go_iloadN C 12 d6_11 rfl rfl ?_
  have fx35 := (fx30.other W32 hbt)
  refine go_caload C 13 (v := (.int c7)) d6_12 rfl fx35 (by decide) rfl ?_
  refine go_istore C 15 (Ls' := #[.val (.ref b), .val (.int 7), .val (.ref t), .val (.int 7), .val (.int 22), .val (.int 7), .val (.int c7)]) d6_13 rfl rfl ?_
  refine go_iload C 17 d6_15 rfl rfl ?_
  refine go_sipush C 20 (255 : Int32) d6_17 rfl (by decide) ?_
  refine go_icmpY C (pc' := 26) d6_20 (flt (l7 : ¬ ((255 : Int32) < c7))).2.2.2 (by decide) (by decide) ?_
  refine go_aloadN C 27 d6_26 rfl rfl rfl ?_
  refine go_iloadN C 28 d6_27 rfl rfl ?_
  refine go_iload C 30 d6_28 rfl rfl ?_
  refine go_i2b C 31 (lo8 c7) d6_30 rfl rfl ?_
  refine go_bastore C 32 7 (v := (lo8 c7)) (nar_lo8 _) d6_31 rfl fx34 (by decide) rfl (nble rfl) (mi 0 rfl) ?_
  intro h36 W37 fx38
  have fx39 : Arv Z h36 t kB .byte (22 : Int32) [(.int (lo8 c0)), (.int (lo8 c1)), (.int (lo8 c2)), (.int (lo8 c3)), (.int (lo8 c4)), (.int (lo8 c5)), (.int (lo8 c6)), (.int (lo8 c7)), (.int 0), (.int 0), (.int 0), (.int 0), (.int 0), (.int 0), (.int 0), (.int 0), (.int 0), (.int 0), (.int 0), (.int 0), (.int 0), (.int 0)] (.int 0) := fx38
  refine go_iinc C 35 (Ls' := #[.val (.ref b), .val (.int 8), .val (.ref t), .val (.int 7), .val (.int 22), .val (.int 7), .val (.int c7)]) (1 : Int32) d6_32 rfl (by decide) rfl rfl ?_
  refine go_iinc C 38 (Ls' := #[.val (.ref b), .val (.int 8), .val (.ref t), .val (.int 8), .val (.int 22), .val (.int 7), .val (.int c7)]) (1 : Int32) d6_35 rfl (by decide) rfl rfl ?_
  refine go_iinc C 41 (Ls' := #[.val (.ref b), .val (.int 8), .val (.ref t), .val (.int 8), .val (.int 22), .val (.int 8), .val (.int c7)]) (1 : Int32) d6_38 rfl (by decide) rfl rfl ?_
  refine go_goto C (pc' := 3) d6_41 (by decide) (by decide) ?_
  refine go_iload C 5 d6_3 rfl rfl ?_
  refine go_iload C 7 d6_5 rfl rfl ?_
  refine go_icmpN C 10 d6_7 rfl (tlt ((by decide) : (8 : Int32) < (22 : Int32))).2.1 ?_
  refine go_aloadN C 11 d6_10 rfl rfl rfl ?_
  refine go_iloadN C 12 d6_11 rfl rfl ?_
  have fx40 := (fx35.other W37 hbt)
  refine go_caload C 13 (v := (.int c8)) d6_12 rfl fx40 (by decide) rfl ?_
  refine go_istore C 15 (Ls' := #[.val (.ref b), .val (.int 8), .val (.ref t), .val (.int 8), .val (.int 22), .val (.int 8), .val (.int c8)]) d6_13 rfl rfl ?_
  refine go_iload C 17 d6_15 rfl rfl ?_
  refine go_sipush C 20 (255 : Int32) d6_17 rfl (by decide) ?_
  refine go_icmpY C (pc' := 26) d6_20 (flt (l8 : ¬ ((255 : Int32) < c8))).2.2.2 (by decide) (by decide) ?_
  refine go_aloadN C 27 d6_26 rfl rfl rfl ?_
  refine go_iloadN C 28 d6_27 rfl rfl ?_
  refine go_iload C 30 d6_28 rfl rfl ?_
  refine go_i2b C 31 (lo8 c8) d6_30 rfl rfl ?_
  refine go_bastore C 32 8 (v := (lo8 c8)) (nar_lo8 _) d6_31 rfl fx39 (by decide) rfl (nble rfl) (mi 0 rfl) ?_
  intro h41 W42 fx43
  have fx44 : Arv Z h41 t kB .byte (22 : Int32) [(.int (lo8 c0)), (.int (lo8 c1)), (.int (lo8 c2)), (.int (lo8 c3)), (.int (lo8 c4)), (.int (lo8 c5)), (.int (lo8 c6)), (.int (lo8 c7)), (.int (lo8 c8)), (.int 0), (.int 0), (.int 0), (.int 0), (.int 0), (.int 0), (.int 0), (.int 0), (.int 0), (.int 0), (.int 0), (.int 0), (.int 0)] (.int 0) := fx43
  refine go_iinc C 35 (Ls' := #[.val (.ref b), .val (.int 9), .val (.ref t), .val (.int 8), .val (.int 22), .val (.int 8), .val (.int c8)]) (1 : Int32) d6_32 rfl (by decide) rfl rfl ?_
  refine go_iinc C 38 (Ls' := #[.val (.ref b), .val (.int 9), .val (.ref t), .val (.int 9), .val (.int 22), .val (.int 8), .val (.int c8)]) (1 : Int32) d6_35 rfl (by decide) rfl rfl ?_
  refine go_iinc C 41 (Ls' := #[.val (.ref b), .val (.int 9), .val (.ref t), .val (.int 9), .val (.int 22), .val (.int 9), .val (.int c8)]) (1 : Int32) d6_38 rfl (by decide) rfl rfl ?_
  refine go_goto C (pc' := 3) d6_41 (by decide) (by decide) ?_
  refine go_iload C 5 d6_3 rfl rfl ?_
  refine go_iload C 7 d6_5 rfl rfl ?_
  refine go_icmpN C 10 d6_7 rfl (tlt ((by decide) : (9 : Int32) < (22 : Int32))).2.1 ?_
  refine go_aloadN C 11 d6_10 rfl rfl rfl ?_
  refine go_iloadN C 12 d6_11 rfl rfl ?_
  have fx45 := (fx40.other W42 hbt)
  refine go_caload C 13 (v := (.int c9)) d6_12 rfl fx45 (by decide) rfl ?_
  refine go_istore C 15 (Ls' := #[.val (.ref b), .val (.int 9), .val (.ref t), .val (.int 9), .val (.int 22), .val (.int 9), .val (.int c9)]) d6_13 rfl rfl ?_
  refine go_iload C 17 d6_15 rfl rfl ?_
  refine go_sipush C 20 (255 : Int32) d6_17 rfl (by decide) ?_
  refine go_icmpY C (pc' := 26) d6_20 (flt (l9 : ¬ ((255 : Int32) < c9))).2.2.2 (by decide) (by decide) ?_
  refine go_aloadN C 27 d6_26 rfl rfl rfl ?_
  refine go_iloadN C 28 d6_27 rfl rfl ?_
  refine go_iload C 30 d6_28 rfl rfl ?_
  refine go_i2b C 31 (lo8 c9) d6_30 rfl rfl ?_
  refine go_bastore C 32 9 (v := (lo8 c9)) (nar_lo8 _) d6_31 rfl fx44 (by decide) rfl (nble rfl) (mi 0 rfl) ?_
  intro h46 W47 fx48
  have fx49 : Arv Z h46 t kB .byte (22 : Int32) [(.int (lo8 c0)), (.int (lo8 c1)), (.int (lo8 c2)), (.int (lo8 c3)), (.int (lo8 c4)), (.int (lo8 c5)), (.int (lo8 c6)), (.int (lo8 c7)), (.int (lo8 c8)), (.int (lo8 c9)), (.int 0), (.int 0), (.int 0), (.int 0), (.int 0), (.int 0), (.int 0), (.int 0), (.int 0), (.int 0), (.int 0), (.int 0)] (.int 0) := fx48
  refine go_iinc C 35 (Ls' := #[.val (.ref b), .val (.int 10), .val (.ref t), .val (.int 9), .val (.int 22), .val (.int 9), .val (.int c9)]) (1 : Int32) d6_32 rfl (by decide) rfl rfl ?_
  refine go_iinc C 38 (Ls' := #[.val (.ref b), .val (.int 10), .val (.ref t), .val (.int 10), .val (.int 22), .val (.int 9), .val (.int c9)]) (1 : Int32) d6_35 rfl (by decide) rfl rfl ?_
  refine go_iinc C 41 (Ls' := #[.val (.ref b), .val (.int 10), .val (.ref t), .val (.int 10), .val (.int 22), .val (.int 10), .val (.int c9)]) (1 : Int32) d6_38 rfl (by decide) rfl rfl ?_
  refine go_goto C (pc' := 3) d6_41 (by decide) (by decide) ?_
  refine go_iload C 5 d6_3 rfl rfl ?_
  refine go_iload C 7 d6_5 rfl rfl ?_
  refine go_icmpN C 10 d6_7 rfl (tlt ((by decide) : (10 : Int32) < (22 : Int32))).2.1 ?_
  refine go_aloadN C 11 d6_10 rfl rfl rfl ?_
  refine go_iloadN C 12 d6_11 rfl rfl ?_
  have fx50 := (fx45.other W47 hbt)
  refine go_caload C 13 (v := (.int c10)) d6_12 rfl fx50 (by decide) rfl ?_
  refine go_istore C 15 (Ls' := #[.val (.ref b), .val (.int 10), .val (.ref t), .val (.int 10), .val (.int 22), .val (.int 10), .val (.int c10)]) d6_13 rfl rfl ?_
  refine go_iload C 17 d6_15 rfl rfl ?_
  refine go_sipush C 20 (255 : Int32) d6_17 rfl (by decide) ?_
  refine go_icmpY C (pc' := 26) d6_20 (flt (l10 : ¬ ((255 : Int32) < c10))).2.2.2 (by decide) (by decide) ?_
  refine go_aloadN C 27 d6_26 rfl rfl rfl ?_
  refine go_iloadN C 28 d6_27 rfl rfl ?_
  refine go_iload C 30 d6_28 rfl rfl ?_
  refine go_i2b C 31 (lo8 c10) d6_30 rfl rfl ?_
  refine go_bastore C 32 10 (v := (lo8 c10)) (nar_lo8 _) d6_31 rfl fx49 (by decide) rfl (nble rfl) (mi 0 rfl) ?_
  intro h51 W52 fx53
  have fx54 : Arv Z h51 t kB .byte (22 : Int32) [(.int (lo8 c0)), (.int (lo8 c1)), (.int (lo8 c2)), (.int (lo8 c3)), (.int (lo8 c4)), (.int (lo8 c5)), (.int (lo8 c6)), (.int (lo8 c7)), (.int (lo8 c8)), (.int (lo8 c9)), (.int (lo8 c10)), (.int 0), (.int 0), (.int 0), (.int 0), (.int 0), (.int 0), (.int 0), (.int 0), (.int 0), (.int 0), (.int 0)] (.int 0) := fx53
  refine go_iinc C 35 (Ls' := #[.val (.ref b), .val (.int 11), .val (.ref t), .val (.int 10), .val (.int 22), .val (.int 10), .val (.int c10)]) (1 : Int32) d6_32 rfl (by decide) rfl rfl ?_
  refine go_iinc C 38 (Ls' := #[.val (.ref b), .val (.int 11), .val (.ref t), .val (.int 11), .val (.int 22), .val (.int 10), .val (.int c10)]) (1 : Int32) d6_35 rfl (by decide) rfl rfl ?_
  refine go_iinc C 41 (Ls' := #[.val (.ref b), .val (.int 11), .val (.ref t), .val (.int 11), .val (.int 22), .val (.int 11), .val (.int c10)]) (1 : Int32) d6_38 rfl (by decide) rfl rfl ?_
  refine go_goto C (pc' := 3) d6_41 (by decide) (by decide) ?_
  refine go_iload C 5 d6_3 rfl rfl ?_
  refine go_iload C 7 d6_5 rfl rfl ?_
  refine go_icmpN C 10 d6_7 rfl (tlt ((by decide) : (11 : Int32) < (22 : Int32))).2.1 ?_
  refine go_aloadN C 11 d6_10 rfl rfl rfl ?_
  refine go_iloadN C 12 d6_11 rfl rfl ?_
  have fx55 := (fx50.other W52 hbt)
  refine go_caload C 13 (v := (.int c11)) d6_12 rfl fx55 (by decide) rfl ?_
  refine go_istore C 15 (Ls' := #[.val (.ref b), .val (.int 11), .val (.ref t), .val (.int 11), .val (.int 22), .val (.int 11), .val (.int c11)]) d6_13 rfl rfl ?_
  refine go_iload C 17 d6_15 rfl rfl ?_
  refine go_sipush C 20 (255 : Int32) d6_17 rfl (by decide) ?_
  refine go_icmpY C (pc' := 26) d6_20 (flt (l11 : ¬ ((255 : Int32) < c11))).2.2.2 (by decide) (by decide) ?_
  refine go_aloadN C 27 d6_26 rfl rfl rfl ?_
  refine go_iloadN C 28 d6_27 rfl rfl ?_
  refine go_iload C 30 d6_28 rfl rfl ?_
  refine go_i2b C 31 (lo8 c11) d6_30 rfl rfl ?_
  refine go_bastore C 32 11 (v := (lo8 c11)) (nar_lo8 _) d6_31 rfl fx54 (by decide) rfl (nble rfl) (mi 0 rfl) ?_
  intro h56 W57 fx58
  have fx59 : Arv Z h56 t kB .byte (22 : Int32) [(.int (lo8 c0)), (.int (lo8 c1)), (.int (lo8 c2)), (.int (lo8 c3)), (.int (lo8 c4)), (.int (lo8 c5)), (.int (lo8 c6)), (.int (lo8 c7)), (.int (lo8 c8)), (.int (lo8 c9)), (.int (lo8 c10)), (.int (lo8 c11)), (.int 0), (.int 0), (.int 0), (.int 0), (.int 0), (.int 0), (.int 0), (.int 0), (.int 0), (.int 0)] (.int 0) := fx58
  refine go_iinc C 35 (Ls' := #[.val (.ref b), .val (.int 12), .val (.ref t), .val (.int 11), .val (.int 22), .val (.int 11), .val (.int c11)]) (1 : Int32) d6_32 rfl (by decide) rfl rfl ?_
  refine go_iinc C 38 (Ls' := #[.val (.ref b), .val (.int 12), .val (.ref t), .val (.int 12), .val (.int 22), .val (.int 11), .val (.int c11)]) (1 : Int32) d6_35 rfl (by decide) rfl rfl ?_
  refine go_iinc C 41 (Ls' := #[.val (.ref b), .val (.int 12), .val (.ref t), .val (.int 12), .val (.int 22), .val (.int 12), .val (.int c11)]) (1 : Int32) d6_38 rfl (by decide) rfl rfl ?_
  refine go_goto C (pc' := 3) d6_41 (by decide) (by decide) ?_
  refine go_iload C 5 d6_3 rfl rfl ?_
  refine go_iload C 7 d6_5 rfl rfl ?_
  refine go_icmpN C 10 d6_7 rfl (tlt ((by decide) : (12 : Int32) < (22 : Int32))).2.1 ?_
  refine go_aloadN C 11 d6_10 rfl rfl rfl ?_
  refine go_iloadN C 12 d6_11 rfl rfl ?_
  have fx60 := (fx55.other W57 hbt)
  refine go_caload C 13 (v := (.int c12)) d6_12 rfl fx60 (by decide) rfl ?_
  refine go_istore C 15 (Ls' := #[.val (.ref b), .val (.int 12), .val (.ref t), .val (.int 12), .val (.int 22), .val (.int 12), .val (.int c12)]) d6_13 rfl rfl ?_
  refine go_iload C 17 d6_15 rfl rfl ?_
  refine go_sipush C 20 (255 : Int32) d6_17 rfl (by decide) ?_
  refine go_icmpY C (pc' := 26) d6_20 (flt (l12 : ¬ ((255 : Int32) < c12))).2.2.2 (by decide) (by decide) ?_
  refine go_aloadN C 27 d6_26 rfl rfl rfl ?_
  refine go_iloadN C 28 d6_27 rfl rfl ?_
  refine go_iload C 30 d6_28 rfl rfl ?_
  refine go_i2b C 31 (lo8 c12) d6_30 rfl rfl ?_
  refine go_bastore C 32 12 (v := (lo8 c12)) (nar_lo8 _) d6_31 rfl fx59 (by decide) rfl (nble rfl) (mi 0 rfl) ?_
  intro h61 W62 fx63
  have fx64 : Arv Z h61 t kB .byte (22 : Int32) [(.int (lo8 c0)), (.int (lo8 c1)), (.int (lo8 c2)), (.int (lo8 c3)), (.int (lo8 c4)), (.int (lo8 c5)), (.int (lo8 c6)), (.int (lo8 c7)), (.int (lo8 c8)), (.int (lo8 c9)), (.int (lo8 c10)), (.int (lo8 c11)), (.int (lo8 c12)), (.int 0), (.int 0), (.int 0), (.int 0), (.int 0), (.int 0), (.int 0), (.int 0), (.int 0)] (.int 0) := fx63
  refine go_iinc C 35 (Ls' := #[.val (.ref b), .val (.int 13), .val (.ref t), .val (.int 12), .val (.int 22), .val (.int 12), .val (.int c12)]) (1 : Int32) d6_32 rfl (by decide) rfl rfl ?_
  refine go_iinc C 38 (Ls' := #[.val (.ref b), .val (.int 13), .val (.ref t), .val (.int 13), .val (.int 22), .val (.int 12), .val (.int c12)]) (1 : Int32) d6_35 rfl (by decide) rfl rfl ?_
  refine go_iinc C 41 (Ls' := #[.val (.ref b), .val (.int 13), .val (.ref t), .val (.int 13), .val (.int 22), .val (.int 13), .val (.int c12)]) (1 : Int32) d6_38 rfl (by decide) rfl rfl ?_
  refine go_goto C (pc' := 3) d6_41 (by decide) (by decide) ?_
  refine go_iload C 5 d6_3 rfl rfl ?_
  refine go_iload C 7 d6_5 rfl rfl ?_
  refine go_icmpN C 10 d6_7 rfl (tlt ((by decide) : (13 : Int32) < (22 : Int32))).2.1 ?_
  refine go_aloadN C 11 d6_10 rfl rfl rfl ?_
  refine go_iloadN C 12 d6_11 rfl rfl ?_
  have fx65 := (fx60.other W62 hbt)
  refine go_caload C 13 (v := (.int c13)) d6_12 rfl fx65 (by decide) rfl ?_
  refine go_istore C 15 (Ls' := #[.val (.ref b), .val (.int 13), .val (.ref t), .val (.int 13), .val (.int 22), .val (.int 13), .val (.int c13)]) d6_13 rfl rfl ?_
  refine go_iload C 17 d6_15 rfl rfl ?_
  refine go_sipush C 20 (255 : Int32) d6_17 rfl (by decide) ?_
  refine go_icmpY C (pc' := 26) d6_20 (flt (l13 : ¬ ((255 : Int32) < c13))).2.2.2 (by decide) (by decide) ?_
  refine go_aloadN C 27 d6_26 rfl rfl rfl ?_
  refine go_iloadN C 28 d6_27 rfl rfl ?_
  refine go_iload C 30 d6_28 rfl rfl ?_
  refine go_i2b C 31 (lo8 c13) d6_30 rfl rfl ?_
  refine go_bastore C 32 13 (v := (lo8 c13)) (nar_lo8 _) d6_31 rfl fx64 (by decide) rfl (nble rfl) (mi 0 rfl) ?_
  intro h66 W67 fx68
  have fx69 : Arv Z h66 t kB .byte (22 : Int32) [(.int (lo8 c0)), (.int (lo8 c1)), (.int (lo8 c2)), (.int (lo8 c3)), (.int (lo8 c4)), (.int (lo8 c5)), (.int (lo8 c6)), (.int (lo8 c7)), (.int (lo8 c8)), (.int (lo8 c9)), (.int (lo8 c10)), (.int (lo8 c11)), (.int (lo8 c12)), (.int (lo8 c13)), (.int 0), (.int 0), (.int 0), (.int 0), (.int 0), (.int 0), (.int 0), (.int 0)] (.int 0) := fx68
  refine go_iinc C 35 (Ls' := #[.val (.ref b), .val (.int 14), .val (.ref t), .val (.int 13), .val (.int 22), .val (.int 13), .val (.int c13)]) (1 : Int32) d6_32 rfl (by decide) rfl rfl ?_
  refine go_iinc C 38 (Ls' := #[.val (.ref b), .val (.int 14), .val (.ref t), .val (.int 14), .val (.int 22), .val (.int 13), .val (.int c13)]) (1 : Int32) d6_35 rfl (by decide) rfl rfl ?_
  refine go_iinc C 41 (Ls' := #[.val (.ref b), .val (.int 14), .val (.ref t), .val (.int 14), .val (.int 22), .val (.int 14), .val (.int c13)]) (1 : Int32) d6_38 rfl (by decide) rfl rfl ?_
  refine go_goto C (pc' := 3) d6_41 (by decide) (by decide) ?_
  refine go_iload C 5 d6_3 rfl rfl ?_
  refine go_iload C 7 d6_5 rfl rfl ?_
  refine go_icmpN C 10 d6_7 rfl (tlt ((by decide) : (14 : Int32) < (22 : Int32))).2.1 ?_
  refine go_aloadN C 11 d6_10 rfl rfl rfl ?_
  refine go_iloadN C 12 d6_11 rfl rfl ?_
  have fx70 := (fx65.other W67 hbt)
  refine go_caload C 13 (v := (.int c14)) d6_12 rfl fx70 (by decide) rfl ?_
  refine go_istore C 15 (Ls' := #[.val (.ref b), .val (.int 14), .val (.ref t), .val (.int 14), .val (.int 22), .val (.int 14), .val (.int c14)]) d6_13 rfl rfl ?_
  refine go_iload C 17 d6_15 rfl rfl ?_
  refine go_sipush C 20 (255 : Int32) d6_17 rfl (by decide) ?_
  refine go_icmpY C (pc' := 26) d6_20 (flt (l14 : ¬ ((255 : Int32) < c14))).2.2.2 (by decide) (by decide) ?_
  refine go_aloadN C 27 d6_26 rfl rfl rfl ?_
  refine go_iloadN C 28 d6_27 rfl rfl ?_
  refine go_iload C 30 d6_28 rfl rfl ?_
  refine go_i2b C 31 (lo8 c14) d6_30 rfl rfl ?_
  refine go_bastore C 32 14 (v := (lo8 c14)) (nar_lo8 _) d6_31 rfl fx69 (by decide) rfl (nble rfl) (mi 0 rfl) ?_
  intro h71 W72 fx73
  have fx74 : Arv Z h71 t kB .byte (22 : Int32) [(.int (lo8 c0)), (.int (lo8 c1)), (.int (lo8 c2)), (.int (lo8 c3)), (.int (lo8 c4)), (.int (lo8 c5)), (.int (lo8 c6)), (.int (lo8 c7)), (.int (lo8 c8)), (.int (lo8 c9)), (.int (lo8 c10)), (.int (lo8 c11)), (.int (lo8 c12)), (.int (lo8 c13)), (.int (lo8 c14)), (.int 0), (.int 0), (.int 0), (.int 0), (.int 0), (.int 0), (.int 0)] (.int 0) := fx73
  refine go_iinc C 35 (Ls' := #[.val (.ref b), .val (.int 15), .val (.ref t), .val (.int 14), .val (.int 22), .val (.int 14), .val (.int c14)]) (1 : Int32) d6_32 rfl (by decide) rfl rfl ?_
  refine go_iinc C 38 (Ls' := #[.val (.ref b), .val (.int 15), .val (.ref t), .val (.int 15), .val (.int 22), .val (.int 14), .val (.int c14)]) (1 : Int32) d6_35 rfl (by decide) rfl rfl ?_
  refine go_iinc C 41 (Ls' := #[.val (.ref b), .val (.int 15), .val (.ref t), .val (.int 15), .val (.int 22), .val (.int 15), .val (.int c14)]) (1 : Int32) d6_38 rfl (by decide) rfl rfl ?_
  refine go_goto C (pc' := 3) d6_41 (by decide) (by decide) ?_
  refine go_iload C 5 d6_3 rfl rfl ?_
  refine go_iload C 7 d6_5 rfl rfl ?_
  refine go_icmpN C 10 d6_7 rfl (tlt ((by decide) : (15 : Int32) < (22 : Int32))).2.1 ?_
  refine go_aloadN C 11 d6_10 rfl rfl rfl ?_
  refine go_iloadN C 12 d6_11 rfl rfl ?_
  have fx75 := (fx70.other W72 hbt)
  refine go_caload C 13 (v := (.int c15)) d6_12 rfl fx75 (by decide) rfl ?_
  refine go_istore C 15 (Ls' := #[.val (.ref b), .val (.int 15), .val (.ref t), .val (.int 15), .val (.int 22), .val (.int 15), .val (.int c15)]) d6_13 rfl rfl ?_
  refine go_iload C 17 d6_15 rfl rfl ?_
  refine go_sipush C 20 (255 : Int32) d6_17 rfl (by decide) ?_
  refine go_icmpY C (pc' := 26) d6_20 (flt (l15 : ¬ ((255 : Int32) < c15))).2.2.2 (by decide) (by decide) ?_
  refine go_aloadN C 27 d6_26 rfl rfl rfl ?_
  refine go_iloadN C 28 d6_27 rfl rfl ?_
  refine go_iload C 30 d6_28 rfl rfl ?_
  refine go_i2b C 31 (lo8 c15) d6_30 rfl rfl ?_
  refine go_bastore C 32 15 (v := (lo8 c15)) (nar_lo8 _) d6_31 rfl fx74 (by decide) rfl (nble rfl) (mi 0 rfl) ?_
  intro h76 W77 fx78
  have fx79 : Arv Z h76 t kB .byte (22 : Int32) [(.int (lo8 c0)), (.int (lo8 c1)), (.int (lo8 c2)), (.int (lo8 c3)), (.int (lo8 c4)), (.int (lo8 c5)), (.int (lo8 c6)), (.int (lo8 c7)), (.int (lo8 c8)), (.int (lo8 c9)), (.int (lo8 c10)), (.int (lo8 c11)), (.int (lo8 c12)), (.int (lo8 c13)), (.int (lo8 c14)), (.int (lo8 c15)), (.int 0), (.int 0), (.int 0), (.int 0), (.int 0), (.int 0)] (.int 0) := fx78
  refine go_iinc C 35 (Ls' := #[.val (.ref b), .val (.int 16), .val (.ref t), .val (.int 15), .val (.int 22), .val (.int 15), .val (.int c15)]) (1 : Int32) d6_32 rfl (by decide) rfl rfl ?_
  refine go_iinc C 38 (Ls' := #[.val (.ref b), .val (.int 16), .val (.ref t), .val (.int 16), .val (.int 22), .val (.int 15), .val (.int c15)]) (1 : Int32) d6_35 rfl (by decide) rfl rfl ?_
  refine go_iinc C 41 (Ls' := #[.val (.ref b), .val (.int 16), .val (.ref t), .val (.int 16), .val (.int 22), .val (.int 16), .val (.int c15)]) (1 : Int32) d6_38 rfl (by decide) rfl rfl ?_
  refine go_goto C (pc' := 3) d6_41 (by decide) (by decide) ?_
  refine go_iload C 5 d6_3 rfl rfl ?_
  refine go_iload C 7 d6_5 rfl rfl ?_
  refine go_icmpN C 10 d6_7 rfl (tlt ((by decide) : (16 : Int32) < (22 : Int32))).2.1 ?_
  refine go_aloadN C 11 d6_10 rfl rfl rfl ?_
  refine go_iloadN C 12 d6_11 rfl rfl ?_
  have fx80 := (fx75.other W77 hbt)
  refine go_caload C 13 (v := (.int c16)) d6_12 rfl fx80 (by decide) rfl ?_
  refine go_istore C 15 (Ls' := #[.val (.ref b), .val (.int 16), .val (.ref t), .val (.int 16), .val (.int 22), .val (.int 16), .val (.int c16)]) d6_13 rfl rfl ?_
  refine go_iload C 17 d6_15 rfl rfl ?_
  refine go_sipush C 20 (255 : Int32) d6_17 rfl (by decide) ?_
  refine go_icmpY C (pc' := 26) d6_20 (flt (l16 : ¬ ((255 : Int32) < c16))).2.2.2 (by decide) (by decide) ?_
  refine go_aloadN C 27 d6_26 rfl rfl rfl ?_
  refine go_iloadN C 28 d6_27 rfl rfl ?_
  refine go_iload C 30 d6_28 rfl rfl ?_
  refine go_i2b C 31 (lo8 c16) d6_30 rfl rfl ?_
  refine go_bastore C 32 16 (v := (lo8 c16)) (nar_lo8 _) d6_31 rfl fx79 (by decide) rfl (nble rfl) (mi 0 rfl) ?_
  intro h81 W82 fx83
  have fx84 : Arv Z h81 t kB .byte (22 : Int32) [(.int (lo8 c0)), (.int (lo8 c1)), (.int (lo8 c2)), (.int (lo8 c3)), (.int (lo8 c4)), (.int (lo8 c5)), (.int (lo8 c6)), (.int (lo8 c7)), (.int (lo8 c8)), (.int (lo8 c9)), (.int (lo8 c10)), (.int (lo8 c11)), (.int (lo8 c12)), (.int (lo8 c13)), (.int (lo8 c14)), (.int (lo8 c15)), (.int (lo8 c16)), (.int 0), (.int 0), (.int 0), (.int 0), (.int 0)] (.int 0) := fx83
  refine go_iinc C 35 (Ls' := #[.val (.ref b), .val (.int 17), .val (.ref t), .val (.int 16), .val (.int 22), .val (.int 16), .val (.int c16)]) (1 : Int32) d6_32 rfl (by decide) rfl rfl ?_
  refine go_iinc C 38 (Ls' := #[.val (.ref b), .val (.int 17), .val (.ref t), .val (.int 17), .val (.int 22), .val (.int 16), .val (.int c16)]) (1 : Int32) d6_35 rfl (by decide) rfl rfl ?_
  refine go_iinc C 41 (Ls' := #[.val (.ref b), .val (.int 17), .val (.ref t), .val (.int 17), .val (.int 22), .val (.int 17), .val (.int c16)]) (1 : Int32) d6_38 rfl (by decide) rfl rfl ?_
  refine go_goto C (pc' := 3) d6_41 (by decide) (by decide) ?_
  refine go_iload C 5 d6_3 rfl rfl ?_
  refine go_iload C 7 d6_5 rfl rfl ?_
  refine go_icmpN C 10 d6_7 rfl (tlt ((by decide) : (17 : Int32) < (22 : Int32))).2.1 ?_
  refine go_aloadN C 11 d6_10 rfl rfl rfl ?_
  refine go_iloadN C 12 d6_11 rfl rfl ?_
  have fx85 := (fx80.other W82 hbt)
  refine go_caload C 13 (v := (.int c17)) d6_12 rfl fx85 (by decide) rfl ?_
  refine go_istore C 15 (Ls' := #[.val (.ref b), .val (.int 17), .val (.ref t), .val (.int 17), .val (.int 22), .val (.int 17), .val (.int c17)]) d6_13 rfl rfl ?_
  refine go_iload C 17 d6_15 rfl rfl ?_
  refine go_sipush C 20 (255 : Int32) d6_17 rfl (by decide) ?_
  refine go_icmpY C (pc' := 26) d6_20 (flt (l17 : ¬ ((255 : Int32) < c17))).2.2.2 (by decide) (by decide) ?_
  refine go_aloadN C 27 d6_26 rfl rfl rfl ?_
  refine go_iloadN C 28 d6_27 rfl rfl ?_
  refine go_iload C 30 d6_28 rfl rfl ?_
  refine go_i2b C 31 (lo8 c17) d6_30 rfl rfl ?_
  refine go_bastore C 32 17 (v := (lo8 c17)) (nar_lo8 _) d6_31 rfl fx84 (by decide) rfl (nble rfl) (mi 0 rfl) ?_
  intro h86 W87 fx88
  have fx89 : Arv Z h86 t kB .byte (22 : Int32) [(.int (lo8 c0)), (.int (lo8 c1)), (.int (lo8 c2)), (.int (lo8 c3)), (.int (lo8 c4)), (.int (lo8 c5)), (.int (lo8 c6)), (.int (lo8 c7)), (.int (lo8 c8)), (.int (lo8 c9)), (.int (lo8 c10)), (.int (lo8 c11)), (.int (lo8 c12)), (.int (lo8 c13)), (.int (lo8 c14)), (.int (lo8 c15)), (.int (lo8 c16)), (.int (lo8 c17)), (.int 0), (.int 0), (.int 0), (.int 0)] (.int 0) := fx88
  refine go_iinc C 35 (Ls' := #[.val (.ref b), .val (.int 18), .val (.ref t), .val (.int 17), .val (.int 22), .val (.int 17), .val (.int c17)]) (1 : Int32) d6_32 rfl (by decide) rfl rfl ?_
  refine go_iinc C 38 (Ls' := #[.val (.ref b), .val (.int 18), .val (.ref t), .val (.int 18), .val (.int 22), .val (.int 17), .val (.int c17)]) (1 : Int32) d6_35 rfl (by decide) rfl rfl ?_
  refine go_iinc C 41 (Ls' := #[.val (.ref b), .val (.int 18), .val (.ref t), .val (.int 18), .val (.int 22), .val (.int 18), .val (.int c17)]) (1 : Int32) d6_38 rfl (by decide) rfl rfl ?_
  refine go_goto C (pc' := 3) d6_41 (by decide) (by decide) ?_
  refine go_iload C 5 d6_3 rfl rfl ?_
  refine go_iload C 7 d6_5 rfl rfl ?_
  refine go_icmpN C 10 d6_7 rfl (tlt ((by decide) : (18 : Int32) < (22 : Int32))).2.1 ?_
  refine go_aloadN C 11 d6_10 rfl rfl rfl ?_
  refine go_iloadN C 12 d6_11 rfl rfl ?_
  have fx90 := (fx85.other W87 hbt)
  refine go_caload C 13 (v := (.int c18)) d6_12 rfl fx90 (by decide) rfl ?_
  refine go_istore C 15 (Ls' := #[.val (.ref b), .val (.int 18), .val (.ref t), .val (.int 18), .val (.int 22), .val (.int 18), .val (.int c18)]) d6_13 rfl rfl ?_
  refine go_iload C 17 d6_15 rfl rfl ?_
  refine go_sipush C 20 (255 : Int32) d6_17 rfl (by decide) ?_
  refine go_icmpY C (pc' := 26) d6_20 (flt (l18 : ¬ ((255 : Int32) < c18))).2.2.2 (by decide) (by decide) ?_
  refine go_aloadN C 27 d6_26 rfl rfl rfl ?_
  refine go_iloadN C 28 d6_27 rfl rfl ?_
  refine go_iload C 30 d6_28 rfl rfl ?_
  refine go_i2b C 31 (lo8 c18) d6_30 rfl rfl ?_
  refine go_bastore C 32 18 (v := (lo8 c18)) (nar_lo8 _) d6_31 rfl fx89 (by decide) rfl (nble rfl) (mi 0 rfl) ?_
  intro h91 W92 fx93
  have fx94 : Arv Z h91 t kB .byte (22 : Int32) [(.int (lo8 c0)), (.int (lo8 c1)), (.int (lo8 c2)), (.int (lo8 c3)), (.int (lo8 c4)), (.int (lo8 c5)), (.int (lo8 c6)), (.int (lo8 c7)), (.int (lo8 c8)), (.int (lo8 c9)), (.int (lo8 c10)), (.int (lo8 c11)), (.int (lo8 c12)), (.int (lo8 c13)), (.int (lo8 c14)), (.int (lo8 c15)), (.int (lo8 c16)), (.int (lo8 c17)), (.int (lo8 c18)), (.int 0), (.int 0), (.int 0)] (.int 0) := fx93
  refine go_iinc C 35 (Ls' := #[.val (.ref b), .val (.int 19), .val (.ref t), .val (.int 18), .val (.int 22), .val (.int 18), .val (.int c18)]) (1 : Int32) d6_32 rfl (by decide) rfl rfl ?_
  refine go_iinc C 38 (Ls' := #[.val (.ref b), .val (.int 19), .val (.ref t), .val (.int 19), .val (.int 22), .val (.int 18), .val (.int c18)]) (1 : Int32) d6_35 rfl (by decide) rfl rfl ?_
  refine go_iinc C 41 (Ls' := #[.val (.ref b), .val (.int 19), .val (.ref t), .val (.int 19), .val (.int 22), .val (.int 19), .val (.int c18)]) (1 : Int32) d6_38 rfl (by decide) rfl rfl ?_
  refine go_goto C (pc' := 3) d6_41 (by decide) (by decide) ?_
  refine go_iload C 5 d6_3 rfl rfl ?_
  refine go_iload C 7 d6_5 rfl rfl ?_
  refine go_icmpN C 10 d6_7 rfl (tlt ((by decide) : (19 : Int32) < (22 : Int32))).2.1 ?_
  refine go_aloadN C 11 d6_10 rfl rfl rfl ?_
  refine go_iloadN C 12 d6_11 rfl rfl ?_
  have fx95 := (fx90.other W92 hbt)
  refine go_caload C 13 (v := (.int c19)) d6_12 rfl fx95 (by decide) rfl ?_
  refine go_istore C 15 (Ls' := #[.val (.ref b), .val (.int 19), .val (.ref t), .val (.int 19), .val (.int 22), .val (.int 19), .val (.int c19)]) d6_13 rfl rfl ?_
  refine go_iload C 17 d6_15 rfl rfl ?_
  refine go_sipush C 20 (255 : Int32) d6_17 rfl (by decide) ?_
  refine go_icmpY C (pc' := 26) d6_20 (flt (l19 : ¬ ((255 : Int32) < c19))).2.2.2 (by decide) (by decide) ?_
  refine go_aloadN C 27 d6_26 rfl rfl rfl ?_
  refine go_iloadN C 28 d6_27 rfl rfl ?_
  refine go_iload C 30 d6_28 rfl rfl ?_
  refine go_i2b C 31 (lo8 c19) d6_30 rfl rfl ?_
  refine go_bastore C 32 19 (v := (lo8 c19)) (nar_lo8 _) d6_31 rfl fx94 (by decide) rfl (nble rfl) (mi 0 rfl) ?_
  intro h96 W97 fx98
  have fx99 : Arv Z h96 t kB .byte (22 : Int32) [(.int (lo8 c0)), (.int (lo8 c1)), (.int (lo8 c2)), (.int (lo8 c3)), (.int (lo8 c4)), (.int (lo8 c5)), (.int (lo8 c6)), (.int (lo8 c7)), (.int (lo8 c8)), (.int (lo8 c9)), (.int (lo8 c10)), (.int (lo8 c11)), (.int (lo8 c12)), (.int (lo8 c13)), (.int (lo8 c14)), (.int (lo8 c15)), (.int (lo8 c16)), (.int (lo8 c17)), (.int (lo8 c18)), (.int (lo8 c19)), (.int 0), (.int 0)] (.int 0) := fx98
  refine go_iinc C 35 (Ls' := #[.val (.ref b), .val (.int 20), .val (.ref t), .val (.int 19), .val (.int 22), .val (.int 19), .val (.int c19)]) (1 : Int32) d6_32 rfl (by decide) rfl rfl ?_
  refine go_iinc C 38 (Ls' := #[.val (.ref b), .val (.int 20), .val (.ref t), .val (.int 20), .val (.int 22), .val (.int 19), .val (.int c19)]) (1 : Int32) d6_35 rfl (by decide) rfl rfl ?_
  refine go_iinc C 41 (Ls' := #[.val (.ref b), .val (.int 20), .val (.ref t), .val (.int 20), .val (.int 22), .val (.int 20), .val (.int c19)]) (1 : Int32) d6_38 rfl (by decide) rfl rfl ?_
  refine go_goto C (pc' := 3) d6_41 (by decide) (by decide) ?_
  refine go_iload C 5 d6_3 rfl rfl ?_
  refine go_iload C 7 d6_5 rfl rfl ?_
  refine go_icmpN C 10 d6_7 rfl (tlt ((by decide) : (20 : Int32) < (22 : Int32))).2.1 ?_
  refine go_aloadN C 11 d6_10 rfl rfl rfl ?_
  refine go_iloadN C 12 d6_11 rfl rfl ?_
  have fx100 := (fx95.other W97 hbt)
  refine go_caload C 13 (v := (.int c20)) d6_12 rfl fx100 (by decide) rfl ?_
  refine go_istore C 15 (Ls' := #[.val (.ref b), .val (.int 20), .val (.ref t), .val (.int 20), .val (.int 22), .val (.int 20), .val (.int c20)]) d6_13 rfl rfl ?_
  refine go_iload C 17 d6_15 rfl rfl ?_
  refine go_sipush C 20 (255 : Int32) d6_17 rfl (by decide) ?_
  refine go_icmpY C (pc' := 26) d6_20 (flt (l20 : ¬ ((255 : Int32) < c20))).2.2.2 (by decide) (by decide) ?_
  refine go_aloadN C 27 d6_26 rfl rfl rfl ?_
  refine go_iloadN C 28 d6_27 rfl rfl ?_
  refine go_iload C 30 d6_28 rfl rfl ?_
  refine go_i2b C 31 (lo8 c20) d6_30 rfl rfl ?_
  refine go_bastore C 32 20 (v := (lo8 c20)) (nar_lo8 _) d6_31 rfl fx99 (by decide) rfl (nble rfl) (mi 0 rfl) ?_
  intro h101 W102 fx103
  have fx104 : Arv Z h101 t kB .byte (22 : Int32) [(.int (lo8 c0)), (.int (lo8 c1)), (.int (lo8 c2)), (.int (lo8 c3)), (.int (lo8 c4)), (.int (lo8 c5)), (.int (lo8 c6)), (.int (lo8 c7)), (.int (lo8 c8)), (.int (lo8 c9)), (.int (lo8 c10)), (.int (lo8 c11)), (.int (lo8 c12)), (.int (lo8 c13)), (.int (lo8 c14)), (.int (lo8 c15)), (.int (lo8 c16)), (.int (lo8 c17)), (.int (lo8 c18)), (.int (lo8 c19)), (.int (lo8 c20)), (.int 0)] (.int 0) := fx103
  refine go_iinc C 35 (Ls' := #[.val (.ref b), .val (.int 21), .val (.ref t), .val (.int 20), .val (.int 22), .val (.int 20), .val (.int c20)]) (1 : Int32) d6_32 rfl (by decide) rfl rfl ?_
  refine go_iinc C 38 (Ls' := #[.val (.ref b), .val (.int 21), .val (.ref t), .val (.int 21), .val (.int 22), .val (.int 20), .val (.int c20)]) (1 : Int32) d6_35 rfl (by decide) rfl rfl ?_
  refine go_iinc C 41 (Ls' := #[.val (.ref b), .val (.int 21), .val (.ref t), .val (.int 21), .val (.int 22), .val (.int 21), .val (.int c20)]) (1 : Int32) d6_38 rfl (by decide) rfl rfl ?_
  refine go_goto C (pc' := 3) d6_41 (by decide) (by decide) ?_
  refine go_iload C 5 d6_3 rfl rfl ?_
  refine go_iload C 7 d6_5 rfl rfl ?_
  refine go_icmpN C 10 d6_7 rfl (tlt ((by decide) : (21 : Int32) < (22 : Int32))).2.1 ?_
  refine go_aloadN C 11 d6_10 rfl rfl rfl ?_
  refine go_iloadN C 12 d6_11 rfl rfl ?_
  have fx105 := (fx100.other W102 hbt)
  refine go_caload C 13 (v := (.int c21)) d6_12 rfl fx105 (by decide) rfl ?_
  refine go_istore C 15 (Ls' := #[.val (.ref b), .val (.int 21), .val (.ref t), .val (.int 21), .val (.int 22), .val (.int 21), .val (.int c21)]) d6_13 rfl rfl ?_
  refine go_iload C 17 d6_15 rfl rfl ?_
  refine go_sipush C 20 (255 : Int32) d6_17 rfl (by decide) ?_
  refine go_icmpY C (pc' := 26) d6_20 (flt (l21 : ¬ ((255 : Int32) < c21))).2.2.2 (by decide) (by decide) ?_
  refine go_aloadN C 27 d6_26 rfl rfl rfl ?_
  refine go_iloadN C 28 d6_27 rfl rfl ?_
  refine go_iload C 30 d6_28 rfl rfl ?_
  refine go_i2b C 31 (lo8 c21) d6_30 rfl rfl ?_
  refine go_bastore C 32 21 (v := (lo8 c21)) (nar_lo8 _) d6_31 rfl fx104 (by decide) rfl (nble rfl) (mi 0 rfl) ?_
  intro h106 W107 fx108
  have fx109 : Arv Z h106 t kB .byte (22 : Int32) [(.int (lo8 c0)), (.int (lo8 c1)), (.int (lo8 c2)), (.int (lo8 c3)), (.int (lo8 c4)), (.int (lo8 c5)), (.int (lo8 c6)), (.int (lo8 c7)), (.int (lo8 c8)), (.int (lo8 c9)), (.int (lo8 c10)), (.int (lo8 c11)), (.int (lo8 c12)), (.int (lo8 c13)), (.int (lo8 c14)), (.int (lo8 c15)), (.int (lo8 c16)), (.int (lo8 c17)), (.int (lo8 c18)), (.int (lo8 c19)), (.int (lo8 c20)), (.int (lo8 c21))] (.int 0) := fx108
  refine go_iinc C 35 (Ls' := #[.val (.ref b), .val (.int 22), .val (.ref t), .val (.int 21), .val (.int 22), .val (.int 21), .val (.int c21)]) (1 : Int32) d6_32 rfl (by decide) rfl rfl ?_
  refine go_iinc C 38 (Ls' := #[.val (.ref b), .val (.int 22), .val (.ref t), .val (.int 22), .val (.int 22), .val (.int 21), .val (.int c21)]) (1 : Int32) d6_35 rfl (by decide) rfl rfl ?_
  refine go_iinc C 41 (Ls' := #[.val (.ref b), .val (.int 22), .val (.ref t), .val (.int 22), .val (.int 22), .val (.int 22), .val (.int c21)]) (1 : Int32) d6_38 rfl (by decide) rfl rfl ?_
  refine go_goto C (pc' := 3) d6_41 (by decide) (by decide) ?_
  refine go_iload C 5 d6_3 rfl rfl ?_
  refine go_iload C 7 d6_5 rfl rfl ?_
  refine go_icmpY C (pc' := 44) d6_7 (flt ((by decide) : ¬ ((22 : Int32) < (22 : Int32)))).2.1 (by decide) (by decide) ?_
  refine go_iload C 46 d6_44 rfl rfl ?_
  refine go_retI C d6_46 rfl (by decide) (by decide) ?_
  exact ⟨rfl, fx109⟩
theorem ct_cmpA22 (l : Launch) (Z : State) (a0 : Array Value) (hw : HW a0 Z) {cS : Int32} {m1 : Addr} {m2 : Addr} (am : Amb Z a0 cS m1 m2) {b : Addr} {kC : ClassId} {c0 : Int32} {c1 : Int32} {c2 : Int32} {c3 : Int32} {c4 : Int32} {c5 : Int32} {c6 : Int32} {c7 : Int32} {c8 : Int32} {c9 : Int32} {c10 : Int32} {c11 : Int32} {c12 : Int32} {c13 : Int32} {c14 : Int32} {c15 : Int32} {c16 : Int32} {c17 : Int32} {c18 : Int32} {c19 : Int32} {c20 : Int32} {c21 : Int32} {h0 : Heap} (p0 : Arv Z h0 b kC .char (22 : Int32) [(.int c0), (.int c1), (.int c2), (.int c3), (.int c4), (.int c5), (.int c6), (.int c7), (.int c8), (.int c9), (.int c10), (.int c11), (.int c12), (.int c13), (.int c14), (.int c15), (.int c16), (.int c17), (.int c18), (.int c19), (.int c20), (.int c21)] (.int 0)) (l0 : ¬ (255 : Int32) < c0) (l1 : ¬ (255 : Int32) < c1) (l2 : ¬ (255 : Int32) < c2) (l3 : ¬ (255 : Int32) < c3) (l4 : ¬ (255 : Int32) < c4) (l5 : ¬ (255 : Int32) < c5) (l6 : ¬ (255 : Int32) < c6) (l7 : ¬ (255 : Int32) < c7) (l8 : ¬ (255 : Int32) < c8) (l9 : ¬ (255 : Int32) < c9) (l10 : ¬ (255 : Int32) < c10) (l11 : ¬ (255 : Int32) < c11) (l12 : ¬ (255 : Int32) < c12) (l13 : ¬ (255 : Int32) < c13) (l14 : ¬ (255 : Int32) < c14) (l15 : ¬ (255 : Int32) < c15) (l16 : ¬ (255 : Int32) < c16) (l17 : ¬ (255 : Int32) < c17) (l18 : ¬ (255 : Int32) < c18) (l19 : ¬ (255 : Int32) < c19) (l20 : ¬ (255 : Int32) < c20) (l21 : ¬ (255 : Int32) < c21) :
    Py l Z (⟨"java/lang/StringUTF16", "compress", "([CII)[B"⟩ : MethodName) 2 35 1 22 #[(.ref b), (.int 0), (.int 22)] h0 [] (fun rv h' => ∃ (t : Addr) (kB : ClassId), rv = some (.ref t) ∧ Arv Z h' t kB .byte (22 : Int32) [(.int (lo8 c0)), (.int (lo8 c1)), (.int (lo8 c2)), (.int (lo8 c3)), (.int (lo8 c4)), (.int (lo8 c5)), (.int (lo8 c6)), (.int (lo8 c7)), (.int (lo8 c8)), (.int (lo8 c9)), (.int (lo8 c10)), (.int (lo8 c11)), (.int (lo8 c12)), (.int (lo8 c13)), (.int (lo8 c14)), (.int (lo8 c15)), (.int (lo8 c16)), (.int (lo8 c17)), (.int (lo8 c18)), (.int (lo8 c19)), (.int (lo8 c20)), (.int (lo8 c21))] (.int 0) ∧ (h0.size ≤ t)) := by
  refine Ct.py (by0 := jdk_52_method_16_code) (ml := 6) (rt := (some (.array .byte))) (rm := ({ frames := 1, cells := 1, slots := 22, locals := 18 } : Room)) ?_ (hq hw 25 rfl) (hq hw 24 rfl)
  refine Ct.mk (a0 := a0) (Ls := #[.val (.ref b), .val (.int 0), .val (.int 22), .unset, .unset, .unset]) (plainFor_of_name pn_java_lang_StringUTF16) (fun m => by first | (simp [entryFrame, mkF, argsToLocals, Value.category]; done) | rfl) ?_
  intro κ C
  show Go l _ Z _ _ _ κ [] h0 0 #[.val (.ref b), .val (.int 0), .val (.int 22), .unset, .unset, .unset] [] 0 0
  refine go_iloadN C 1 d5_0 rfl rfl ?_
  refine go_newP C 3 1 22 (ty := .byte) (cap := 22) d5_1 rfl rfl rfl rfl (hq hw 26 rfl) (by decide) (by decide) (by decide) (by decide) (by decide) ?_
  intro b1 h2 k3 g4 E5 V6
  have fx7 : Arv Z h2 b1 k3 .byte (22 : Int32) [(.int 0), (.int 0), (.int 0), (.int 0), (.int 0), (.int 0), (.int 0), (.int 0), (.int 0), (.int 0), (.int 0), (.int 0), (.int 0), (.int 0), (.int 0), (.int 0), (.int 0), (.int 0), (.int 0), (.int 0), (.int 0), (.int 0)] (.int 0) := V6
  refine go_astoreN C 4 (Ls' := #[.val (.ref b), .val (.int 0), .val (.int 22), .val (.ref b1), .unset, .unset]) d5_3 rfl rfl rfl ?_
  refine go_aloadN C 5 d5_4 rfl rfl rfl ?_
  refine go_iloadN C 6 d5_5 rfl rfl ?_
  refine go_aloadN C 7 d5_6 rfl rfl rfl ?_
  refine go_iconst C 8 (0 : Int32) d5_7 rfl (by decide) ?_
  refine go_iloadN C 9 d5_8 rfl rfl ?_
  have fx8 := (p0.ext E5)
  refine go_callS C (argsL := [(.ref b), (.int 0), (.ref b1), (.int 0), (.int 22)]) (W := 0) d5_9 (hq hw 27 rfl) (hq hw 28 rfl) (hq hw 24 rfl) (hq hw 29 rfl) (by decide) pd___CI_BII_I (ct_cmp22 l Z a0 hw am (b := b) (t := b1) (kC := kC) (kB := k3) (c0 := c0) (c1 := c1) (c2 := c2) (c3 := c3) (c4 := c4) (c5 := c5) (c6 := c6) (c7 := c7) (c8 := c8) (c9 := c9) (c10 := c10) (c11 := c11) (c12 := c12) (c13 := c13) (c14 := c14) (c15 := c15) (c16 := c16) (c17 := c17) (c18 := c18) (c19 := c19) (c20 := c20) (c21 := c21) fx8 fx7 l0 l1 l2 l3 l4 l5 l6 l7 l8 l9 l10 l11 l12 l13 l14 l15 l16 l17 l18 l19 l20 l21 (Nat.ne_of_lt (Nat.lt_of_lt_of_le (p0).lt (Nat.le_of_eq g4.symm)))) rfl (by decide) (Nat.le_of_eq rfl) (by decide) rfl (by decide) (by decide) (memsS (mi 0 rfl) mems0) ?_
  intro fv9 h10 K11 fq12
  obtain ⟨rfl, fx13⟩ := fq12
  refine ⟨[], fresh0, ?_⟩
  show Go l _ Z _ _ _ κ _ _ 12 _ [(.int 22)] 1 22
  refine go_istore C 14 (Ls' := #[.val (.ref b), .val (.int 0), .val (.int 22), .val (.ref b1), .val (.int 22), .unset]) d5_12 rfl rfl ?_
  refine go_iload C 16 d5_14 rfl rfl ?_
  refine go_iloadN C 17 d5_16 rfl rfl ?_
  refine go_icmpY C (pc' := 57) d5_17 (teq ((by decide) : (22 : Int32) = (22 : Int32))).1 (by decide) (by decide) ?_
  refine go_aloadN C 58 d5_57 rfl rfl rfl ?_
  refine go_retA C (v := (.ref b1)) d5_58 rfl rfl rfl (by decide) (by decide) ?_
  exact ⟨b1, k3, rfl, fx13, (Nat.le_of_eq g4.symm)⟩
theorem ct_coder22 (l : Launch) (Z : State) (a0 : Array Value) (hw : HW a0 Z) {cS : Int32} {m1 : Addr} {m2 : Addr} (am : Amb Z a0 cS m1 m2) {t : Addr} {kB : ClassId} {vs : List Value} {h0 : Heap} (p0 : Arv Z h0 t kB .byte (22 : Int32) vs (.int 0)) :
    Py l Z (⟨"java/lang/StringUTF16", "coderFromArrayLen", "([BI)B"⟩ : MethodName) 1 13 0 0 #[(.ref t), (.int 22)] h0 [] (fun rv h' => rv = some (.int 0) ∧ h' = h0) := by
  refine Ct.py (by0 := jdk_52_method_15_code) (ml := 2) (rt := (some .byte)) (rm := ({ frames := 0, cells := 0, slots := 0, locals := 0 } : Room)) ?_ (hq hw 32 rfl) (hq hw 24 rfl)
  refine Ct.mk (a0 := a0) (Ls := #[.val (.ref t), .val (.int 22)]) (plainFor_of_name pn_java_lang_StringUTF16) (fun m => by first | (simp [entryFrame, mkF, argsToLocals, Value.category]; done) | rfl) ?_
  intro κ C
  show Go l _ Z _ _ _ κ [] h0 0 #[.val (.ref t), .val (.int 22)] [] 0 0
  refine go_iloadN C 1 d7_0 rfl rfl ?_
  refine go_aloadN C 2 d7_1 rfl rfl rfl ?_
  refine go_arraylength C 3 d7_2 rfl p0 ?_
  refine go_isub C 4 (0 : Int32) d7_3 rfl (by decide) ?_
  refine go_bipush C 6 (31 : Int32) d7_4 rfl (by decide) ?_
  refine go_iushr C 7 (0 : Int32) d7_6 rfl (by decide) ?_
  refine go_i2b C 8 (0 : Int32) d7_7 rfl (by decide) ?_
  refine go_retN C (t := .byte) (z := (0 : Int32)) d7_8 rfl (by decide) (by decide) (by decide) (by decide) ?_
  exact ⟨rfl, rfl⟩
theorem ct_strV22 (l : Launch) (Z : State) (a0 : Array Value) (hw : HW a0 Z) {cS : Int32} {m1 : Addr} {m2 : Addr} (am : Amb Z a0 cS m1 m2) {a : Addr} {b : Addr} {kC : ClassId} {c0 : Int32} {c1 : Int32} {c2 : Int32} {c3 : Int32} {c4 : Int32} {c5 : Int32} {c6 : Int32} {c7 : Int32} {c8 : Int32} {c9 : Int32} {c10 : Int32} {c11 : Int32} {c12 : Int32} {c13 : Int32} {c14 : Int32} {c15 : Int32} {c16 : Int32} {c17 : Int32} {c18 : Int32} {c19 : Int32} {c20 : Int32} {c21 : Int32} {h0 : Heap} (p0 : Exa Z h0 a "java/lang/String") (p1 : Fld Z h0 a "java/lang/String" "value" "[B" .null) (p2 : Fld Z h0 a "java/lang/String" "coder" "B" (.int 0)) (p3 : Arv Z h0 b kC .char (22 : Int32) [(.int c0), (.int c1), (.int c2), (.int c3), (.int c4), (.int c5), (.int c6), (.int c7), (.int c8), (.int c9), (.int c10), (.int c11), (.int c12), (.int c13), (.int c14), (.int c15), (.int c16), (.int c17), (.int c18), (.int c19), (.int c20), (.int c21)] (.int 0)) (l0 : ¬ (255 : Int32) < c0) (l1 : ¬ (255 : Int32) < c1) (l2 : ¬ (255 : Int32) < c2) (l3 : ¬ (255 : Int32) < c3) (l4 : ¬ (255 : Int32) < c4) (l5 : ¬ (255 : Int32) < c5) (l6 : ¬ (255 : Int32) < c6) (l7 : ¬ (255 : Int32) < c7) (l8 : ¬ (255 : Int32) < c8) (l9 : ¬ (255 : Int32) < c9) (l10 : ¬ (255 : Int32) < c10) (l11 : ¬ (255 : Int32) < c11) (l12 : ¬ (255 : Int32) < c12) (l13 : ¬ (255 : Int32) < c13) (l14 : ¬ (255 : Int32) < c14) (l15 : ¬ (255 : Int32) < c15) (l16 : ¬ (255 : Int32) < c16) (l17 : ¬ (255 : Int32) < c17) (l18 : ¬ (255 : Int32) < c18) (l19 : ¬ (255 : Int32) < c19) (l20 : ¬ (255 : Int32) < c20) (l21 : ¬ (255 : Int32) < c21) :
    Py l Z (⟨"java/lang/String", "<init>", "([CIILjava/lang/Void;)V"⟩ : MethodName) 3 52 1 22 #[(.ref a), (.ref b), (.int 0), (.int 22), .null] h0 [a] (fun rv h' => ∃ (t : Addr) (kB : ClassId), rv = none ∧ Exa Z h' a "java/lang/String" ∧ Fld Z h' a "java/lang/String" "coder" "B" (.int 0) ∧ Fld Z h' a "java/lang/String" "value" "[B" (.ref t) ∧ Arv Z h' t kB .byte (22 : Int32) [(.int (lo8 c0)), (.int (lo8 c1)), (.int (lo8 c2)), (.int (lo8 c3)), (.int (lo8 c4)), (.int (lo8 c5)), (.int (lo8 c6)), (.int (lo8 c7)), (.int (lo8 c8)), (.int (lo8 c9)), (.int (lo8 c10)), (.int (lo8 c11)), (.int (lo8 c12)), (.int (lo8 c13)), (.int (lo8 c14)), (.int (lo8 c15)), (.int (lo8 c16)), (.int (lo8 c17)), (.int (lo8 c18)), (.int (lo8 c19)), (.int (lo8 c20)), (.int (lo8 c21))] (.int 0) ∧ (h0.size ≤ t)) := by
  refine Ct.py (by0 := jdk_42_method_149_code) (ml := 6) (rt := none) (rm := ({ frames := 2, cells := 1, slots := 22, locals := 35 } : Room)) ?_ (hq hw 17 rfl) (hq hw 5 rfl)
  refine Ct.mk (a0 := a0) (Ls := #[.val (.ref a), .val (.ref b), .val (.int 0), .val (.int 22), .val .null, .unset]) (plainFor_of_name pn_java_lang_String) (fun m => by first | (simp [entryFrame, mkF, argsToLocals, Value.category]; done) | rfl) ?_
  intro κ C
  show Go l _ Z _ _ _ κ [a] h0 0 #[.val (.ref a), .val (.ref b), .val (.int 0), .val (.int 22), .val .null, .unset] [] 0 0
  refine go_aloadN C 1 d3_0 rfl rfl rfl ?_
  refine go_initO C 4 (W := 0) d3_1 rfl (hq hw 18 rfl) (hq hw 19 rfl) (hq hw 20 rfl) rfl (by decide) (Nat.le_of_eq rfl) (by decide) ?_
  refine go_iloadN C 5 d3_4 rfl rfl ?_
  refine go_ifY C (pc' := 27) d3_5 (feq ((by decide) : ¬ ((22 : Int32) = (0 : Int32)))).2 (by decide) (by decide) ?_
  refine go_getS C 30 d3_27 rfl (hq hw 21 rfl) am.2.1 ?_
  refine go_ifN C 33 d3_30 rfl (feq (am.2.2.1 : ¬ (cS = (0 : Int32)))).1 ?_
  refine go_aloadN C 34 d3_33 rfl rfl rfl ?_
  refine go_iloadN C 35 d3_34 rfl rfl ?_
  refine go_iloadN C 36 d3_35 rfl rfl ?_
  refine go_callS C (argsL := [(.ref b), (.int 0), (.int 22)]) (W := 0) d3_36 (hq hw 22 rfl) (hq hw 23 rfl) (hq hw 24 rfl) (hq hw 25 rfl) (by decide) pd___CII__B (ct_cmpA22 l Z a0 hw am (b := b) (kC := kC) (c0 := c0) (c1 := c1) (c2 := c2) (c3 := c3) (c4 := c4) (c5 := c5) (c6 := c6) (c7 := c7) (c8 := c8) (c9 := c9) (c10 := c10) (c11 := c11) (c12 := c12) (c13 := c13) (c14 := c14) (c15 := c15) (c16 := c16) (c17 := c17) (c18 := c18) (c19 := c19) (c20 := c20) (c21 := c21) p3 l0 l1 l2 l3 l4 l5 l6 l7 l8 l9 l10 l11 l12 l13 l14 l15 l16 l17 l18 l19 l20 l21) rfl (by decide) (Nat.le_of_eq rfl) (by decide) rfl (by decide) (by decide) mems0 ?_
  intro fv1 h2 K3 fq4
  obtain ⟨t5, kB6, rfl, fx7, fx8⟩ := fq4
  refine ⟨[t5], (freshS ⟨fx8, (fx7).lt⟩ fresh0), ?_⟩
  show Go l _ Z _ _ _ κ [t5, a] _ 39 _ [(.ref t5)] 1 22
  refine go_astore C 41 (Ls' := #[.val (.ref a), .val (.ref b), .val (.int 0), .val (.int 22), .val .null, .val (.ref t5)]) d3_39 rfl rfl rfl ?_
  refine go_aloadN C 42 d3_41 rfl rfl rfl ?_
  refine go_aload C 44 d3_42 rfl rfl rfl ?_
  refine go_iloadN C 45 d3_44 rfl rfl ?_
  refine go_callS C (argsL := [(.ref t5), (.int 22)]) (W := 1) d3_45 (hq hw 30 rfl) (hq hw 31 rfl) (hq hw 24 rfl) (hq hw 32 rfl) (by decide) pd___BI_B (ct_coder22 l Z a0 hw am (t := t5) (kB := kB6) (vs := [(.int (lo8 c0)), (.int (lo8 c1)), (.int (lo8 c2)), (.int (lo8 c3)), (.int (lo8 c4)), (.int (lo8 c5)), (.int (lo8 c6)), (.int (lo8 c7)), (.int (lo8 c8)), (.int (lo8 c9)), (.int (lo8 c10)), (.int (lo8 c11)), (.int (lo8 c12)), (.int (lo8 c13)), (.int (lo8 c14)), (.int (lo8 c15)), (.int (lo8 c16)), (.int (lo8 c17)), (.int (lo8 c18)), (.int (lo8 c19)), (.int (lo8 c20)), (.int (lo8 c21))]) fx7) rfl (by decide) (Nat.le_of_eq rfl) (by decide) rfl (by decide) (by decide) mems0 ?_
  intro fv9 h10 K11 fq12
  obtain ⟨rfl, rfl⟩ := fq12
  refine ⟨[], fresh0, ?_⟩
  show Go l _ Z _ _ _ κ _ _ 48 _ [(.int 0), (.ref a)] 1 22
  have fx13 := (p2.keep K3 nin0)
  have fx14 := (p0.keep K3)
  refine go_putFN C 51 (ty := .byte) (v' := .int 0) d3_48 rfl (hq hw 33 rfl) Via.refl fx13 fx14 (Or.inr ⟨(hq hw 34 rfl), rfl, rfl⟩) (hq hw 4 rfl) (by decide) rfl (by decide) (mi 1 rfl) ?_
  intro h15 W16
  have fx17 : Fld Z h15 a "java/lang/String" "coder" "B" (.int 0) := Fld.same W16 fx13
  refine go_aloadN C 52 d3_51 rfl rfl rfl ?_
  refine go_aload C 54 d3_52 rfl rfl rfl ?_
  have fx18 := (Fld.other W16 (p1.keep K3 nin0) (Or.inr (slot_ne (Or.inr (hq hw 36 rfl)) (Or.inr (hq hw 34 rfl)) (by decide) (t := (.array .byte)) (t' := .byte) (by decide) (by decide))))
  have fx19 := (Exa.wr W16 fx14)
  refine go_putF C 57 (ty := (.array .byte)) d3_54 rfl (hq hw 35 rfl) Via.refl fx18 fx19 (Or.inr ⟨(hq hw 36 rfl), rfl, rfl⟩) (hq hw 4 rfl) (by decide) rfl rfl (mi 1 rfl) ?_
  intro h20 W21
  have fx22 : Fld Z h20 a "java/lang/String" "value" "[B" (.ref t5) := Fld.same W21 fx18
  refine go_ret C d3_57 rfl (by decide) (by decide) ?_
  have fx23 := (Exa.wr W21 fx19)
  have fx24 := (Fld.other W21 fx17 (Or.inr (slot_ne (Or.inr (hq hw 34 rfl)) (Or.inr (hq hw 36 rfl)) (by decide) (t := .byte) (t' := (.array .byte)) (by decide) (by decide))))
  have fx25 := ((fx7.other W16 (Ne.symm (Nat.ne_of_lt (Nat.lt_of_lt_of_le (p0).lt fx8)))).other W21 (Ne.symm (Nat.ne_of_lt (Nat.lt_of_lt_of_le (p0).lt fx8))))
  exact ⟨t5, kB6, rfl, fx23, fx24, fx22, fx25, fx8⟩
theorem ct_str22 (l : Launch) (Z : State) (a0 : Array Value) (hw : HW a0 Z) {cS : Int32} {m1 : Addr} {m2 : Addr} (am : Amb Z a0 cS m1 m2) {a : Addr} {b : Addr} {kC : ClassId} {c0 : Int32} {c1 : Int32} {c2 : Int32} {c3 : Int32} {c4 : Int32} {c5 : Int32} {c6 : Int32} {c7 : Int32} {c8 : Int32} {c9 : Int32} {c10 : Int32} {c11 : Int32} {c12 : Int32} {c13 : Int32} {c14 : Int32} {c15 : Int32} {c16 : Int32} {c17 : Int32} {c18 : Int32} {c19 : Int32} {c20 : Int32} {c21 : Int32} {h0 : Heap} (p0 : Exa Z h0 a "java/lang/String") (p1 : Fld Z h0 a "java/lang/String" "value" "[B" .null) (p2 : Fld Z h0 a "java/lang/String" "coder" "B" (.int 0)) (p3 : Arv Z h0 b kC .char (22 : Int32) [(.int c0), (.int c1), (.int c2), (.int c3), (.int c4), (.int c5), (.int c6), (.int c7), (.int c8), (.int c9), (.int c10), (.int c11), (.int c12), (.int c13), (.int c14), (.int c15), (.int c16), (.int c17), (.int c18), (.int c19), (.int c20), (.int c21)] (.int 0)) (l0 : ¬ (255 : Int32) < c0) (l1 : ¬ (255 : Int32) < c1) (l2 : ¬ (255 : Int32) < c2) (l3 : ¬ (255 : Int32) < c3) (l4 : ¬ (255 : Int32) < c4) (l5 : ¬ (255 : Int32) < c5) (l6 : ¬ (255 : Int32) < c6) (l7 : ¬ (255 : Int32) < c7) (l8 : ¬ (255 : Int32) < c8) (l9 : ¬ (255 : Int32) < c9) (l10 : ¬ (255 : Int32) < c10) (l11 : ¬ (255 : Int32) < c11) (l12 : ¬ (255 : Int32) < c12) (l13 : ¬ (255 : Int32) < c13) (l14 : ¬ (255 : Int32) < c14) (l15 : ¬ (255 : Int32) < c15) (l16 : ¬ (255 : Int32) < c16) (l17 : ¬ (255 : Int32) < c17) (l18 : ¬ (255 : Int32) < c18) (l19 : ¬ (255 : Int32) < c19) (l20 : ¬ (255 : Int32) < c20) (l21 : ¬ (255 : Int32) < c21) :
    Py l Z (⟨"java/lang/String", "<init>", "([C)V"⟩ : MethodName) 4 65 1 22 #[(.ref a), (.ref b)] h0 [a] (fun rv h' => ∃ (t : Addr) (kB : ClassId), rv = none ∧ Exa Z h' a "java/lang/String" ∧ Fld Z h' a "java/lang/String" "coder" "B" (.int 0) ∧ Fld Z h' a "java/lang/String" "value" "[B" (.ref t) ∧ Arv Z h' t kB .byte (22 : Int32) [(.int (lo8 c0)), (.int (lo8 c1)), (.int (lo8 c2)), (.int (lo8 c3)), (.int (lo8 c4)), (.int (lo8 c5)), (.int (lo8 c6)), (.int (lo8 c7)), (.int (lo8 c8)), (.int (lo8 c9)), (.int (lo8 c10)), (.int (lo8 c11)), (.int (lo8 c12)), (.int (lo8 c13)), (.int (lo8 c14)), (.int (lo8 c15)), (.int (lo8 c16)), (.int (lo8 c17)), (.int (lo8 c18)), (.int (lo8 c19)), (.int (lo8 c20)), (.int (lo8 c21))] (.int 0) ∧ (h0.size ≤ t)) := by
  refine Ct.py (by0 := jdk_42_method_3_code) (ml := 2) (rt := none) (rm := ({ frames := 3, cells := 1, slots := 22, locals := 52 } : Room)) ?_ (hq hw 13 rfl) (hq hw 5 rfl)
  refine Ct.mk (a0 := a0) (Ls := #[.val (.ref a), .val (.ref b)]) (plainFor_of_name pn_java_lang_String) (fun m => by first | (simp [entryFrame, mkF, argsToLocals, Value.category]; done) | rfl) ?_
  intro κ C
  show Go l _ Z _ _ _ κ [a] h0 0 #[.val (.ref a), .val (.ref b)] [] 0 0
  refine go_aloadN C 1 d2_0 rfl rfl rfl ?_
  refine go_aloadN C 2 d2_1 rfl rfl rfl ?_
  refine go_iconst C 3 (0 : Int32) d2_2 rfl (by decide) ?_
  refine go_aloadN C 4 d2_3 rfl rfl rfl ?_
  refine go_arraylength C 5 d2_4 rfl p3 ?_
  refine go_aconstNull C 6 d2_5 rfl ?_
  refine go_callI C (a := a) (argsL := [(.ref b), (.int 0), (.int 22), .null]) (W := 0) d2_6 rfl (hq hw 14 rfl) (hq hw 15 rfl) (hq hw 17 rfl) (by decide) pd___CIILjava_lang_Void__V (ct_strV22 l Z a0 hw am (a := a) (b := b) (kC := kC) (c0 := c0) (c1 := c1) (c2 := c2) (c3 := c3) (c4 := c4) (c5 := c5) (c6 := c6) (c7 := c7) (c8 := c8) (c9 := c9) (c10 := c10) (c11 := c11) (c12 := c12) (c13 := c13) (c14 := c14) (c15 := c15) (c16 := c16) (c17 := c17) (c18 := c18) (c19 := c19) (c20 := c20) (c21 := c21) p0 p1 p2 p3 l0 l1 l2 l3 l4 l5 l6 l7 l8 l9 l10 l11 l12 l13 l14 l15 l16 l17 l18 l19 l20 l21) rfl (by decide) (Nat.le_of_eq rfl) (by decide) rfl (by decide) (by decide) (memsS (mi 0 rfl) mems0) ?_
  intro fv1 h2 K3 fq4
  obtain ⟨t5, kB6, rfl, fx7, fx8, fx9, fx10, fx11⟩ := fq4
  refine ⟨[t5], (freshS ⟨fx11, (fx10).lt⟩ fresh0), ?_⟩
  show Go l _ Z _ _ _ κ [t5, a] _ 9 _ [] 1 22
  refine go_ret C d2_9 rfl (by decide) (by decide) ?_
  exact ⟨t5, kB6, rfl, fx7, fx8, fx9, fx10, fx11⟩
theorem ct_cmp23 (l : Launch) (Z : State) (a0 : Array Value) (hw : HW a0 Z) {cS : Int32} {m1 : Addr} {m2 : Addr} (am : Amb Z a0 cS m1 m2) {b : Addr} {t : Addr} {kC : ClassId} {kB : ClassId} {c0 : Int32} {c1 : Int32} {c2 : Int32} {c3 : Int32} {c4 : Int32} {c5 : Int32} {c6 : Int32} {c7 : Int32} {c8 : Int32} {c9 : Int32} {c10 : Int32} {c11 : Int32} {c12 : Int32} {c13 : Int32} {c14 : Int32} {c15 : Int32} {c16 : Int32} {c17 : Int32} {c18 : Int32} {c19 : Int32} {c20 : Int32} {c21 : Int32} {c22 : Int32} {h0 : Heap} (p0 : Arv Z h0 b kC .char (23 : Int32) [(.int c0), (.int c1), (.int c2), (.int c3), (.int c4), (.int c5), (.int c6), (.int c7), (.int c8), (.int c9), (.int c10), (.int c11), (.int c12), (.int c13), (.int c14), (.int c15), (.int c16), (.int c17), (.int c18), (.int c19), (.int c20), (.int c21), (.int c22)] (.int 0)) (p1 : Arv Z h0 t kB .byte (23 : Int32) [(.int 0), (.int 0), (.int 0), (.int 0), (.int 0), (.int 0), (.int 0), (.int 0), (.int 0), (.int 0), (.int 0), (.int 0), (.int 0), (.int 0), (.int 0), (.int 0), (.int 0), (.int 0), (.int 0), (.int 0), (.int 0), (.int 0), (.int 0)] (.int 0)) (l0 : ¬ (255 : Int32) < c0) (l1 : ¬ (255 : Int32) < c1) (l2 : ¬ (255 : Int32) < c2) (l3 : ¬ (255 : Int32) < c3) (l4 : ¬ (255 : Int32) < c4) (l5 : ¬ (255 : Int32) < c5) (l6 : ¬ (255 : Int32) < c6) (l7 : ¬ (255 : Int32) < c7) (l8 : ¬ (255 : Int32) < c8) (l9 : ¬ (255 : Int32) < c9) (l10 : ¬ (255 : Int32) < c10) (l11 : ¬ (255 : Int32) < c11) (l12 : ¬ (255 : Int32) < c12) (l13 : ¬ (255 : Int32) < c13) (l14 : ¬ (255 : Int32) < c14) (l15 : ¬ (255 : Int32) < c15) (l16 : ¬ (255 : Int32) < c16) (l17 : ¬ (255 : Int32) < c17) (l18 : ¬ (255 : Int32) < c18) (l19 : ¬ (255 : Int32) < c19) (l20 : ¬ (255 : Int32) < c20) (l21 : ¬ (255 : Int32) < c21) (l22 : ¬ (255 : Int32) < c22) (hbt : b ≠ t) :
    Py l Z (⟨"java/lang/StringUTF16", "compress", "([CI[BII)I"⟩ : MethodName) 1 18 0 0 #[(.ref b), (.int 0), (.ref t), (.int 0), (.int 23)] h0 [t] (fun rv h' => rv = some (.int 23) ∧ Arv Z h' t kB .byte (23 : Int32) [(.int (lo8 c0)), (.int (lo8 c1)), (.int (lo8 c2)), (.int (lo8 c3)), (.int (lo8 c4)), (.int (lo8 c5)), (.int (lo8 c6)), (.int (lo8 c7)), (.int (lo8 c8)), (.int (lo8 c9)), (.int (lo8 c10)), (.int (lo8 c11)), (.int (lo8 c12)), (.int (lo8 c13)), (.int (lo8 c14)), (.int (lo8 c15)), (.int (lo8 c16)), (.int (lo8 c17)), (.int (lo8 c18)), (.int (lo8 c19)), (.int (lo8 c20)), (.int (lo8 c21)), (.int (lo8 c22))] (.int 0)) := by
  refine Ct.py (by0 := jdk_52_method_21_code) (ml := 7) (rt := (some .int)) (rm := ({ frames := 0, cells := 0, slots := 0, locals := 0 } : Room)) ?_ (hq hw 29 rfl) (hq hw 24 rfl)
  refine Ct.mk (a0 := a0) (Ls := #[.val (.ref b), .val (.int 0), .val (.ref t), .val (.int 0), .val (.int 23), .unset, .unset]) (plainFor_of_name pn_java_lang_StringUTF16) (fun m => by first | (simp [entryFrame, mkF, argsToLocals, Value.category]; done) | rfl) ?_
  intro κ C
  show Go l _ Z _ _ _ κ [t] h0 0 #[.val (.ref b), .val (.int 0), .val (.ref t), .val (.int 0), .val (.int 23), .unset, .unset] [] 0 0
  refine go_iconst C 1 (0 : Int32) d6_0 rfl (by decide) ?_
  refine go_istore C 3 (Ls' := #[.val (.ref b), .val (.int 0), .val (.ref t), .val (.int 0), .val (.int 23), .val (.int 0), .unset]) d6_1 rfl rfl ?_
  refine go_iload C 5 d6_3 rfl rfl ?_
  refine go_iload C 7 d6_5 rfl rfl ?_
  refine go_icmpN C 10 d6_7 rfl (tlt ((by decide) : (0 : Int32) < (23 : Int32))).2.1 ?_
  refine go_aloadN C 11 d6_10 rfl rfl rfl ?_
  refine go_iloadN C 12 d6_11 rfl rfl ?_
  refine go_caload C 13 (v := (.int c0)) d6_12 rfl p0 (by decide) rfl ?_
  refine go_istore C 15 (Ls' := #[.val (.ref b), .val (.int 0), .val (.ref t), .val (.int 0), .val (.int 23), .val (.int 0), .val (.int c0)]) d6_13 rfl rfl ?_
  refine go_iload C 17 d6_15 rfl rfl ?_
  refine go_sipush C 20 (255 : Int32) d6_17 rfl (by decide) ?_
  refine go_icmpY C (pc' := 26) d6_20 (flt (l0 : ¬ ((255 : Int32) < c0))).2.2.2 (by decide) (by decide) ?_
  refine go_aloadN C 27 d6_26 rfl rfl rfl ?_
  refine go_iloadN C 28 d6_27 rfl rfl ?_
  refine go_iload C 30 d6_28 rfl rfl ?_
  refine go_i2b C 31 (lo8 c0) d6_30 rfl rfl ?_
  refine go_bastore C 32 0 (v := (lo8 c0)) (nar_lo8 _) d6_31 rfl p1 (by decide) rfl (nble rfl) (mi 0 rfl) ?_
  intro h1 W2 fx3
  have fx4 : Arv Z h1 t kB .byte (23 : Int32) [(.int (lo8 c0)), (.int 0), (.int 0), (.int 0), (.int 0), (.int 0), (.int 0), (.int 0), (.int 0), (.int 0), (.int 0), (.int 0), (.int 0), (.int 0), (.int 0), (.int 0), (.int 0), (.int 0), (.int 0), (.int 0), (.int 0), (.int 0), (.int 0)] (.int 0) := fx3
  refine go_iinc C 35 (Ls' := #[.val (.ref b), .val (.int 1), .val (.ref t), .val (.int 0), .val (.int 23), .val (.int 0), .val (.int c0)]) (1 : Int32) d6_32 rfl (by decide) rfl rfl ?_
  refine go_iinc C 38 (Ls' := #[.val (.ref b), .val (.int 1), .val (.ref t), .val (.int 1), .val (.int 23), .val (.int 0), .val (.int c0)]) (1 : Int32) d6_35 rfl (by decide) rfl rfl ?_
  refine go_iinc C 41 (Ls' := #[.val (.ref b), .val (.int 1), .val (.ref t), .val (.int 1), .val (.int 23), .val (.int 1), .val (.int c0)]) (1 : Int32) d6_38 rfl (by decide) rfl rfl ?_
  refine go_goto C (pc' := 3) d6_41 (by decide) (by decide) ?_
  refine go_iload C 5 d6_3 rfl rfl ?_
  refine go_iload C 7 d6_5 rfl rfl ?_
  refine go_icmpN C 10 d6_7 rfl (tlt ((by decide) : (1 : Int32) < (23 : Int32))).2.1 ?_
  refine go_aloadN C 11 d6_10 rfl rfl rfl ?_
  refine go_iloadN C 12 d6_11 rfl rfl ?_
  have fx5 := (p0.other W2 hbt)
  refine go_caload C 13 (v := (.int c1)) d6_12 rfl fx5 (by decide) rfl ?_
  refine go_istore C 15 (Ls' := #[.val (.ref b), .val (.int 1), .val (.ref t), .val (.int 1), .val (.int 23), .val (.int 1), .val (.int c1)]) d6_13 rfl rfl ?_
  refine go_iload C 17 d6_15 rfl rfl ?_
  refine go_sipush C 20 (255 : Int32) d6_17 rfl (by decide) ?_
  refine go_icmpY C (pc' := 26) d6_20 (flt (l1 : ¬ ((255 : Int32) < c1))).2.2.2 (by decide) (by decide) ?_
  refine go_aloadN C 27 d6_26 rfl rfl rfl ?_
  refine go_iloadN C 28 d6_27 rfl rfl ?_
  refine go_iload C 30 d6_28 rfl rfl ?_
  refine go_i2b C 31 (lo8 c1) d6_30 rfl rfl ?_
  refine go_bastore C 32 1 (v := (lo8 c1)) (nar_lo8 _) d6_31 rfl fx4 (by decide) rfl (nble rfl) (mi 0 rfl) ?_
  intro h6 W7 fx8
  have fx9 : Arv Z h6 t kB .byte (23 : Int32) [(.int (lo8 c0)), (.int (lo8 c1)), (.int 0), (.int 0), (.int 0), (.int 0), (.int 0), (.int 0), (.int 0), (.int 0), (.int 0), (.int 0), (.int 0), (.int 0), (.int 0), (.int 0), (.int 0), (.int 0), (.int 0), (.int 0), (.int 0), (.int 0), (.int 0)] (.int 0) := fx8
  refine go_iinc C 35 (Ls' := #[.val (.ref b), .val (.int 2), .val (.ref t), .val (.int 1), .val (.int 23), .val (.int 1), .val (.int c1)]) (1 : Int32) d6_32 rfl (by decide) rfl rfl ?_
  refine go_iinc C 38 (Ls' := #[.val (.ref b), .val (.int 2), .val (.ref t), .val (.int 2), .val (.int 23), .val (.int 1), .val (.int c1)]) (1 : Int32) d6_35 rfl (by decide) rfl rfl ?_
  refine go_iinc C 41 (Ls' := #[.val (.ref b), .val (.int 2), .val (.ref t), .val (.int 2), .val (.int 23), .val (.int 2), .val (.int c1)]) (1 : Int32) d6_38 rfl (by decide) rfl rfl ?_
  refine go_goto C (pc' := 3) d6_41 (by decide) (by decide) ?_
  refine go_iload C 5 d6_3 rfl rfl ?_
  refine go_iload C 7 d6_5 rfl rfl ?_
  refine go_icmpN C 10 d6_7 rfl (tlt ((by decide) : (2 : Int32) < (23 : Int32))).2.1 ?_
  refine go_aloadN C 11 d6_10 rfl rfl rfl ?_
  refine go_iloadN C 12 d6_11 rfl rfl ?_
  have fx10 := (fx5.other W7 hbt)
  refine go_caload C 13 (v := (.int c2)) d6_12 rfl fx10 (by decide) rfl ?_
  refine go_istore C 15 (Ls' := #[.val (.ref b), .val (.int 2), .val (.ref t), .val (.int 2), .val (.int 23), .val (.int 2), .val (.int c2)]) d6_13 rfl rfl ?_
  refine go_iload C 17 d6_15 rfl rfl ?_
  refine go_sipush C 20 (255 : Int32) d6_17 rfl (by decide) ?_
  refine go_icmpY C (pc' := 26) d6_20 (flt (l2 : ¬ ((255 : Int32) < c2))).2.2.2 (by decide) (by decide) ?_
  refine go_aloadN C 27 d6_26 rfl rfl rfl ?_
  refine go_iloadN C 28 d6_27 rfl rfl ?_
  refine go_iload C 30 d6_28 rfl rfl ?_
  refine go_i2b C 31 (lo8 c2) d6_30 rfl rfl ?_
  refine go_bastore C 32 2 (v := (lo8 c2)) (nar_lo8 _) d6_31 rfl fx9 (by decide) rfl (nble rfl) (mi 0 rfl) ?_
  intro h11 W12 fx13
  have fx14 : Arv Z h11 t kB .byte (23 : Int32) [(.int (lo8 c0)), (.int (lo8 c1)), (.int (lo8 c2)), (.int 0), (.int 0), (.int 0), (.int 0), (.int 0), (.int 0), (.int 0), (.int 0), (.int 0), (.int 0), (.int 0), (.int 0), (.int 0), (.int 0), (.int 0), (.int 0), (.int 0), (.int 0), (.int 0), (.int 0)] (.int 0) := fx13
  refine go_iinc C 35 (Ls' := #[.val (.ref b), .val (.int 3), .val (.ref t), .val (.int 2), .val (.int 23), .val (.int 2), .val (.int c2)]) (1 : Int32) d6_32 rfl (by decide) rfl rfl ?_
  refine go_iinc C 38 (Ls' := #[.val (.ref b), .val (.int 3), .val (.ref t), .val (.int 3), .val (.int 23), .val (.int 2), .val (.int c2)]) (1 : Int32) d6_35 rfl (by decide) rfl rfl ?_
  refine go_iinc C 41 (Ls' := #[.val (.ref b), .val (.int 3), .val (.ref t), .val (.int 3), .val (.int 23), .val (.int 3), .val (.int c2)]) (1 : Int32) d6_38 rfl (by decide) rfl rfl ?_
  refine go_goto C (pc' := 3) d6_41 (by decide) (by decide) ?_
  refine go_iload C 5 d6_3 rfl rfl ?_
  refine go_iload C 7 d6_5 rfl rfl ?_
  refine go_icmpN C 10 d6_7 rfl (tlt ((by decide) : (3 : Int32) < (23 : Int32))).2.1 ?_
  refine go_aloadN C 11 d6_10 rfl rfl rfl ?_
  refine go_iloadN C 12 d6_11 rfl rfl ?_
  have fx15 := (fx10.other W12 hbt)
  refine go_caload C 13 (v := (.int c3)) d6_12 rfl fx15 (by decide) rfl ?_
  refine go_istore C 15 (Ls' := #[.val (.ref b), .val (.int 3), .val (.ref t), .val (.int 3), .val (.int 23), .val (.int 3), .val (.int c3)]) d6_13 rfl rfl ?_
  refine go_iload C 17 d6_15 rfl rfl ?_
  refine go_sipush C 20 (255 : Int32) d6_17 rfl (by decide) ?_
  refine go_icmpY C (pc' := 26) d6_20 (flt (l3 : ¬ ((255 : Int32) < c3))).2.2.2 (by decide) (by decide) ?_
  refine go_aloadN C 27 d6_26 rfl rfl rfl ?_
  refine go_iloadN C 28 d6_27 rfl rfl ?_
  refine go_iload C 30 d6_28 rfl rfl ?_
  refine go_i2b C 31 (lo8 c3) d6_30 rfl rfl ?_
  refine go_bastore C 32 3 (v := (lo8 c3)) (nar_lo8 _) d6_31 rfl fx14 (by decide) rfl (nble rfl) (mi 0 rfl) ?_
  intro h16 W17 fx18
  have fx19 : Arv Z h16 t kB .byte (23 : Int32) [(.int (lo8 c0)), (.int (lo8 c1)), (.int (lo8 c2)), (.int (lo8 c3)), (.int 0), (.int 0), (.int 0), (.int 0), (.int 0), (.int 0), (.int 0), (.int 0), (.int 0), (.int 0), (.int 0), (.int 0), (.int 0), (.int 0), (.int 0), (.int 0), (.int 0), (.int 0), (.int 0)] (.int 0) := fx18
  refine go_iinc C 35 (Ls' := #[.val (.ref b), .val (.int 4), .val (.ref t), .val (.int 3), .val (.int 23), .val (.int 3), .val (.int c3)]) (1 : Int32) d6_32 rfl (by decide) rfl rfl ?_
  refine go_iinc C 38 (Ls' := #[.val (.ref b), .val (.int 4), .val (.ref t), .val (.int 4), .val (.int 23), .val (.int 3), .val (.int c3)]) (1 : Int32) d6_35 rfl (by decide) rfl rfl ?_
  refine go_iinc C 41 (Ls' := #[.val (.ref b), .val (.int 4), .val (.ref t), .val (.int 4), .val (.int 23), .val (.int 4), .val (.int c3)]) (1 : Int32) d6_38 rfl (by decide) rfl rfl ?_
  refine go_goto C (pc' := 3) d6_41 (by decide) (by decide) ?_
  refine go_iload C 5 d6_3 rfl rfl ?_
  refine go_iload C 7 d6_5 rfl rfl ?_
  refine go_icmpN C 10 d6_7 rfl (tlt ((by decide) : (4 : Int32) < (23 : Int32))).2.1 ?_
  refine go_aloadN C 11 d6_10 rfl rfl rfl ?_
  refine go_iloadN C 12 d6_11 rfl rfl ?_
  have fx20 := (fx15.other W17 hbt)
  refine go_caload C 13 (v := (.int c4)) d6_12 rfl fx20 (by decide) rfl ?_
  refine go_istore C 15 (Ls' := #[.val (.ref b), .val (.int 4), .val (.ref t), .val (.int 4), .val (.int 23), .val (.int 4), .val (.int c4)]) d6_13 rfl rfl ?_
  refine go_iload C 17 d6_15 rfl rfl ?_
  refine go_sipush C 20 (255 : Int32) d6_17 rfl (by decide) ?_
  refine go_icmpY C (pc' := 26) d6_20 (flt (l4 : ¬ ((255 : Int32) < c4))).2.2.2 (by decide) (by decide) ?_
  refine go_aloadN C 27 d6_26 rfl rfl rfl ?_
  refine go_iloadN C 28 d6_27 rfl rfl ?_
  refine go_iload C 30 d6_28 rfl rfl ?_
  refine go_i2b C 31 (lo8 c4) d6_30 rfl rfl ?_
  refine go_bastore C 32 4 (v := (lo8 c4)) (nar_lo8 _) d6_31 rfl fx19 (by decide) rfl (nble rfl) (mi 0 rfl) ?_
  intro h21 W22 fx23
  have fx24 : Arv Z h21 t kB .byte (23 : Int32) [(.int (lo8 c0)), (.int (lo8 c1)), (.int (lo8 c2)), (.int (lo8 c3)), (.int (lo8 c4)), (.int 0), (.int 0), (.int 0), (.int 0), (.int 0), (.int 0), (.int 0), (.int 0), (.int 0), (.int 0), (.int 0), (.int 0), (.int 0), (.int 0), (.int 0), (.int 0), (.int 0), (.int 0)] (.int 0) := fx23
  refine go_iinc C 35 (Ls' := #[.val (.ref b), .val (.int 5), .val (.ref t), .val (.int 4), .val (.int 23), .val (.int 4), .val (.int c4)]) (1 : Int32) d6_32 rfl (by decide) rfl rfl ?_
  refine go_iinc C 38 (Ls' := #[.val (.ref b), .val (.int 5), .val (.ref t), .val (.int 5), .val (.int 23), .val (.int 4), .val (.int c4)]) (1 : Int32) d6_35 rfl (by decide) rfl rfl ?_
  refine go_iinc C 41 (Ls' := #[.val (.ref b), .val (.int 5), .val (.ref t), .val (.int 5), .val (.int 23), .val (.int 5), .val (.int c4)]) (1 : Int32) d6_38 rfl (by decide) rfl rfl ?_
  refine go_goto C (pc' := 3) d6_41 (by decide) (by decide) ?_
  refine go_iload C 5 d6_3 rfl rfl ?_
  refine go_iload C 7 d6_5 rfl rfl ?_
  refine go_icmpN C 10 d6_7 rfl (tlt ((by decide) : (5 : Int32) < (23 : Int32))).2.1 ?_
  refine go_aloadN C 11 d6_10 rfl rfl rfl ?_
  refine go_iloadN C 12 d6_11 rfl rfl ?_
  have fx25 := (fx20.other W22 hbt)
  refine go_caload C 13 (v := (.int c5)) d6_12 rfl fx25 (by decide) rfl ?_
  refine go_istore C 15 (Ls' := #[.val (.ref b), .val (.int 5), .val (.ref t), .val (.int 5), .val (.int 23), .val (.int 5), .val (.int c5)]) d6_13 rfl rfl ?_
  refine go_iload C 17 d6_15 rfl rfl ?_
  refine go_sipush C 20 (255 : Int32) d6_17 rfl (by decide) ?_
  refine go_icmpY C (pc' := 26) d6_20 (flt (l5 : ¬ ((255 : Int32) < c5))).2.2.2 (by decide) (by decide) ?_
  refine go_aloadN C 27 d6_26 rfl rfl rfl ?_
  refine go_iloadN C 28 d6_27 rfl rfl ?_
  refine go_iload C 30 d6_28 rfl rfl ?_
  refine go_i2b C 31 (lo8 c5) d6_30 rfl rfl ?_
  refine go_bastore C 32 5 (v := (lo8 c5)) (nar_lo8 _) d6_31 rfl fx24 (by decide) rfl (nble rfl) (mi 0 rfl) ?_
  intro h26 W27 fx28
  have fx29 : Arv Z h26 t kB .byte (23 : Int32) [(.int (lo8 c0)), (.int (lo8 c1)), (.int (lo8 c2)), (.int (lo8 c3)), (.int (lo8 c4)), (.int (lo8 c5)), (.int 0), (.int 0), (.int 0), (.int 0), (.int 0), (.int 0), (.int 0), (.int 0), (.int 0), (.int 0), (.int 0), (.int 0), (.int 0), (.int 0), (.int 0), (.int 0), (.int 0)] (.int 0) := fx28
  refine go_iinc C 35 (Ls' := #[.val (.ref b), .val (.int 6), .val (.ref t), .val (.int 5), .val (.int 23), .val (.int 5), .val (.int c5)]) (1 : Int32) d6_32 rfl (by decide) rfl rfl ?_
  refine go_iinc C 38 (Ls' := #[.val (.ref b), .val (.int 6), .val (.ref t), .val (.int 6), .val (.int 23), .val (.int 5), .val (.int c5)]) (1 : Int32) d6_35 rfl (by decide) rfl rfl ?_
  refine go_iinc C 41 (Ls' := #[.val (.ref b), .val (.int 6), .val (.ref t), .val (.int 6), .val (.int 23), .val (.int 6), .val (.int c5)]) (1 : Int32) d6_38 rfl (by decide) rfl rfl ?_
  refine go_goto C (pc' := 3) d6_41 (by decide) (by decide) ?_
  refine go_iload C 5 d6_3 rfl rfl ?_
  refine go_iload C 7 d6_5 rfl rfl ?_
  refine go_icmpN C 10 d6_7 rfl (tlt ((by decide) : (6 : Int32) < (23 : Int32))).2.1 ?_
  refine go_aloadN C 11 d6_10 rfl rfl rfl ?_
  refine go_iloadN C 12 d6_11 rfl rfl ?_
  have fx30 := (fx25.other W27 hbt)
  refine go_caload C 13 (v := (.int c6)) d6_12 rfl fx30 (by decide) rfl ?_
  refine go_istore C 15 (Ls' := #[.val (.ref b), .val (.int 6), .val (.ref t), .val (.int 6), .val (.int 23), .val (.int 6), .val (.int c6)]) d6_13 rfl rfl ?_
  refine go_iload C 17 d6_15 rfl rfl ?_
  refine go_sipush C 20 (255 : Int32) d6_17 rfl (by decide) ?_
  refine go_icmpY C (pc' := 26) d6_20 (flt (l6 : ¬ ((255 : Int32) < c6))).2.2.2 (by decide) (by decide) ?_
  refine go_aloadN C 27 d6_26 rfl rfl rfl ?_
  refine go_iloadN C 28 d6_27 rfl rfl ?_
  refine go_iload C 30 d6_28 rfl rfl ?_
  refine go_i2b C 31 (lo8 c6) d6_30 rfl rfl ?_
  refine go_bastore C 32 6 (v := (lo8 c6)) (nar_lo8 _) d6_31 rfl fx29 (by decide) rfl (nble rfl) (mi 0 rfl) ?_
  intro h31 W32 fx33
  have fx34 : Arv Z h31 t kB .byte (23 : Int32) [(.int (lo8 c0)), (.int (lo8 c1)), (.int (lo8 c2)), (.int (lo8 c3)), (.int (lo8 c4)), (.int (lo8 c5)), (.int (lo8 c6)), (.int 0), (.int 0), (.int 0), (.int 0), (.int 0), (.int 0), (.int 0), (.int 0), (.int 0), (.int 0), (.int 0), (.int 0), (.int 0), (.int 0), (.int 0), (.int 0)] (.int 0) := fx33
  refine go_iinc C 35 (Ls' := #[.val (.ref b), .val (.int 7), .val (.ref t), .val (.int 6), .val (.int 23), .val (.int 6), .val (.int c6)]) (1 : Int32) d6_32 rfl (by decide) rfl rfl ?_
  refine go_iinc C 38 (Ls' := #[.val (.ref b), .val (.int 7), .val (.ref t), .val (.int 7), .val (.int 23), .val (.int 6), .val (.int c6)]) (1 : Int32) d6_35 rfl (by decide) rfl rfl ?_
  refine go_iinc C 41 (Ls' := #[.val (.ref b), .val (.int 7), .val (.ref t), .val (.int 7), .val (.int 23), .val (.int 7), .val (.int c6)]) (1 : Int32) d6_38 rfl (by decide) rfl rfl ?_
  refine go_goto C (pc' := 3) d6_41 (by decide) (by decide) ?_
  refine go_iload C 5 d6_3 rfl rfl ?_
  refine go_iload C 7 d6_5 rfl rfl ?_
  refine go_icmpN C 10 d6_7 rfl (tlt ((by decide) : (7 : Int32) < (23 : Int32))).2.1 ?_
  refine go_aloadN C 11 d6_10 rfl rfl rfl ?_
  refine go_iloadN C 12 d6_11 rfl rfl ?_
  have fx35 := (fx30.other W32 hbt)
  refine go_caload C 13 (v := (.int c7)) d6_12 rfl fx35 (by decide) rfl ?_
  refine go_istore C 15 (Ls' := #[.val (.ref b), .val (.int 7), .val (.ref t), .val (.int 7), .val (.int 23), .val (.int 7), .val (.int c7)]) d6_13 rfl rfl ?_
  refine go_iload C 17 d6_15 rfl rfl ?_
  refine go_sipush C 20 (255 : Int32) d6_17 rfl (by decide) ?_
  refine go_icmpY C (pc' := 26) d6_20 (flt (l7 : ¬ ((255 : Int32) < c7))).2.2.2 (by decide) (by decide) ?_
  refine go_aloadN C 27 d6_26 rfl rfl rfl ?_
  refine go_iloadN C 28 d6_27 rfl rfl ?_
  refine go_iload C 30 d6_28 rfl rfl ?_
  refine go_i2b C 31 (lo8 c7) d6_30 rfl rfl ?_
  refine go_bastore C 32 7 (v := (lo8 c7)) (nar_lo8 _) d6_31 rfl fx34 (by decide) rfl (nble rfl) (mi 0 rfl) ?_
  intro h36 W37 fx38
  have fx39 : Arv Z h36 t kB .byte (23 : Int32) [(.int (lo8 c0)), (.int (lo8 c1)), (.int (lo8 c2)), (.int (lo8 c3)), (.int (lo8 c4)), (.int (lo8 c5)), (.int (lo8 c6)), (.int (lo8 c7)), (.int 0), (.int 0), (.int 0), (.int 0), (.int 0), (.int 0), (.int 0), (.int 0), (.int 0), (.int 0), (.int 0), (.int 0), (.int 0), (.int 0), (.int 0)] (.int 0) := fx38
  refine go_iinc C 35 (Ls' := #[.val (.ref b), .val (.int 8), .val (.ref t), .val (.int 7), .val (.int 23), .val (.int 7), .val (.int c7)]) (1 : Int32) d6_32 rfl (by decide) rfl rfl ?_
  refine go_iinc C 38 (Ls' := #[.val (.ref b), .val (.int 8), .val (.ref t), .val (.int 8), .val (.int 23), .val (.int 7), .val (.int c7)]) (1 : Int32) d6_35 rfl (by decide) rfl rfl ?_
  refine go_iinc C 41 (Ls' := #[.val (.ref b), .val (.int 8), .val (.ref t), .val (.int 8), .val (.int 23), .val (.int 8), .val (.int c7)]) (1 : Int32) d6_38 rfl (by decide) rfl rfl ?_
  refine go_goto C (pc' := 3) d6_41 (by decide) (by decide) ?_
  refine go_iload C 5 d6_3 rfl rfl ?_
  refine go_iload C 7 d6_5 rfl rfl ?_
  refine go_icmpN C 10 d6_7 rfl (tlt ((by decide) : (8 : Int32) < (23 : Int32))).2.1 ?_
  refine go_aloadN C 11 d6_10 rfl rfl rfl ?_
  refine go_iloadN C 12 d6_11 rfl rfl ?_
  have fx40 := (fx35.other W37 hbt)
  refine go_caload C 13 (v := (.int c8)) d6_12 rfl fx40 (by decide) rfl ?_
  refine go_istore C 15 (Ls' := #[.val (.ref b), .val (.int 8), .val (.ref t), .val (.int 8), .val (.int 23), .val (.int 8), .val (.int c8)]) d6_13 rfl rfl ?_
  refine go_iload C 17 d6_15 rfl rfl ?_
  refine go_sipush C 20 (255 : Int32) d6_17 rfl (by decide) ?_
  refine go_icmpY C (pc' := 26) d6_20 (flt (l8 : ¬ ((255 : Int32) < c8))).2.2.2 (by decide) (by decide) ?_
  refine go_aloadN C 27 d6_26 rfl rfl rfl ?_
  refine go_iloadN C 28 d6_27 rfl rfl ?_
  refine go_iload C 30 d6_28 rfl rfl ?_
  refine go_i2b C 31 (lo8 c8) d6_30 rfl rfl ?_
  refine go_bastore C 32 8 (v := (lo8 c8)) (nar_lo8 _) d6_31 rfl fx39 (by decide) rfl (nble rfl) (mi 0 rfl) ?_
  intro h41 W42 fx43
  have fx44 : Arv Z h41 t kB .byte (23 : Int32) [(.int (lo8 c0)), (.int (lo8 c1)), (.int (lo8 c2)), (.int (lo8 c3)), (.int (lo8 c4)), (.int (lo8 c5)), (.int (lo8 c6)), (.int (lo8 c7)), (.int (lo8 c8)), (.int 0), (.int 0), (.int 0), (.int 0), (.int 0), (.int 0), (.int 0), (.int 0), (.int 0), (.int 0), (.int 0), (.int 0), (.int 0), (.int 0)] (.int 0) := fx43
  refine go_iinc C 35 (Ls' := #[.val (.ref b), .val (.int 9), .val (.ref t), .val (.int 8), .val (.int 23), .val (.int 8), .val (.int c8)]) (1 : Int32) d6_32 rfl (by decide) rfl rfl ?_
  refine go_iinc C 38 (Ls' := #[.val (.ref b), .val (.int 9), .val (.ref t), .val (.int 9), .val (.int 23), .val (.int 8), .val (.int c8)]) (1 : Int32) d6_35 rfl (by decide) rfl rfl ?_
  refine go_iinc C 41 (Ls' := #[.val (.ref b), .val (.int 9), .val (.ref t), .val (.int 9), .val (.int 23), .val (.int 9), .val (.int c8)]) (1 : Int32) d6_38 rfl (by decide) rfl rfl ?_
  refine go_goto C (pc' := 3) d6_41 (by decide) (by decide) ?_
  refine go_iload C 5 d6_3 rfl rfl ?_
  refine go_iload C 7 d6_5 rfl rfl ?_
  refine go_icmpN C 10 d6_7 rfl (tlt ((by decide) : (9 : Int32) < (23 : Int32))).2.1 ?_
  refine go_aloadN C 11 d6_10 rfl rfl rfl ?_
  refine go_iloadN C 12 d6_11 rfl rfl ?_
  have fx45 := (fx40.other W42 hbt)
  refine go_caload C 13 (v := (.int c9)) d6_12 rfl fx45 (by decide) rfl ?_
  refine go_istore C 15 (Ls' := #[.val (.ref b), .val (.int 9), .val (.ref t), .val (.int 9), .val (.int 23), .val (.int 9), .val (.int c9)]) d6_13 rfl rfl ?_
  refine go_iload C 17 d6_15 rfl rfl ?_
  refine go_sipush C 20 (255 : Int32) d6_17 rfl (by decide) ?_
  refine go_icmpY C (pc' := 26) d6_20 (flt (l9 : ¬ ((255 : Int32) < c9))).2.2.2 (by decide) (by decide) ?_
  refine go_aloadN C 27 d6_26 rfl rfl rfl ?_
  refine go_iloadN C 28 d6_27 rfl rfl ?_
  refine go_iload C 30 d6_28 rfl rfl ?_
  refine go_i2b C 31 (lo8 c9) d6_30 rfl rfl ?_
  refine go_bastore C 32 9 (v := (lo8 c9)) (nar_lo8 _) d6_31 rfl fx44 (by decide) rfl (nble rfl) (mi 0 rfl) ?_
  intro h46 W47 fx48
  have fx49 : Arv Z h46 t kB .byte (23 : Int32) [(.int (lo8 c0)), (.int (lo8 c1)), (.int (lo8 c2)), (.int (lo8 c3)), (.int (lo8 c4)), (.int (lo8 c5)), (.int (lo8 c6)), (.int (lo8 c7)), (.int (lo8 c8)), (.int (lo8 c9)), (.int 0), (.int 0), (.int 0), (.int 0), (.int 0), (.int 0), (.int 0), (.int 0), (.int 0), (.int 0), (.int 0), (.int 0), (.int 0)] (.int 0) := fx48
  refine go_iinc C 35 (Ls' := #[.val (.ref b), .val (.int 10), .val (.ref t), .val (.int 9), .val (.int 23), .val (.int 9), .val (.int c9)]) (1 : Int32) d6_32 rfl (by decide) rfl rfl ?_
  refine go_iinc C 38 (Ls' := #[.val (.ref b), .val (.int 10), .val (.ref t), .val (.int 10), .val (.int 23), .val (.int 9), .val (.int c9)]) (1 : Int32) d6_35 rfl (by decide) rfl rfl ?_
  refine go_iinc C 41 (Ls' := #[.val (.ref b), .val (.int 10), .val (.ref t), .val (.int 10), .val (.int 23), .val (.int 10), .val (.int c9)]) (1 : Int32) d6_38 rfl (by decide) rfl rfl ?_
  refine go_goto C (pc' := 3) d6_41 (by decide) (by decide) ?_
  refine go_iload C 5 d6_3 rfl rfl ?_
  refine go_iload C 7 d6_5 rfl rfl ?_
  refine go_icmpN C 10 d6_7 rfl (tlt ((by decide) : (10 : Int32) < (23 : Int32))).2.1 ?_
  refine go_aloadN C 11 d6_10 rfl rfl rfl ?_
  refine go_iloadN C 12 d6_11 rfl rfl ?_
  have fx50 := (fx45.other W47 hbt)
  refine go_caload C 13 (v := (.int c10)) d6_12 rfl fx50 (by decide) rfl ?_
  refine go_istore C 15 (Ls' := #[.val (.ref b), .val (.int 10), .val (.ref t), .val (.int 10), .val (.int 23), .val (.int 10), .val (.int c10)]) d6_13 rfl rfl ?_
  refine go_iload C 17 d6_15 rfl rfl ?_
  refine go_sipush C 20 (255 : Int32) d6_17 rfl (by decide) ?_
  refine go_icmpY C (pc' := 26) d6_20 (flt (l10 : ¬ ((255 : Int32) < c10))).2.2.2 (by decide) (by decide) ?_
  refine go_aloadN C 27 d6_26 rfl rfl rfl ?_
  refine go_iloadN C 28 d6_27 rfl rfl ?_
  refine go_iload C 30 d6_28 rfl rfl ?_
  refine go_i2b C 31 (lo8 c10) d6_30 rfl rfl ?_
  refine go_bastore C 32 10 (v := (lo8 c10)) (nar_lo8 _) d6_31 rfl fx49 (by decide) rfl (nble rfl) (mi 0 rfl) ?_
  intro h51 W52 fx53
  have fx54 : Arv Z h51 t kB .byte (23 : Int32) [(.int (lo8 c0)), (.int (lo8 c1)), (.int (lo8 c2)), (.int (lo8 c3)), (.int (lo8 c4)), (.int (lo8 c5)), (.int (lo8 c6)), (.int (lo8 c7)), (.int (lo8 c8)), (.int (lo8 c9)), (.int (lo8 c10)), (.int 0), (.int 0), (.int 0), (.int 0), (.int 0), (.int 0), (.int 0), (.int 0), (.int 0), (.int 0), (.int 0), (.int 0)] (.int 0) := fx53
  refine go_iinc C 35 (Ls' := #[.val (.ref b), .val (.int 11), .val (.ref t), .val (.int 10), .val (.int 23), .val (.int 10), .val (.int c10)]) (1 : Int32) d6_32 rfl (by decide) rfl rfl ?_
  refine go_iinc C 38 (Ls' := #[.val (.ref b), .val (.int 11), .val (.ref t), .val (.int 11), .val (.int 23), .val (.int 10), .val (.int c10)]) (1 : Int32) d6_35 rfl (by decide) rfl rfl ?_
  refine go_iinc C 41 (Ls' := #[.val (.ref b), .val (.int 11), .val (.ref t), .val (.int 11), .val (.int 23), .val (.int 11), .val (.int c10)]) (1 : Int32) d6_38 rfl (by decide) rfl rfl ?_
  refine go_goto C (pc' := 3) d6_41 (by decide) (by decide) ?_
  refine go_iload C 5 d6_3 rfl rfl ?_
  refine go_iload C 7 d6_5 rfl rfl ?_
  refine go_icmpN C 10 d6_7 rfl (tlt ((by decide) : (11 : Int32) < (23 : Int32))).2.1 ?_
  refine go_aloadN C 11 d6_10 rfl rfl rfl ?_
  refine go_iloadN C 12 d6_11 rfl rfl ?_
  have fx55 := (fx50.other W52 hbt)
  refine go_caload C 13 (v := (.int c11)) d6_12 rfl fx55 (by decide) rfl ?_
  refine go_istore C 15 (Ls' := #[.val (.ref b), .val (.int 11), .val (.ref t), .val (.int 11), .val (.int 23), .val (.int 11), .val (.int c11)]) d6_13 rfl rfl ?_
  refine go_iload C 17 d6_15 rfl rfl ?_
  refine go_sipush C 20 (255 : Int32) d6_17 rfl (by decide) ?_
  refine go_icmpY C (pc' := 26) d6_20 (flt (l11 : ¬ ((255 : Int32) < c11))).2.2.2 (by decide) (by decide) ?_
  refine go_aloadN C 27 d6_26 rfl rfl rfl ?_
  refine go_iloadN C 28 d6_27 rfl rfl ?_
  refine go_iload C 30 d6_28 rfl rfl ?_
  refine go_i2b C 31 (lo8 c11) d6_30 rfl rfl ?_
  refine go_bastore C 32 11 (v := (lo8 c11)) (nar_lo8 _) d6_31 rfl fx54 (by decide) rfl (nble rfl) (mi 0 rfl) ?_
  intro h56 W57 fx58
  have fx59 : Arv Z h56 t kB .byte (23 : Int32) [(.int (lo8 c0)), (.int (lo8 c1)), (.int (lo8 c2)), (.int (lo8 c3)), (.int (lo8 c4)), (.int (lo8 c5)), (.int (lo8 c6)), (.int (lo8 c7)), (.int (lo8 c8)), (.int (lo8 c9)), (.int (lo8 c10)), (.int (lo8 c11)), (.int 0), (.int 0), (.int 0), (.int 0), (.int 0), (.int 0), (.int 0), (.int 0), (.int 0), (.int 0), (.int 0)] (.int 0) := fx58
  refine go_iinc C 35 (Ls' := #[.val (.ref b), .val (.int 12), .val (.ref t), .val (.int 11), .val (.int 23), .val (.int 11), .val (.int c11)]) (1 : Int32) d6_32 rfl (by decide) rfl rfl ?_
  refine go_iinc C 38 (Ls' := #[.val (.ref b), .val (.int 12), .val (.ref t), .val (.int 12), .val (.int 23), .val (.int 11), .val (.int c11)]) (1 : Int32) d6_35 rfl (by decide) rfl rfl ?_
  refine go_iinc C 41 (Ls' := #[.val (.ref b), .val (.int 12), .val (.ref t), .val (.int 12), .val (.int 23), .val (.int 12), .val (.int c11)]) (1 : Int32) d6_38 rfl (by decide) rfl rfl ?_
  refine go_goto C (pc' := 3) d6_41 (by decide) (by decide) ?_
  refine go_iload C 5 d6_3 rfl rfl ?_
  refine go_iload C 7 d6_5 rfl rfl ?_
  refine go_icmpN C 10 d6_7 rfl (tlt ((by decide) : (12 : Int32) < (23 : Int32))).2.1 ?_
  refine go_aloadN C 11 d6_10 rfl rfl rfl ?_
  refine go_iloadN C 12 d6_11 rfl rfl ?_
  have fx60 := (fx55.other W57 hbt)
  refine go_caload C 13 (v := (.int c12)) d6_12 rfl fx60 (by decide) rfl ?_
  refine go_istore C 15 (Ls' := #[.val (.ref b), .val (.int 12), .val (.ref t), .val (.int 12), .val (.int 23), .val (.int 12), .val (.int c12)]) d6_13 rfl rfl ?_
  refine go_iload C 17 d6_15 rfl rfl ?_
  refine go_sipush C 20 (255 : Int32) d6_17 rfl (by decide) ?_
  refine go_icmpY C (pc' := 26) d6_20 (flt (l12 : ¬ ((255 : Int32) < c12))).2.2.2 (by decide) (by decide) ?_
  refine go_aloadN C 27 d6_26 rfl rfl rfl ?_
  refine go_iloadN C 28 d6_27 rfl rfl ?_
  refine go_iload C 30 d6_28 rfl rfl ?_
  refine go_i2b C 31 (lo8 c12) d6_30 rfl rfl ?_
  refine go_bastore C 32 12 (v := (lo8 c12)) (nar_lo8 _) d6_31 rfl fx59 (by decide) rfl (nble rfl) (mi 0 rfl) ?_
  intro h61 W62 fx63
  have fx64 : Arv Z h61 t kB .byte (23 : Int32) [(.int (lo8 c0)), (.int (lo8 c1)), (.int (lo8 c2)), (.int (lo8 c3)), (.int (lo8 c4)), (.int (lo8 c5)), (.int (lo8 c6)), (.int (lo8 c7)), (.int (lo8 c8)), (.int (lo8 c9)), (.int (lo8 c10)), (.int (lo8 c11)), (.int (lo8 c12)), (.int 0), (.int 0), (.int 0), (.int 0), (.int 0), (.int 0), (.int 0), (.int 0), (.int 0), (.int 0)] (.int 0) := fx63
  refine go_iinc C 35 (Ls' := #[.val (.ref b), .val (.int 13), .val (.ref t), .val (.int 12), .val (.int 23), .val (.int 12), .val (.int c12)]) (1 : Int32) d6_32 rfl (by decide) rfl rfl ?_
  refine go_iinc C 38 (Ls' := #[.val (.ref b), .val (.int 13), .val (.ref t), .val (.int 13), .val (.int 23), .val (.int 12), .val (.int c12)]) (1 : Int32) d6_35 rfl (by decide) rfl rfl ?_
  refine go_iinc C 41 (Ls' := #[.val (.ref b), .val (.int 13), .val (.ref t), .val (.int 13), .val (.int 23), .val (.int 13), .val (.int c12)]) (1 : Int32) d6_38 rfl (by decide) rfl rfl ?_
  refine go_goto C (pc' := 3) d6_41 (by decide) (by decide) ?_
  refine go_iload C 5 d6_3 rfl rfl ?_
  refine go_iload C 7 d6_5 rfl rfl ?_
  refine go_icmpN C 10 d6_7 rfl (tlt ((by decide) : (13 : Int32) < (23 : Int32))).2.1 ?_
  refine go_aloadN C 11 d6_10 rfl rfl rfl ?_
  refine go_iloadN C 12 d6_11 rfl rfl ?_
  have fx65 := (fx60.other W62 hbt)
  refine go_caload C 13 (v := (.int c13)) d6_12 rfl fx65 (by decide) rfl ?_
  refine go_istore C 15 (Ls' := #[.val (.ref b), .val (.int 13), .val (.ref t), .val (.int 13), .val (.int 23), .val (.int 13), .val (.int c13)]) d6_13 rfl rfl ?_
  refine go_iload C 17 d6_15 rfl rfl ?_
  refine go_sipush C 20 (255 : Int32) d6_17 rfl (by decide) ?_
  refine go_icmpY C (pc' := 26) d6_20 (flt (l13 : ¬ ((255 : Int32) < c13))).2.2.2 (by decide) (by decide) ?_
  refine go_aloadN C 27 d6_26 rfl rfl rfl ?_
  refine go_iloadN C 28 d6_27 rfl rfl ?_
  refine go_iload C 30 d6_28 rfl rfl ?_
  refine go_i2b C 31 (lo8 c13) d6_30 rfl rfl ?_
  refine go_bastore C 32 13 (v := (lo8 c13)) (nar_lo8 _) d6_31 rfl fx64 (by decide) rfl (nble rfl) (mi 0 rfl) ?_
  intro h66 W67 fx68
  have fx69 : Arv Z h66 t kB .byte (23 : Int32) [(.int (lo8 c0)), (.int (lo8 c1)), (.int (lo8 c2)), (.int (lo8 c3)), (.int (lo8 c4)), (.int (lo8 c5)), (.int (lo8 c6)), (.int (lo8 c7)), (.int (lo8 c8)), (.int (lo8 c9)), (.int (lo8 c10)), (.int (lo8 c11)), (.int (lo8 c12)), (.int (lo8 c13)), (.int 0), (.int 0), (.int 0), (.int 0), (.int 0), (.int 0), (.int 0), (.int 0), (.int 0)] (.int 0) := fx68
  refine go_iinc C 35 (Ls' := #[.val (.ref b), .val (.int 14), .val (.ref t), .val (.int 13), .val (.int 23), .val (.int 13), .val (.int c13)]) (1 : Int32) d6_32 rfl (by decide) rfl rfl ?_
  refine go_iinc C 38 (Ls' := #[.val (.ref b), .val (.int 14), .val (.ref t), .val (.int 14), .val (.int 23), .val (.int 13), .val (.int c13)]) (1 : Int32) d6_35 rfl (by decide) rfl rfl ?_
  refine go_iinc C 41 (Ls' := #[.val (.ref b), .val (.int 14), .val (.ref t), .val (.int 14), .val (.int 23), .val (.int 14), .val (.int c13)]) (1 : Int32) d6_38 rfl (by decide) rfl rfl ?_
  refine go_goto C (pc' := 3) d6_41 (by decide) (by decide) ?_
  refine go_iload C 5 d6_3 rfl rfl ?_
  refine go_iload C 7 d6_5 rfl rfl ?_
  refine go_icmpN C 10 d6_7 rfl (tlt ((by decide) : (14 : Int32) < (23 : Int32))).2.1 ?_
  refine go_aloadN C 11 d6_10 rfl rfl rfl ?_
  refine go_iloadN C 12 d6_11 rfl rfl ?_
  have fx70 := (fx65.other W67 hbt)
  refine go_caload C 13 (v := (.int c14)) d6_12 rfl fx70 (by decide) rfl ?_
  refine go_istore C 15 (Ls' := #[.val (.ref b), .val (.int 14), .val (.ref t), .val (.int 14), .val (.int 23), .val (.int 14), .val (.int c14)]) d6_13 rfl rfl ?_
  refine go_iload C 17 d6_15 rfl rfl ?_
  refine go_sipush C 20 (255 : Int32) d6_17 rfl (by decide) ?_
  refine go_icmpY C (pc' := 26) d6_20 (flt (l14 : ¬ ((255 : Int32) < c14))).2.2.2 (by decide) (by decide) ?_
  refine go_aloadN C 27 d6_26 rfl rfl rfl ?_
  refine go_iloadN C 28 d6_27 rfl rfl ?_
  refine go_iload C 30 d6_28 rfl rfl ?_
  refine go_i2b C 31 (lo8 c14) d6_30 rfl rfl ?_
  refine go_bastore C 32 14 (v := (lo8 c14)) (nar_lo8 _) d6_31 rfl fx69 (by decide) rfl (nble rfl) (mi 0 rfl) ?_
  intro h71 W72 fx73
  have fx74 : Arv Z h71 t kB .byte (23 : Int32) [(.int (lo8 c0)), (.int (lo8 c1)), (.int (lo8 c2)), (.int (lo8 c3)), (.int (lo8 c4)), (.int (lo8 c5)), (.int (lo8 c6)), (.int (lo8 c7)), (.int (lo8 c8)), (.int (lo8 c9)), (.int (lo8 c10)), (.int (lo8 c11)), (.int (lo8 c12)), (.int (lo8 c13)), (.int (lo8 c14)), (.int 0), (.int 0), (.int 0), (.int 0), (.int 0), (.int 0), (.int 0), (.int 0)] (.int 0) := fx73
  refine go_iinc C 35 (Ls' := #[.val (.ref b), .val (.int 15), .val (.ref t), .val (.int 14), .val (.int 23), .val (.int 14), .val (.int c14)]) (1 : Int32) d6_32 rfl (by decide) rfl rfl ?_
  refine go_iinc C 38 (Ls' := #[.val (.ref b), .val (.int 15), .val (.ref t), .val (.int 15), .val (.int 23), .val (.int 14), .val (.int c14)]) (1 : Int32) d6_35 rfl (by decide) rfl rfl ?_
  refine go_iinc C 41 (Ls' := #[.val (.ref b), .val (.int 15), .val (.ref t), .val (.int 15), .val (.int 23), .val (.int 15), .val (.int c14)]) (1 : Int32) d6_38 rfl (by decide) rfl rfl ?_
  refine go_goto C (pc' := 3) d6_41 (by decide) (by decide) ?_
  refine go_iload C 5 d6_3 rfl rfl ?_
  refine go_iload C 7 d6_5 rfl rfl ?_
  refine go_icmpN C 10 d6_7 rfl (tlt ((by decide) : (15 : Int32) < (23 : Int32))).2.1 ?_
  refine go_aloadN C 11 d6_10 rfl rfl rfl ?_
  refine go_iloadN C 12 d6_11 rfl rfl ?_
  have fx75 := (fx70.other W72 hbt)
  refine go_caload C 13 (v := (.int c15)) d6_12 rfl fx75 (by decide) rfl ?_
  refine go_istore C 15 (Ls' := #[.val (.ref b), .val (.int 15), .val (.ref t), .val (.int 15), .val (.int 23), .val (.int 15), .val (.int c15)]) d6_13 rfl rfl ?_
  refine go_iload C 17 d6_15 rfl rfl ?_
  refine go_sipush C 20 (255 : Int32) d6_17 rfl (by decide) ?_
  refine go_icmpY C (pc' := 26) d6_20 (flt (l15 : ¬ ((255 : Int32) < c15))).2.2.2 (by decide) (by decide) ?_
  refine go_aloadN C 27 d6_26 rfl rfl rfl ?_
  refine go_iloadN C 28 d6_27 rfl rfl ?_
  refine go_iload C 30 d6_28 rfl rfl ?_
  refine go_i2b C 31 (lo8 c15) d6_30 rfl rfl ?_
  refine go_bastore C 32 15 (v := (lo8 c15)) (nar_lo8 _) d6_31 rfl fx74 (by decide) rfl (nble rfl) (mi 0 rfl) ?_
  intro h76 W77 fx78
  have fx79 : Arv Z h76 t kB .byte (23 : Int32) [(.int (lo8 c0)), (.int (lo8 c1)), (.int (lo8 c2)), (.int (lo8 c3)), (.int (lo8 c4)), (.int (lo8 c5)), (.int (lo8 c6)), (.int (lo8 c7)), (.int (lo8 c8)), (.int (lo8 c9)), (.int (lo8 c10)), (.int (lo8 c11)), (.int (lo8 c12)), (.int (lo8 c13)), (.int (lo8 c14)), (.int (lo8 c15)), (.int 0), (.int 0), (.int 0), (.int 0), (.int 0), (.int 0), (.int 0)] (.int 0) := fx78
  refine go_iinc C 35 (Ls' := #[.val (.ref b), .val (.int 16), .val (.ref t), .val (.int 15), .val (.int 23), .val (.int 15), .val (.int c15)]) (1 : Int32) d6_32 rfl (by decide) rfl rfl ?_
  refine go_iinc C 38 (Ls' := #[.val (.ref b), .val (.int 16), .val (.ref t), .val (.int 16), .val (.int 23), .val (.int 15), .val (.int c15)]) (1 : Int32) d6_35 rfl (by decide) rfl rfl ?_
  refine go_iinc C 41 (Ls' := #[.val (.ref b), .val (.int 16), .val (.ref t), .val (.int 16), .val (.int 23), .val (.int 16), .val (.int c15)]) (1 : Int32) d6_38 rfl (by decide) rfl rfl ?_
  refine go_goto C (pc' := 3) d6_41 (by decide) (by decide) ?_
  refine go_iload C 5 d6_3 rfl rfl ?_
  refine go_iload C 7 d6_5 rfl rfl ?_
  refine go_icmpN C 10 d6_7 rfl (tlt ((by decide) : (16 : Int32) < (23 : Int32))).2.1 ?_
  refine go_aloadN C 11 d6_10 rfl rfl rfl ?_
  refine go_iloadN C 12 d6_11 rfl rfl ?_
  have fx80 := (fx75.other W77 hbt)
  refine go_caload C 13 (v := (.int c16)) d6_12 rfl fx80 (by decide) rfl ?_
  refine go_istore C 15 (Ls' := #[.val (.ref b), .val (.int 16), .val (.ref t), .val (.int 16), .val (.int 23), .val (.int 16), .val (.int c16)]) d6_13 rfl rfl ?_
  refine go_iload C 17 d6_15 rfl rfl ?_
  refine go_sipush C 20 (255 : Int32) d6_17 rfl (by decide) ?_
  refine go_icmpY C (pc' := 26) d6_20 (flt (l16 : ¬ ((255 : Int32) < c16))).2.2.2 (by decide) (by decide) ?_
  refine go_aloadN C 27 d6_26 rfl rfl rfl ?_
  refine go_iloadN C 28 d6_27 rfl rfl ?_
  refine go_iload C 30 d6_28 rfl rfl ?_
  refine go_i2b C 31 (lo8 c16) d6_30 rfl rfl ?_
  refine go_bastore C 32 16 (v := (lo8 c16)) (nar_lo8 _) d6_31 rfl fx79 (by decide) rfl (nble rfl) (mi 0 rfl) ?_
  intro h81 W82 fx83
  have fx84 : Arv Z h81 t kB .byte (23 : Int32) [(.int (lo8 c0)), (.int (lo8 c1)), (.int (lo8 c2)), (.int (lo8 c3)), (.int (lo8 c4)), (.int (lo8 c5)), (.int (lo8 c6)), (.int (lo8 c7)), (.int (lo8 c8)), (.int (lo8 c9)), (.int (lo8 c10)), (.int (lo8 c11)), (.int (lo8 c12)), (.int (lo8 c13)), (.int (lo8 c14)), (.int (lo8 c15)), (.int (lo8 c16)), (.int 0), (.int 0), (.int 0), (.int 0), (.int 0), (.int 0)] (.int 0) := fx83
  refine go_iinc C 35 (Ls' := #[.val (.ref b), .val (.int 17), .val (.ref t), .val (.int 16), .val (.int 23), .val (.int 16), .val (.int c16)]) (1 : Int32) d6_32 rfl (by decide) rfl rfl ?_
  refine go_iinc C 38 (Ls' := #[.val (.ref b), .val (.int 17), .val (.ref t), .val (.int 17), .val (.int 23), .val (.int 16), .val (.int c16)]) (1 : Int32) d6_35 rfl (by decide) rfl rfl ?_
  refine go_iinc C 41 (Ls' := #[.val (.ref b), .val (.int 17), .val (.ref t), .val (.int 17), .val (.int 23), .val (.int 17), .val (.int c16)]) (1 : Int32) d6_38 rfl (by decide) rfl rfl ?_
  refine go_goto C (pc' := 3) d6_41 (by decide) (by decide) ?_
  refine go_iload C 5 d6_3 rfl rfl ?_
  refine go_iload C 7 d6_5 rfl rfl ?_
  refine go_icmpN C 10 d6_7 rfl (tlt ((by decide) : (17 : Int32) < (23 : Int32))).2.1 ?_
  refine go_aloadN C 11 d6_10 rfl rfl rfl ?_
  refine go_iloadN C 12 d6_11 rfl rfl ?_
  have fx85 := (fx80.other W82 hbt)
  refine go_caload C 13 (v := (.int c17)) d6_12 rfl fx85 (by decide) rfl ?_
  refine go_istore C 15 (Ls' := #[.val (.ref b), .val (.int 17), .val (.ref t), .val (.int 17), .val (.int 23), .val (.int 17), .val (.int c17)]) d6_13 rfl rfl ?_
  refine go_iload C 17 d6_15 rfl rfl ?_
  refine go_sipush C 20 (255 : Int32) d6_17 rfl (by decide) ?_
  refine go_icmpY C (pc' := 26) d6_20 (flt (l17 : ¬ ((255 : Int32) < c17))).2.2.2 (by decide) (by decide) ?_
  refine go_aloadN C 27 d6_26 rfl rfl rfl ?_
  refine go_iloadN C 28 d6_27 rfl rfl ?_
  refine go_iload C 30 d6_28 rfl rfl ?_
  refine go_i2b C 31 (lo8 c17) d6_30 rfl rfl ?_
  refine go_bastore C 32 17 (v := (lo8 c17)) (nar_lo8 _) d6_31 rfl fx84 (by decide) rfl (nble rfl) (mi 0 rfl) ?_
  intro h86 W87 fx88
  have fx89 : Arv Z h86 t kB .byte (23 : Int32) [(.int (lo8 c0)), (.int (lo8 c1)), (.int (lo8 c2)), (.int (lo8 c3)), (.int (lo8 c4)), (.int (lo8 c5)), (.int (lo8 c6)), (.int (lo8 c7)), (.int (lo8 c8)), (.int (lo8 c9)), (.int (lo8 c10)), (.int (lo8 c11)), (.int (lo8 c12)), (.int (lo8 c13)), (.int (lo8 c14)), (.int (lo8 c15)), (.int (lo8 c16)), (.int (lo8 c17)), (.int 0), (.int 0), (.int 0), (.int 0), (.int 0)] (.int 0) := fx88
  refine go_iinc C 35 (Ls' := #[.val (.ref b), .val (.int 18), .val (.ref t), .val (.int 17), .val (.int 23), .val (.int 17), .val (.int c17)]) (1 : Int32) d6_32 rfl (by decide) rfl rfl ?_
  refine go_iinc C 38 (Ls' := #[.val (.ref b), .val (.int 18), .val (.ref t), .val (.int 18), .val (.int 23), .val (.int 17), .val (.int c17)]) (1 : Int32) d6_35 rfl (by decide) rfl rfl ?_
  refine go_iinc C 41 (Ls' := #[.val (.ref b), .val (.int 18), .val (.ref t), .val (.int 18), .val (.int 23), .val (.int 18), .val (.int c17)]) (1 : Int32) d6_38 rfl (by decide) rfl rfl ?_
  refine go_goto C (pc' := 3) d6_41 (by decide) (by decide) ?_
  refine go_iload C 5 d6_3 rfl rfl ?_
  refine go_iload C 7 d6_5 rfl rfl ?_
  refine go_icmpN C 10 d6_7 rfl (tlt ((by decide) : (18 : Int32) < (23 : Int32))).2.1 ?_
  refine go_aloadN C 11 d6_10 rfl rfl rfl ?_
  refine go_iloadN C 12 d6_11 rfl rfl ?_
  have fx90 := (fx85.other W87 hbt)
  refine go_caload C 13 (v := (.int c18)) d6_12 rfl fx90 (by decide) rfl ?_
  refine go_istore C 15 (Ls' := #[.val (.ref b), .val (.int 18), .val (.ref t), .val (.int 18), .val (.int 23), .val (.int 18), .val (.int c18)]) d6_13 rfl rfl ?_
  refine go_iload C 17 d6_15 rfl rfl ?_
  refine go_sipush C 20 (255 : Int32) d6_17 rfl (by decide) ?_
  refine go_icmpY C (pc' := 26) d6_20 (flt (l18 : ¬ ((255 : Int32) < c18))).2.2.2 (by decide) (by decide) ?_
  refine go_aloadN C 27 d6_26 rfl rfl rfl ?_
  refine go_iloadN C 28 d6_27 rfl rfl ?_
  refine go_iload C 30 d6_28 rfl rfl ?_
  refine go_i2b C 31 (lo8 c18) d6_30 rfl rfl ?_
  refine go_bastore C 32 18 (v := (lo8 c18)) (nar_lo8 _) d6_31 rfl fx89 (by decide) rfl (nble rfl) (mi 0 rfl) ?_
  intro h91 W92 fx93
  have fx94 : Arv Z h91 t kB .byte (23 : Int32) [(.int (lo8 c0)), (.int (lo8 c1)), (.int (lo8 c2)), (.int (lo8 c3)), (.int (lo8 c4)), (.int (lo8 c5)), (.int (lo8 c6)), (.int (lo8 c7)), (.int (lo8 c8)), (.int (lo8 c9)), (.int (lo8 c10)), (.int (lo8 c11)), (.int (lo8 c12)), (.int (lo8 c13)), (.int (lo8 c14)), (.int (lo8 c15)), (.int (lo8 c16)), (.int (lo8 c17)), (.int (lo8 c18)), (.int 0), (.int 0), (.int 0), (.int 0)] (.int 0) := fx93
  refine go_iinc C 35 (Ls' := #[.val (.ref b), .val (.int 19), .val (.ref t), .val (.int 18), .val (.int 23), .val (.int 18), .val (.int c18)]) (1 : Int32) d6_32 rfl (by decide) rfl rfl ?_
  refine go_iinc C 38 (Ls' := #[.val (.ref b), .val (.int 19), .val (.ref t), .val (.int 19), .val (.int 23), .val (.int 18), .val (.int c18)]) (1 : Int32) d6_35 rfl (by decide) rfl rfl ?_
  refine go_iinc C 41 (Ls' := #[.val (.ref b), .val (.int 19), .val (.ref t), .val (.int 19), .val (.int 23), .val (.int 19), .val (.int c18)]) (1 : Int32) d6_38 rfl (by decide) rfl rfl ?_
  refine go_goto C (pc' := 3) d6_41 (by decide) (by decide) ?_
  refine go_iload C 5 d6_3 rfl rfl ?_
  refine go_iload C 7 d6_5 rfl rfl ?_
  refine go_icmpN C 10 d6_7 rfl (tlt ((by decide) : (19 : Int32) < (23 : Int32))).2.1 ?_
  refine go_aloadN C 11 d6_10 rfl rfl rfl ?_
  refine go_iloadN C 12 d6_11 rfl rfl ?_
  have fx95 := (fx90.other W92 hbt)
  refine go_caload C 13 (v := (.int c19)) d6_12 rfl fx95 (by decide) rfl ?_
  refine go_istore C 15 (Ls' := #[.val (.ref b), .val (.int 19), .val (.ref t), .val (.int 19), .val (.int 23), .val (.int 19), .val (.int c19)]) d6_13 rfl rfl ?_
  refine go_iload C 17 d6_15 rfl rfl ?_
  refine go_sipush C 20 (255 : Int32) d6_17 rfl (by decide) ?_
  refine go_icmpY C (pc' := 26) d6_20 (flt (l19 : ¬ ((255 : Int32) < c19))).2.2.2 (by decide) (by decide) ?_
  refine go_aloadN C 27 d6_26 rfl rfl rfl ?_
  refine go_iloadN C 28 d6_27 rfl rfl ?_
  refine go_iload C 30 d6_28 rfl rfl ?_
  refine go_i2b C 31 (lo8 c19) d6_30 rfl rfl ?_
  refine go_bastore C 32 19 (v := (lo8 c19)) (nar_lo8 _) d6_31 rfl fx94 (by decide) rfl (nble rfl) (mi 0 rfl) ?_
  intro h96 W97 fx98
  have fx99 : Arv Z h96 t kB .byte (23 : Int32) [(.int (lo8 c0)), (.int (lo8 c1)), (.int (lo8 c2)), (.int (lo8 c3)), (.int (lo8 c4)), (.int (lo8 c5)), (.int (lo8 c6)), (.int (lo8 c7)), (.int (lo8 c8)), (.int (lo8 c9)), (.int (lo8 c10)), (.int (lo8 c11)), (.int (lo8 c12)), (.int (lo8 c13)), (.int (lo8 c14)), (.int (lo8 c15)), (.int (lo8 c16)), (.int (lo8 c17)), (.int (lo8 c18)), (.int (lo8 c19)), (.int 0), (.int 0), (.int 0)] (.int 0) := fx98
  refine go_iinc C 35 (Ls' := #[.val (.ref b), .val (.int 20), .val (.ref t), .val (.int 19), .val (.int 23), .val (.int 19), .val (.int c19)]) (1 : Int32) d6_32 rfl (by decide) rfl rfl ?_
  refine go_iinc C 38 (Ls' := #[.val (.ref b), .val (.int 20), .val (.ref t), .val (.int 20), .val (.int 23), .val (.int 19), .val (.int c19)]) (1 : Int32) d6_35 rfl (by decide) rfl rfl ?_
  refine go_iinc C 41 (Ls' := #[.val (.ref b), .val (.int 20), .val (.ref t), .val (.int 20), .val (.int 23), .val (.int 20), .val (.int c19)]) (1 : Int32) d6_38 rfl (by decide) rfl rfl ?_
  refine go_goto C (pc' := 3) d6_41 (by decide) (by decide) ?_
  refine go_iload C 5 d6_3 rfl rfl ?_
  refine go_iload C 7 d6_5 rfl rfl ?_
  refine go_icmpN C 10 d6_7 rfl (tlt ((by decide) : (20 : Int32) < (23 : Int32))).2.1 ?_
  refine go_aloadN C 11 d6_10 rfl rfl rfl ?_
  refine go_iloadN C 12 d6_11 rfl rfl ?_
  have fx100 := (fx95.other W97 hbt)
  refine go_caload C 13 (v := (.int c20)) d6_12 rfl fx100 (by decide) rfl ?_
  refine go_istore C 15 (Ls' := #[.val (.ref b), .val (.int 20), .val (.ref t), .val (.int 20), .val (.int 23), .val (.int 20), .val (.int c20)]) d6_13 rfl rfl ?_
  refine go_iload C 17 d6_15 rfl rfl ?_
  refine go_sipush C 20 (255 : Int32) d6_17 rfl (by decide) ?_
  refine go_icmpY C (pc' := 26) d6_20 (flt (l20 : ¬ ((255 : Int32) < c20))).2.2.2 (by decide) (by decide) ?_
  refine go_aloadN C 27 d6_26 rfl rfl rfl ?_
  refine go_iloadN C 28 d6_27 rfl rfl ?_
  refine go_iload C 30 d6_28 rfl rfl ?_
  refine go_i2b C 31 (lo8 c20) d6_30 rfl rfl ?_
  refine go_bastore C 32 20 (v := (lo8 c20)) (nar_lo8 _) d6_31 rfl fx99 (by decide) rfl (nble rfl) (mi 0 rfl) ?_
  intro h101 W102 fx103
  have fx104 : Arv Z h101 t kB .byte (23 : Int32) [(.int (lo8 c0)), (.int (lo8 c1)), (.int (lo8 c2)), (.int (lo8 c3)), (.int (lo8 c4)), (.int (lo8 c5)), (.int (lo8 c6)), (.int (lo8 c7)), (.int (lo8 c8)), (.int (lo8 c9)), (.int (lo8 c10)), (.int (lo8 c11)), (.int (lo8 c12)), (.int (lo8 c13)), (.int (lo8 c14)), (.int (lo8 c15)), (.int (lo8 c16)), (.int (lo8 c17)), (.int (lo8 c18)), (.int (lo8 c19)), (.int (lo8 c20)), (.int 0), (.int 0)] (.int 0) := fx103
  refine go_iinc C 35 (Ls' := #[.val (.ref b), .val (.int 21), .val (.ref t), .val (.int 20), .val (.int 23), .val (.int 20), .val (.int c20)]) (1 : Int32) d6_32 rfl (by decide) rfl rfl ?_
  refine go_iinc C 38 (Ls' := #[.val (.ref b), .val (.int 21), .val (.ref t), .val (.int 21), .val (.int 23), .val (.int 20), .val (.int c20)]) (1 : Int32) d6_35 rfl (by decide) rfl rfl ?_
  refine go_iinc C 41 (Ls' := #[.val (.ref b), .val (.int 21), .val (.ref t), .val (.int 21), .val (.int 23), .val (.int 21), .val (.int c20)]) (1 : Int32) d6_38 rfl (by decide) rfl rfl ?_
  refine go_goto C (pc' := 3) d6_41 (by decide) (by decide) ?_
  refine go_iload C 5 d6_3 rfl rfl ?_
  refine go_iload C 7 d6_5 rfl rfl ?_
  refine go_icmpN C 10 d6_7 rfl (tlt ((by decide) : (21 : Int32) < (23 : Int32))).2.1 ?_
  refine go_aloadN C 11 d6_10 rfl rfl rfl ?_
  refine go_iloadN C 12 d6_11 rfl rfl ?_
  have fx105 := (fx100.other W102 hbt)
  refine go_caload C 13 (v := (.int c21)) d6_12 rfl fx105 (by decide) rfl ?_
  refine go_istore C 15 (Ls' := #[.val (.ref b), .val (.int 21), .val (.ref t), .val (.int 21), .val (.int 23), .val (.int 21), .val (.int c21)]) d6_13 rfl rfl ?_
  refine go_iload C 17 d6_15 rfl rfl ?_
  refine go_sipush C 20 (255 : Int32) d6_17 rfl (by decide) ?_
  refine go_icmpY C (pc' := 26) d6_20 (flt (l21 : ¬ ((255 : Int32) < c21))).2.2.2 (by decide) (by decide) ?_
  refine go_aloadN C 27 d6_26 rfl rfl rfl ?_
  refine go_iloadN C 28 d6_27 rfl rfl ?_
  refine go_iload C 30 d6_28 rfl rfl ?_
  refine go_i2b C 31 (lo8 c21) d6_30 rfl rfl ?_
  refine go_bastore C 32 21 (v := (lo8 c21)) (nar_lo8 _) d6_31 rfl fx104 (by decide) rfl (nble rfl) (mi 0 rfl) ?_
  intro h106 W107 fx108
  have fx109 : Arv Z h106 t kB .byte (23 : Int32) [(.int (lo8 c0)), (.int (lo8 c1)), (.int (lo8 c2)), (.int (lo8 c3)), (.int (lo8 c4)), (.int (lo8 c5)), (.int (lo8 c6)), (.int (lo8 c7)), (.int (lo8 c8)), (.int (lo8 c9)), (.int (lo8 c10)), (.int (lo8 c11)), (.int (lo8 c12)), (.int (lo8 c13)), (.int (lo8 c14)), (.int (lo8 c15)), (.int (lo8 c16)), (.int (lo8 c17)), (.int (lo8 c18)), (.int (lo8 c19)), (.int (lo8 c20)), (.int (lo8 c21)), (.int 0)] (.int 0) := fx108
  refine go_iinc C 35 (Ls' := #[.val (.ref b), .val (.int 22), .val (.ref t), .val (.int 21), .val (.int 23), .val (.int 21), .val (.int c21)]) (1 : Int32) d6_32 rfl (by decide) rfl rfl ?_
  refine go_iinc C 38 (Ls' := #[.val (.ref b), .val (.int 22), .val (.ref t), .val (.int 22), .val (.int 23), .val (.int 21), .val (.int c21)]) (1 : Int32) d6_35 rfl (by decide) rfl rfl ?_
  refine go_iinc C 41 (Ls' := #[.val (.ref b), .val (.int 22), .val (.ref t), .val (.int 22), .val (.int 23), .val (.int 22), .val (.int c21)]) (1 : Int32) d6_38 rfl (by decide) rfl rfl ?_
  refine go_goto C (pc' := 3) d6_41 (by decide) (by decide) ?_
  refine go_iload C 5 d6_3 rfl rfl ?_
  refine go_iload C 7 d6_5 rfl rfl ?_
  refine go_icmpN C 10 d6_7 rfl (tlt ((by decide) : (22 : Int32) < (23 : Int32))).2.1 ?_
  refine go_aloadN C 11 d6_10 rfl rfl rfl ?_
  refine go_iloadN C 12 d6_11 rfl rfl ?_
  have fx110 := (fx105.other W107 hbt)
  refine go_caload C 13 (v := (.int c22)) d6_12 rfl fx110 (by decide) rfl ?_
  refine go_istore C 15 (Ls' := #[.val (.ref b), .val (.int 22), .val (.ref t), .val (.int 22), .val (.int 23), .val (.int 22), .val (.int c22)]) d6_13 rfl rfl ?_
  refine go_iload C 17 d6_15 rfl rfl ?_
  refine go_sipush C 20 (255 : Int32) d6_17 rfl (by decide) ?_
  refine go_icmpY C (pc' := 26) d6_20 (flt (l22 : ¬ ((255 : Int32) < c22))).2.2.2 (by decide) (by decide) ?_
  refine go_aloadN C 27 d6_26 rfl rfl rfl ?_
  refine go_iloadN C 28 d6_27 rfl rfl ?_
  refine go_iload C 30 d6_28 rfl rfl ?_
  refine go_i2b C 31 (lo8 c22) d6_30 rfl rfl ?_
  refine go_bastore C 32 22 (v := (lo8 c22)) (nar_lo8 _) d6_31 rfl fx109 (by decide) rfl (nble rfl) (mi 0 rfl) ?_
  intro h111 W112 fx113
  have fx114 : Arv Z h111 t kB .byte (23 : Int32) [(.int (lo8 c0)), (.int (lo8 c1)), (.int (lo8 c2)), (.int (lo8 c3)), (.int (lo8 c4)), (.int (lo8 c5)), (.int (lo8 c6)), (.int (lo8 c7)), (.int (lo8 c8)), (.int (lo8 c9)), (.int (lo8 c10)), (.int (lo8 c11)), (.int (lo8 c12)), (.int (lo8 c13)), (.int (lo8 c14)), (.int (lo8 c15)), (.int (lo8 c16)), (.int (lo8 c17)), (.int (lo8 c18)), (.int (lo8 c19)), (.int (lo8 c20)), (.int (lo8 c21)), (.int (lo8 c22))] (.int 0) := fx113
  refine go_iinc C 35 (Ls' := #[.val (.ref b), .val (.int 23), .val (.ref t), .val (.int 22), .val (.int 23), .val (.int 22), .val (.int c22)]) (1 : Int32) d6_32 rfl (by decide) rfl rfl ?_
  refine go_iinc C 38 (Ls' := #[.val (.ref b), .val (.int 23), .val (.ref t), .val (.int 23), .val (.int 23), .val (.int 22), .val (.int c22)]) (1 : Int32) d6_35 rfl (by decide) rfl rfl ?_
  refine go_iinc C 41 (Ls' := #[.val (.ref b), .val (.int 23), .val (.ref t), .val (.int 23), .val (.int 23), .val (.int 23), .val (.int c22)]) (1 : Int32) d6_38 rfl (by decide) rfl rfl ?_
  refine go_goto C (pc' := 3) d6_41 (by decide) (by decide) ?_
  refine go_iload C 5 d6_3 rfl rfl ?_
  refine go_iload C 7 d6_5 rfl rfl ?_
  refine go_icmpY C (pc' := 44) d6_7 (flt ((by decide) : ¬ ((23 : Int32) < (23 : Int32)))).2.1 (by decide) (by decide) ?_
  refine go_iload C 46 d6_44 rfl rfl ?_
  refine go_retI C d6_46 rfl (by decide) (by decide) ?_
  exact ⟨rfl, fx114⟩
theorem ct_cmpA23 (l : Launch) (Z : State) (a0 : Array Value) (hw : HW a0 Z) {cS : Int32} {m1 : Addr} {m2 : Addr} (am : Amb Z a0 cS m1 m2) {b : Addr} {kC : ClassId} {c0 : Int32} {c1 : Int32} {c2 : Int32} {c3 : Int32} {c4 : Int32} {c5 : Int32} {c6 : Int32} {c7 : Int32} {c8 : Int32} {c9 : Int32} {c10 : Int32} {c11 : Int32} {c12 : Int32} {c13 : Int32} {c14 : Int32} {c15 : Int32} {c16 : Int32} {c17 : Int32} {c18 : Int32} {c19 : Int32} {c20 : Int32} {c21 : Int32} {c22 : Int32} {h0 : Heap} (p0 : Arv Z h0 b kC .char (23 : Int32) [(.int c0), (.int c1), (.int c2), (.int c3), (.int c4), (.int c5), (.int c6), (.int c7), (.int c8), (.int c9), (.int c10), (.int c11), (.int c12), (.int c13), (.int c14), (.int c15), (.int c16), (.int c17), (.int c18), (.int c19), (.int c20), (.int c21), (.int c22)] (.int 0)) (l0 : ¬ (255 : Int32) < c0) (l1 : ¬ (255 : Int32) < c1) (l2 : ¬ (255 : Int32) < c2) (l3 : ¬ (255 : Int32) < c3) (l4 : ¬ (255 : Int32) < c4) (l5 : ¬ (255 : Int32) < c5) (l6 : ¬ (255 : Int32) < c6) (l7 : ¬ (255 : Int32) < c7) (l8 : ¬ (255 : Int32) < c8) (l9 : ¬ (255 : Int32) < c9) (l10 : ¬ (255 : Int32) < c10) (l11 : ¬ (255 : Int32) < c11) (l12 : ¬ (255 : Int32) < c12) (l13 : ¬ (255 : Int32) < c13) (l14 : ¬ (255 : Int32) < c14) (l15 : ¬ (255 : Int32) < c15) (l16 : ¬ (255 : Int32) < c16) (l17 : ¬ (255 : Int32) < c17) (l18 : ¬ (255 : Int32) < c18) (l19 : ¬ (255 : Int32) < c19) (l20 : ¬ (255 : Int32) < c20) (l21 : ¬ (255 : Int32) < c21) (l22 : ¬ (255 : Int32) < c22) :
    Py l Z (⟨"java/lang/StringUTF16", "compress", "([CII)[B"⟩ : MethodName) 2 35 1 23 #[(.ref b), (.int 0), (.int 23)] h0 [] (fun rv h' => ∃ (t : Addr) (kB : ClassId), rv = some (.ref t) ∧ Arv Z h' t kB .byte (23 : Int32) [(.int (lo8 c0)), (.int (lo8 c1)), (.int (lo8 c2)), (.int (lo8 c3)), (.int (lo8 c4)), (.int (lo8 c5)), (.int (lo8 c6)), (.int (lo8 c7)), (.int (lo8 c8)), (.int (lo8 c9)), (.int (lo8 c10)), (.int (lo8 c11)), (.int (lo8 c12)), (.int (lo8 c13)), (.int (lo8 c14)), (.int (lo8 c15)), (.int (lo8 c16)), (.int (lo8 c17)), (.int (lo8 c18)), (.int (lo8 c19)), (.int (lo8 c20)), (.int (lo8 c21)), (.int (lo8 c22))] (.int 0) ∧ (h0.size ≤ t)) := by
  refine Ct.py (by0 := jdk_52_method_16_code) (ml := 6) (rt := (some (.array .byte))) (rm := ({ frames := 1, cells := 1, slots := 23, locals := 18 } : Room)) ?_ (hq hw 25 rfl) (hq hw 24 rfl)
  refine Ct.mk (a0 := a0) (Ls := #[.val (.ref b), .val (.int 0), .val (.int 23), .unset, .unset, .unset]) (plainFor_of_name pn_java_lang_StringUTF16) (fun m => by first | (simp [entryFrame, mkF, argsToLocals, Value.category]; done) | rfl) ?_
  intro κ C
  show Go l _ Z _ _ _ κ [] h0 0 #[.val (.ref b), .val (.int 0), .val (.int 23), .unset, .unset, .unset] [] 0 0
  refine go_iloadN C 1 d5_0 rfl rfl ?_
  refine go_newP C 3 1 23 (ty := .byte) (cap := 23) d5_1 rfl rfl rfl rfl (hq hw 26 rfl) (by decide) (by decide) (by decide) (by decide) (by decide) ?_
  intro b1 h2 k3 g4 E5 V6
  have fx7 : Arv Z h2 b1 k3 .byte (23 : Int32) [(.int 0), (.int 0), (.int 0), (.int 0), (.int 0), (.int 0), (.int 0), (.int 0), (.int 0), (.int 0), (.int 0), (.int 0), (.int 0), (.int 0), (.int 0), (.int 0), (.int 0), (.int 0), (.int 0), (.int 0), (.int 0), (.int 0), (.int 0)] (.int 0) := V6
  refine go_astoreN C 4 (Ls' := #[.val (.ref b), .val (.int 0), .val (.int 23), .val (.ref b1), .unset, .unset]) d5_3 rfl rfl rfl ?_
  refine go_aloadN C 5 d5_4 rfl rfl rfl ?_
  refine go_iloadN C 6 d5_5 rfl rfl ?_
  refine go_aloadN C 7 d5_6 rfl rfl rfl ?_
  refine go_iconst C 8 (0 : Int32) d5_7 rfl (by decide) ?_
  refine go_iloadN C 9 d5_8 rfl rfl ?_
  have fx8 := (p0.ext E5)
  refine go_callS C (argsL := [(.ref b), (.int 0), (.ref b1), (.int 0), (.int 23)]) (W := 0) d5_9 (hq hw 27 rfl) (hq hw 28 rfl) (hq hw 24 rfl) (hq hw 29 rfl) (by decide) pd___CI_BII_I (ct_cmp23 l Z a0 hw am (b := b) (t := b1) (kC := kC) (kB := k3) (c0 := c0) (c1 := c1) (c2 := c2) (c3 := c3) (c4 := c4) (c5 := c5) (c6 := c6) (c7 := c7) (c8 := c8) (c9 := c9) (c10 := c10) (c11 := c11) (c12 := c12) (c13 := c13) (c14 := c14) (c15 := c15) (c16 := c16) (c17 := c17) (c18 := c18) (c19 := c19) (c20 := c20) (c21 := c21) (c22 := c22) fx8 fx7 l0 l1 l2 l3 l4 l5 l6 l7 l8 l9 l10 l11 l12 l13 l14 l15 l16 l17 l18 l19 l20 l21 l22 (Nat.ne_of_lt (Nat.lt_of_lt_of_le (p0).lt (Nat.le_of_eq g4.symm)))) rfl (by decide) (Nat.le_of_eq rfl) (by decide) rfl (by decide) (by decide) (memsS (mi 0 rfl) mems0) ?_
  intro fv9 h10 K11 fq12
  obtain ⟨rfl, fx13⟩ := fq12
  refine ⟨[], fresh0, ?_⟩
  show Go l _ Z _ _ _ κ _ _ 12 _ [(.int 23)] 1 23
  refine go_istore C 14 (Ls' := #[.val (.ref b), .val (.int 0), .val (.int 23), .val (.ref b1), .val (.int 23), .unset]) d5_12 rfl rfl ?_
  refine go_iload C 16 d5_14 rfl rfl ?_
  refine go_iloadN C 17 d5_16 rfl rfl ?_
  refine go_icmpY C (pc' := 57) d5_17 (teq ((by decide) : (23 : Int32) = (23 : Int32))).1 (by decide) (by decide) ?_
  refine go_aloadN C 58 d5_57 rfl rfl rfl ?_
  refine go_retA C (v := (.ref b1)) d5_58 rfl rfl rfl (by decide) (by decide) ?_
  exact ⟨b1, k3, rfl, fx13, (Nat.le_of_eq g4.symm)⟩
theorem ct_coder23 (l : Launch) (Z : State) (a0 : Array Value) (hw : HW a0 Z) {cS : Int32} {m1 : Addr} {m2 : Addr} (am : Amb Z a0 cS m1 m2) {t : Addr} {kB : ClassId} {vs : List Value} {h0 : Heap} (p0 : Arv Z h0 t kB .byte (23 : Int32) vs (.int 0)) :
    Py l Z (⟨"java/lang/StringUTF16", "coderFromArrayLen", "([BI)B"⟩ : MethodName) 1 13 0 0 #[(.ref t), (.int 23)] h0 [] (fun rv h' => rv = some (.int 0) ∧ h' = h0) := by
  refine Ct.py (by0 := jdk_52_method_15_code) (ml := 2) (rt := (some .byte)) (rm := ({ frames := 0, cells := 0, slots := 0, locals := 0 } : Room)) ?_ (hq hw 32 rfl) (hq hw 24 rfl)
  refine Ct.mk (a0 := a0) (Ls := #[.val (.ref t), .val (.int 23)]) (plainFor_of_name pn_java_lang_StringUTF16) (fun m => by first | (simp [entryFrame, mkF, argsToLocals, Value.category]; done) | rfl) ?_
  intro κ C
  show Go l _ Z _ _ _ κ [] h0 0 #[.val (.ref t), .val (.int 23)] [] 0 0
  refine go_iloadN C 1 d7_0 rfl rfl ?_
  refine go_aloadN C 2 d7_1 rfl rfl rfl ?_
  refine go_arraylength C 3 d7_2 rfl p0 ?_
  refine go_isub C 4 (0 : Int32) d7_3 rfl (by decide) ?_
  refine go_bipush C 6 (31 : Int32) d7_4 rfl (by decide) ?_
  refine go_iushr C 7 (0 : Int32) d7_6 rfl (by decide) ?_
  refine go_i2b C 8 (0 : Int32) d7_7 rfl (by decide) ?_
  refine go_retN C (t := .byte) (z := (0 : Int32)) d7_8 rfl (by decide) (by decide) (by decide) (by decide) ?_
  exact ⟨rfl, rfl⟩
theorem ct_strV23 (l : Launch) (Z : State) (a0 : Array Value) (hw : HW a0 Z) {cS : Int32} {m1 : Addr} {m2 : Addr} (am : Amb Z a0 cS m1 m2) {a : Addr} {b : Addr} {kC : ClassId} {c0 : Int32} {c1 : Int32} {c2 : Int32} {c3 : Int32} {c4 : Int32} {c5 : Int32} {c6 : Int32} {c7 : Int32} {c8 : Int32} {c9 : Int32} {c10 : Int32} {c11 : Int32} {c12 : Int32} {c13 : Int32} {c14 : Int32} {c15 : Int32} {c16 : Int32} {c17 : Int32} {c18 : Int32} {c19 : Int32} {c20 : Int32} {c21 : Int32} {c22 : Int32} {h0 : Heap} (p0 : Exa Z h0 a "java/lang/String") (p1 : Fld Z h0 a "java/lang/String" "value" "[B" .null) (p2 : Fld Z h0 a "java/lang/String" "coder" "B" (.int 0)) (p3 : Arv Z h0 b kC .char (23 : Int32) [(.int c0), (.int c1), (.int c2), (.int c3), (.int c4), (.int c5), (.int c6), (.int c7), (.int c8), (.int c9), (.int c10), (.int c11), (.int c12), (.int c13), (.int c14), (.int c15), (.int c16), (.int c17), (.int c18), (.int c19), (.int c20), (.int c21), (.int c22)] (.int 0)) (l0 : ¬ (255 : Int32) < c0) (l1 : ¬ (255 : Int32) < c1) (l2 : ¬ (255 : Int32) < c2) (l3 : ¬ (255 : Int32) < c3) (l4 : ¬ (255 : Int32) < c4) (l5 : ¬ (255 : Int32) < c5) (l6 : ¬ (255 : Int32) < c6) (l7 : ¬ (255 : Int32) < c7) (l8 : ¬ (255 : Int32) < c8) (l9 : ¬ (255 : Int32) < c9) (l10 : ¬ (255 : Int32) < c10) (l11 : ¬ (255 : Int32) < c11) (l12 : ¬ (255 : Int32) < c12) (l13 : ¬ (255 : Int32) < c13) (l14 : ¬ (255 : Int32) < c14) (l15 : ¬ (255 : Int32) < c15) (l16 : ¬ (255 : Int32) < c16) (l17 : ¬ (255 : Int32) < c17) (l18 : ¬ (255 : Int32) < c18) (l19 : ¬ (255 : Int32) < c19) (l20 : ¬ (255 : Int32) < c20) (l21 : ¬ (255 : Int32) < c21) (l22 : ¬ (255 : Int32) < c22) :
    Py l Z (⟨"java/lang/String", "<init>", "([CIILjava/lang/Void;)V"⟩ : MethodName) 3 52 1 23 #[(.ref a), (.ref b), (.int 0), (.int 23), .null] h0 [a] (fun rv h' => ∃ (t : Addr) (kB : ClassId), rv = none ∧ Exa Z h' a "java/lang/String" ∧ Fld Z h' a "java/lang/String" "coder" "B" (.int 0) ∧ Fld Z h' a "java/lang/String" "value" "[B" (.ref t) ∧ Arv Z h' t kB .byte (23 : Int32) [(.int (lo8 c0)), (.int (lo8 c1)), (.int (lo8 c2)), (.int (lo8 c3)), (.int (lo8 c4)), (.int (lo8 c5)), (.int (lo8 c6)), (.int (lo8 c7)), (.int (lo8 c8)), (.int (lo8 c9)), (.int (lo8 c10)), (.int (lo8 c11)), (.int (lo8 c12)), (.int (lo8 c13)), (.int (lo8 c14)), (.int (lo8 c15)), (.int (lo8 c16)), (.int (lo8 c17)), (.int (lo8 c18)), (.int (lo8 c19)), (.int (lo8 c20)), (.int (lo8 c21)), (.int (lo8 c22))] (.int 0) ∧ (h0.size ≤ t)) := by
  refine Ct.py (by0 := jdk_42_method_149_code) (ml := 6) (rt := none) (rm := ({ frames := 2, cells := 1, slots := 23, locals := 35 } : Room)) ?_ (hq hw 17 rfl) (hq hw 5 rfl)
  refine Ct.mk (a0 := a0) (Ls := #[.val (.ref a), .val (.ref b), .val (.int 0), .val (.int 23), .val .null, .unset]) (plainFor_of_name pn_java_lang_String) (fun m => by first | (simp [entryFrame, mkF, argsToLocals, Value.category]; done) | rfl) ?_
  intro κ C
  show Go l _ Z _ _ _ κ [a] h0 0 #[.val (.ref a), .val (.ref b), .val (.int 0), .val (.int 23), .val .null, .unset] [] 0 0
  refine go_aloadN C 1 d3_0 rfl rfl rfl ?_
  refine go_initO C 4 (W := 0) d3_1 rfl (hq hw 18 rfl) (hq hw 19 rfl) (hq hw 20 rfl) rfl (by decide) (Nat.le_of_eq rfl) (by decide) ?_
  refine go_iloadN C 5 d3_4 rfl rfl ?_
  refine go_ifY C (pc' := 27) d3_5 (feq ((by decide) : ¬ ((23 : Int32) = (0 : Int32)))).2 (by decide) (by decide) ?_
  refine go_getS C 30 d3_27 rfl (hq hw 21 rfl) am.2.1 ?_
  refine go_ifN C 33 d3_30 rfl (feq (am.2.2.1 : ¬ (cS = (0 : Int32)))).1 ?_
  refine go_aloadN C 34 d3_33 rfl rfl rfl ?_
  refine go_iloadN C 35 d3_34 rfl rfl ?_
  refine go_iloadN C 36 d3_35 rfl rfl ?_
  refine go_callS C (argsL := [(.ref b), (.int 0), (.int 23)]) (W := 0) d3_36 (hq hw 22 rfl) (hq hw 23 rfl) (hq hw 24 rfl) (hq hw 25 rfl) (by decide) pd___CII__B (ct_cmpA23 l Z a0 hw am (b := b) (kC := kC) (c0 := c0) (c1 := c1) (c2 := c2) (c3 := c3) (c4 := c4) (c5 := c5) (c6 := c6) (c7 := c7) (c8 := c8) (c9 := c9) (c10 := c10) (c11 := c11) (c12 := c12) (c13 := c13) (c14 := c14) (c15 := c15) (c16 := c16) (c17 := c17) (c18 := c18) (c19 := c19) (c20 := c20) (c21 := c21) (c22 := c22) p3 l0 l1 l2 l3 l4 l5 l6 l7 l8 l9 l10 l11 l12 l13 l14 l15 l16 l17 l18 l19 l20 l21 l22) rfl (by decide) (Nat.le_of_eq rfl) (by decide) rfl (by decide) (by decide) mems0 ?_
  intro fv1 h2 K3 fq4
  obtain ⟨t5, kB6, rfl, fx7, fx8⟩ := fq4
  refine ⟨[t5], (freshS ⟨fx8, (fx7).lt⟩ fresh0), ?_⟩
  show Go l _ Z _ _ _ κ [t5, a] _ 39 _ [(.ref t5)] 1 23
  refine go_astore C 41 (Ls' := #[.val (.ref a), .val (.ref b), .val (.int 0), .val (.int 23), .val .null, .val (.ref t5)]) d3_39 rfl rfl rfl ?_
  refine go_aloadN C 42 d3_41 rfl rfl rfl ?_
  refine go_aload C 44 d3_42 rfl rfl rfl ?_
  refine go_iloadN C 45 d3_44 rfl rfl ?_
  refine go_callS C (argsL := [(.ref t5), (.int 23)]) (W := 1) d3_45 (hq hw 30 rfl) (hq hw 31 rfl) (hq hw 24 rfl) (hq hw 32 rfl) (by decide) pd___BI_B (ct_coder23 l Z a0 hw am (t := t5) (kB := kB6) (vs := [(.int (lo8 c0)), (.int (lo8 c1)), (.int (lo8 c2)), (.int (lo8 c3)), (.int (lo8 c4)), (.int (lo8 c5)), (.int (lo8 c6)), (.int (lo8 c7)), (.int (lo8 c8)), (.int (lo8 c9)), (.int (lo8 c10)), (.int (lo8 c11)), (.int (lo8 c12)), (.int (lo8 c13)), (.int (lo8 c14)), (.int (lo8 c15)), (.int (lo8 c16)), (.int (lo8 c17)), (.int (lo8 c18)), (.int (lo8 c19)), (.int (lo8 c20)), (.int (lo8 c21)), (.int (lo8 c22))]) fx7) rfl (by decide) (Nat.le_of_eq rfl) (by decide) rfl (by decide) (by decide) mems0 ?_
  intro fv9 h10 K11 fq12
  obtain ⟨rfl, rfl⟩ := fq12
  refine ⟨[], fresh0, ?_⟩
  show Go l _ Z _ _ _ κ _ _ 48 _ [(.int 0), (.ref a)] 1 23
  have fx13 := (p2.keep K3 nin0)
  have fx14 := (p0.keep K3)
  refine go_putFN C 51 (ty := .byte) (v' := .int 0) d3_48 rfl (hq hw 33 rfl) Via.refl fx13 fx14 (Or.inr ⟨(hq hw 34 rfl), rfl, rfl⟩) (hq hw 4 rfl) (by decide) rfl (by decide) (mi 1 rfl) ?_
  intro h15 W16
  have fx17 : Fld Z h15 a "java/lang/String" "coder" "B" (.int 0) := Fld.same W16 fx13
  refine go_aloadN C 52 d3_51 rfl rfl rfl ?_
  refine go_aload C 54 d3_52 rfl rfl rfl ?_
  have fx18 := (Fld.other W16 (p1.keep K3 nin0) (Or.inr (slot_ne (Or.inr (hq hw 36 rfl)) (Or.inr (hq hw 34 rfl)) (by decide) (t := (.array .byte)) (t' := .byte) (by decide) (by decide))))
  have fx19 := (Exa.wr W16 fx14)
  refine go_putF C 57 (ty := (.array .byte)) d3_54 rfl (hq hw 35 rfl) Via.refl fx18 fx19 (Or.inr ⟨(hq hw 36 rfl), rfl, rfl⟩) (hq hw 4 rfl) (by decide) rfl rfl (mi 1 rfl) ?_
  intro h20 W21
  have fx22 : Fld Z h20 a "java/lang/String" "value" "[B" (.ref t5) := Fld.same W21 fx18
  refine go_ret C d3_57 rfl (by decide) (by decide) ?_
  have fx23 := (Exa.wr W21 fx19)
  have fx24 := (Fld.other W21 fx17 (Or.inr (slot_ne (Or.inr (hq hw 34 rfl)) (Or.inr (hq hw 36 rfl)) (by decide) (t := .byte) (t' := (.array .byte)) (by decide) (by decide))))
  have fx25 := ((fx7.other W16 (Ne.symm (Nat.ne_of_lt (Nat.lt_of_lt_of_le (p0).lt fx8)))).other W21 (Ne.symm (Nat.ne_of_lt (Nat.lt_of_lt_of_le (p0).lt fx8))))
  exact ⟨t5, kB6, rfl, fx23, fx24, fx22, fx25, fx8⟩
theorem ct_str23 (l : Launch) (Z : State) (a0 : Array Value) (hw : HW a0 Z) {cS : Int32} {m1 : Addr} {m2 : Addr} (am : Amb Z a0 cS m1 m2) {a : Addr} {b : Addr} {kC : ClassId} {c0 : Int32} {c1 : Int32} {c2 : Int32} {c3 : Int32} {c4 : Int32} {c5 : Int32} {c6 : Int32} {c7 : Int32} {c8 : Int32} {c9 : Int32} {c10 : Int32} {c11 : Int32} {c12 : Int32} {c13 : Int32} {c14 : Int32} {c15 : Int32} {c16 : Int32} {c17 : Int32} {c18 : Int32} {c19 : Int32} {c20 : Int32} {c21 : Int32} {c22 : Int32} {h0 : Heap} (p0 : Exa Z h0 a "java/lang/String") (p1 : Fld Z h0 a "java/lang/String" "value" "[B" .null) (p2 : Fld Z h0 a "java/lang/String" "coder" "B" (.int 0)) (p3 : Arv Z h0 b kC .char (23 : Int32) [(.int c0), (.int c1), (.int c2), (.int c3), (.int c4), (.int c5), (.int c6), (.int c7), (.int c8), (.int c9), (.int c10), (.int c11), (.int c12), (.int c13), (.int c14), (.int c15), (.int c16), (.int c17), (.int c18), (.int c19), (.int c20), (.int c21), (.int c22)] (.int 0)) (l0 : ¬ (255 : Int32) < c0) (l1 : ¬ (255 : Int32) < c1) (l2 : ¬ (255 : Int32) < c2) (l3 : ¬ (255 : Int32) < c3) (l4 : ¬ (255 : Int32) < c4) (l5 : ¬ (255 : Int32) < c5) (l6 : ¬ (255 : Int32) < c6) (l7 : ¬ (255 : Int32) < c7) (l8 : ¬ (255 : Int32) < c8) (l9 : ¬ (255 : Int32) < c9) (l10 : ¬ (255 : Int32) < c10) (l11 : ¬ (255 : Int32) < c11) (l12 : ¬ (255 : Int32) < c12) (l13 : ¬ (255 : Int32) < c13) (l14 : ¬ (255 : Int32) < c14) (l15 : ¬ (255 : Int32) < c15) (l16 : ¬ (255 : Int32) < c16) (l17 : ¬ (255 : Int32) < c17) (l18 : ¬ (255 : Int32) < c18) (l19 : ¬ (255 : Int32) < c19) (l20 : ¬ (255 : Int32) < c20) (l21 : ¬ (255 : Int32) < c21) (l22 : ¬ (255 : Int32) < c22) :
    Py l Z (⟨"java/lang/String", "<init>", "([C)V"⟩ : MethodName) 4 65 1 23 #[(.ref a), (.ref b)] h0 [a] (fun rv h' => ∃ (t : Addr) (kB : ClassId), rv = none ∧ Exa Z h' a "java/lang/String" ∧ Fld Z h' a "java/lang/String" "coder" "B" (.int 0) ∧ Fld Z h' a "java/lang/String" "value" "[B" (.ref t) ∧ Arv Z h' t kB .byte (23 : Int32) [(.int (lo8 c0)), (.int (lo8 c1)), (.int (lo8 c2)), (.int (lo8 c3)), (.int (lo8 c4)), (.int (lo8 c5)), (.int (lo8 c6)), (.int (lo8 c7)), (.int (lo8 c8)), (.int (lo8 c9)), (.int (lo8 c10)), (.int (lo8 c11)), (.int (lo8 c12)), (.int (lo8 c13)), (.int (lo8 c14)), (.int (lo8 c15)), (.int (lo8 c16)), (.int (lo8 c17)), (.int (lo8 c18)), (.int (lo8 c19)), (.int (lo8 c20)), (.int (lo8 c21)), (.int (lo8 c22))] (.int 0) ∧ (h0.size ≤ t)) := by
  refine Ct.py (by0 := jdk_42_method_3_code) (ml := 2) (rt := none) (rm := ({ frames := 3, cells := 1, slots := 23, locals := 52 } : Room)) ?_ (hq hw 13 rfl) (hq hw 5 rfl)
  refine Ct.mk (a0 := a0) (Ls := #[.val (.ref a), .val (.ref b)]) (plainFor_of_name pn_java_lang_String) (fun m => by first | (simp [entryFrame, mkF, argsToLocals, Value.category]; done) | rfl) ?_
  intro κ C
  show Go l _ Z _ _ _ κ [a] h0 0 #[.val (.ref a), .val (.ref b)] [] 0 0
  refine go_aloadN C 1 d2_0 rfl rfl rfl ?_
  refine go_aloadN C 2 d2_1 rfl rfl rfl ?_
  refine go_iconst C 3 (0 : Int32) d2_2 rfl (by decide) ?_
  refine go_aloadN C 4 d2_3 rfl rfl rfl ?_
  refine go_arraylength C 5 d2_4 rfl p3 ?_
  refine go_aconstNull C 6 d2_5 rfl ?_
  refine go_callI C (a := a) (argsL := [(.ref b), (.int 0), (.int 23), .null]) (W := 0) d2_6 rfl (hq hw 14 rfl) (hq hw 15 rfl) (hq hw 17 rfl) (by decide) pd___CIILjava_lang_Void__V (ct_strV23 l Z a0 hw am (a := a) (b := b) (kC := kC) (c0 := c0) (c1 := c1) (c2 := c2) (c3 := c3) (c4 := c4) (c5 := c5) (c6 := c6) (c7 := c7) (c8 := c8) (c9 := c9) (c10 := c10) (c11 := c11) (c12 := c12) (c13 := c13) (c14 := c14) (c15 := c15) (c16 := c16) (c17 := c17) (c18 := c18) (c19 := c19) (c20 := c20) (c21 := c21) (c22 := c22) p0 p1 p2 p3 l0 l1 l2 l3 l4 l5 l6 l7 l8 l9 l10 l11 l12 l13 l14 l15 l16 l17 l18 l19 l20 l21 l22) rfl (by decide) (Nat.le_of_eq rfl) (by decide) rfl (by decide) (by decide) (memsS (mi 0 rfl) mems0) ?_
  intro fv1 h2 K3 fq4
  obtain ⟨t5, kB6, rfl, fx7, fx8, fx9, fx10, fx11⟩ := fq4
  refine ⟨[t5], (freshS ⟨fx11, (fx10).lt⟩ fresh0), ?_⟩
  show Go l _ Z _ _ _ κ [t5, a] _ 9 _ [] 1 23
  refine go_ret C d2_9 rfl (by decide) (by decide) ?_
  exact ⟨t5, kB6, rfl, fx7, fx8, fx9, fx10, fx11⟩
theorem ct_cmp24 (l : Launch) (Z : State) (a0 : Array Value) (hw : HW a0 Z) {cS : Int32} {m1 : Addr} {m2 : Addr} (am : Amb Z a0 cS m1 m2) {b : Addr} {t : Addr} {kC : ClassId} {kB : ClassId} {c0 : Int32} {c1 : Int32} {c2 : Int32} {c3 : Int32} {c4 : Int32} {c5 : Int32} {c6 : Int32} {c7 : Int32} {c8 : Int32} {c9 : Int32} {c10 : Int32} {c11 : Int32} {c12 : Int32} {c13 : Int32} {c14 : Int32} {c15 : Int32} {c16 : Int32} {c17 : Int32} {c18 : Int32} {c19 : Int32} {c20 : Int32} {c21 : Int32} {c22 : Int32} {c23 : Int32} {h0 : Heap} (p0 : Arv Z h0 b kC .char (24 : Int32) [(.int c0), (.int c1), (.int c2), (.int c3), (.int c4), (.int c5), (.int c6), (.int c7), (.int c8), (.int c9), (.int c10), (.int c11), (.int c12), (.int c13), (.int c14), (.int c15), (.int c16), (.int c17), (.int c18), (.int c19), (.int c20), (.int c21), (.int c22), (.int c23)] (.int 0)) (p1 : Arv Z h0 t kB .byte (24 : Int32) [(.int 0), (.int 0), (.int 0), (.int 0), (.int 0), (.int 0), (.int 0), (.int 0), (.int 0), (.int 0), (.int 0), (.int 0), (.int 0), (.int 0), (.int 0), (.int 0), (.int 0), (.int 0), (.int 0), (.int 0), (.int 0), (.int 0), (.int 0), (.int 0)] (.int 0)) (l0 : ¬ (255 : Int32) < c0) (l1 : ¬ (255 : Int32) < c1) (l2 : ¬ (255 : Int32) < c2) (l3 : ¬ (255 : Int32) < c3) (l4 : ¬ (255 : Int32) < c4) (l5 : ¬ (255 : Int32) < c5) (l6 : ¬ (255 : Int32) < c6) (l7 : ¬ (255 : Int32) < c7) (l8 : ¬ (255 : Int32) < c8) (l9 : ¬ (255 : Int32) < c9) (l10 : ¬ (255 : Int32) < c10) (l11 : ¬ (255 : Int32) < c11) (l12 : ¬ (255 : Int32) < c12) (l13 : ¬ (255 : Int32) < c13) (l14 : ¬ (255 : Int32) < c14) (l15 : ¬ (255 : Int32) < c15) (l16 : ¬ (255 : Int32) < c16) (l17 : ¬ (255 : Int32) < c17) (l18 : ¬ (255 : Int32) < c18) (l19 : ¬ (255 : Int32) < c19) (l20 : ¬ (255 : Int32) < c20) (l21 : ¬ (255 : Int32) < c21) (l22 : ¬ (255 : Int32) < c22) (l23 : ¬ (255 : Int32) < c23) (hbt : b ≠ t) :
    Py l Z (⟨"java/lang/StringUTF16", "compress", "([CI[BII)I"⟩ : MethodName) 1 18 0 0 #[(.ref b), (.int 0), (.ref t), (.int 0), (.int 24)] h0 [t] (fun rv h' => rv = some (.int 24) ∧ Arv Z h' t kB .byte (24 : Int32) [(.int (lo8 c0)), (.int (lo8 c1)), (.int (lo8 c2)), (.int (lo8 c3)), (.int (lo8 c4)), (.int (lo8 c5)), (.int (lo8 c6)), (.int (lo8 c7)), (.int (lo8 c8)), (.int (lo8 c9)), (.int (lo8 c10)), (.int (lo8 c11)), (.int (lo8 c12)), (.int (lo8 c13)), (.int (lo8 c14)), (.int (lo8 c15)), (.int (lo8 c16)), (.int (lo8 c17)), (.int (lo8 c18)), (.int (lo8 c19)), (.int (lo8 c20)), (.int (lo8 c21)), (.int (lo8 c22)), (.int (lo8 c23))] (.int 0)) := by
  refine Ct.py (by0 := jdk_52_method_21_code) (ml := 7) (rt := (some .int)) (rm := ({ frames := 0, cells := 0, slots := 0, locals := 0 } : Room)) ?_ (hq hw 29 rfl) (hq hw 24 rfl)
  refine Ct.mk (a0 := a0) (Ls := #[.val (.ref b), .val (.int 0), .val (.ref t), .val (.int 0), .val (.int 24), .unset, .unset]) (plainFor_of_name pn_java_lang_StringUTF16) (fun m => by first | (simp [entryFrame, mkF, argsToLocals, Value.category]; done) | rfl) ?_
  intro κ C
  show Go l _ Z _ _ _ κ [t] h0 0 #[.val (.ref b), .val (.int 0), .val (.ref t), .val (.int 0), .val (.int 24), .unset, .unset] [] 0 0
  refine go_iconst C 1 (0 : Int32) d6_0 rfl (by decide) ?_
  refine go_istore C 3 (Ls' := #[.val (.ref b), .val (.int 0), .val (.ref t), .val (.int 0), .val (.int 24), .val (.int 0), .unset]) d6_1 rfl rfl ?_
  refine go_iload C 5 d6_3 rfl rfl ?_
  refine go_iload C 7 d6_5 rfl rfl ?_
  refine go_icmpN C 10 d6_7 rfl (tlt ((by decide) : (0 : Int32) < (24 : Int32))).2.1 ?_
  refine go_aloadN C 11 d6_10 rfl rfl rfl ?_
  refine go_iloadN C 12 d6_11 rfl rfl ?_
  refine go_caload C 13 (v := (.int c0)) d6_12 rfl p0 (by decide) rfl ?_
  refine go_istore C 15 (Ls' := #[.val (.ref b), .val (.int 0), .val (.ref t), .val (.int 0), .val (.int 24), .val (.int 0), .val (.int c0)]) d6_13 rfl rfl ?_
  refine go_iload C 17 d6_15 rfl rfl ?_
  refine go_sipush C 20 (255 : Int32) d6_17 rfl (by decide) ?_
  refine go_icmpY C (pc' := 26) d6_20 (flt (l0 : ¬ ((255 : Int32) < c0))).2.2.2 (by decide) (by decide) ?_
  refine go_aloadN C 27 d6_26 rfl rfl rfl ?_
  refine go_iloadN C 28 d6_27 rfl rfl ?_
  refine go_iload C 30 d6_28 rfl rfl ?_
  refine go_i2b C 31 (lo8 c0) d6_30 rfl rfl ?_
  refine go_bastore C 32 0 (v := (lo8 c0)) (nar_lo8 _) d6_31 rfl p1 (by decide) rfl (nble rfl) (mi 0 rfl) ?_
  intro h1 W2 fx3
  have fx4 : Arv Z h1 t kB .byte (24 : Int32) [(.int (lo8 c0)), (.int 0), (.int 0), (.int 0), (.int 0), (.int 0), (.int 0), (.int 0), (.int 0), (.int 0), (.int 0), (.int 0), (.int 0), (.int 0), (.int 0), (.int 0), (.int 0), (.int 0), (.int 0), (.int 0), (.int 0), (.int 0), (.int 0), (.int 0)] (.int 0) := fx3
  refine go_iinc C 35 (Ls' := #[.val (.ref b), .val (.int 1), .val (.ref t), .val (.int 0), .val (.int 24), .val (.int 0), .val (.int c0)]) (1 : Int32) d6_32 rfl (by decide) rfl rfl ?_
  refine go_iinc C 38 (Ls' := #[.val (.ref b), .val (.int 1), .val (.ref t), .val (.int 1), .val (.int 24), .val (.int 0), .val (.int c0)]) (1 : Int32) d6_35 rfl (by decide) rfl rfl ?_
  refine go_iinc C 41 (Ls' := #[.val (.ref b), .val (.int 1), .val (.ref t), .val (.int 1), .val (.int 24), .val (.int 1), .val (.int c0)]) (1 : Int32) d6_38 rfl (by decide) rfl rfl ?_
  refine go_goto C (pc' := 3) d6_41 (by decide) (by decide) ?_
  refine go_iload C 5 d6_3 rfl rfl ?_
  refine go_iload C 7 d6_5 rfl rfl ?_
  refine go_icmpN C 10 d6_7 rfl (tlt ((by decide) : (1 : Int32) < (24 : Int32))).2.1 ?_
  refine go_aloadN C 11 d6_10 rfl rfl rfl ?_
  refine go_iloadN C 12 d6_11 rfl rfl ?_
  have fx5 := (p0.other W2 hbt)
  refine go_caload C 13 (v := (.int c1)) d6_12 rfl fx5 (by decide) rfl ?_
  refine go_istore C 15 (Ls' := #[.val (.ref b), .val (.int 1), .val (.ref t), .val (.int 1), .val (.int 24), .val (.int 1), .val (.int c1)]) d6_13 rfl rfl ?_
  refine go_iload C 17 d6_15 rfl rfl ?_
  refine go_sipush C 20 (255 : Int32) d6_17 rfl (by decide) ?_
  refine go_icmpY C (pc' := 26) d6_20 (flt (l1 : ¬ ((255 : Int32) < c1))).2.2.2 (by decide) (by decide) ?_
  refine go_aloadN C 27 d6_26 rfl rfl rfl ?_
  refine go_iloadN C 28 d6_27 rfl rfl ?_
  refine go_iload C 30 d6_28 rfl rfl ?_
  refine go_i2b C 31 (lo8 c1) d6_30 rfl rfl ?_
  refine go_bastore C 32 1 (v := (lo8 c1)) (nar_lo8 _) d6_31 rfl fx4 (by decide) rfl (nble rfl) (mi 0 rfl) ?_
  intro h6 W7 fx8
  have fx9 : Arv Z h6 t kB .byte (24 : Int32) [(.int (lo8 c0)), (.int (lo8 c1)), (.int 0), (.int 0), (.int 0), (.int 0), (.int 0), (.int 0), (.int 0), (.int 0), (.int 0), (.int 0), (.int 0), (.int 0), (.int 0), (.int 0), (.int 0), (.int 0), (.int 0), (.int 0), (.int 0), (.int 0), (.int 0), (.int 0)] (.int 0) := fx8
  refine go_iinc C 35 (Ls' := #[.val (.ref b), .val (.int 2), .val (.ref t), .val (.int 1), .val (.int 24), .val (.int 1), .val (.int c1)]) (1 : Int32) d6_32 rfl (by decide) rfl rfl ?_
  refine go_iinc C 38 (Ls' := #[.val (.ref b), .val (.int 2), .val (.ref t), .val (.int 2), .val (.int 24), .val (.int 1), .val (.int c1)]) (1 : Int32) d6_35 rfl (by decide) rfl rfl ?_
  refine go_iinc C 41 (Ls' := #[.val (.ref b), .val (.int 2), .val (.ref t), .val (.int 2), .val (.int 24), .val (.int 2), .val (.int c1)]) (1 : Int32) d6_38 rfl (by decide) rfl rfl ?_
  refine go_goto C (pc' := 3) d6_41 (by decide) (by decide) ?_
  refine go_iload C 5 d6_3 rfl rfl ?_
  refine go_iload C 7 d6_5 rfl rfl ?_
  refine go_icmpN C 10 d6_7 rfl (tlt ((by decide) : (2 : Int32) < (24 : Int32))).2.1 ?_
  refine go_aloadN C 11 d6_10 rfl rfl rfl ?_
  refine go_iloadN C 12 d6_11 rfl rfl ?_
  have fx10 := (fx5.other W7 hbt)
  refine go_caload C 13 (v := (.int c2)) d6_12 rfl fx10 (by decide) rfl ?_
  refine go_istore C 15 (Ls' := #[.val (.ref b), .val (.int 2), .val (.ref t), .val (.int 2), .val (.int 24), .val (.int 2), .val (.int c2)]) d6_13 rfl rfl ?_
  refine go_iload C 17 d6_15 rfl rfl ?_
  refine go_sipush C 20 (255 : Int32) d6_17 rfl (by decide) ?_
  refine go_icmpY C (pc' := 26) d6_20 (flt (l2 : ¬ ((255 : Int32) < c2))).2.2.2 (by decide) (by decide) ?_
  refine go_aloadN C 27 d6_26 rfl rfl rfl ?_
  refine go_iloadN C 28 d6_27 rfl rfl ?_
  refine go_iload C 30 d6_28 rfl rfl ?_
  refine go_i2b C 31 (lo8 c2) d6_30 rfl rfl ?_
  refine go_bastore C 32 2 (v := (lo8 c2)) (nar_lo8 _) d6_31 rfl fx9 (by decide) rfl (nble rfl) (mi 0 rfl) ?_
  intro h11 W12 fx13
  have fx14 : Arv Z h11 t kB .byte (24 : Int32) [(.int (lo8 c0)), (.int (lo8 c1)), (.int (lo8 c2)), (.int 0), (.int 0), (.int 0), (.int 0), (.int 0), (.int 0), (.int 0), (.int 0), (.int 0), (.int 0), (.int 0), (.int 0), (.int 0), (.int 0), (.int 0), (.int 0), (.int 0), (.int 0), (.int 0), (.int 0), (.int 0)] (.int 0) := fx13
  refine go_iinc C 35 (Ls' := #[.val (.ref b), .val (.int 3), .val (.ref t), .val (.int 2), .val (.int 24), .val (.int 2), .val (.int c2)]) (1 : Int32) d6_32 rfl (by decide) rfl rfl ?_
  refine go_iinc C 38 (Ls' := #[.val (.ref b), .val (.int 3), .val (.ref t), .val (.int 3), .val (.int 24), .val (.int 2), .val (.int c2)]) (1 : Int32) d6_35 rfl (by decide) rfl rfl ?_
  refine go_iinc C 41 (Ls' := #[.val (.ref b), .val (.int 3), .val (.ref t), .val (.int 3), .val (.int 24), .val (.int 3), .val (.int c2)]) (1 : Int32) d6_38 rfl (by decide) rfl rfl ?_
  refine go_goto C (pc' := 3) d6_41 (by decide) (by decide) ?_
  refine go_iload C 5 d6_3 rfl rfl ?_
  refine go_iload C 7 d6_5 rfl rfl ?_
  refine go_icmpN C 10 d6_7 rfl (tlt ((by decide) : (3 : Int32) < (24 : Int32))).2.1 ?_
  refine go_aloadN C 11 d6_10 rfl rfl rfl ?_
  refine go_iloadN C 12 d6_11 rfl rfl ?_
  have fx15 := (fx10.other W12 hbt)
  refine go_caload C 13 (v := (.int c3)) d6_12 rfl fx15 (by decide) rfl ?_
  refine go_istore C 15 (Ls' := #[.val (.ref b), .val (.int 3), .val (.ref t), .val (.int 3), .val (.int 24), .val (.int 3), .val (.int c3)]) d6_13 rfl rfl ?_
  refine go_iload C 17 d6_15 rfl rfl ?_
  refine go_sipush C 20 (255 : Int32) d6_17 rfl (by decide) ?_
  refine go_icmpY C (pc' := 26) d6_20 (flt (l3 : ¬ ((255 : Int32) < c3))).2.2.2 (by decide) (by decide) ?_
  refine go_aloadN C 27 d6_26 rfl rfl rfl ?_
  refine go_iloadN C 28 d6_27 rfl rfl ?_
  refine go_iload C 30 d6_28 rfl rfl ?_
  refine go_i2b C 31 (lo8 c3) d6_30 rfl rfl ?_
  refine go_bastore C 32 3 (v := (lo8 c3)) (nar_lo8 _) d6_31 rfl fx14 (by decide) rfl (nble rfl) (mi 0 rfl) ?_
  intro h16 W17 fx18
  have fx19 : Arv Z h16 t kB .byte (24 : Int32) [(.int (lo8 c0)), (.int (lo8 c1)), (.int (lo8 c2)), (.int (lo8 c3)), (.int 0), (.int 0), (.int 0), (.int 0), (.int 0), (.int 0), (.int 0), (.int 0), (.int 0), (.int 0), (.int 0), (.int 0), (.int 0), (.int 0), (.int 0), (.int 0), (.int 0), (.int 0), (.int 0), (.int 0)] (.int 0) := fx18
  refine go_iinc C 35 (Ls' := #[.val (.ref b), .val (.int 4), .val (.ref t), .val (.int 3), .val (.int 24), .val (.int 3), .val (.int c3)]) (1 : Int32) d6_32 rfl (by decide) rfl rfl ?_
  refine go_iinc C 38 (Ls' := #[.val (.ref b), .val (.int 4), .val (.ref t), .val (.int 4), .val (.int 24), .val (.int 3), .val (.int c3)]) (1 : Int32) d6_35 rfl (by decide) rfl rfl ?_
  refine go_iinc C 41 (Ls' := #[.val (.ref b), .val (.int 4), .val (.ref t), .val (.int 4), .val (.int 24), .val (.int 4), .val (.int c3)]) (1 : Int32) d6_38 rfl (by decide) rfl rfl ?_
  refine go_goto C (pc' := 3) d6_41 (by decide) (by decide) ?_
  refine go_iload C 5 d6_3 rfl rfl ?_
  refine go_iload C 7 d6_5 rfl rfl ?_
  refine go_icmpN C 10 d6_7 rfl (tlt ((by decide) : (4 : Int32) < (24 : Int32))).2.1 ?_
  refine go_aloadN C 11 d6_10 rfl rfl rfl ?_
  refine go_iloadN C 12 d6_11 rfl rfl ?_
  have fx20 := (fx15.other W17 hbt)
  refine go_caload C 13 (v := (.int c4)) d6_12 rfl fx20 (by decide) rfl ?_
  refine go_istore C 15 (Ls' := #[.val (.ref b), .val (.int 4), .val (.ref t), .val (.int 4), .val (.int 24), .val (.int 4), .val (.int c4)]) d6_13 rfl rfl ?_
  refine go_iload C 17 d6_15 rfl rfl ?_
  refine go_sipush C 20 (255 : Int32) d6_17 rfl (by decide) ?_
  refine go_icmpY C (pc' := 26) d6_20 (flt (l4 : ¬ ((255 : Int32) < c4))).2.2.2 (by decide) (by decide) ?_
  refine go_aloadN C 27 d6_26 rfl rfl rfl ?_
  refine go_iloadN C 28 d6_27 rfl rfl ?_
  refine go_iload C 30 d6_28 rfl rfl ?_
  refine go_i2b C 31 (lo8 c4) d6_30 rfl rfl ?_
  refine go_bastore C 32 4 (v := (lo8 c4)) (nar_lo8 _) d6_31 rfl fx19 (by decide) rfl (nble rfl) (mi 0 rfl) ?_
  intro h21 W22 fx23
  have fx24 : Arv Z h21 t kB .byte (24 : Int32) [(.int (lo8 c0)), (.int (lo8 c1)), (.int (lo8 c2)), (.int (lo8 c3)), (.int (lo8 c4)), (.int 0), (.int 0), (.int 0), (.int 0), (.int 0), (.int 0), (.int 0), (.int 0), (.int 0), (.int 0), (.int 0), (.int 0), (.int 0), (.int 0), (.int 0), (.int 0), (.int 0), (.int 0), (.int 0)] (.int 0) := fx23
  refine go_iinc C 35 (Ls' := #[.val (.ref b), .val (.int 5), .val (.ref t), .val (.int 4), .val (.int 24), .val (.int 4), .val (.int c4)]) (1 : Int32) d6_32 rfl (by decide) rfl rfl ?_
  refine go_iinc C 38 (Ls' := #[.val (.ref b), .val (.int 5), .val (.ref t), .val (.int 5), .val (.int 24), .val (.int 4), .val (.int c4)]) (1 : Int32) d6_35 rfl (by decide) rfl rfl ?_
  refine go_iinc C 41 (Ls' := #[.val (.ref b), .val (.int 5), .val (.ref t), .val (.int 5), .val (.int 24), .val (.int 5), .val (.int c4)]) (1 : Int32) d6_38 rfl (by decide) rfl rfl ?_
  refine go_goto C (pc' := 3) d6_41 (by decide) (by decide) ?_
  refine go_iload C 5 d6_3 rfl rfl ?_
  refine go_iload C 7 d6_5 rfl rfl ?_
  refine go_icmpN C 10 d6_7 rfl (tlt ((by decide) : (5 : Int32) < (24 : Int32))).2.1 ?_
  refine go_aloadN C 11 d6_10 rfl rfl rfl ?_
  refine go_iloadN C 12 d6_11 rfl rfl ?_
  have fx25 := (fx20.other W22 hbt)
  refine go_caload C 13 (v := (.int c5)) d6_12 rfl fx25 (by decide) rfl ?_
  refine go_istore C 15 (Ls' := #[.val (.ref b), .val (.int 5), .val (.ref t), .val (.int 5), .val (.int 24), .val (.int 5), .val (.int c5)]) d6_13 rfl rfl ?_
  refine go_iload C 17 d6_15 rfl rfl ?_
  refine go_sipush C 20 (255 : Int32) d6_17 rfl (by decide) ?_
  refine go_icmpY C (pc' := 26) d6_20 (flt (l5 : ¬ ((255 : Int32) < c5))).2.2.2 (by decide) (by decide) ?_
  refine go_aloadN C 27 d6_26 rfl rfl rfl ?_
  refine go_iloadN C 28 d6_27 rfl rfl ?_
  refine go_iload C 30 d6_28 rfl rfl ?_
  refine go_i2b C 31 (lo8 c5) d6_30 rfl rfl ?_
  refine go_bastore C 32 5 (v := (lo8 c5)) (nar_lo8 _) d6_31 rfl fx24 (by decide) rfl (nble rfl) (mi 0 rfl) ?_
  intro h26 W27 fx28
  have fx29 : Arv Z h26 t kB .byte (24 : Int32) [(.int (lo8 c0)), (.int (lo8 c1)), (.int (lo8 c2)), (.int (lo8 c3)), (.int (lo8 c4)), (.int (lo8 c5)), (.int 0), (.int 0), (.int 0), (.int 0), (.int 0), (.int 0), (.int 0), (.int 0), (.int 0), (.int 0), (.int 0), (.int 0), (.int 0), (.int 0), (.int 0), (.int 0), (.int 0), (.int 0)] (.int 0) := fx28
  refine go_iinc C 35 (Ls' := #[.val (.ref b), .val (.int 6), .val (.ref t), .val (.int 5), .val (.int 24), .val (.int 5), .val (.int c5)]) (1 : Int32) d6_32 rfl (by decide) rfl rfl ?_
  refine go_iinc C 38 (Ls' := #[.val (.ref b), .val (.int 6), .val (.ref t), .val (.int 6), .val (.int 24), .val (.int 5), .val (.int c5)]) (1 : Int32) d6_35 rfl (by decide) rfl rfl ?_
  refine go_iinc C 41 (Ls' := #[.val (.ref b), .val (.int 6), .val (.ref t), .val (.int 6), .val (.int 24), .val (.int 6), .val (.int c5)]) (1 : Int32) d6_38 rfl (by decide) rfl rfl ?_
  refine go_goto C (pc' := 3) d6_41 (by decide) (by decide) ?_
  refine go_iload C 5 d6_3 rfl rfl ?_
  refine go_iload C 7 d6_5 rfl rfl ?_
  refine go_icmpN C 10 d6_7 rfl (tlt ((by decide) : (6 : Int32) < (24 : Int32))).2.1 ?_
  refine go_aloadN C 11 d6_10 rfl rfl rfl ?_
  refine go_iloadN C 12 d6_11 rfl rfl ?_
  have fx30 := (fx25.other W27 hbt)
  refine go_caload C 13 (v := (.int c6)) d6_12 rfl fx30 (by decide) rfl ?_
  refine go_istore C 15 (Ls' := #[.val (.ref b), .val (.int 6), .val (.ref t), .val (.int 6), .val (.int 24), .val (.int 6), .val (.int c6)]) d6_13 rfl rfl ?_
  refine go_iload C 17 d6_15 rfl rfl ?_
  refine go_sipush C 20 (255 : Int32) d6_17 rfl (by decide) ?_
  refine go_icmpY C (pc' := 26) d6_20 (flt (l6 : ¬ ((255 : Int32) < c6))).2.2.2 (by decide) (by decide) ?_
  refine go_aloadN C 27 d6_26 rfl rfl rfl ?_
  refine go_iloadN C 28 d6_27 rfl rfl ?_
  refine go_iload C 30 d6_28 rfl rfl ?_
  refine go_i2b C 31 (lo8 c6) d6_30 rfl rfl ?_
  refine go_bastore C 32 6 (v := (lo8 c6)) (nar_lo8 _) d6_31 rfl fx29 (by decide) rfl (nble rfl) (mi 0 rfl) ?_
  intro h31 W32 fx33
  have fx34 : Arv Z h31 t kB .byte (24 : Int32) [(.int (lo8 c0)), (.int (lo8 c1)), (.int (lo8 c2)), (.int (lo8 c3)), (.int (lo8 c4)), (.int (lo8 c5)), (.int (lo8 c6)), (.int 0), (.int 0), (.int 0), (.int 0), (.int 0), (.int 0), (.int 0), (.int 0), (.int 0), (.int 0), (.int 0), (.int 0), (.int 0), (.int 0), (.int 0), (.int 0), (.int 0)] (.int 0) := fx33
  refine go_iinc C 35 (Ls' := #[.val (.ref b), .val (.int 7), .val (.ref t), .val (.int 6), .val (.int 24), .val (.int 6), .val (.int c6)]) (1 : Int32) d6_32 rfl (by decide) rfl rfl ?_
  refine go_iinc C 38 (Ls' := #[.val (.ref b), .val (.int 7), .val (.ref t), .val (.int 7), .val (.int 24), .val (.int 6), .val (.int c6)]) (1 : Int32) d6_35 rfl (by decide) rfl rfl ?_
  refine go_iinc C 41 (Ls' := #[.val (.ref b), .val (.int 7), .val (.ref t), .val (.int 7), .val (.int 24), .val (.int 7), .val (.int c6)]) (1 : Int32) d6_38 rfl (by decide) rfl rfl ?_
  refine go_goto C (pc' := 3) d6_41 (by decide) (by decide) ?_
  refine go_iload C 5 d6_3 rfl rfl ?_
  refine go_iload C 7 d6_5 rfl rfl ?_
  refine go_icmpN C 10 d6_7 rfl (tlt ((by decide) : (7 : Int32) < (24 : Int32))).2.1 ?_
  refine go_aloadN C 11 d6_10 rfl rfl rfl ?_
  refine go_iloadN C 12 d6_11 rfl rfl ?_
  have fx35 := (fx30.other W32 hbt)
  refine go_caload C 13 (v := (.int c7)) d6_12 rfl fx35 (by decide) rfl ?_
  refine go_istore C 15 (Ls' := #[.val (.ref b), .val (.int 7), .val (.ref t), .val (.int 7), .val (.int 24), .val (.int 7), .val (.int c7)]) d6_13 rfl rfl ?_
  refine go_iload C 17 d6_15 rfl rfl ?_
  refine go_sipush C 20 (255 : Int32) d6_17 rfl (by decide) ?_
  refine go_icmpY C (pc' := 26) d6_20 (flt (l7 : ¬ ((255 : Int32) < c7))).2.2.2 (by decide) (by decide) ?_
  refine go_aloadN C 27 d6_26 rfl rfl rfl ?_
  refine go_iloadN C 28 d6_27 rfl rfl ?_
  refine go_iload C 30 d6_28 rfl rfl ?_
  refine go_i2b C 31 (lo8 c7) d6_30 rfl rfl ?_
  refine go_bastore C 32 7 (v := (lo8 c7)) (nar_lo8 _) d6_31 rfl fx34 (by decide) rfl (nble rfl) (mi 0 rfl) ?_
  intro h36 W37 fx38
  have fx39 : Arv Z h36 t kB .byte (24 : Int32) [(.int (lo8 c0)), (.int (lo8 c1)), (.int (lo8 c2)), (.int (lo8 c3)), (.int (lo8 c4)), (.int (lo8 c5)), (.int (lo8 c6)), (.int (lo8 c7)), (.int 0), (.int 0), (.int 0), (.int 0), (.int 0), (.int 0), (.int 0), (.int 0), (.int 0), (.int 0), (.int 0), (.int 0), (.int 0), (.int 0), (.int 0), (.int 0)] (.int 0) := fx38
  refine go_iinc C 35 (Ls' := #[.val (.ref b), .val (.int 8), .val (.ref t), .val (.int 7), .val (.int 24), .val (.int 7), .val (.int c7)]) (1 : Int32) d6_32 rfl (by decide) rfl rfl ?_
  refine go_iinc C 38 (Ls' := #[.val (.ref b), .val (.int 8), .val (.ref t), .val (.int 8), .val (.int 24), .val (.int 7), .val (.int c7)]) (1 : Int32) d6_35 rfl (by decide) rfl rfl ?_
  refine go_iinc C 41 (Ls' := #[.val (.ref b), .val (.int 8), .val (.ref t), .val (.int 8), .val (.int 24), .val (.int 8), .val (.int c7)]) (1 : Int32) d6_38 rfl (by decide) rfl rfl ?_
  refine go_goto C (pc' := 3) d6_41 (by decide) (by decide) ?_
  refine go_iload C 5 d6_3 rfl rfl ?_
  refine go_iload C 7 d6_5 rfl rfl ?_
  refine go_icmpN C 10 d6_7 rfl (tlt ((by decide) : (8 : Int32) < (24 : Int32))).2.1 ?_
  refine go_aloadN C 11 d6_10 rfl rfl rfl ?_
  refine go_iloadN C 12 d6_11 rfl rfl ?_
  have fx40 := (fx35.other W37 hbt)
  refine go_caload C 13 (v := (.int c8)) d6_12 rfl fx40 (by decide) rfl ?_
  refine go_istore C 15 (Ls' := #[.val (.ref b), .val (.int 8), .val (.ref t), .val (.int 8), .val (.int 24), .val (.int 8), .val (.int c8)]) d6_13 rfl rfl ?_
  refine go_iload C 17 d6_15 rfl rfl ?_
  refine go_sipush C 20 (255 : Int32) d6_17 rfl (by decide) ?_
  refine go_icmpY C (pc' := 26) d6_20 (flt (l8 : ¬ ((255 : Int32) < c8))).2.2.2 (by decide) (by decide) ?_
  refine go_aloadN C 27 d6_26 rfl rfl rfl ?_
  refine go_iloadN C 28 d6_27 rfl rfl ?_
  refine go_iload C 30 d6_28 rfl rfl ?_
  refine go_i2b C 31 (lo8 c8) d6_30 rfl rfl ?_
  refine go_bastore C 32 8 (v := (lo8 c8)) (nar_lo8 _) d6_31 rfl fx39 (by decide) rfl (nble rfl) (mi 0 rfl) ?_
  intro h41 W42 fx43
  have fx44 : Arv Z h41 t kB .byte (24 : Int32) [(.int (lo8 c0)), (.int (lo8 c1)), (.int (lo8 c2)), (.int (lo8 c3)), (.int (lo8 c4)), (.int (lo8 c5)), (.int (lo8 c6)), (.int (lo8 c7)), (.int (lo8 c8)), (.int 0), (.int 0), (.int 0), (.int 0), (.int 0), (.int 0), (.int 0), (.int 0), (.int 0), (.int 0), (.int 0), (.int 0), (.int 0), (.int 0), (.int 0)] (.int 0) := fx43
  refine go_iinc C 35 (Ls' := #[.val (.ref b), .val (.int 9), .val (.ref t), .val (.int 8), .val (.int 24), .val (.int 8), .val (.int c8)]) (1 : Int32) d6_32 rfl (by decide) rfl rfl ?_
  refine go_iinc C 38 (Ls' := #[.val (.ref b), .val (.int 9), .val (.ref t), .val (.int 9), .val (.int 24), .val (.int 8), .val (.int c8)]) (1 : Int32) d6_35 rfl (by decide) rfl rfl ?_
  refine go_iinc C 41 (Ls' := #[.val (.ref b), .val (.int 9), .val (.ref t), .val (.int 9), .val (.int 24), .val (.int 9), .val (.int c8)]) (1 : Int32) d6_38 rfl (by decide) rfl rfl ?_
  refine go_goto C (pc' := 3) d6_41 (by decide) (by decide) ?_
  refine go_iload C 5 d6_3 rfl rfl ?_
  refine go_iload C 7 d6_5 rfl rfl ?_
  refine go_icmpN C 10 d6_7 rfl (tlt ((by decide) : (9 : Int32) < (24 : Int32))).2.1 ?_
  refine go_aloadN C 11 d6_10 rfl rfl rfl ?_
  refine go_iloadN C 12 d6_11 rfl rfl ?_
  have fx45 := (fx40.other W42 hbt)
  refine go_caload C 13 (v := (.int c9)) d6_12 rfl fx45 (by decide) rfl ?_
  refine go_istore C 15 (Ls' := #[.val (.ref b), .val (.int 9), .val (.ref t), .val (.int 9), .val (.int 24), .val (.int 9), .val (.int c9)]) d6_13 rfl rfl ?_
  refine go_iload C 17 d6_15 rfl rfl ?_
  refine go_sipush C 20 (255 : Int32) d6_17 rfl (by decide) ?_
  refine go_icmpY C (pc' := 26) d6_20 (flt (l9 : ¬ ((255 : Int32) < c9))).2.2.2 (by decide) (by decide) ?_
  refine go_aloadN C 27 d6_26 rfl rfl rfl ?_
  refine go_iloadN C 28 d6_27 rfl rfl ?_
  refine go_iload C 30 d6_28 rfl rfl ?_
  refine go_i2b C 31 (lo8 c9) d6_30 rfl rfl ?_
  refine go_bastore C 32 9 (v := (lo8 c9)) (nar_lo8 _) d6_31 rfl fx44 (by decide) rfl (nble rfl) (mi 0 rfl) ?_
  intro h46 W47 fx48
  have fx49 : Arv Z h46 t kB .byte (24 : Int32) [(.int (lo8 c0)), (.int (lo8 c1)), (.int (lo8 c2)), (.int (lo8 c3)), (.int (lo8 c4)), (.int (lo8 c5)), (.int (lo8 c6)), (.int (lo8 c7)), (.int (lo8 c8)), (.int (lo8 c9)), (.int 0), (.int 0), (.int 0), (.int 0), (.int 0), (.int 0), (.int 0), (.int 0), (.int 0), (.int 0), (.int 0), (.int 0), (.int 0), (.int 0)] (.int 0) := fx48
  refine go_iinc C 35 (Ls' := #[.val (.ref b), .val (.int 10), .val (.ref t), .val (.int 9), .val (.int 24), .val (.int 9), .val (.int c9)]) (1 : Int32) d6_32 rfl (by decide) rfl rfl ?_
  refine go_iinc C 38 (Ls' := #[.val (.ref b), .val (.int 10), .val (.ref t), .val (.int 10), .val (.int 24), .val (.int 9), .val (.int c9)]) (1 : Int32) d6_35 rfl (by decide) rfl rfl ?_
  refine go_iinc C 41 (Ls' := #[.val (.ref b), .val (.int 10), .val (.ref t), .val (.int 10), .val (.int 24), .val (.int 10), .val (.int c9)]) (1 : Int32) d6_38 rfl (by decide) rfl rfl ?_
  refine go_goto C (pc' := 3) d6_41 (by decide) (by decide) ?_
  refine go_iload C 5 d6_3 rfl rfl ?_
  refine go_iload C 7 d6_5 rfl rfl ?_
  refine go_icmpN C 10 d6_7 rfl (tlt ((by decide) : (10 : Int32) < (24 : Int32))).2.1 ?_
  refine go_aloadN C 11 d6_10 rfl rfl rfl ?_
  refine go_iloadN C 12 d6_11 rfl rfl ?_
  have fx50 := (fx45.other W47 hbt)
  refine go_caload C 13 (v := (.int c10)) d6_12 rfl fx50 (by decide) rfl ?_
  refine go_istore C 15 (Ls' := #[.val (.ref b), .val (.int 10), .val (.ref t), .val (.int 10), .val (.int 24), .val (.int 10), .val (.int c10)]) d6_13 rfl rfl ?_
  refine go_iload C 17 d6_15 rfl rfl ?_
  refine go_sipush C 20 (255 : Int32) d6_17 rfl (by decide) ?_
  refine go_icmpY C (pc' := 26) d6_20 (flt (l10 : ¬ ((255 : Int32) < c10))).2.2.2 (by decide) (by decide) ?_
  refine go_aloadN C 27 d6_26 rfl rfl rfl ?_
  refine go_iloadN C 28 d6_27 rfl rfl ?_
  refine go_iload C 30 d6_28 rfl rfl ?_
  refine go_i2b C 31 (lo8 c10) d6_30 rfl rfl ?_
  refine go_bastore C 32 10 (v := (lo8 c10)) (nar_lo8 _) d6_31 rfl fx49 (by decide) rfl (nble rfl) (mi 0 rfl) ?_
  intro h51 W52 fx53
  have fx54 : Arv Z h51 t kB .byte (24 : Int32) [(.int (lo8 c0)), (.int (lo8 c1)), (.int (lo8 c2)), (.int (lo8 c3)), (.int (lo8 c4)), (.int (lo8 c5)), (.int (lo8 c6)), (.int (lo8 c7)), (.int (lo8 c8)), (.int (lo8 c9)), (.int (lo8 c10)), (.int 0), (.int 0), (.int 0), (.int 0), (.int 0), (.int 0), (.int 0), (.int 0), (.int 0), (.int 0), (.int 0), (.int 0), (.int 0)] (.int 0) := fx53
  refine go_iinc C 35 (Ls' := #[.val (.ref b), .val (.int 11), .val (.ref t), .val (.int 10), .val (.int 24), .val (.int 10), .val (.int c10)]) (1 : Int32) d6_32 rfl (by decide) rfl rfl ?_
  refine go_iinc C 38 (Ls' := #[.val (.ref b), .val (.int 11), .val (.ref t), .val (.int 11), .val (.int 24), .val (.int 10), .val (.int c10)]) (1 : Int32) d6_35 rfl (by decide) rfl rfl ?_
  refine go_iinc C 41 (Ls' := #[.val (.ref b), .val (.int 11), .val (.ref t), .val (.int 11), .val (.int 24), .val (.int 11), .val (.int c10)]) (1 : Int32) d6_38 rfl (by decide) rfl rfl ?_
  refine go_goto C (pc' := 3) d6_41 (by decide) (by decide) ?_
  refine go_iload C 5 d6_3 rfl rfl ?_
  refine go_iload C 7 d6_5 rfl rfl ?_
  refine go_icmpN C 10 d6_7 rfl (tlt ((by decide) : (11 : Int32) < (24 : Int32))).2.1 ?_
  refine go_aloadN C 11 d6_10 rfl rfl rfl ?_
  refine go_iloadN C 12 d6_11 rfl rfl ?_
  have fx55 := (fx50.other W52 hbt)
  refine go_caload C 13 (v := (.int c11)) d6_12 rfl fx55 (by decide) rfl ?_
  refine go_istore C 15 (Ls' := #[.val (.ref b), .val (.int 11), .val (.ref t), .val (.int 11), .val (.int 24), .val (.int 11), .val (.int c11)]) d6_13 rfl rfl ?_
  refine go_iload C 17 d6_15 rfl rfl ?_
  refine go_sipush C 20 (255 : Int32) d6_17 rfl (by decide) ?_
  refine go_icmpY C (pc' := 26) d6_20 (flt (l11 : ¬ ((255 : Int32) < c11))).2.2.2 (by decide) (by decide) ?_
  refine go_aloadN C 27 d6_26 rfl rfl rfl ?_
  refine go_iloadN C 28 d6_27 rfl rfl ?_
  refine go_iload C 30 d6_28 rfl rfl ?_
  refine go_i2b C 31 (lo8 c11) d6_30 rfl rfl ?_
  refine go_bastore C 32 11 (v := (lo8 c11)) (nar_lo8 _) d6_31 rfl fx54 (by decide) rfl (nble rfl) (mi 0 rfl) ?_
  intro h56 W57 fx58
  have fx59 : Arv Z h56 t kB .byte (24 : Int32) [(.int (lo8 c0)), (.int (lo8 c1)), (.int (lo8 c2)), (.int (lo8 c3)), (.int (lo8 c4)), (.int (lo8 c5)), (.int (lo8 c6)), (.int (lo8 c7)), (.int (lo8 c8)), (.int (lo8 c9)), (.int (lo8 c10)), (.int (lo8 c11)), (.int 0), (.int 0), (.int 0), (.int 0), (.int 0), (.int 0), (.int 0), (.int 0), (.int 0), (.int 0), (.int 0), (.int 0)] (.int 0) := fx58
  refine go_iinc C 35 (Ls' := #[.val (.ref b), .val (.int 12), .val (.ref t), .val (.int 11), .val (.int 24), .val (.int 11), .val (.int c11)]) (1 : Int32) d6_32 rfl (by decide) rfl rfl ?_
  refine go_iinc C 38 (Ls' := #[.val (.ref b), .val (.int 12), .val (.ref t), .val (.int 12), .val (.int 24), .val (.int 11), .val (.int c11)]) (1 : Int32) d6_35 rfl (by decide) rfl rfl ?_
  refine go_iinc C 41 (Ls' := #[.val (.ref b), .val (.int 12), .val (.ref t), .val (.int 12), .val (.int 24), .val (.int 12), .val (.int c11)]) (1 : Int32) d6_38 rfl (by decide) rfl rfl ?_
  refine go_goto C (pc' := 3) d6_41 (by decide) (by decide) ?_
  refine go_iload C 5 d6_3 rfl rfl ?_
  refine go_iload C 7 d6_5 rfl rfl ?_
  refine go_icmpN C 10 d6_7 rfl (tlt ((by decide) : (12 : Int32) < (24 : Int32))).2.1 ?_
  refine go_aloadN C 11 d6_10 rfl rfl rfl ?_
  refine go_iloadN C 12 d6_11 rfl rfl ?_
  have fx60 := (fx55.other W57 hbt)
  refine go_caload C 13 (v := (.int c12)) d6_12 rfl fx60 (by decide) rfl ?_
  refine go_istore C 15 (Ls' := #[.val (.ref b), .val (.int 12), .val (.ref t), .val (.int 12), .val (.int 24), .val (.int 12), .val (.int c12)]) d6_13 rfl rfl ?_
  refine go_iload C 17 d6_15 rfl rfl ?_
  refine go_sipush C 20 (255 : Int32) d6_17 rfl (by decide) ?_
  refine go_icmpY C (pc' := 26) d6_20 (flt (l12 : ¬ ((255 : Int32) < c12))).2.2.2 (by decide) (by decide) ?_
  refine go_aloadN C 27 d6_26 rfl rfl rfl ?_
  refine go_iloadN C 28 d6_27 rfl rfl ?_
  refine go_iload C 30 d6_28 rfl rfl ?_
  refine go_i2b C 31 (lo8 c12) d6_30 rfl rfl ?_
  refine go_bastore C 32 12 (v := (lo8 c12)) (nar_lo8 _) d6_31 rfl fx59 (by decide) rfl (nble rfl) (mi 0 rfl) ?_
  intro h61 W62 fx63
  have fx64 : Arv Z h61 t kB .byte (24 : Int32) [(.int (lo8 c0)), (.int (lo8 c1)), (.int (lo8 c2)), (.int (lo8 c3)), (.int (lo8 c4)), (.int (lo8 c5)), (.int (lo8 c6)), (.int (lo8 c7)), (.int (lo8 c8)), (.int (lo8 c9)), (.int (lo8 c10)), (.int (lo8 c11)), (.int (lo8 c12)), (.int 0), (.int 0), (.int 0), (.int 0), (.int 0), (.int 0), (.int 0), (.int 0), (.int 0), (.int 0), (.int 0)] (.int 0) := fx63
  refine go_iinc C 35 (Ls' := #[.val (.ref b), .val (.int 13), .val (.ref t), .val (.int 12), .val (.int 24), .val (.int 12), .val (.int c12)]) (1 : Int32) d6_32 rfl (by decide) rfl rfl ?_
  refine go_iinc C 38 (Ls' := #[.val (.ref b), .val (.int 13), .val (.ref t), .val (.int 13), .val (.int 24), .val (.int 12), .val (.int c12)]) (1 : Int32) d6_35 rfl (by decide) rfl rfl ?_
  refine go_iinc C 41 (Ls' := #[.val (.ref b), .val (.int 13), .val (.ref t), .val (.int 13), .val (.int 24), .val (.int 13), .val (.int c12)]) (1 : Int32) d6_38 rfl (by decide) rfl rfl ?_
  refine go_goto C (pc' := 3) d6_41 (by decide) (by decide) ?_
  refine go_iload C 5 d6_3 rfl rfl ?_
  refine go_iload C 7 d6_5 rfl rfl ?_
  refine go_icmpN C 10 d6_7 rfl (tlt ((by decide) : (13 : Int32) < (24 : Int32))).2.1 ?_
  refine go_aloadN C 11 d6_10 rfl rfl rfl ?_
  refine go_iloadN C 12 d6_11 rfl rfl ?_
  have fx65 := (fx60.other W62 hbt)
  refine go_caload C 13 (v := (.int c13)) d6_12 rfl fx65 (by decide) rfl ?_
  refine go_istore C 15 (Ls' := #[.val (.ref b), .val (.int 13), .val (.ref t), .val (.int 13), .val (.int 24), .val (.int 13), .val (.int c13)]) d6_13 rfl rfl ?_
  refine go_iload C 17 d6_15 rfl rfl ?_
  refine go_sipush C 20 (255 : Int32) d6_17 rfl (by decide) ?_
  refine go_icmpY C (pc' := 26) d6_20 (flt (l13 : ¬ ((255 : Int32) < c13))).2.2.2 (by decide) (by decide) ?_
  refine go_aloadN C 27 d6_26 rfl rfl rfl ?_
  refine go_iloadN C 28 d6_27 rfl rfl ?_
  refine go_iload C 30 d6_28 rfl rfl ?_
  refine go_i2b C 31 (lo8 c13) d6_30 rfl rfl ?_
  refine go_bastore C 32 13 (v := (lo8 c13)) (nar_lo8 _) d6_31 rfl fx64 (by decide) rfl (nble rfl) (mi 0 rfl) ?_
  intro h66 W67 fx68
  have fx69 : Arv Z h66 t kB .byte (24 : Int32) [(.int (lo8 c0)), (.int (lo8 c1)), (.int (lo8 c2)), (.int (lo8 c3)), (.int (lo8 c4)), (.int (lo8 c5)), (.int (lo8 c6)), (.int (lo8 c7)), (.int (lo8 c8)), (.int (lo8 c9)), (.int (lo8 c10)), (.int (lo8 c11)), (.int (lo8 c12)), (.int (lo8 c13)), (.int 0), (.int 0), (.int 0), (.int 0), (.int 0), (.int 0), (.int 0), (.int 0), (.int 0), (.int 0)] (.int 0) := fx68
  refine go_iinc C 35 (Ls' := #[.val (.ref b), .val (.int 14), .val (.ref t), .val (.int 13), .val (.int 24), .val (.int 13), .val (.int c13)]) (1 : Int32) d6_32 rfl (by decide) rfl rfl ?_
  refine go_iinc C 38 (Ls' := #[.val (.ref b), .val (.int 14), .val (.ref t), .val (.int 14), .val (.int 24), .val (.int 13), .val (.int c13)]) (1 : Int32) d6_35 rfl (by decide) rfl rfl ?_
  refine go_iinc C 41 (Ls' := #[.val (.ref b), .val (.int 14), .val (.ref t), .val (.int 14), .val (.int 24), .val (.int 14), .val (.int c13)]) (1 : Int32) d6_38 rfl (by decide) rfl rfl ?_
  refine go_goto C (pc' := 3) d6_41 (by decide) (by decide) ?_
  refine go_iload C 5 d6_3 rfl rfl ?_
  refine go_iload C 7 d6_5 rfl rfl ?_
  refine go_icmpN C 10 d6_7 rfl (tlt ((by decide) : (14 : Int32) < (24 : Int32))).2.1 ?_
  refine go_aloadN C 11 d6_10 rfl rfl rfl ?_
  refine go_iloadN C 12 d6_11 rfl rfl ?_
  have fx70 := (fx65.other W67 hbt)
  refine go_caload C 13 (v := (.int c14)) d6_12 rfl fx70 (by decide) rfl ?_
  refine go_istore C 15 (Ls' := #[.val (.ref b), .val (.int 14), .val (.ref t), .val (.int 14), .val (.int 24), .val (.int 14), .val (.int c14)]) d6_13 rfl rfl ?_
  refine go_iload C 17 d6_15 rfl rfl ?_
  refine go_sipush C 20 (255 : Int32) d6_17 rfl (by decide) ?_
  refine go_icmpY C (pc' := 26) d6_20 (flt (l14 : ¬ ((255 : Int32) < c14))).2.2.2 (by decide) (by decide) ?_
  refine go_aloadN C 27 d6_26 rfl rfl rfl ?_
  refine go_iloadN C 28 d6_27 rfl rfl ?_
  refine go_iload C 30 d6_28 rfl rfl ?_
  refine go_i2b C 31 (lo8 c14) d6_30 rfl rfl ?_
  refine go_bastore C 32 14 (v := (lo8 c14)) (nar_lo8 _) d6_31 rfl fx69 (by decide) rfl (nble rfl) (mi 0 rfl) ?_
  intro h71 W72 fx73
  have fx74 : Arv Z h71 t kB .byte (24 : Int32) [(.int (lo8 c0)), (.int (lo8 c1)), (.int (lo8 c2)), (.int (lo8 c3)), (.int (lo8 c4)), (.int (lo8 c5)), (.int (lo8 c6)), (.int (lo8 c7)), (.int (lo8 c8)), (.int (lo8 c9)), (.int (lo8 c10)), (.int (lo8 c11)), (.int (lo8 c12)), (.int (lo8 c13)), (.int (lo8 c14)), (.int 0), (.int 0), (.int 0), (.int 0), (.int 0), (.int 0), (.int 0), (.int 0), (.int 0)] (.int 0) := fx73
  refine go_iinc C 35 (Ls' := #[.val (.ref b), .val (.int 15), .val (.ref t), .val (.int 14), .val (.int 24), .val (.int 14), .val (.int c14)]) (1 : Int32) d6_32 rfl (by decide) rfl rfl ?_
  refine go_iinc C 38 (Ls' := #[.val (.ref b), .val (.int 15), .val (.ref t), .val (.int 15), .val (.int 24), .val (.int 14), .val (.int c14)]) (1 : Int32) d6_35 rfl (by decide) rfl rfl ?_
  refine go_iinc C 41 (Ls' := #[.val (.ref b), .val (.int 15), .val (.ref t), .val (.int 15), .val (.int 24), .val (.int 15), .val (.int c14)]) (1 : Int32) d6_38 rfl (by decide) rfl rfl ?_
  refine go_goto C (pc' := 3) d6_41 (by decide) (by decide) ?_
  refine go_iload C 5 d6_3 rfl rfl ?_
  refine go_iload C 7 d6_5 rfl rfl ?_
  refine go_icmpN C 10 d6_7 rfl (tlt ((by decide) : (15 : Int32) < (24 : Int32))).2.1 ?_
  refine go_aloadN C 11 d6_10 rfl rfl rfl ?_
  refine go_iloadN C 12 d6_11 rfl rfl ?_
  have fx75 := (fx70.other W72 hbt)
  refine go_caload C 13 (v := (.int c15)) d6_12 rfl fx75 (by decide) rfl ?_
  refine go_istore C 15 (Ls' := #[.val (.ref b), .val (.int 15), .val (.ref t), .val (.int 15), .val (.int 24), .val (.int 15), .val (.int c15)]) d6_13 rfl rfl ?_
  refine go_iload C 17 d6_15 rfl rfl ?_
  refine go_sipush C 20 (255 : Int32) d6_17 rfl (by decide) ?_
  refine go_icmpY C (pc' := 26) d6_20 (flt (l15 : ¬ ((255 : Int32) < c15))).2.2.2 (by decide) (by decide) ?_
  refine go_aloadN C 27 d6_26 rfl rfl rfl ?_
  refine go_iloadN C 28 d6_27 rfl rfl ?_
  refine go_iload C 30 d6_28 rfl rfl ?_
  refine go_i2b C 31 (lo8 c15) d6_30 rfl rfl ?_
  refine go_bastore C 32 15 (v := (lo8 c15)) (nar_lo8 _) d6_31 rfl fx74 (by decide) rfl (nble rfl) (mi 0 rfl) ?_
  intro h76 W77 fx78
  have fx79 : Arv Z h76 t kB .byte (24 : Int32) [(.int (lo8 c0)), (.int (lo8 c1)), (.int (lo8 c2)), (.int (lo8 c3)), (.int (lo8 c4)), (.int (lo8 c5)), (.int (lo8 c6)), (.int (lo8 c7)), (.int (lo8 c8)), (.int (lo8 c9)), (.int (lo8 c10)), (.int (lo8 c11)), (.int (lo8 c12)), (.int (lo8 c13)), (.int (lo8 c14)), (.int (lo8 c15)), (.int 0), (.int 0), (.int 0), (.int 0), (.int 0), (.int 0), (.int 0), (.int 0)] (.int 0) := fx78
  refine go_iinc C 35 (Ls' := #[.val (.ref b), .val (.int 16), .val (.ref t), .val (.int 15), .val (.int 24), .val (.int 15), .val (.int c15)]) (1 : Int32) d6_32 rfl (by decide) rfl rfl ?_
  refine go_iinc C 38 (Ls' := #[.val (.ref b), .val (.int 16), .val (.ref t), .val (.int 16), .val (.int 24), .val (.int 15), .val (.int c15)]) (1 : Int32) d6_35 rfl (by decide) rfl rfl ?_
  refine go_iinc C 41 (Ls' := #[.val (.ref b), .val (.int 16), .val (.ref t), .val (.int 16), .val (.int 24), .val (.int 16), .val (.int c15)]) (1 : Int32) d6_38 rfl (by decide) rfl rfl ?_
  refine go_goto C (pc' := 3) d6_41 (by decide) (by decide) ?_
  refine go_iload C 5 d6_3 rfl rfl ?_
  refine go_iload C 7 d6_5 rfl rfl ?_
  refine go_icmpN C 10 d6_7 rfl (tlt ((by decide) : (16 : Int32) < (24 : Int32))).2.1 ?_
  refine go_aloadN C 11 d6_10 rfl rfl rfl ?_
  refine go_iloadN C 12 d6_11 rfl rfl ?_
  have fx80 := (fx75.other W77 hbt)
  refine go_caload C 13 (v := (.int c16)) d6_12 rfl fx80 (by decide) rfl ?_
  refine go_istore C 15 (Ls' := #[.val (.ref b), .val (.int 16), .val (.ref t), .val (.int 16), .val (.int 24), .val (.int 16), .val (.int c16)]) d6_13 rfl rfl ?_
  refine go_iload C 17 d6_15 rfl rfl ?_
  refine go_sipush C 20 (255 : Int32) d6_17 rfl (by decide) ?_
  refine go_icmpY C (pc' := 26) d6_20 (flt (l16 : ¬ ((255 : Int32) < c16))).2.2.2 (by decide) (by decide) ?_
  refine go_aloadN C 27 d6_26 rfl rfl rfl ?_
  refine go_iloadN C 28 d6_27 rfl rfl ?_
  refine go_iload C 30 d6_28 rfl rfl ?_
  refine go_i2b C 31 (lo8 c16) d6_30 rfl rfl ?_
  refine go_bastore C 32 16 (v := (lo8 c16)) (nar_lo8 _) d6_31 rfl fx79 (by decide) rfl (nble rfl) (mi 0 rfl) ?_
  intro h81 W82 fx83
  have fx84 : Arv Z h81 t kB .byte (24 : Int32) [(.int (lo8 c0)), (.int (lo8 c1)), (.int (lo8 c2)), (.int (lo8 c3)), (.int (lo8 c4)), (.int (lo8 c5)), (.int (lo8 c6)), (.int (lo8 c7)), (.int (lo8 c8)), (.int (lo8 c9)), (.int (lo8 c10)), (.int (lo8 c11)), (.int (lo8 c12)), (.int (lo8 c13)), (.int (lo8 c14)), (.int (lo8 c15)), (.int (lo8 c16)), (.int 0), (.int 0), (.int 0), (.int 0), (.int 0), (.int 0), (.int 0)] (.int 0) := fx83
  refine go_iinc C 35 (Ls' := #[.val (.ref b), .val (.int 17), .val (.ref t), .val (.int 16), .val (.int 24), .val (.int 16), .val (.int c16)]) (1 : Int32) d6_32 rfl (by decide) rfl rfl ?_
  refine go_iinc C 38 (Ls' := #[.val (.ref b), .val (.int 17), .val (.ref t), .val (.int 17), .val (.int 24), .val (.int 16), .val (.int c16)]) (1 : Int32) d6_35 rfl (by decide) rfl rfl ?_
  refine go_iinc C 41 (Ls' := #[.val (.ref b), .val (.int 17), .val (.ref t), .val (.int 17), .val (.int 24), .val (.int 17), .val (.int c16)]) (1 : Int32) d6_38 rfl (by decide) rfl rfl ?_
  refine go_goto C (pc' := 3) d6_41 (by decide) (by decide) ?_
  refine go_iload C 5 d6_3 rfl rfl ?_
  refine go_iload C 7 d6_5 rfl rfl ?_
  refine go_icmpN C 10 d6_7 rfl (tlt ((by decide) : (17 : Int32) < (24 : Int32))).2.1 ?_
  refine go_aloadN C 11 d6_10 rfl rfl rfl ?_
  refine go_iloadN C 12 d6_11 rfl rfl ?_
  have fx85 := (fx80.other W82 hbt)
  refine go_caload C 13 (v := (.int c17)) d6_12 rfl fx85 (by decide) rfl ?_
  refine go_istore C 15 (Ls' := #[.val (.ref b), .val (.int 17), .val (.ref t), .val (.int 17), .val (.int 24), .val (.int 17), .val (.int c17)]) d6_13 rfl rfl ?_
  refine go_iload C 17 d6_15 rfl rfl ?_
  refine go_sipush C 20 (255 : Int32) d6_17 rfl (by decide) ?_
  refine go_icmpY C (pc' := 26) d6_20 (flt (l17 : ¬ ((255 : Int32) < c17))).2.2.2 (by decide) (by decide) ?_
  refine go_aloadN C 27 d6_26 rfl rfl rfl ?_
  refine go_iloadN C 28 d6_27 rfl rfl ?_
  refine go_iload C 30 d6_28 rfl rfl ?_
  refine go_i2b C 31 (lo8 c17) d6_30 rfl rfl ?_
  refine go_bastore C 32 17 (v := (lo8 c17)) (nar_lo8 _) d6_31 rfl fx84 (by decide) rfl (nble rfl) (mi 0 rfl) ?_
  intro h86 W87 fx88
  have fx89 : Arv Z h86 t kB .byte (24 : Int32) [(.int (lo8 c0)), (.int (lo8 c1)), (.int (lo8 c2)), (.int (lo8 c3)), (.int (lo8 c4)), (.int (lo8 c5)), (.int (lo8 c6)), (.int (lo8 c7)), (.int (lo8 c8)), (.int (lo8 c9)), (.int (lo8 c10)), (.int (lo8 c11)), (.int (lo8 c12)), (.int (lo8 c13)), (.int (lo8 c14)), (.int (lo8 c15)), (.int (lo8 c16)), (.int (lo8 c17)), (.int 0), (.int 0), (.int 0), (.int 0), (.int 0), (.int 0)] (.int 0) := fx88
  refine go_iinc C 35 (Ls' := #[.val (.ref b), .val (.int 18), .val (.ref t), .val (.int 17), .val (.int 24), .val (.int 17), .val (.int c17)]) (1 : Int32) d6_32 rfl (by decide) rfl rfl ?_
  refine go_iinc C 38 (Ls' := #[.val (.ref b), .val (.int 18), .val (.ref t), .val (.int 18), .val (.int 24), .val (.int 17), .val (.int c17)]) (1 : Int32) d6_35 rfl (by decide) rfl rfl ?_
  refine go_iinc C 41 (Ls' := #[.val (.ref b), .val (.int 18), .val (.ref t), .val (.int 18), .val (.int 24), .val (.int 18), .val (.int c17)]) (1 : Int32) d6_38 rfl (by decide) rfl rfl ?_
  refine go_goto C (pc' := 3) d6_41 (by decide) (by decide) ?_
  refine go_iload C 5 d6_3 rfl rfl ?_
  refine go_iload C 7 d6_5 rfl rfl ?_
  refine go_icmpN C 10 d6_7 rfl (tlt ((by decide) : (18 : Int32) < (24 : Int32))).2.1 ?_
  refine go_aloadN C 11 d6_10 rfl rfl rfl ?_
  refine go_iloadN C 12 d6_11 rfl rfl ?_
  have fx90 := (fx85.other W87 hbt)
  refine go_caload C 13 (v := (.int c18)) d6_12 rfl fx90 (by decide) rfl ?_
  refine go_istore C 15 (Ls' := #[.val (.ref b), .val (.int 18), .val (.ref t), .val (.int 18), .val (.int 24), .val (.int 18), .val (.int c18)]) d6_13 rfl rfl ?_
  refine go_iload C 17 d6_15 rfl rfl ?_
  refine go_sipush C 20 (255 : Int32) d6_17 rfl (by decide) ?_
  refine go_icmpY C (pc' := 26) d6_20 (flt (l18 : ¬ ((255 : Int32) < c18))).2.2.2 (by decide) (by decide) ?_
  refine go_aloadN C 27 d6_26 rfl rfl rfl ?_
  refine go_iloadN C 28 d6_27 rfl rfl ?_
  refine go_iload C 30 d6_28 rfl rfl ?_
  refine go_i2b C 31 (lo8 c18) d6_30 rfl rfl ?_
  refine go_bastore C 32 18 (v := (lo8 c18)) (nar_lo8 _) d6_31 rfl fx89 (by decide) rfl (nble rfl) (mi 0 rfl) ?_
  intro h91 W92 fx93
  have fx94 : Arv Z h91 t kB .byte (24 : Int32) [(.int (lo8 c0)), (.int (lo8 c1)), (.int (lo8 c2)), (.int (lo8 c3)), (.int (lo8 c4)), (.int (lo8 c5)), (.int (lo8 c6)), (.int (lo8 c7)), (.int (lo8 c8)), (.int (lo8 c9)), (.int (lo8 c10)), (.int (lo8 c11)), (.int (lo8 c12)), (.int (lo8 c13)), (.int (lo8 c14)), (.int (lo8 c15)), (.int (lo8 c16)), (.int (lo8 c17)), (.int (lo8 c18)), (.int 0), (.int 0), (.int 0), (.int 0), (.int 0)] (.int 0) := fx93
  refine go_iinc C 35 (Ls' := #[.val (.ref b), .val (.int 19), .val (.ref t), .val (.int 18), .val (.int 24), .val (.int 18), .val (.int c18)]) (1 : Int32) d6_32 rfl (by decide) rfl rfl ?_
  refine go_iinc C 38 (Ls' := #[.val (.ref b), .val (.int 19), .val (.ref t), .val (.int 19), .val (.int 24), .val (.int 18), .val (.int c18)]) (1 : Int32) d6_35 rfl (by decide) rfl rfl ?_
  refine go_iinc C 41 (Ls' := #[.val (.ref b), .val (.int 19), .val (.ref t), .val (.int 19), .val (.int 24), .val (.int 19), .val (.int c18)]) (1 : Int32) d6_38 rfl (by decide) rfl rfl ?_
  refine go_goto C (pc' := 3) d6_41 (by decide) (by decide) ?_
  refine go_iload C 5 d6_3 rfl rfl ?_
  refine go_iload C 7 d6_5 rfl rfl ?_
  refine go_icmpN C 10 d6_7 rfl (tlt ((by decide) : (19 : Int32) < (24 : Int32))).2.1 ?_
  refine go_aloadN C 11 d6_10 rfl rfl rfl ?_
  refine go_iloadN C 12 d6_11 rfl rfl ?_
  have fx95 := (fx90.other W92 hbt)
  refine go_caload C 13 (v := (.int c19)) d6_12 rfl fx95 (by decide) rfl ?_
  refine go_istore C 15 (Ls' := #[.val (.ref b), .val (.int 19), .val (.ref t), .val (.int 19), .val (.int 24), .val (.int 19), .val (.int c19)]) d6_13 rfl rfl ?_
  refine go_iload C 17 d6_15 rfl rfl ?_
  refine go_sipush C 20 (255 : Int32) d6_17 rfl (by decide) ?_
  refine go_icmpY C (pc' := 26) d6_20 (flt (l19 : ¬ ((255 : Int32) < c19))).2.2.2 (by decide) (by decide) ?_
  refine go_aloadN C 27 d6_26 rfl rfl rfl ?_
  refine go_iloadN C 28 d6_27 rfl rfl ?_
  refine go_iload C 30 d6_28 rfl rfl ?_
  refine go_i2b C 31 (lo8 c19) d6_30 rfl rfl ?_
  refine go_bastore C 32 19 (v := (lo8 c19)) (nar_lo8 _) d6_31 rfl fx94 (by decide) rfl (nble rfl) (mi 0 rfl) ?_
  intro h96 W97 fx98
  have fx99 : Arv Z h96 t kB .byte (24 : Int32) [(.int (lo8 c0)), (.int (lo8 c1)), (.int (lo8 c2)), (.int (lo8 c3)), (.int (lo8 c4)), (.int (lo8 c5)), (.int (lo8 c6)), (.int (lo8 c7)), (.int (lo8 c8)), (.int (lo8 c9)), (.int (lo8 c10)), (.int (lo8 c11)), (.int (lo8 c12)), (.int (lo8 c13)), (.int (lo8 c14)), (.int (lo8 c15)), (.int (lo8 c16)), (.int (lo8 c17)), (.int (lo8 c18)), (.int (lo8 c19)), (.int 0), (.int 0), (.int 0), (.int 0)] (.int 0) := fx98
  refine go_iinc C 35 (Ls' := #[.val (.ref b), .val (.int 20), .val (.ref t), .val (.int 19), .val (.int 24), .val (.int 19), .val (.int c19)]) (1 : Int32) d6_32 rfl (by decide) rfl rfl ?_
  refine go_iinc C 38 (Ls' := #[.val (.ref b), .val (.int 20), .val (.ref t), .val (.int 20), .val (.int 24), .val (.int 19), .val (.int c19)]) (1 : Int32) d6_35 rfl (by decide) rfl rfl ?_
  refine go_iinc C 41 (Ls' := #[.val (.ref b), .val (.int 20), .val (.ref t), .val (.int 20), .val (.int 24), .val (.int 20), .val (.int c19)]) (1 : Int32) d6_38 rfl (by decide) rfl rfl ?_
  refine go_goto C (pc' := 3) d6_41 (by decide) (by decide) ?_
  refine go_iload C 5 d6_3 rfl rfl ?_
  refine go_iload C 7 d6_5 rfl rfl ?_
  refine go_icmpN C 10 d6_7 rfl (tlt ((by decide) : (20 : Int32) < (24 : Int32))).2.1 ?_
  refine go_aloadN C 11 d6_10 rfl rfl rfl ?_
  refine go_iloadN C 12 d6_11 rfl rfl ?_
  have fx100 := (fx95.other W97 hbt)
  refine go_caload C 13 (v := (.int c20)) d6_12 rfl fx100 (by decide) rfl ?_
  refine go_istore C 15 (Ls' := #[.val (.ref b), .val (.int 20), .val (.ref t), .val (.int 20), .val (.int 24), .val (.int 20), .val (.int c20)]) d6_13 rfl rfl ?_
  refine go_iload C 17 d6_15 rfl rfl ?_
  refine go_sipush C 20 (255 : Int32) d6_17 rfl (by decide) ?_
  refine go_icmpY C (pc' := 26) d6_20 (flt (l20 : ¬ ((255 : Int32) < c20))).2.2.2 (by decide) (by decide) ?_
  refine go_aloadN C 27 d6_26 rfl rfl rfl ?_
  refine go_iloadN C 28 d6_27 rfl rfl ?_
  refine go_iload C 30 d6_28 rfl rfl ?_
  refine go_i2b C 31 (lo8 c20) d6_30 rfl rfl ?_
  refine go_bastore C 32 20 (v := (lo8 c20)) (nar_lo8 _) d6_31 rfl fx99 (by decide) rfl (nble rfl) (mi 0 rfl) ?_
  intro h101 W102 fx103
  have fx104 : Arv Z h101 t kB .byte (24 : Int32) [(.int (lo8 c0)), (.int (lo8 c1)), (.int (lo8 c2)), (.int (lo8 c3)), (.int (lo8 c4)), (.int (lo8 c5)), (.int (lo8 c6)), (.int (lo8 c7)), (.int (lo8 c8)), (.int (lo8 c9)), (.int (lo8 c10)), (.int (lo8 c11)), (.int (lo8 c12)), (.int (lo8 c13)), (.int (lo8 c14)), (.int (lo8 c15)), (.int (lo8 c16)), (.int (lo8 c17)), (.int (lo8 c18)), (.int (lo8 c19)), (.int (lo8 c20)), (.int 0), (.int 0), (.int 0)] (.int 0) := fx103
  refine go_iinc C 35 (Ls' := #[.val (.ref b), .val (.int 21), .val (.ref t), .val (.int 20), .val (.int 24), .val (.int 20), .val (.int c20)]) (1 : Int32) d6_32 rfl (by decide) rfl rfl ?_
  refine go_iinc C 38 (Ls' := #[.val (.ref b), .val (.int 21), .val (.ref t), .val (.int 21), .val (.int 24), .val (.int 20), .val (.int c20)]) (1 : Int32) d6_35 rfl (by decide) rfl rfl ?_
  refine go_iinc C 41 (Ls' := #[.val (.ref b), .val (.int 21), .val (.ref t), .val (.int 21), .val (.int 24), .val (.int 21), .val (.int c20)]) (1 : Int32) d6_38 rfl (by decide) rfl rfl ?_
  refine go_goto C (pc' := 3) d6_41 (by decide) (by decide) ?_
  refine go_iload C 5 d6_3 rfl rfl ?_
  refine go_iload C 7 d6_5 rfl rfl ?_
  refine go_icmpN C 10 d6_7 rfl (tlt ((by decide) : (21 : Int32) < (24 : Int32))).2.1 ?_
  refine go_aloadN C 11 d6_10 rfl rfl rfl ?_
  refine go_iloadN C 12 d6_11 rfl rfl ?_
  have fx105 := (fx100.other W102 hbt)
  refine go_caload C 13 (v := (.int c21)) d6_12 rfl fx105 (by decide) rfl ?_
  refine go_istore C 15 (Ls' := #[.val (.ref b), .val (.int 21), .val (.ref t), .val (.int 21), .val (.int 24), .val (.int 21), .val (.int c21)]) d6_13 rfl rfl ?_
  refine go_iload C 17 d6_15 rfl rfl ?_
  refine go_sipush C 20 (255 : Int32) d6_17 rfl (by decide) ?_
  refine go_icmpY C (pc' := 26) d6_20 (flt (l21 : ¬ ((255 : Int32) < c21))).2.2.2 (by decide) (by decide) ?_
  refine go_aloadN C 27 d6_26 rfl rfl rfl ?_
  refine go_iloadN C 28 d6_27 rfl rfl ?_
  refine go_iload C 30 d6_28 rfl rfl ?_
  refine go_i2b C 31 (lo8 c21) d6_30 rfl rfl ?_
  refine go_bastore C 32 21 (v := (lo8 c21)) (nar_lo8 _) d6_31 rfl fx104 (by decide) rfl (nble rfl) (mi 0 rfl) ?_
  intro h106 W107 fx108
  have fx109 : Arv Z h106 t kB .byte (24 : Int32) [(.int (lo8 c0)), (.int (lo8 c1)), (.int (lo8 c2)), (.int (lo8 c3)), (.int (lo8 c4)), (.int (lo8 c5)), (.int (lo8 c6)), (.int (lo8 c7)), (.int (lo8 c8)), (.int (lo8 c9)), (.int (lo8 c10)), (.int (lo8 c11)), (.int (lo8 c12)), (.int (lo8 c13)), (.int (lo8 c14)), (.int (lo8 c15)), (.int (lo8 c16)), (.int (lo8 c17)), (.int (lo8 c18)), (.int (lo8 c19)), (.int (lo8 c20)), (.int (lo8 c21)), (.int 0), (.int 0)] (.int 0) := fx108
  refine go_iinc C 35 (Ls' := #[.val (.ref b), .val (.int 22), .val (.ref t), .val (.int 21), .val (.int 24), .val (.int 21), .val (.int c21)]) (1 : Int32) d6_32 rfl (by decide) rfl rfl ?_
  refine go_iinc C 38 (Ls' := #[.val (.ref b), .val (.int 22), .val (.ref t), .val (.int 22), .val (.int 24), .val (.int 21), .val (.int c21)]) (1 : Int32) d6_35 rfl (by decide) rfl rfl ?_
  refine go_iinc C 41 (Ls' := #[.val (.ref b), .val (.int 22), .val (.ref t), .val (.int 22), .val (.int 24), .val (.int 22), .val (.int c21)]) (1 : Int32) d6_38 rfl (by decide) rfl rfl ?_
  refine go_goto C (pc' := 3) d6_41 (by decide) (by decide) ?_
  refine go_iload C 5 d6_3 rfl rfl ?_
  refine go_iload C 7 d6_5 rfl rfl ?_
  refine go_icmpN C 10 d6_7 rfl (tlt ((by decide) : (22 : Int32) < (24 : Int32))).2.1 ?_
  refine go_aloadN C 11 d6_10 rfl rfl rfl ?_
  refine go_iloadN C 12 d6_11 rfl rfl ?_
  have fx110 := (fx105.other W107 hbt)
  refine go_caload C 13 (v := (.int c22)) d6_12 rfl fx110 (by decide) rfl ?_
  refine go_istore C 15 (Ls' := #[.val (.ref b), .val (.int 22), .val (.ref t), .val (.int 22), .val (.int 24), .val (.int 22), .val (.int c22)]) d6_13 rfl rfl ?_
  refine go_iload C 17 d6_15 rfl rfl ?_
  refine go_sipush C 20 (255 : Int32) d6_17 rfl (by decide) ?_
  refine go_icmpY C (pc' := 26) d6_20 (flt (l22 : ¬ ((255 : Int32) < c22))).2.2.2 (by decide) (by decide) ?_
  refine go_aloadN C 27 d6_26 rfl rfl rfl ?_
  refine go_iloadN C 28 d6_27 rfl rfl ?_
  refine go_iload C 30 d6_28 rfl rfl ?_
  refine go_i2b C 31 (lo8 c22) d6_30 rfl rfl ?_
  refine go_bastore C 32 22 (v := (lo8 c22)) (nar_lo8 _) d6_31 rfl fx109 (by decide) rfl (nble rfl) (mi 0 rfl) ?_
  intro h111 W112 fx113
  have fx114 : Arv Z h111 t kB .byte (24 : Int32) [(.int (lo8 c0)), (.int (lo8 c1)), (.int (lo8 c2)), (.int (lo8 c3)), (.int (lo8 c4)), (.int (lo8 c5)), (.int (lo8 c6)), (.int (lo8 c7)), (.int (lo8 c8)), (.int (lo8 c9)), (.int (lo8 c10)), (.int (lo8 c11)), (.int (lo8 c12)), (.int (lo8 c13)), (.int (lo8 c14)), (.int (lo8 c15)), (.int (lo8 c16)), (.int (lo8 c17)), (.int (lo8 c18)), (.int (lo8 c19)), (.int (lo8 c20)), (.int (lo8 c21)), (.int (lo8 c22)), (.int 0)] (.int 0) := fx113
  refine go_iinc C 35 (Ls' := #[.val (.ref b), .val (.int 23), .val (.ref t), .val (.int 22), .val (.int 24), .val (.int 22), .val (.int c22)]) (1 : Int32) d6_32 rfl (by decide) rfl rfl ?_
  refine go_iinc C 38 (Ls' := #[.val (.ref b), .val (.int 23), .val (.ref t), .val (.int 23), .val (.int 24), .val (.int 22), .val (.int c22)]) (1 : Int32) d6_35 rfl (by decide) rfl rfl ?_
  refine go_iinc C 41 (Ls' := #[.val (.ref b), .val (.int 23), .val (.ref t), .val (.int 23), .val (.int 24), .val (.int 23), .val (.int c22)]) (1 : Int32) d6_38 rfl (by decide) rfl rfl ?_
  refine go_goto C (pc' := 3) d6_41 (by decide) (by decide) ?_
  refine go_iload C 5 d6_3 rfl rfl ?_
  refine go_iload C 7 d6_5 rfl rfl ?_
  refine go_icmpN C 10 d6_7 rfl (tlt ((by decide) : (23 : Int32) < (24 : Int32))).2.1 ?_
  refine go_aloadN C 11 d6_10 rfl rfl rfl ?_
  refine go_iloadN C 12 d6_11 rfl rfl ?_
  have fx115 := (fx110.other W112 hbt)
  refine go_caload C 13 (v := (.int c23)) d6_12 rfl fx115 (by decide) rfl ?_
  refine go_istore C 15 (Ls' := #[.val (.ref b), .val (.int 23), .val (.ref t), .val (.int 23), .val (.int 24), .val (.int 23), .val (.int c23)]) d6_13 rfl rfl ?_
  refine go_iload C 17 d6_15 rfl rfl ?_
  refine go_sipush C 20 (255 : Int32) d6_17 rfl (by decide) ?_
  refine go_icmpY C (pc' := 26) d6_20 (flt (l23 : ¬ ((255 : Int32) < c23))).2.2.2 (by decide) (by decide) ?_
  refine go_aloadN C 27 d6_26 rfl rfl rfl ?_
  refine go_iloadN C 28 d6_27 rfl rfl ?_
  refine go_iload C 30 d6_28 rfl rfl ?_
  refine go_i2b C 31 (lo8 c23) d6_30 rfl rfl ?_
  refine go_bastore C 32 23 (v := (lo8 c23)) (nar_lo8 _) d6_31 rfl fx114 (by decide) rfl (nble rfl) (mi 0 rfl) ?_
  intro h116 W117 fx118
  have fx119 : Arv Z h116 t kB .byte (24 : Int32) [(.int (lo8 c0)), (.int (lo8 c1)), (.int (lo8 c2)), (.int (lo8 c3)), (.int (lo8 c4)), (.int (lo8 c5)), (.int (lo8 c6)), (.int (lo8 c7)), (.int (lo8 c8)), (.int (lo8 c9)), (.int (lo8 c10)), (.int (lo8 c11)), (.int (lo8 c12)), (.int (lo8 c13)), (.int (lo8 c14)), (.int (lo8 c15)), (.int (lo8 c16)), (.int (lo8 c17)), (.int (lo8 c18)), (.int (lo8 c19)), (.int (lo8 c20)), (.int (lo8 c21)), (.int (lo8 c22)), (.int (lo8 c23))] (.int 0) := fx118
  refine go_iinc C 35 (Ls' := #[.val (.ref b), .val (.int 24), .val (.ref t), .val (.int 23), .val (.int 24), .val (.int 23), .val (.int c23)]) (1 : Int32) d6_32 rfl (by decide) rfl rfl ?_
  refine go_iinc C 38 (Ls' := #[.val (.ref b), .val (.int 24), .val (.ref t), .val (.int 24), .val (.int 24), .val (.int 23), .val (.int c23)]) (1 : Int32) d6_35 rfl (by decide) rfl rfl ?_
  refine go_iinc C 41 (Ls' := #[.val (.ref b), .val (.int 24), .val (.ref t), .val (.int 24), .val (.int 24), .val (.int 24), .val (.int c23)]) (1 : Int32) d6_38 rfl (by decide) rfl rfl ?_
  refine go_goto C (pc' := 3) d6_41 (by decide) (by decide) ?_
  refine go_iload C 5 d6_3 rfl rfl ?_
  refine go_iload C 7 d6_5 rfl rfl ?_
  refine go_icmpY C (pc' := 44) d6_7 (flt ((by decide) : ¬ ((24 : Int32) < (24 : Int32)))).2.1 (by decide) (by decide) ?_
  refine go_iload C 46 d6_44 rfl rfl ?_
  refine go_retI C d6_46 rfl (by decide) (by decide) ?_
  exact ⟨rfl, fx119⟩
theorem ct_cmpA24 (l : Launch) (Z : State) (a0 : Array Value) (hw : HW a0 Z) {cS : Int32} {m1 : Addr} {m2 : Addr} (am : Amb Z a0 cS m1 m2) {b : Addr} {kC : ClassId} {c0 : Int32} {c1 : Int32} {c2 : Int32} {c3 : Int32} {c4 : Int32} {c5 : Int32} {c6 : Int32} {c7 : Int32} {c8 : Int32} {c9 : Int32} {c10 : Int32} {c11 : Int32} {c12 : Int32} {c13 : Int32} {c14 : Int32} {c15 : Int32} {c16 : Int32} {c17 : Int32} {c18 : Int32} {c19 : Int32} {c20 : Int32} {c21 : Int32} {c22 : Int32} {c23 : Int32} {h0 : Heap} (p0 : Arv Z h0 b kC .char (24 : Int32) [(.int c0), (.int c1), (.int c2), (.int c3), (.int c4), (.int c5), (.int c6), (.int c7), (.int c8), (.int c9), (.int c10), (.int c11), (.int c12), (.int c13), (.int c14), (.int c15), (.int c16), (.int c17), (.int c18), (.int c19), (.int c20), (.int c21), (.int c22), (.int c23)] (.int 0)) (l0 : ¬ (255 : Int32) < c0) (l1 : ¬ (255 : Int32) < c1) (l2 : ¬ (255 : Int32) < c2) (l3 : ¬ (255 : Int32) < c3) (l4 : ¬ (255 : Int32) < c4) (l5 : ¬ (255 : Int32) < c5) (l6 : ¬ (255 : Int32) < c6) (l7 : ¬ (255 : Int32) < c7) (l8 : ¬ (255 : Int32) < c8) (l9 : ¬ (255 : Int32) < c9) (l10 : ¬ (255 : Int32) < c10) (l11 : ¬ (255 : Int32) < c11) (l12 : ¬ (255 : Int32) < c12) (l13 : ¬ (255 : Int32) < c13) (l14 : ¬ (255 : Int32) < c14) (l15 : ¬ (255 : Int32) < c15) (l16 : ¬ (255 : Int32) < c16) (l17 : ¬ (255 : Int32) < c17) (l18 : ¬ (255 : Int32) < c18) (l19 : ¬ (255 : Int32) < c19) (l20 : ¬ (255 : Int32) < c20) (l21 : ¬ (255 : Int32) < c21) (l22 : ¬ (255 : Int32) < c22) (l23 : ¬ (255 : Int32) < c23) :
    Py l Z (⟨"java/lang/StringUTF16", "compress", "([CII)[B"⟩ : MethodName) 2 35 1 24 #[(.ref b), (.int 0), (.int 24)] h0 [] (fun rv h' => ∃ (t : Addr) (kB : ClassId), rv = some (.ref t) ∧ Arv Z h' t kB .byte (24 : Int32) [(.int (lo8 c0)), (.int (lo8 c1)), (.int (lo8 c2)), (.int (lo8 c3)), (.int (lo8 c4)), (.int (lo8 c5)), (.int (lo8 c6)), (.int (lo8 c7)), (.int (lo8 c8)), (.int (lo8 c9)), (.int (lo8 c10)), (.int (lo8 c11)), (.int (lo8 c12)), (.int (lo8 c13)), (.int (lo8 c14)), (.int (lo8 c15)), (.int (lo8 c16)), (.int (lo8 c17)), (.int (lo8 c18)), (.int (lo8 c19)), (.int (lo8 c20)), (.int (lo8 c21)), (.int (lo8 c22)), (.int (lo8 c23))] (.int 0) ∧ (h0.size ≤ t)) := by
  refine Ct.py (by0 := jdk_52_method_16_code) (ml := 6) (rt := (some (.array .byte))) (rm := ({ frames := 1, cells := 1, slots := 24, locals := 18 } : Room)) ?_ (hq hw 25 rfl) (hq hw 24 rfl)
  refine Ct.mk (a0 := a0) (Ls := #[.val (.ref b), .val (.int 0), .val (.int 24), .unset, .unset, .unset]) (plainFor_of_name pn_java_lang_StringUTF16) (fun m => by first | (simp [entryFrame, mkF, argsToLocals, Value.category]; done) | rfl) ?_
  intro κ C
  show Go l _ Z _ _ _ κ [] h0 0 #[.val (.ref b), .val (.int 0), .val (.int 24), .unset, .unset, .unset] [] 0 0
  refine go_iloadN C 1 d5_0 rfl rfl ?_
  refine go_newP C 3 1 24 (ty := .byte) (cap := 24) d5_1 rfl rfl rfl rfl (hq hw 26 rfl) (by decide) (by decide) (by decide) (by decide) (by decide) ?_
  intro b1 h2 k3 g4 E5 V6
  have fx7 : Arv Z h2 b1 k3 .byte (24 : Int32) [(.int 0), (.int 0), (.int 0), (.int 0), (.int 0), (.int 0), (.int 0), (.int 0), (.int 0), (.int 0), (.int 0), (.int 0), (.int 0), (.int 0), (.int 0), (.int 0), (.int 0), (.int 0), (.int 0), (.int 0), (.int 0), (.int 0), (.int 0), (.int 0)] (.int 0) := V6
  refine go_astoreN C 4 (Ls' := #[.val (.ref b), .val (.int 0), .val (.int 24), .val (.ref b1), .unset, .unset]) d5_3 rfl rfl rfl ?_
  refine go_aloadN C 5 d5_4 rfl rfl rfl ?_
  refine go_iloadN C 6 d5_5 rfl rfl ?_
  refine go_aloadN C 7 d5_6 rfl rfl rfl ?_
  refine go_iconst C 8 (0 : Int32) d5_7 rfl (by decide) ?_
  refine go_iloadN C 9 d5_8 rfl rfl ?_
  have fx8 := (p0.ext E5)
  refine go_callS C (argsL := [(.ref b), (.int 0), (.ref b1), (.int 0), (.int 24)]) (W := 0) d5_9 (hq hw 27 rfl) (hq hw 28 rfl) (hq hw 24 rfl) (hq hw 29 rfl) (by decide) pd___CI_BII_I (ct_cmp24 l Z a0 hw am (b := b) (t := b1) (kC := kC) (kB := k3) (c0 := c0) (c1 := c1) (c2 := c2) (c3 := c3) (c4 := c4) (c5 := c5) (c6 := c6) (c7 := c7) (c8 := c8) (c9 := c9) (c10 := c10) (c11 := c11) (c12 := c12) (c13 := c13) (c14 := c14) (c15 := c15) (c16 := c16) (c17 := c17) (c18 := c18) (c19 := c19) (c20 := c20) (c21 := c21) (c22 := c22) (c23 := c23) fx8 fx7 l0 l1 l2 l3 l4 l5 l6 l7 l8 l9 l10 l11 l12 l13 l14 l15 l16 l17 l18 l19 l20 l21 l22 l23 (Nat.ne_of_lt (Nat.lt_of_lt_of_le (p0).lt (Nat.le_of_eq g4.symm)))) rfl (by decide) (Nat.le_of_eq rfl) (by decide) rfl (by decide) (by decide) (memsS (mi 0 rfl) mems0) ?_
  intro fv9 h10 K11 fq12
  obtain ⟨rfl, fx13⟩ := fq12
  refine ⟨[], fresh0, ?_⟩
  show Go l _ Z _ _ _ κ _ _ 12 _ [(.int 24)] 1 24
  refine go_istore C 14 (Ls' := #[.val (.ref b), .val (.int 0), .val (.int 24), .val (.ref b1), .val (.int 24), .unset]) d5_12 rfl rfl ?_
  refine go_iload C 16 d5_14 rfl rfl ?_
  refine go_iloadN C 17 d5_16 rfl rfl ?_
  refine go_icmpY C (pc' := 57) d5_17 (teq ((by decide) : (24 : Int32) = (24 : Int32))).1 (by decide) (by decide) ?_
  refine go_aloadN C 58 d5_57 rfl rfl rfl ?_
  refine go_retA C (v := (.ref b1)) d5_58 rfl rfl rfl (by decide) (by decide) ?_
  exact ⟨b1, k3, rfl, fx13, (Nat.le_of_eq g4.symm)⟩
theorem ct_coder24 (l : Launch) (Z : State) (a0 : Array Value) (hw : HW a0 Z) {cS : Int32} {m1 : Addr} {m2 : Addr} (am : Amb Z a0 cS m1 m2) {t : Addr} {kB : ClassId} {vs : List Value} {h0 : Heap} (p0 : Arv Z h0 t kB .byte (24 : Int32) vs (.int 0)) :
    Py l Z (⟨"java/lang/StringUTF16", "coderFromArrayLen", "([BI)B"⟩ : MethodName) 1 13 0 0 #[(.ref t), (.int 24)] h0 [] (fun rv h' => rv = some (.int 0) ∧ h' = h0) := by
  refine Ct.py (by0 := jdk_52_method_15_code) (ml := 2) (rt := (some .byte)) (rm := ({ frames := 0, cells := 0, slots := 0, locals := 0 } : Room)) ?_ (hq hw 32 rfl) (hq hw 24 rfl)
  refine Ct.mk (a0 := a0) (Ls := #[.val (.ref t), .val (.int 24)]) (plainFor_of_name pn_java_lang_StringUTF16) (fun m => by first | (simp [entryFrame, mkF, argsToLocals, Value.category]; done) | rfl) ?_
  intro κ C
  show Go l _ Z _ _ _ κ [] h0 0 #[.val (.ref t), .val (.int 24)] [] 0 0
  refine go_iloadN C 1 d7_0 rfl rfl ?_
  refine go_aloadN C 2 d7_1 rfl rfl rfl ?_
  refine go_arraylength C 3 d7_2 rfl p0 ?_
  refine go_isub C 4 (0 : Int32) d7_3 rfl (by decide) ?_
  refine go_bipush C 6 (31 : Int32) d7_4 rfl (by decide) ?_
  refine go_iushr C 7 (0 : Int32) d7_6 rfl (by decide) ?_
  refine go_i2b C 8 (0 : Int32) d7_7 rfl (by decide) ?_
  refine go_retN C (t := .byte) (z := (0 : Int32)) d7_8 rfl (by decide) (by decide) (by decide) (by decide) ?_
  exact ⟨rfl, rfl⟩
theorem ct_strV24 (l : Launch) (Z : State) (a0 : Array Value) (hw : HW a0 Z) {cS : Int32} {m1 : Addr} {m2 : Addr} (am : Amb Z a0 cS m1 m2) {a : Addr} {b : Addr} {kC : ClassId} {c0 : Int32} {c1 : Int32} {c2 : Int32} {c3 : Int32} {c4 : Int32} {c5 : Int32} {c6 : Int32} {c7 : Int32} {c8 : Int32} {c9 : Int32} {c10 : Int32} {c11 : Int32} {c12 : Int32} {c13 : Int32} {c14 : Int32} {c15 : Int32} {c16 : Int32} {c17 : Int32} {c18 : Int32} {c19 : Int32} {c20 : Int32} {c21 : Int32} {c22 : Int32} {c23 : Int32} {h0 : Heap} (p0 : Exa Z h0 a "java/lang/String") (p1 : Fld Z h0 a "java/lang/String" "value" "[B" .null) (p2 : Fld Z h0 a "java/lang/String" "coder" "B" (.int 0)) (p3 : Arv Z h0 b kC .char (24 : Int32) [(.int c0), (.int c1), (.int c2), (.int c3), (.int c4), (.int c5), (.int c6), (.int c7), (.int c8), (.int c9), (.int c10), (.int c11), (.int c12), (.int c13), (.int c14), (.int c15), (.int c16), (.int c17), (.int c18), (.int c19), (.int c20), (.int c21), (.int c22), (.int c23)] (.int 0)) (l0 : ¬ (255 : Int32) < c0) (l1 : ¬ (255 : Int32) < c1) (l2 : ¬ (255 : Int32) < c2) (l3 : ¬ (255 : Int32) < c3) (l4 : ¬ (255 : Int32) < c4) (l5 : ¬ (255 : Int32) < c5) (l6 : ¬ (255 : Int32) < c6) (l7 : ¬ (255 : Int32) < c7) (l8 : ¬ (255 : Int32) < c8) (l9 : ¬ (255 : Int32) < c9) (l10 : ¬ (255 : Int32) < c10) (l11 : ¬ (255 : Int32) < c11) (l12 : ¬ (255 : Int32) < c12) (l13 : ¬ (255 : Int32) < c13) (l14 : ¬ (255 : Int32) < c14) (l15 : ¬ (255 : Int32) < c15) (l16 : ¬ (255 : Int32) < c16) (l17 : ¬ (255 : Int32) < c17) (l18 : ¬ (255 : Int32) < c18) (l19 : ¬ (255 : Int32) < c19) (l20 : ¬ (255 : Int32) < c20) (l21 : ¬ (255 : Int32) < c21) (l22 : ¬ (255 : Int32) < c22) (l23 : ¬ (255 : Int32) < c23) :
    Py l Z (⟨"java/lang/String", "<init>", "([CIILjava/lang/Void;)V"⟩ : MethodName) 3 52 1 24 #[(.ref a), (.ref b), (.int 0), (.int 24), .null] h0 [a] (fun rv h' => ∃ (t : Addr) (kB : ClassId), rv = none ∧ Exa Z h' a "java/lang/String" ∧ Fld Z h' a "java/lang/String" "coder" "B" (.int 0) ∧ Fld Z h' a "java/lang/String" "value" "[B" (.ref t) ∧ Arv Z h' t kB .byte (24 : Int32) [(.int (lo8 c0)), (.int (lo8 c1)), (.int (lo8 c2)), (.int (lo8 c3)), (.int (lo8 c4)), (.int (lo8 c5)), (.int (lo8 c6)), (.int (lo8 c7)), (.int (lo8 c8)), (.int (lo8 c9)), (.int (lo8 c10)), (.int (lo8 c11)), (.int (lo8 c12)), (.int (lo8 c13)), (.int (lo8 c14)), (.int (lo8 c15)), (.int (lo8 c16)), (.int (lo8 c17)), (.int (lo8 c18)), (.int (lo8 c19)), (.int (lo8 c20)), (.int (lo8 c21)), (.int (lo8 c22)), (.int (lo8 c23))] (.int 0) ∧ (h0.size ≤ t)) := by
  refine Ct.py (by0 := jdk_42_method_149_code) (ml := 6) (rt := none) (rm := ({ frames := 2, cells := 1, slots := 24, locals := 35 } : Room)) ?_ (hq hw 17 rfl) (hq hw 5 rfl)
  refine Ct.mk (a0 := a0) (Ls := #[.val (.ref a), .val (.ref b), .val (.int 0), .val (.int 24), .val .null, .unset]) (plainFor_of_name pn_java_lang_String) (fun m => by first | (simp [entryFrame, mkF, argsToLocals, Value.category]; done) | rfl) ?_
  intro κ C
  show Go l _ Z _ _ _ κ [a] h0 0 #[.val (.ref a), .val (.ref b), .val (.int 0), .val (.int 24), .val .null, .unset] [] 0 0
  refine go_aloadN C 1 d3_0 rfl rfl rfl ?_
  refine go_initO C 4 (W := 0) d3_1 rfl (hq hw 18 rfl) (hq hw 19 rfl) (hq hw 20 rfl) rfl (by decide) (Nat.le_of_eq rfl) (by decide) ?_
  refine go_iloadN C 5 d3_4 rfl rfl ?_
  refine go_ifY C (pc' := 27) d3_5 (feq ((by decide) : ¬ ((24 : Int32) = (0 : Int32)))).2 (by decide) (by decide) ?_
  refine go_getS C 30 d3_27 rfl (hq hw 21 rfl) am.2.1 ?_
  refine go_ifN C 33 d3_30 rfl (feq (am.2.2.1 : ¬ (cS = (0 : Int32)))).1 ?_
  refine go_aloadN C 34 d3_33 rfl rfl rfl ?_
  refine go_iloadN C 35 d3_34 rfl rfl ?_
  refine go_iloadN C 36 d3_35 rfl rfl ?_
  refine go_callS C (argsL := [(.ref b), (.int 0), (.int 24)]) (W := 0) d3_36 (hq hw 22 rfl) (hq hw 23 rfl) (hq hw 24 rfl) (hq hw 25 rfl) (by decide) pd___CII__B (ct_cmpA24 l Z a0 hw am (b := b) (kC := kC) (c0 := c0) (c1 := c1) (c2 := c2) (c3 := c3) (c4 := c4) (c5 := c5) (c6 := c6) (c7 := c7) (c8 := c8) (c9 := c9) (c10 := c10) (c11 := c11) (c12 := c12) (c13 := c13) (c14 := c14) (c15 := c15) (c16 := c16) (c17 := c17) (c18 := c18) (c19 := c19) (c20 := c20) (c21 := c21) (c22 := c22) (c23 := c23) p3 l0 l1 l2 l3 l4 l5 l6 l7 l8 l9 l10 l11 l12 l13 l14 l15 l16 l17 l18 l19 l20 l21 l22 l23) rfl (by decide) (Nat.le_of_eq rfl) (by decide) rfl (by decide) (by decide) mems0 ?_
  intro fv1 h2 K3 fq4
  obtain ⟨t5, kB6, rfl, fx7, fx8⟩ := fq4
  refine ⟨[t5], (freshS ⟨fx8, (fx7).lt⟩ fresh0), ?_⟩
  show Go l _ Z _ _ _ κ [t5, a] _ 39 _ [(.ref t5)] 1 24
  refine go_astore C 41 (Ls' := #[.val (.ref a), .val (.ref b), .val (.int 0), .val (.int 24), .val .null, .val (.ref t5)]) d3_39 rfl rfl rfl ?_
  refine go_aloadN C 42 d3_41 rfl rfl rfl ?_
  refine go_aload C 44 d3_42 rfl rfl rfl ?_
  refine go_iloadN C 45 d3_44 rfl rfl ?_
  refine go_callS C (argsL := [(.ref t5), (.int 24)]) (W := 1) d3_45 (hq hw 30 rfl) (hq hw 31 rfl) (hq hw 24 rfl) (hq hw 32 rfl) (by decide) pd___BI_B (ct_coder24 l Z a0 hw am (t := t5) (kB := kB6) (vs := [(.int (lo8 c0)), (.int (lo8 c1)), (.int (lo8 c2)), (.int (lo8 c3)), (.int (lo8 c4)), (.int (lo8 c5)), (.int (lo8 c6)), (.int (lo8 c7)), (.int (lo8 c8)), (.int (lo8 c9)), (.int (lo8 c10)), (.int (lo8 c11)), (.int (lo8 c12)), (.int (lo8 c13)), (.int (lo8 c14)), (.int (lo8 c15)), (.int (lo8 c16)), (.int (lo8 c17)), (.int (lo8 c18)), (.int (lo8 c19)), (.int (lo8 c20)), (.int (lo8 c21)), (.int (lo8 c22)), (.int (lo8 c23))]) fx7) rfl (by decide) (Nat.le_of_eq rfl) (by decide) rfl (by decide) (by decide) mems0 ?_
  intro fv9 h10 K11 fq12
  obtain ⟨rfl, rfl⟩ := fq12
  refine ⟨[], fresh0, ?_⟩
  show Go l _ Z _ _ _ κ _ _ 48 _ [(.int 0), (.ref a)] 1 24
  have fx13 := (p2.keep K3 nin0)
  have fx14 := (p0.keep K3)
  refine go_putFN C 51 (ty := .byte) (v' := .int 0) d3_48 rfl (hq hw 33 rfl) Via.refl fx13 fx14 (Or.inr ⟨(hq hw 34 rfl), rfl, rfl⟩) (hq hw 4 rfl) (by decide) rfl (by decide) (mi 1 rfl) ?_
  intro h15 W16
  have fx17 : Fld Z h15 a "java/lang/String" "coder" "B" (.int 0) := Fld.same W16 fx13
  refine go_aloadN C 52 d3_51 rfl rfl rfl ?_
  refine go_aload C 54 d3_52 rfl rfl rfl ?_
  have fx18 := (Fld.other W16 (p1.keep K3 nin0) (Or.inr (slot_ne (Or.inr (hq hw 36 rfl)) (Or.inr (hq hw 34 rfl)) (by decide) (t := (.array .byte)) (t' := .byte) (by decide) (by decide))))
  have fx19 := (Exa.wr W16 fx14)
  refine go_putF C 57 (ty := (.array .byte)) d3_54 rfl (hq hw 35 rfl) Via.refl fx18 fx19 (Or.inr ⟨(hq hw 36 rfl), rfl, rfl⟩) (hq hw 4 rfl) (by decide) rfl rfl (mi 1 rfl) ?_
  intro h20 W21
  have fx22 : Fld Z h20 a "java/lang/String" "value" "[B" (.ref t5) := Fld.same W21 fx18
  refine go_ret C d3_57 rfl (by decide) (by decide) ?_
  have fx23 := (Exa.wr W21 fx19)
  have fx24 := (Fld.other W21 fx17 (Or.inr (slot_ne (Or.inr (hq hw 34 rfl)) (Or.inr (hq hw 36 rfl)) (by decide) (t := .byte) (t' := (.array .byte)) (by decide) (by decide))))
  have fx25 := ((fx7.other W16 (Ne.symm (Nat.ne_of_lt (Nat.lt_of_lt_of_le (p0).lt fx8)))).other W21 (Ne.symm (Nat.ne_of_lt (Nat.lt_of_lt_of_le (p0).lt fx8))))
  exact ⟨t5, kB6, rfl, fx23, fx24, fx22, fx25, fx8⟩
theorem ct_str24 (l : Launch) (Z : State) (a0 : Array Value) (hw : HW a0 Z) {cS : Int32} {m1 : Addr} {m2 : Addr} (am : Amb Z a0 cS m1 m2) {a : Addr} {b : Addr} {kC : ClassId} {c0 : Int32} {c1 : Int32} {c2 : Int32} {c3 : Int32} {c4 : Int32} {c5 : Int32} {c6 : Int32} {c7 : Int32} {c8 : Int32} {c9 : Int32} {c10 : Int32} {c11 : Int32} {c12 : Int32} {c13 : Int32} {c14 : Int32} {c15 : Int32} {c16 : Int32} {c17 : Int32} {c18 : Int32} {c19 : Int32} {c20 : Int32} {c21 : Int32} {c22 : Int32} {c23 : Int32} {h0 : Heap} (p0 : Exa Z h0 a "java/lang/String") (p1 : Fld Z h0 a "java/lang/String" "value" "[B" .null) (p2 : Fld Z h0 a "java/lang/String" "coder" "B" (.int 0)) (p3 : Arv Z h0 b kC .char (24 : Int32) [(.int c0), (.int c1), (.int c2), (.int c3), (.int c4), (.int c5), (.int c6), (.int c7), (.int c8), (.int c9), (.int c10), (.int c11), (.int c12), (.int c13), (.int c14), (.int c15), (.int c16), (.int c17), (.int c18), (.int c19), (.int c20), (.int c21), (.int c22), (.int c23)] (.int 0)) (l0 : ¬ (255 : Int32) < c0) (l1 : ¬ (255 : Int32) < c1) (l2 : ¬ (255 : Int32) < c2) (l3 : ¬ (255 : Int32) < c3) (l4 : ¬ (255 : Int32) < c4) (l5 : ¬ (255 : Int32) < c5) (l6 : ¬ (255 : Int32) < c6) (l7 : ¬ (255 : Int32) < c7) (l8 : ¬ (255 : Int32) < c8) (l9 : ¬ (255 : Int32) < c9) (l10 : ¬ (255 : Int32) < c10) (l11 : ¬ (255 : Int32) < c11) (l12 : ¬ (255 : Int32) < c12) (l13 : ¬ (255 : Int32) < c13) (l14 : ¬ (255 : Int32) < c14) (l15 : ¬ (255 : Int32) < c15) (l16 : ¬ (255 : Int32) < c16) (l17 : ¬ (255 : Int32) < c17) (l18 : ¬ (255 : Int32) < c18) (l19 : ¬ (255 : Int32) < c19) (l20 : ¬ (255 : Int32) < c20) (l21 : ¬ (255 : Int32) < c21) (l22 : ¬ (255 : Int32) < c22) (l23 : ¬ (255 : Int32) < c23) :
    Py l Z (⟨"java/lang/String", "<init>", "([C)V"⟩ : MethodName) 4 65 1 24 #[(.ref a), (.ref b)] h0 [a] (fun rv h' => ∃ (t : Addr) (kB : ClassId), rv = none ∧ Exa Z h' a "java/lang/String" ∧ Fld Z h' a "java/lang/String" "coder" "B" (.int 0) ∧ Fld Z h' a "java/lang/String" "value" "[B" (.ref t) ∧ Arv Z h' t kB .byte (24 : Int32) [(.int (lo8 c0)), (.int (lo8 c1)), (.int (lo8 c2)), (.int (lo8 c3)), (.int (lo8 c4)), (.int (lo8 c5)), (.int (lo8 c6)), (.int (lo8 c7)), (.int (lo8 c8)), (.int (lo8 c9)), (.int (lo8 c10)), (.int (lo8 c11)), (.int (lo8 c12)), (.int (lo8 c13)), (.int (lo8 c14)), (.int (lo8 c15)), (.int (lo8 c16)), (.int (lo8 c17)), (.int (lo8 c18)), (.int (lo8 c19)), (.int (lo8 c20)), (.int (lo8 c21)), (.int (lo8 c22)), (.int (lo8 c23))] (.int 0) ∧ (h0.size ≤ t)) := by
  refine Ct.py (by0 := jdk_42_method_3_code) (ml := 2) (rt := none) (rm := ({ frames := 3, cells := 1, slots := 24, locals := 52 } : Room)) ?_ (hq hw 13 rfl) (hq hw 5 rfl)
  refine Ct.mk (a0 := a0) (Ls := #[.val (.ref a), .val (.ref b)]) (plainFor_of_name pn_java_lang_String) (fun m => by first | (simp [entryFrame, mkF, argsToLocals, Value.category]; done) | rfl) ?_
  intro κ C
  show Go l _ Z _ _ _ κ [a] h0 0 #[.val (.ref a), .val (.ref b)] [] 0 0
  refine go_aloadN C 1 d2_0 rfl rfl rfl ?_
  refine go_aloadN C 2 d2_1 rfl rfl rfl ?_
  refine go_iconst C 3 (0 : Int32) d2_2 rfl (by decide) ?_
  refine go_aloadN C 4 d2_3 rfl rfl rfl ?_
  refine go_arraylength C 5 d2_4 rfl p3 ?_
  refine go_aconstNull C 6 d2_5 rfl ?_
  refine go_callI C (a := a) (argsL := [(.ref b), (.int 0), (.int 24), .null]) (W := 0) d2_6 rfl (hq hw 14 rfl) (hq hw 15 rfl) (hq hw 17 rfl) (by decide) pd___CIILjava_lang_Void__V (ct_strV24 l Z a0 hw am (a := a) (b := b) (kC := kC) (c0 := c0) (c1 := c1) (c2 := c2) (c3 := c3) (c4 := c4) (c5 := c5) (c6 := c6) (c7 := c7) (c8 := c8) (c9 := c9) (c10 := c10) (c11 := c11) (c12 := c12) (c13 := c13) (c14 := c14) (c15 := c15) (c16 := c16) (c17 := c17) (c18 := c18) (c19 := c19) (c20 := c20) (c21 := c21) (c22 := c22) (c23 := c23) p0 p1 p2 p3 l0 l1 l2 l3 l4 l5 l6 l7 l8 l9 l10 l11 l12 l13 l14 l15 l16 l17 l18 l19 l20 l21 l22 l23) rfl (by decide) (Nat.le_of_eq rfl) (by decide) rfl (by decide) (by decide) (memsS (mi 0 rfl) mems0) ?_
  intro fv1 h2 K3 fq4
  obtain ⟨t5, kB6, rfl, fx7, fx8, fx9, fx10, fx11⟩ := fq4
  refine ⟨[t5], (freshS ⟨fx11, (fx10).lt⟩ fresh0), ?_⟩
  show Go l _ Z _ _ _ κ [t5, a] _ 9 _ [] 1 24
  refine go_ret C d2_9 rfl (by decide) (by decide) ?_
  exact ⟨t5, kB6, rfl, fx7, fx8, fx9, fx10, fx11⟩
theorem ct_strV0 (l : Launch) (Z : State) (a0 : Array Value) (hw : HW a0 Z) {cS : Int32} {m1 : Addr} {m2 : Addr} (am : Amb Z a0 cS m1 m2) {a : Addr} {b : Addr} {kC : ClassId} {h0 : Heap} (p0 : Exa Z h0 a "java/lang/String") (p1 : Fld Z h0 a "java/lang/String" "value" "[B" .null) (p2 : Fld Z h0 a "java/lang/String" "coder" "B" (.int 0)) (p3 : Arv Z h0 b kC .char (0 : Int32) [] (.int 0)) :
    PyW l Z consts_1 a0 (⟨"java/lang/String", "<init>", "([CIILjava/lang/Void;)V"⟩ : MethodName) 2 29 4 8 #[(.ref a), (.ref b), (.int 0), (.int 0), .null] h0 [a] (fun rv h' => ∃ (t : Addr) (kB : ClassId), rv = none ∧ Exa Z h' a "java/lang/String" ∧ Fld Z h' a "java/lang/String" "coder" "B" (.int 0) ∧ Fld Z h' a "java/lang/String" "value" "[B" (.ref t) ∧ Arv Z h' t kB .byte (0 : Int32) [] (.int 0)) := by
  have hEL := am.1
  refine CtW.py (by0 := jdk_42_method_149_code) (ml := 6) (rt := none) (rm := ({ frames := 1, cells := 4, slots := 8, locals := 12 } : Room)) ?_ (hq hw 17 rfl) (hq hw 5 rfl)
  refine CtW.mk (a0 := a0) (Ls := #[.val (.ref a), .val (.ref b), .val (.int 0), .val (.int 0), .val .null, .unset]) (plainFor_of_name pn_java_lang_String) (fun m => by first | (simp [entryFrame, mkF, argsToLocals, Value.category]; done) | rfl) ?_
  intro κ C
  show GoW l _ Z _ _ _ _ _ κ [a] h0 0 #[.val (.ref a), .val (.ref b), .val (.int 0), .val (.int 0), .val .null, .unset] [] 0 0
  refine gw_aloadN C 1 d3_0 rfl rfl rfl ?_
  refine gw_initO C 4 (W := 0) d3_1 rfl (hq hw 18 rfl) (hq hw 19 rfl) (hq hw 20 rfl) rfl (by decide) (Nat.le_of_eq rfl) (by decide) ?_
  refine gw_iloadN C 5 d3_4 rfl rfl ?_
  refine gw_ifN C 8 d3_5 rfl (teq ((by decide) : (0 : Int32) = (0 : Int32))).2 ?_
  refine gw_aloadN C 9 d3_8 rfl rfl rfl ?_
  refine gw_ldcS C hEL 11 2 4 (n := 0) (vs := []) (zn := (0 : Int32)) d3_9 rfl rfl rfl (hq hw 60 rfl) (wS hw) (List.mem_of_getElem? (i := 3) rfl) (by decide) (by decide) rfl (by decide) (by decide) (by decide) (by decide) ?_
  intro sa1 sb2 k3 h4 E5 fx6 fx7 fx8 fx9 fn10
  have fe11 : a ≠ sa1 := (fn10 _ (List.mem_of_getElem? (i := 0) rfl)).1
  have fe12 : a ≠ sb2 := (fn10 _ (List.mem_of_getElem? (i := 0) rfl)).2
  refine gw_getF C 14 d3_11 rfl (hq hw 35 rfl) Via.refl fx8 ?_
  have fx13 := (Fld.ext E5 p1)
  have fx14 := (Exa.ext E5 p0)
  refine gw_putF C 17 (ty := (.array .byte)) d3_14 rfl (hq hw 35 rfl) Via.refl fx13 fx14 (Or.inr ⟨(hq hw 36 rfl), rfl, rfl⟩) (hq hw 4 rfl) (by decide) rfl rfl (mi 0 rfl) ?_
  intro h15 W16
  have fx17 : Fld Z h15 a "java/lang/String" "value" "[B" (.ref sb2) := Fld.same W16 fx13
  refine gw_aloadN C 18 d3_17 rfl rfl rfl ?_
  refine gw_ldcS C hEL 20 4 8 (n := 0) (vs := []) (zn := (0 : Int32)) d3_18 rfl rfl rfl (hq hw 60 rfl) (wS hw) (List.mem_of_getElem? (i := 3) rfl) (by decide) (by decide) rfl (by decide) (by decide) (by decide) (by decide) ?_
  intro sa18 sb19 k20 h21 E22 fx23 fx24 fx25 fx26 fn27
  have fe28 : a ≠ sa18 := (fn27 _ (List.mem_of_getElem? (i := 0) rfl)).1
  have fe29 : a ≠ sb19 := (fn27 _ (List.mem_of_getElem? (i := 0) rfl)).2
  refine gw_getF C 23 d3_20 rfl (hq hw 33 rfl) Via.refl fx24 ?_
  have fx30 := (Fld.ext E22 (Fld.other W16 (Fld.ext E5 p2) (Or.inr (slot_ne (Or.inr (hq hw 34 rfl)) (Or.inr (hq hw 36 rfl)) (by decide) (t := .byte) (t' := (.array .byte)) (by decide) (by decide)))))
  have fx31 := (Exa.ext E22 (Exa.wr W16 fx14))
  refine gw_putFN C 26 (ty := .byte) (v' := .int 0) d3_23 rfl (hq hw 33 rfl) Via.refl fx30 fx31 (Or.inr ⟨(hq hw 34 rfl), rfl, rfl⟩) (hq hw 4 rfl) (by decide) rfl (by decide) (mi 0 rfl) ?_
  intro h32 W33
  have fx34 : Fld Z h32 a "java/lang/String" "coder" "B" (.int 0) := Fld.same W33 fx30
  refine gw_ret C hEL d3_26 rfl (by decide) (by decide) ?_
  have fx35 := (Exa.wr W33 fx31)
  have fx36 := (Fld.other W33 (Fld.ext E22 fx17) (Or.inr (slot_ne (Or.inr (hq hw 36 rfl)) (Or.inr (hq hw 34 rfl)) (by decide) (t := (.array .byte)) (t' := .byte) (by decide) (by decide))))
  have fx37 := (((fx9.other W16 (Ne.symm fe12)).ext E22).other W33 (Ne.symm fe12))
  exact ⟨sb2, k3, rfl, fx35, fx34, fx36, fx37⟩
theorem ct_str0 (l : Launch) (Z : State) (a0 : Array Value) (hw : HW a0 Z) {cS : Int32} {m1 : Addr} {m2 : Addr} (am : Amb Z a0 cS m1 m2) {a : Addr} {b : Addr} {kC : ClassId} {h0 : Heap} (p0 : Exa Z h0 a "java/lang/String") (p1 : Fld Z h0 a "java/lang/String" "value" "[B" .null) (p2 : Fld Z h0 a "java/lang/String" "coder" "B" (.int 0)) (p3 : Arv Z h0 b kC .char (0 : Int32) [] (.int 0)) :
    PyW l Z consts_1 a0 (⟨"java/lang/String", "<init>", "([C)V"⟩ : MethodName) 3 42 4 8 #[(.ref a), (.ref b)] h0 [a] (fun rv h' => ∃ (t : Addr) (kB : ClassId), rv = none ∧ Exa Z h' a "java/lang/String" ∧ Fld Z h' a "java/lang/String" "coder" "B" (.int 0) ∧ Fld Z h' a "java/lang/String" "value" "[B" (.ref t) ∧ Arv Z h' t kB .byte (0 : Int32) [] (.int 0)) := by
  have hEL := am.1
  refine CtW.py (by0 := jdk_42_method_3_code) (ml := 2) (rt := none) (rm := ({ frames := 2, cells := 4, slots := 8, locals := 29 } : Room)) ?_ (hq hw 13 rfl) (hq hw 5 rfl)
  refine CtW.mk (a0 := a0) (Ls := #[.val (.ref a), .val (.ref b)]) (plainFor_of_name pn_java_lang_String) (fun m => by first | (simp [entryFrame, mkF, argsToLocals, Value.category]; done) | rfl) ?_
  intro κ C
  show GoW l _ Z _ _ _ _ _ κ [a] h0 0 #[.val (.ref a), .val (.ref b)] [] 0 0
  refine gw_aloadN C 1 d2_0 rfl rfl rfl ?_
  refine gw_aloadN C 2 d2_1 rfl rfl rfl ?_
  refine gw_iconst C 3 (0 : Int32) d2_2 rfl (by decide) ?_
  refine gw_aloadN C 4 d2_3 rfl rfl rfl ?_
  refine gw_arraylength C 5 d2_4 rfl p3 ?_
  refine gw_aconstNull C 6 d2_5 rfl ?_
  refine gw_callIW C hEL (a := a) (argsL := [(.ref b), (.int 0), (.int 0), .null]) (W := 0) d2_6 rfl (hq hw 14 rfl) (hq hw 15 rfl) (hq hw 17 rfl) (by decide) pd___CIILjava_lang_Void__V (ct_strV0 l Z a0 hw am (a := a) (b := b) (kC := kC) p0 p1 p2 p3) rfl (by decide) (Nat.le_of_eq rfl) (by decide) rfl (by decide) (by decide) (memsS (mi 0 rfl) mems0) ?_
  intro fv1 h2 K3 fq4
  obtain ⟨t5, kB6, rfl, fx7, fx8, fx9, fx10⟩ := fq4
  show GoW l _ Z _ _ _ _ _ κ _ _ 9 _ [] 4 8
  refine gw_ret C hEL d2_9 rfl (by decide) (by decide) ?_
  exact ⟨t5, kB6, rfl, fx7, fx8, fx9, fx10⟩
theorem ct_qop (l : Launch) (Z : State) (a0 : Array Value) (hw : HW a0 Z) {cS : Int32} {m1 : Addr} {m2 : Addr} (am : Amb Z a0 cS m1 m2) {h0 : Heap} :
    Py l Z (⟨"com/example/holdfast/holdfast/sasl/MechanismNegotiatedPropertyPinLaw", "qop", "()[C"⟩ : MethodName) 1 11 1 23 #[] h0 [] (fun rv h' => ∃ (t : Addr) (kC : ClassId), rv = some (.ref t) ∧ Arv Z h' t kC .char (23 : Int32) [(.int 106), (.int 97), (.int 118), (.int 97), (.int 120), (.int 46), (.int 115), (.int 101), (.int 99), (.int 117), (.int 114), (.int 105), (.int 116), (.int 121), (.int 46), (.int 115), (.int 97), (.int 115), (.int 108), (.int 46), (.int 113), (.int 111), (.int 112)] (.int 0) ∧ (h0.size ≤ t)) := by
  refine Ct.py (by0 := method_2_code) (ml := 0) (rt := (some (.array .char))) (rm := ({ frames := 0, cells := 1, slots := 23, locals := 0 } : Room)) ?_ (hq hw 9 rfl) (hq hw 8 rfl)
  refine Ct.mk (a0 := a0) (Ls := #[]) (plainFor_of_name pn_com_example_holdfast_holdfast_sasl_MechanismNegotiatedPropertyPinLaw) (fun m => by first | (simp [entryFrame, mkF, argsToLocals, Value.category]; done) | rfl) ?_
  intro κ C
  show Go l _ Z _ _ _ κ [] h0 0 #[] [] 0 0
  refine go_bipush C 2 (23 : Int32) d1_0 rfl (by decide) ?_
  refine go_newP C 4 1 23 (ty := .char) (cap := 23) d1_2 rfl rfl rfl rfl (hq hw 10 rfl) (by decide) (by decide) (by decide) (by decide) (by decide) ?_
  intro b1 h2 k3 g4 E5 V6
  have fx7 : Arv Z h2 b1 k3 .char (23 : Int32) [(.int 0), (.int 0), (.int 0), (.int 0), (.int 0), (.int 0), (.int 0), (.int 0), (.int 0), (.int 0), (.int 0), (.int 0), (.int 0), (.int 0), (.int 0), (.int 0), (.int 0), (.int 0), (.int 0), (.int 0), (.int 0), (.int 0), (.int 0)] (.int 0) := V6
  refine go_dup C 5 d1_4 rfl rfl ?_
  refine go_iconst C 6 (0 : Int32) d1_5 rfl (by decide) ?_
  refine go_bipush C 8 (106 : Int32) d1_6 rfl (by decide) ?_
  refine go_castore C 9 0 (v := (106 : Int32)) (by decide) d1_8 rfl fx7 (by decide) rfl (nble rfl) (mi 0 rfl) ?_
  intro h8 W9 fx10
  have fx11 : Arv Z h8 b1 k3 .char (23 : Int32) [(.int 106), (.int 0), (.int 0), (.int 0), (.int 0), (.int 0), (.int 0), (.int 0), (.int 0), (.int 0), (.int 0), (.int 0), (.int 0), (.int 0), (.int 0), (.int 0), (.int 0), (.int 0), (.int 0), (.int 0), (.int 0), (.int 0), (.int 0)] (.int 0) := fx10
  refine go_dup C 10 d1_9 rfl rfl ?_
  refine go_iconst C 11 (1 : Int32) d1_10 rfl (by decide) ?_
  refine go_bipush C 13 (97 : Int32) d1_11 rfl (by decide) ?_
  refine go_castore C 14 1 (v := (97 : Int32)) (by decide) d1_13 rfl fx11 (by decide) rfl (nble rfl) (mi 0 rfl) ?_
  intro h12 W13 fx14
  have fx15 : Arv Z h12 b1 k3 .char (23 : Int32) [(.int 106), (.int 97), (.int 0), (.int 0), (.int 0), (.int 0), (.int 0), (.int 0), (.int 0), (.int 0), (.int 0), (.int 0), (.int 0), (.int 0), (.int 0), (.int 0), (.int 0), (.int 0), (.int 0), (.int 0), (.int 0), (.int 0), (.int 0)] (.int 0) := fx14
  refine go_dup C 15 d1_14 rfl rfl ?_
  refine go_iconst C 16 (2 : Int32) d1_15 rfl (by decide) ?_
  refine go_bipush C 18 (118 : Int32) d1_16 rfl (by decide) ?_
  refine go_castore C 19 2 (v := (118 : Int32)) (by decide) d1_18 rfl fx15 (by decide) rfl (nble rfl) (mi 0 rfl) ?_
  intro h16 W17 fx18
  have fx19 : Arv Z h16 b1 k3 .char (23 : Int32) [(.int 106), (.int 97), (.int 118), (.int 0), (.int 0), (.int 0), (.int 0), (.int 0), (.int 0), (.int 0), (.int 0), (.int 0), (.int 0), (.int 0), (.int 0), (.int 0), (.int 0), (.int 0), (.int 0), (.int 0), (.int 0), (.int 0), (.int 0)] (.int 0) := fx18
  refine go_dup C 20 d1_19 rfl rfl ?_
  refine go_iconst C 21 (3 : Int32) d1_20 rfl (by decide) ?_
  refine go_bipush C 23 (97 : Int32) d1_21 rfl (by decide) ?_
  refine go_castore C 24 3 (v := (97 : Int32)) (by decide) d1_23 rfl fx19 (by decide) rfl (nble rfl) (mi 0 rfl) ?_
  intro h20 W21 fx22
  have fx23 : Arv Z h20 b1 k3 .char (23 : Int32) [(.int 106), (.int 97), (.int 118), (.int 97), (.int 0), (.int 0), (.int 0), (.int 0), (.int 0), (.int 0), (.int 0), (.int 0), (.int 0), (.int 0), (.int 0), (.int 0), (.int 0), (.int 0), (.int 0), (.int 0), (.int 0), (.int 0), (.int 0)] (.int 0) := fx22
  refine go_dup C 25 d1_24 rfl rfl ?_
  refine go_iconst C 26 (4 : Int32) d1_25 rfl (by decide) ?_
  refine go_bipush C 28 (120 : Int32) d1_26 rfl (by decide) ?_
  refine go_castore C 29 4 (v := (120 : Int32)) (by decide) d1_28 rfl fx23 (by decide) rfl (nble rfl) (mi 0 rfl) ?_
  intro h24 W25 fx26
  have fx27 : Arv Z h24 b1 k3 .char (23 : Int32) [(.int 106), (.int 97), (.int 118), (.int 97), (.int 120), (.int 0), (.int 0), (.int 0), (.int 0), (.int 0), (.int 0), (.int 0), (.int 0), (.int 0), (.int 0), (.int 0), (.int 0), (.int 0), (.int 0), (.int 0), (.int 0), (.int 0), (.int 0)] (.int 0) := fx26
  refine go_dup C 30 d1_29 rfl rfl ?_
  refine go_iconst C 31 (5 : Int32) d1_30 rfl (by decide) ?_
  refine go_bipush C 33 (46 : Int32) d1_31 rfl (by decide) ?_
  refine go_castore C 34 5 (v := (46 : Int32)) (by decide) d1_33 rfl fx27 (by decide) rfl (nble rfl) (mi 0 rfl) ?_
  intro h28 W29 fx30
  have fx31 : Arv Z h28 b1 k3 .char (23 : Int32) [(.int 106), (.int 97), (.int 118), (.int 97), (.int 120), (.int 46), (.int 0), (.int 0), (.int 0), (.int 0), (.int 0), (.int 0), (.int 0), (.int 0), (.int 0), (.int 0), (.int 0), (.int 0), (.int 0), (.int 0), (.int 0), (.int 0), (.int 0)] (.int 0) := fx30
  refine go_dup C 35 d1_34 rfl rfl ?_
  refine go_bipush C 37 (6 : Int32) d1_35 rfl (by decide) ?_
  refine go_bipush C 39 (115 : Int32) d1_37 rfl (by decide) ?_
  refine go_castore C 40 6 (v := (115 : Int32)) (by decide) d1_39 rfl fx31 (by decide) rfl (nble rfl) (mi 0 rfl) ?_
  intro h32 W33 fx34
  have fx35 : Arv Z h32 b1 k3 .char (23 : Int32) [(.int 106), (.int 97), (.int 118), (.int 97), (.int 120), (.int 46), (.int 115), (.int 0), (.int 0), (.int 0), (.int 0), (.int 0), (.int 0), (.int 0), (.int 0), (.int 0), (.int 0), (.int 0), (.int 0), (.int 0), (.int 0), (.int 0), (.int 0)] (.int 0) := fx34
  refine go_dup C 41 d1_40 rfl rfl ?_
  refine go_bipush C 43 (7 : Int32) d1_41 rfl (by decide) ?_
  refine go_bipush C 45 (101 : Int32) d1_43 rfl (by decide) ?_
  refine go_castore C 46 7 (v := (101 : Int32)) (by decide) d1_45 rfl fx35 (by decide) rfl (nble rfl) (mi 0 rfl) ?_
  intro h36 W37 fx38
  have fx39 : Arv Z h36 b1 k3 .char (23 : Int32) [(.int 106), (.int 97), (.int 118), (.int 97), (.int 120), (.int 46), (.int 115), (.int 101), (.int 0), (.int 0), (.int 0), (.int 0), (.int 0), (.int 0), (.int 0), (.int 0), (.int 0), (.int 0), (.int 0), (.int 0), (.int 0), (.int 0), (.int 0)] (.int 0) := fx38
  refine go_dup C 47 d1_46 rfl rfl ?_
  refine go_bipush C 49 (8 : Int32) d1_47 rfl (by decide) ?_
  refine go_bipush C 51 (99 : Int32) d1_49 rfl (by decide) ?_
  refine go_castore C 52 8 (v := (99 : Int32)) (by decide) d1_51 rfl fx39 (by decide) rfl (nble rfl) (mi 0 rfl) ?_
  intro h40 W41 fx42
  have fx43 : Arv Z h40 b1 k3 .char (23 : Int32) [(.int 106), (.int 97), (.int 118), (.int 97), (.int 120), (.int 46), (.int 115), (.int 101), (.int 99), (.int 0), (.int 0), (.int 0), (.int 0), (.int 0), (.int 0), (.int 0), (.int 0), (.int 0), (.int 0), (.int 0), (.int 0), (.int 0), (.int 0)] (.int 0) := fx42
  refine go_dup C 53 d1_52 rfl rfl ?_
  refine go_bipush C 55 (9 : Int32) d1_53 rfl (by decide) ?_
  refine go_bipush C 57 (117 : Int32) d1_55 rfl (by decide) ?_
  refine go_castore C 58 9 (v := (117 : Int32)) (by decide) d1_57 rfl fx43 (by decide) rfl (nble rfl) (mi 0 rfl) ?_
  intro h44 W45 fx46
  have fx47 : Arv Z h44 b1 k3 .char (23 : Int32) [(.int 106), (.int 97), (.int 118), (.int 97), (.int 120), (.int 46), (.int 115), (.int 101), (.int 99), (.int 117), (.int 0), (.int 0), (.int 0), (.int 0), (.int 0), (.int 0), (.int 0), (.int 0), (.int 0), (.int 0), (.int 0), (.int 0), (.int 0)] (.int 0) := fx46
  refine go_dup C 59 d1_58 rfl rfl ?_
  refine go_bipush C 61 (10 : Int32) d1_59 rfl (by decide) ?_
  refine go_bipush C 63 (114 : Int32) d1_61 rfl (by decide) ?_
  refine go_castore C 64 10 (v := (114 : Int32)) (by decide) d1_63 rfl fx47 (by decide) rfl (nble rfl) (mi 0 rfl) ?_
  intro h48 W49 fx50
  have fx51 : Arv Z h48 b1 k3 .char (23 : Int32) [(.int 106), (.int 97), (.int 118), (.int 97), (.int 120), (.int 46), (.int 115), (.int 101), (.int 99), (.int 117), (.int 114), (.int 0), (.int 0), (.int 0), (.int 0), (.int 0), (.int 0), (.int 0), (.int 0), (.int 0), (.int 0), (.int 0), (.int 0)] (.int 0) := fx50
  refine go_dup C 65 d1_64 rfl rfl ?_
  refine go_bipush C 67 (11 : Int32) d1_65 rfl (by decide) ?_
  refine go_bipush C 69 (105 : Int32) d1_67 rfl (by decide) ?_
  refine go_castore C 70 11 (v := (105 : Int32)) (by decide) d1_69 rfl fx51 (by decide) rfl (nble rfl) (mi 0 rfl) ?_
  intro h52 W53 fx54
  have fx55 : Arv Z h52 b1 k3 .char (23 : Int32) [(.int 106), (.int 97), (.int 118), (.int 97), (.int 120), (.int 46), (.int 115), (.int 101), (.int 99), (.int 117), (.int 114), (.int 105), (.int 0), (.int 0), (.int 0), (.int 0), (.int 0), (.int 0), (.int 0), (.int 0), (.int 0), (.int 0), (.int 0)] (.int 0) := fx54
  refine go_dup C 71 d1_70 rfl rfl ?_
  refine go_bipush C 73 (12 : Int32) d1_71 rfl (by decide) ?_
  refine go_bipush C 75 (116 : Int32) d1_73 rfl (by decide) ?_
  refine go_castore C 76 12 (v := (116 : Int32)) (by decide) d1_75 rfl fx55 (by decide) rfl (nble rfl) (mi 0 rfl) ?_
  intro h56 W57 fx58
  have fx59 : Arv Z h56 b1 k3 .char (23 : Int32) [(.int 106), (.int 97), (.int 118), (.int 97), (.int 120), (.int 46), (.int 115), (.int 101), (.int 99), (.int 117), (.int 114), (.int 105), (.int 116), (.int 0), (.int 0), (.int 0), (.int 0), (.int 0), (.int 0), (.int 0), (.int 0), (.int 0), (.int 0)] (.int 0) := fx58
  refine go_dup C 77 d1_76 rfl rfl ?_
  refine go_bipush C 79 (13 : Int32) d1_77 rfl (by decide) ?_
  refine go_bipush C 81 (121 : Int32) d1_79 rfl (by decide) ?_
  refine go_castore C 82 13 (v := (121 : Int32)) (by decide) d1_81 rfl fx59 (by decide) rfl (nble rfl) (mi 0 rfl) ?_
  intro h60 W61 fx62
  have fx63 : Arv Z h60 b1 k3 .char (23 : Int32) [(.int 106), (.int 97), (.int 118), (.int 97), (.int 120), (.int 46), (.int 115), (.int 101), (.int 99), (.int 117), (.int 114), (.int 105), (.int 116), (.int 121), (.int 0), (.int 0), (.int 0), (.int 0), (.int 0), (.int 0), (.int 0), (.int 0), (.int 0)] (.int 0) := fx62
  refine go_dup C 83 d1_82 rfl rfl ?_
  refine go_bipush C 85 (14 : Int32) d1_83 rfl (by decide) ?_
  refine go_bipush C 87 (46 : Int32) d1_85 rfl (by decide) ?_
  refine go_castore C 88 14 (v := (46 : Int32)) (by decide) d1_87 rfl fx63 (by decide) rfl (nble rfl) (mi 0 rfl) ?_
  intro h64 W65 fx66
  have fx67 : Arv Z h64 b1 k3 .char (23 : Int32) [(.int 106), (.int 97), (.int 118), (.int 97), (.int 120), (.int 46), (.int 115), (.int 101), (.int 99), (.int 117), (.int 114), (.int 105), (.int 116), (.int 121), (.int 46), (.int 0), (.int 0), (.int 0), (.int 0), (.int 0), (.int 0), (.int 0), (.int 0)] (.int 0) := fx66
  refine go_dup C 89 d1_88 rfl rfl ?_
  refine go_bipush C 91 (15 : Int32) d1_89 rfl (by decide) ?_
  refine go_bipush C 93 (115 : Int32) d1_91 rfl (by decide) ?_
  refine go_castore C 94 15 (v := (115 : Int32)) (by decide) d1_93 rfl fx67 (by decide) rfl (nble rfl) (mi 0 rfl) ?_
  intro h68 W69 fx70
  have fx71 : Arv Z h68 b1 k3 .char (23 : Int32) [(.int 106), (.int 97), (.int 118), (.int 97), (.int 120), (.int 46), (.int 115), (.int 101), (.int 99), (.int 117), (.int 114), (.int 105), (.int 116), (.int 121), (.int 46), (.int 115), (.int 0), (.int 0), (.int 0), (.int 0), (.int 0), (.int 0), (.int 0)] (.int 0) := fx70
  refine go_dup C 95 d1_94 rfl rfl ?_
  refine go_bipush C 97 (16 : Int32) d1_95 rfl (by decide) ?_
  refine go_bipush C 99 (97 : Int32) d1_97 rfl (by decide) ?_
  refine go_castore C 100 16 (v := (97 : Int32)) (by decide) d1_99 rfl fx71 (by decide) rfl (nble rfl) (mi 0 rfl) ?_
  intro h72 W73 fx74
  have fx75 : Arv Z h72 b1 k3 .char (23 : Int32) [(.int 106), (.int 97), (.int 118), (.int 97), (.int 120), (.int 46), (.int 115), (.int 101), (.int 99), (.int 117), (.int 114), (.int 105), (.int 116), (.int 121), (.int 46), (.int 115), (.int 97), (.int 0), (.int 0), (.int 0), (.int 0), (.int 0), (.int 0)] (.int 0) := fx74
  refine go_dup C 101 d1_100 rfl rfl ?_
  refine go_bipush C 103 (17 : Int32) d1_101 rfl (by decide) ?_
  refine go_bipush C 105 (115 : Int32) d1_103 rfl (by decide) ?_
  refine go_castore C 106 17 (v := (115 : Int32)) (by decide) d1_105 rfl fx75 (by decide) rfl (nble rfl) (mi 0 rfl) ?_
  intro h76 W77 fx78
  have fx79 : Arv Z h76 b1 k3 .char (23 : Int32) [(.int 106), (.int 97), (.int 118), (.int 97), (.int 120), (.int 46), (.int 115), (.int 101), (.int 99), (.int 117), (.int 114), (.int 105), (.int 116), (.int 121), (.int 46), (.int 115), (.int 97), (.int 115), (.int 0), (.int 0), (.int 0), (.int 0), (.int 0)] (.int 0) := fx78
  refine go_dup C 107 d1_106 rfl rfl ?_
  refine go_bipush C 109 (18 : Int32) d1_107 rfl (by decide) ?_
  refine go_bipush C 111 (108 : Int32) d1_109 rfl (by decide) ?_
  refine go_castore C 112 18 (v := (108 : Int32)) (by decide) d1_111 rfl fx79 (by decide) rfl (nble rfl) (mi 0 rfl) ?_
  intro h80 W81 fx82
  have fx83 : Arv Z h80 b1 k3 .char (23 : Int32) [(.int 106), (.int 97), (.int 118), (.int 97), (.int 120), (.int 46), (.int 115), (.int 101), (.int 99), (.int 117), (.int 114), (.int 105), (.int 116), (.int 121), (.int 46), (.int 115), (.int 97), (.int 115), (.int 108), (.int 0), (.int 0), (.int 0), (.int 0)] (.int 0) := fx82
  refine go_dup C 113 d1_112 rfl rfl ?_
  refine go_bipush C 115 (19 : Int32) d1_113 rfl (by decide) ?_
  refine go_bipush C 117 (46 : Int32) d1_115 rfl (by decide) ?_
  refine go_castore C 118 19 (v := (46 : Int32)) (by decide) d1_117 rfl fx83 (by decide) rfl (nble rfl) (mi 0 rfl) ?_
  intro h84 W85 fx86
  have fx87 : Arv Z h84 b1 k3 .char (23 : Int32) [(.int 106), (.int 97), (.int 118), (.int 97), (.int 120), (.int 46), (.int 115), (.int 101), (.int 99), (.int 117), (.int 114), (.int 105), (.int 116), (.int 121), (.int 46), (.int 115), (.int 97), (.int 115), (.int 108), (.int 46), (.int 0), (.int 0), (.int 0)] (.int 0) := fx86
  refine go_dup C 119 d1_118 rfl rfl ?_
  refine go_bipush C 121 (20 : Int32) d1_119 rfl (by decide) ?_
  refine go_bipush C 123 (113 : Int32) d1_121 rfl (by decide) ?_
  refine go_castore C 124 20 (v := (113 : Int32)) (by decide) d1_123 rfl fx87 (by decide) rfl (nble rfl) (mi 0 rfl) ?_
  intro h88 W89 fx90
  have fx91 : Arv Z h88 b1 k3 .char (23 : Int32) [(.int 106), (.int 97), (.int 118), (.int 97), (.int 120), (.int 46), (.int 115), (.int 101), (.int 99), (.int 117), (.int 114), (.int 105), (.int 116), (.int 121), (.int 46), (.int 115), (.int 97), (.int 115), (.int 108), (.int 46), (.int 113), (.int 0), (.int 0)] (.int 0) := fx90
  refine go_dup C 125 d1_124 rfl rfl ?_
  refine go_bipush C 127 (21 : Int32) d1_125 rfl (by decide) ?_
  refine go_bipush C 129 (111 : Int32) d1_127 rfl (by decide) ?_
  refine go_castore C 130 21 (v := (111 : Int32)) (by decide) d1_129 rfl fx91 (by decide) rfl (nble rfl) (mi 0 rfl) ?_
  intro h92 W93 fx94
  have fx95 : Arv Z h92 b1 k3 .char (23 : Int32) [(.int 106), (.int 97), (.int 118), (.int 97), (.int 120), (.int 46), (.int 115), (.int 101), (.int 99), (.int 117), (.int 114), (.int 105), (.int 116), (.int 121), (.int 46), (.int 115), (.int 97), (.int 115), (.int 108), (.int 46), (.int 113), (.int 111), (.int 0)] (.int 0) := fx94
  refine go_dup C 131 d1_130 rfl rfl ?_
  refine go_bipush C 133 (22 : Int32) d1_131 rfl (by decide) ?_
  refine go_bipush C 135 (112 : Int32) d1_133 rfl (by decide) ?_
  refine go_castore C 136 22 (v := (112 : Int32)) (by decide) d1_135 rfl fx95 (by decide) rfl (nble rfl) (mi 0 rfl) ?_
  intro h96 W97 fx98
  have fx99 : Arv Z h96 b1 k3 .char (23 : Int32) [(.int 106), (.int 97), (.int 118), (.int 97), (.int 120), (.int 46), (.int 115), (.int 101), (.int 99), (.int 117), (.int 114), (.int 105), (.int 116), (.int 121), (.int 46), (.int 115), (.int 97), (.int 115), (.int 108), (.int 46), (.int 113), (.int 111), (.int 112)] (.int 0) := fx98
  refine go_retA C (v := (.ref b1)) d1_136 rfl rfl rfl (by decide) (by decide) ?_
  exact ⟨b1, k3, rfl, fx99, (Nat.le_of_eq g4.symm)⟩
theorem ct_can (l : Launch) (Z : State) (a0 : Array Value) (hw : HW a0 Z) {cS : Int32} {m1 : Addr} {m2 : Addr} (am : Amb Z a0 cS m1 m2) {c : Int32} {h0 : Heap} (hl : ¬ (255 : Int32) < c) :
    Py l Z (⟨"java/lang/StringLatin1", "canEncode", "(C)Z"⟩ : MethodName) 1 12 0 0 #[(.int c)] h0 [] (fun rv h' => rv = some (.int 1) ∧ h' = h0) := by
  refine Ct.py (by0 := jdk_43_method_3_code) (ml := 1) (rt := (some .boolean)) (rm := ({ frames := 0, cells := 0, slots := 0, locals := 0 } : Room)) ?_ (hq hw 67 rfl) (hq hw 53 rfl)
  refine Ct.mk (a0 := a0) (Ls := #[.val (.int c)]) (plainFor_of_name pn_java_lang_StringLatin1) (fun m => by first | (simp [entryFrame, mkF, argsToLocals, Value.category]; done) | rfl) ?_
  intro κ C
  show Go l _ Z _ _ _ κ [] h0 0 #[.val (.int c)] [] 0 0
  refine go_iloadN C 1 d12_0 rfl rfl ?_
  refine go_sipush C 4 (255 : Int32) d12_1 rfl (by decide) ?_
  refine go_icmpN C 7 d12_4 rfl (flt (hl : ¬ ((255 : Int32) < c))).2.2.1 ?_
  refine go_iconst C 8 (1 : Int32) d12_7 rfl (by decide) ?_
  refine go_goto C (pc' := 12) d12_8 (by decide) (by decide) ?_
  refine go_retN C (t := .boolean) (z := (1 : Int32)) d12_12 rfl (by decide) (by decide) (by decide) (by decide) ?_
  exact ⟨rfl, rfl⟩
theorem ct_tb (l : Launch) (Z : State) (a0 : Array Value) (hw : HW a0 Z) {cS : Int32} {m1 : Addr} {m2 : Addr} (am : Amb Z a0 cS m1 m2) {c : Int32} {h0 : Heap} :
    Py l Z (⟨"java/lang/StringLatin1", "toBytes", "(C)[B"⟩ : MethodName) 1 12 1 1 #[(.int c)] h0 [] (fun rv h' => ∃ (t : Addr) (kt : ClassId), rv = some (.ref t) ∧ Arv Z h' t kt .byte (1 : Int32) [(.int (lo8 c))] (.int 0) ∧ (h0.size ≤ t)) := by
  refine Ct.py (by0 := jdk_43_method_46_code) (ml := 1) (rt := (some (.array .byte))) (rm := ({ frames := 0, cells := 1, slots := 1, locals := 0 } : Room)) ?_ (hq hw 70 rfl) (hq hw 53 rfl)
  refine Ct.mk (a0 := a0) (Ls := #[.val (.int c)]) (plainFor_of_name pn_java_lang_StringLatin1) (fun m => by first | (simp [entryFrame, mkF, argsToLocals, Value.category]; done) | rfl) ?_
  intro κ C
  show Go l _ Z _ _ _ κ [] h0 0 #[.val (.int c)] [] 0 0
  refine go_iconst C 1 (1 : Int32) d13_0 rfl (by decide) ?_
  refine go_newP C 3 1 1 (ty := .byte) (cap := 1) d13_1 rfl rfl rfl rfl (hq hw 26 rfl) (by decide) (by decide) (by decide) (by decide) (by decide) ?_
  intro b1 h2 k3 g4 E5 V6
  have fx7 : Arv Z h2 b1 k3 .byte (1 : Int32) [(.int 0)] (.int 0) := V6
  refine go_dup C 4 d13_3 rfl rfl ?_
  refine go_iconst C 5 (0 : Int32) d13_4 rfl (by decide) ?_
  refine go_iloadN C 6 d13_5 rfl rfl ?_
  refine go_i2b C 7 (lo8 c) d13_6 rfl rfl ?_
  refine go_bastore C 8 0 (v := (lo8 c)) (nar_lo8 _) d13_7 rfl fx7 (by decide) rfl (nble rfl) (mi 0 rfl) ?_
  intro h8 W9 fx10
  have fx11 : Arv Z h8 b1 k3 .byte (1 : Int32) [(.int (lo8 c))] (.int 0) := fx10
  refine go_retA C (v := (.ref b1)) d13_8 rfl rfl rfl (by decide) (by decide) ?_
  exact ⟨b1, k3, rfl, fx11, (Nat.le_of_eq g4.symm)⟩
theorem ct_sbb (l : Launch) (Z : State) (a0 : Array Value) (hw : HW a0 Z) {cS : Int32} {m1 : Addr} {m2 : Addr} (am : Amb Z a0 cS m1 m2) {a : Addr} {t : Addr} {h0 : Heap} (p0 : Exa Z h0 a "java/lang/String") (p1 : Fld Z h0 a "java/lang/String" "value" "[B" .null) (p2 : Fld Z h0 a "java/lang/String" "coder" "B" (.int 0)) :
    Py l Z (⟨"java/lang/String", "<init>", "([BB)V"⟩ : MethodName) 2 26 0 0 #[(.ref a), (.ref t), (.int 0)] h0 [a] (fun rv h' => rv = none ∧ Exa Z h' a "java/lang/String" ∧ Fld Z h' a "java/lang/String" "coder" "B" (.int 0) ∧ Fld Z h' a "java/lang/String" "value" "[B" (.ref t)) := by
  refine Ct.py (by0 := jdk_42_method_151_code) (ml := 3) (rt := none) (rm := ({ frames := 1, cells := 0, slots := 0, locals := 12 } : Room)) ?_ (hq hw 73 rfl) (hq hw 5 rfl)
  refine Ct.mk (a0 := a0) (Ls := #[.val (.ref a), .val (.ref t), .val (.int 0)]) (plainFor_of_name pn_java_lang_String) (fun m => by first | (simp [entryFrame, mkF, argsToLocals, Value.category]; done) | rfl) ?_
  intro κ C
  show Go l _ Z _ _ _ κ [a] h0 0 #[.val (.ref a), .val (.ref t), .val (.int 0)] [] 0 0
  refine go_aloadN C 1 d14_0 rfl rfl rfl ?_
  refine go_initO C 4 (W := 0) d14_1 rfl (hq hw 18 rfl) (hq hw 19 rfl) (hq hw 20 rfl) rfl (by decide) (Nat.le_of_eq rfl) (by decide) ?_
  refine go_aloadN C 5 d14_4 rfl rfl rfl ?_
  refine go_aloadN C 6 d14_5 rfl rfl rfl ?_
  refine go_putF C 9 (ty := (.array .byte)) d14_6 rfl (hq hw 35 rfl) Via.refl p1 p0 (Or.inr ⟨(hq hw 36 rfl), rfl, rfl⟩) (hq hw 4 rfl) (by decide) rfl rfl (mi 0 rfl) ?_
  intro h1 W2
  have fx3 : Fld Z h1 a "java/lang/String" "value" "[B" (.ref t) := Fld.same W2 p1
  refine go_aloadN C 10 d14_9 rfl rfl rfl ?_
  refine go_iloadN C 11 d14_10 rfl rfl ?_
  have fx4 := (Fld.other W2 p2 (Or.inr (slot_ne (Or.inr (hq hw 34 rfl)) (Or.inr (hq hw 36 rfl)) (by decide) (t := .byte) (t' := (.array .byte)) (by decide) (by decide))))
  have fx5 := (Exa.wr W2 p0)
  refine go_putFN C 14 (ty := .byte) (v' := .int 0) d14_11 rfl (hq hw 33 rfl) Via.refl fx4 fx5 (Or.inr ⟨(hq hw 34 rfl), rfl, rfl⟩) (hq hw 4 rfl) (by decide) rfl (by decide) (mi 0 rfl) ?_
  intro h6 W7
  have fx8 : Fld Z h6 a "java/lang/String" "coder" "B" (.int 0) := Fld.same W7 fx4
  refine go_ret C d14_14 rfl (by decide) (by decide) ?_
  have fx9 := (Exa.wr W7 fx5)
  have fx10 := (Fld.other W7 fx3 (Or.inr (slot_ne (Or.inr (hq hw 36 rfl)) (Or.inr (hq hw 34 rfl)) (by decide) (t := (.array .byte)) (t' := .byte) (by decide) (by decide))))
  exact ⟨rfl, fx9, fx8, fx10⟩
theorem ct_vo (l : Launch) (Z : State) (a0 : Array Value) (hw : HW a0 Z) {cS : Int32} {m1 : Addr} {m2 : Addr} (am : Amb Z a0 cS m1 m2) {c : Int32} {h0 : Heap} (hl : ¬ (255 : Int32) < c) :
    Py l Z (⟨"java/lang/String", "valueOf", "(C)Ljava/lang/String;"⟩ : MethodName) 3 39 2 5 #[(.int c)] h0 [] (fun rv h' => ∃ (a : Addr) (t : Addr) (kt : ClassId), rv = some (.ref a) ∧ Exa Z h' a "java/lang/String" ∧ Fld Z h' a "java/lang/String" "coder" "B" (.int 0) ∧ Fld Z h' a "java/lang/String" "value" "[B" (.ref t) ∧ Arv Z h' t kt .byte (1 : Int32) [(.int (lo8 c))] (.int 0) ∧ (h0.size ≤ a)) := by
  refine Ct.py (by0 := jdk_42_method_139_code) (ml := 1) (rt := (some (.object "java/lang/String"))) (rm := ({ frames := 2, cells := 2, slots := 5, locals := 27 } : Room)) ?_ (hq hw 64 rfl) (hq hw 5 rfl)
  refine Ct.mk (a0 := a0) (Ls := #[.val (.int c)]) (plainFor_of_name pn_java_lang_String) (fun m => by first | (simp [entryFrame, mkF, argsToLocals, Value.category]; done) | rfl) ?_
  intro κ C
  show Go l _ Z _ _ _ κ [] h0 0 #[.val (.int c)] [] 0 0
  refine go_getS C 3 d11_0 rfl (hq hw 21 rfl) am.2.1 ?_
  refine go_ifN C 6 d11_3 rfl (feq (am.2.2.1 : ¬ (cS = (0 : Int32)))).1 ?_
  refine go_iloadN C 7 d11_6 rfl rfl ?_
  refine go_callS C (argsL := [(.int c)]) (W := 0) d11_7 (hq hw 65 rfl) (hq hw 66 rfl) (hq hw 53 rfl) (hq hw 67 rfl) (by decide) pd__C_Z (ct_can l Z a0 hw am (c := c) hl) rfl (by decide) (Nat.le_of_eq rfl) (by decide) rfl (by decide) (by decide) mems0 ?_
  intro fv1 h2 K3 fq4
  obtain ⟨rfl, rfl⟩ := fq4
  refine ⟨[], fresh0, ?_⟩
  show Go l _ Z _ _ _ κ _ _ 10 _ [(.int 1)] 0 0
  refine go_ifN C 13 d11_10 rfl (feq ((by decide) : ¬ ((1 : Int32) = (0 : Int32)))).1 ?_
  refine go_new C 16 1 4 d11_13 rfl rfl rfl (hq hw 50 rfl) (hq hw 4 rfl) (hq hw 5 rfl) (by decide) (by decide) ?_
  intro b5 h6 g7 E8 A9 D10
  have fx11 : Fld Z h6 b5 "java/lang/String" "coder" "B" (.int 0) := D10 (Or.inr (hq hw 34 rfl)) (ty := .byte) (by decide)
  have fx12 : Fld Z h6 b5 "java/lang/String" "value" "[B" .null := D10 (Or.inr (hq hw 36 rfl)) (ty := (.array .byte)) (by decide)
  refine go_dup C 17 d11_16 rfl rfl ?_
  refine go_iloadN C 18 d11_17 rfl rfl ?_
  refine go_callS C (argsL := [(.int c)]) (W := 2) d11_18 (hq hw 68 rfl) (hq hw 69 rfl) (hq hw 53 rfl) (hq hw 70 rfl) (by decide) pd__C__B (ct_tb l Z a0 hw am (c := c)) rfl (by decide) (Nat.le_of_eq rfl) (by decide) rfl (by decide) (by decide) mems0 ?_
  intro fv13 h14 K15 fq16
  obtain ⟨t17, kt18, rfl, fx19, fx20⟩ := fq16
  refine ⟨[t17], (freshS ⟨fx20, (fx19).lt⟩ fresh0), ?_⟩
  show Go l _ Z _ _ _ κ [t17, b5] _ 21 _ [(.ref t17), (.ref b5), (.ref b5)] 2 5
  refine go_iconst C 22 (0 : Int32) d11_21 rfl (by decide) ?_
  have fx21 := (A9.keep K15)
  have fx22 := (fx12.keep K15 nin0)
  have fx23 := (fx11.keep K15 nin0)
  refine go_callI C (a := b5) (argsL := [(.ref t17), (.int 0)]) (W := 1) d11_22 rfl (hq hw 71 rfl) (hq hw 72 rfl) (hq hw 73 rfl) (by decide) pd___BB_V (ct_sbb l Z a0 hw am (a := b5) (t := t17) fx21 fx22 fx23) rfl (by decide) (Nat.le_of_eq rfl) (by decide) rfl (by decide) (by decide) (memsS (mi 1 rfl) mems0) ?_
  intro fv24 h25 K26 fq27
  obtain ⟨rfl, fx28, fx29, fx30⟩ := fq27
  refine ⟨[], fresh0, ?_⟩
  show Go l _ Z _ _ _ κ _ _ 25 _ [(.ref b5)] 2 5
  refine go_retA C (v := (.ref b5)) d11_25 rfl rfl rfl (by decide) (by decide) ?_
  have fx31 := (fx19.keep K26 (ninS (Ne.symm (Nat.ne_of_lt (Nat.lt_of_lt_of_le (A9).lt fx20))) nin0))
  exact ⟨b5, t17, kt18, rfl, fx28, fx29, fx30, fx31, (Nat.le_of_eq g7.symm)⟩
theorem ct_leq23 (l : Launch) (Z : State) (a0 : Array Value) (hw : HW a0 Z) {cS : Int32} {m1 : Addr} {m2 : Addr} (am : Amb Z a0 cS m1 m2) {t : Addr} {u : Addr} {kt : ClassId} {ku : ClassId} {x0 : Int32} {x1 : Int32} {x2 : Int32} {x3 : Int32} {x4 : Int32} {x5 : Int32} {x6 : Int32} {x7 : Int32} {x8 : Int32} {x9 : Int32} {x10 : Int32} {x11 : Int32} {x12 : Int32} {x13 : Int32} {x14 : Int32} {x15 : Int32} {x16 : Int32} {x17 : Int32} {x18 : Int32} {x19 : Int32} {x20 : Int32} {x21 : Int32} {x22 : Int32} {h0 : Heap} (p0 : Arv Z h0 t kt .byte (23 : Int32) [(.int 106), (.int 97), (.int 118), (.int 97), (.int 120), (.int 46), (.int 115), (.int 101), (.int 99), (.int 117), (.int 114), (.int 105), (.int 116), (.int 121), (.int 46), (.int 115), (.int 97), (.int 115), (.int 108), (.int 46), (.int 113), (.int 111), (.int 112)] (.int 0)) (p1 : Arv Z h0 u ku .byte (23 : Int32) [(.int x0), (.int x1), (.int x2), (.int x3), (.int x4), (.int x5), (.int x6), (.int x7), (.int x8), (.int x9), (.int x10), (.int x11), (.int x12), (.int x13), (.int x14), (.int x15), (.int x16), (.int x17), (.int x18), (.int x19), (.int x20), (.int x21), (.int x22)] (.int 0)) :
    Py l Z (⟨"java/lang/StringLatin1", "equals", "([B[B)Z"⟩ : MethodName) 1 14 0 0 #[(.ref t), (.ref u)] h0 [] (fun rv h' => (rv = some (.int 1) ∧ h' = h0 ∧ ((106 : Int32) = x0 ∧ (97 : Int32) = x1 ∧ (118 : Int32) = x2 ∧ (97 : Int32) = x3 ∧ (120 : Int32) = x4 ∧ (46 : Int32) = x5 ∧ (115 : Int32) = x6 ∧ (101 : Int32) = x7 ∧ (99 : Int32) = x8 ∧ (117 : Int32) = x9 ∧ (114 : Int32) = x10 ∧ (105 : Int32) = x11 ∧ (116 : Int32) = x12 ∧ (121 : Int32) = x13 ∧ (46 : Int32) = x14 ∧ (115 : Int32) = x15 ∧ (97 : Int32) = x16 ∧ (115 : Int32) = x17 ∧ (108 : Int32) = x18 ∧ (46 : Int32) = x19 ∧ (113 : Int32) = x20 ∧ (111 : Int32) = x21 ∧ (112 : Int32) = x22)) ∨ (rv = some (.int 0) ∧ h' = h0 ∧ (¬ ((106 : Int32) = x0 ∧ (97 : Int32) = x1 ∧ (118 : Int32) = x2 ∧ (97 : Int32) = x3 ∧ (120 : Int32) = x4 ∧ (46 : Int32) = x5 ∧ (115 : Int32) = x6 ∧ (101 : Int32) = x7 ∧ (99 : Int32) = x8 ∧ (117 : Int32) = x9 ∧ (114 : Int32) = x10 ∧ (105 : Int32) = x11 ∧ (116 : Int32) = x12 ∧ (121 : Int32) = x13 ∧ (46 : Int32) = x14 ∧ (115 : Int32) = x15 ∧ (97 : Int32) = x16 ∧ (115 : Int32) = x17 ∧ (108 : Int32) = x18 ∧ (46 : Int32) = x19 ∧ (113 : Int32) = x20 ∧ (111 : Int32) = x21 ∧ (112 : Int32) = x22)))) := by
  refine Ct.py (by0 := jdk_43_method_13_code) (ml := 3) (rt := (some .boolean)) (rm := ({ frames := 0, cells := 0, slots := 0, locals := 0 } : Room)) ?_ (hq hw 54 rfl) (hq hw 53 rfl)
  refine Ct.mk (a0 := a0) (Ls := #[.val (.ref t), .val (.ref u), .unset]) (plainFor_of_name pn_java_lang_StringLatin1) (fun m => by first | (simp [entryFrame, mkF, argsToLocals, Value.category]; done) | rfl) ?_
  intro κ C
  show Go l _ Z _ _ _ κ [] h0 0 #[.val (.ref t), .val (.ref u), .unset] [] 0 0
  refine go_aloadN C 1 d10_0 rfl rfl rfl ?_
  refine go_arraylength C 2 d10_1 rfl p0 ?_
  refine go_aloadN C 3 d10_2 rfl rfl rfl ?_
  refine go_arraylength C 4 d10_3 rfl p1 ?_
  refine go_icmpN C 7 d10_4 rfl (teq ((by decide) : (23 : Int32) = (23 : Int32))).2 ?_
  refine go_iconst C 8 (0 : Int32) d10_7 rfl (by decide) ?_
  refine go_istoreN C 9 (Ls' := #[.val (.ref t), .val (.ref u), .val (.int 0)]) d10_8 rfl rfl ?_
  refine go_iloadN C 10 d10_9 rfl rfl ?_
  refine go_aloadN C 11 d10_10 rfl rfl rfl ?_
  refine go_arraylength C 12 d10_11 rfl p0 ?_
  refine go_icmpN C 15 d10_12 rfl (tlt ((by decide) : (0 : Int32) < (23 : Int32))).2.1 ?_
  refine go_aloadN C 16 d10_15 rfl rfl rfl ?_
  refine go_iloadN C 17 d10_16 rfl rfl ?_
  refine go_baload C 18 (v := (.int 106)) d10_17 rfl p0 (by decide) rfl ?_
  refine go_aloadN C 19 d10_18 rfl rfl rfl ?_
  refine go_iloadN C 20 d10_19 rfl rfl ?_
  refine go_baload C 21 (v := (.int x0)) d10_20 rfl p1 (by decide) rfl ?_
  by_cases q0 : (106 : Int32) = x0
  · skip
    refine go_icmpY C (pc' := 26) d10_21 (teq q0).1 (by decide) (by decide) ?_
    refine go_iinc C 29 (Ls' := #[.val (.ref t), .val (.ref u), .val (.int 1)]) (1 : Int32) d10_26 rfl (by decide) rfl rfl ?_
    refine go_goto C (pc' := 9) d10_29 (by decide) (by decide) ?_
    refine go_iloadN C 10 d10_9 rfl rfl ?_
    refine go_aloadN C 11 d10_10 rfl rfl rfl ?_
    refine go_arraylength C 12 d10_11 rfl p0 ?_
    refine go_icmpN C 15 d10_12 rfl (tlt ((by decide) : (1 : Int32) < (23 : Int32))).2.1 ?_
    refine go_aloadN C 16 d10_15 rfl rfl rfl ?_
    refine go_iloadN C 17 d10_16 rfl rfl ?_
    refine go_baload C 18 (v := (.int 97)) d10_17 rfl p0 (by decide) rfl ?_
    refine go_aloadN C 19 d10_18 rfl rfl rfl ?_
    refine go_iloadN C 20 d10_19 rfl rfl ?_
    refine go_baload C 21 (v := (.int x1)) d10_20 rfl p1 (by decide) rfl ?_
    by_cases q1 : (97 : Int32) = x1
    · skip
      refine go_icmpY C (pc' := 26) d10_21 (teq q1).1 (by decide) (by decide) ?_
      refine go_iinc C 29 (Ls' := #[.val (.ref t), .val (.ref u), .val (.int 2)]) (1 : Int32) d10_26 rfl (by decide) rfl rfl ?_
      refine go_goto C (pc' := 9) d10_29 (by decide) (by decide) ?_
      refine go_iloadN C 10 d10_9 rfl rfl ?_
      refine go_aloadN C 11 d10_10 rfl rfl rfl ?_
      refine go_arraylength C 12 d10_11 rfl p0 ?_
      refine go_icmpN C 15 d10_12 rfl (tlt ((by decide) : (2 : Int32) < (23 : Int32))).2.1 ?_
      refine go_aloadN C 16 d10_15 rfl rfl rfl ?_
      refine go_iloadN C 17 d10_16 rfl rfl ?_
      refine go_baload C 18 (v := (.int 118)) d10_17 rfl p0 (by decide) rfl ?_
      refine go_aloadN C 19 d10_18 rfl rfl rfl ?_
      refine go_iloadN C 20 d10_19 rfl rfl ?_
      refine go_baload C 21 (v := (.int x2)) d10_20 rfl p1 (by decide) rfl ?_
      by_cases q2 : (118 : Int32) = x2
      · skip
        refine go_icmpY C (pc' := 26) d10_21 (teq q2).1 (by decide) (by decide) ?_
        refine go_iinc C 29 (Ls' := #[.val (.ref t), .val (.ref u), .val (.int 3)]) (1 : Int32) d10_26 rfl (by decide) rfl rfl ?_
        refine go_goto C (pc' := 9) d10_29 (by decide) (by decide) ?_
        refine go_iloadN C 10 d10_9 rfl rfl ?_
        refine go_aloadN C 11 d10_10 rfl rfl rfl ?_
        refine go_arraylength C 12 d10_11 rfl p0 ?_
        refine go_icmpN C 15 d10_12 rfl (tlt ((by decide) : (3 : Int32) < (23 : Int32))).2.1 ?_
        refine go_aloadN C 16 d10_15 rfl rfl rfl ?_
        refine go_iloadN C 17 d10_16 rfl rfl ?_
        refine go_baload C 18 (v := (.int 97)) d10_17 rfl p0 (by decide) rfl ?_
        refine go_aloadN C 19 d10_18 rfl rfl rfl ?_
        refine go_iloadN C 20 d10_19 rfl rfl ?_
        refine go_baload C 21 (v := (.int x3)) d10_20 rfl p1 (by decide) rfl ?_
        by_cases q3 : (97 : Int32) = x3
        · skip
          refine go_icmpY C (pc' := 26) d10_21 (teq q3).1 (by decide) (by decide) ?_
          refine go_iinc C 29 (Ls' := #[.val (.ref t), .val (.ref u), .val (.int 4)]) (1 : Int32) d10_26 rfl (by decide) rfl rfl ?_
          refine go_goto C (pc' := 9) d10_29 (by decide) (by decide) ?_
          refine go_iloadN C 10 d10_9 rfl rfl ?_
          refine go_aloadN C 11 d10_10 rfl rfl rfl ?_
          refine go_arraylength C 12 d10_11 rfl p0 ?_
          refine go_icmpN C 15 d10_12 rfl (tlt ((by decide) : (4 : Int32) < (23 : Int32))).2.1 ?_
          refine go_aloadN C 16 d10_15 rfl rfl rfl ?_
          refine go_iloadN C 17 d10_16 rfl rfl ?_
          refine go_baload C 18 (v := (.int 120)) d10_17 rfl p0 (by decide) rfl ?_
          refine go_aloadN C 19 d10_18 rfl rfl rfl ?_
          refine go_iloadN C 20 d10_19 rfl rfl ?_
          refine go_baload C 21 (v := (.int x4)) d10_20 rfl p1 (by decide) rfl ?_
          by_cases q4 : (120 : Int32) = x4
          · skip
            refine go_icmpY C (pc' := 26) d10_21 (teq q4).1 (by decide) (by decide) ?_
            refine go_iinc C 29 (Ls' := #[.val (.ref t), .val (.ref u), .val (.int 5)]) (1 : Int32) d10_26 rfl (by decide) rfl rfl ?_
            refine go_goto C (pc' := 9) d10_29 (by decide) (by decide) ?_
            refine go_iloadN C 10 d10_9 rfl rfl ?_
            refine go_aloadN C 11 d10_10 rfl rfl rfl ?_
            refine go_arraylength C 12 d10_11 rfl p0 ?_
            refine go_icmpN C 15 d10_12 rfl (tlt ((by decide) : (5 : Int32) < (23 : Int32))).2.1 ?_
            refine go_aloadN C 16 d10_15 rfl rfl rfl ?_
            refine go_iloadN C 17 d10_16 rfl rfl ?_
            refine go_baload C 18 (v := (.int 46)) d10_17 rfl p0 (by decide) rfl ?_
            refine go_aloadN C 19 d10_18 rfl rfl rfl ?_
            refine go_iloadN C 20 d10_19 rfl rfl ?_
            refine go_baload C 21 (v := (.int x5)) d10_20 rfl p1 (by decide) rfl ?_
            by_cases q5 : (46 : Int32) = x5
            · skip
              refine go_icmpY C (pc' := 26) d10_21 (teq q5).1 (by decide) (by decide) ?_
              refine go_iinc C 29 (Ls' := #[.val (.ref t), .val (.ref u), .val (.int 6)]) (1 : Int32) d10_26 rfl (by decide) rfl rfl ?_
              refine go_goto C (pc' := 9) d10_29 (by decide) (by decide) ?_
              refine go_iloadN C 10 d10_9 rfl rfl ?_
              refine go_aloadN C 11 d10_10 rfl rfl rfl ?_
              refine go_arraylength C 12 d10_11 rfl p0 ?_
              refine go_icmpN C 15 d10_12 rfl (tlt ((by decide) : (6 : Int32) < (23 : Int32))).2.1 ?_
              refine go_aloadN C 16 d10_15 rfl rfl rfl ?_
              refine go_iloadN C 17 d10_16 rfl rfl ?_
              refine go_baload C 18 (v := (.int 115)) d10_17 rfl p0 (by decide) rfl ?_
              refine go_aloadN C 19 d10_18 rfl rfl rfl ?_
              refine go_iloadN C 20 d10_19 rfl rfl ?_
              refine go_baload C 21 (v := (.int x6)) d10_20 rfl p1 (by decide) rfl ?_
              by_cases q6 : (115 : Int32) = x6
              · skip
                refine go_icmpY C (pc' := 26) d10_21 (teq q6).1 (by decide) (by decide) ?_
                refine go_iinc C 29 (Ls' := #[.val (.ref t), .val (.ref u), .val (.int 7)]) (1 : Int32) d10_26 rfl (by decide) rfl rfl ?_
                refine go_goto C (pc' := 9) d10_29 (by decide) (by decide) ?_
                refine go_iloadN C 10 d10_9 rfl rfl ?_
                refine go_aloadN C 11 d10_10 rfl rfl rfl ?_
                refine go_arraylength C 12 d10_11 rfl p0 ?_
                refine go_icmpN C 15 d10_12 rfl (tlt ((by decide) : (7 : Int32) < (23 : Int32))).2.1 ?_
                refine go_aloadN C 16 d10_15 rfl rfl rfl ?_
                refine go_iloadN C 17 d10_16 rfl rfl ?_
                refine go_baload C 18 (v := (.int 101)) d10_17 rfl p0 (by decide) rfl ?_
                refine go_aloadN C 19 d10_18 rfl rfl rfl ?_
                refine go_iloadN C 20 d10_19 rfl rfl ?_
                refine go_baload C 21 (v := (.int x7)) d10_20 rfl p1 (by decide) rfl ?_
                by_cases q7 : (101 : Int32) = x7
                · skip
                  refine go_icmpY C (pc' := 26) d10_21 (teq q7).1 (by decide) (by decide) ?_
                  refine go_iinc C 29 (Ls' := #[.val (.ref t), .val (.ref u), .val (.int 8)]) (1 : Int32) d10_26 rfl (by decide) rfl rfl ?_
                  refine go_goto C (pc' := 9) d10_29 (by decide) (by decide) ?_
                  refine go_iloadN C 10 d10_9 rfl rfl ?_
                  refine go_aloadN C 11 d10_10 rfl rfl rfl ?_
                  refine go_arraylength C 12 d10_11 rfl p0 ?_
                  refine go_icmpN C 15 d10_12 rfl (tlt ((by decide) : (8 : Int32) < (23 : Int32))).2.1 ?_
                  refine go_aloadN C 16 d10_15 rfl rfl rfl ?_
                  refine go_iloadN C 17 d10_16 rfl rfl ?_
                  refine go_baload C 18 (v := (.int 99)) d10_17 rfl p0 (by decide) rfl ?_
                  refine go_aloadN C 19 d10_18 rfl rfl rfl ?_
                  refine go_iloadN C 20 d10_19 rfl rfl ?_
                  refine go_baload C 21 (v := (.int x8)) d10_20 rfl p1 (by decide) rfl ?_
                  by_cases q8 : (99 : Int32) = x8
                  · skip
                    refine go_icmpY C (pc' := 26) d10_21 (teq q8).1 (by decide) (by decide) ?_
                    refine go_iinc C 29 (Ls' := #[.val (.ref t), .val (.ref u), .val (.int 9)]) (1 : Int32) d10_26 rfl (by decide) rfl rfl ?_
                    refine go_goto C (pc' := 9) d10_29 (by decide) (by decide) ?_
                    refine go_iloadN C 10 d10_9 rfl rfl ?_
                    refine go_aloadN C 11 d10_10 rfl rfl rfl ?_
                    refine go_arraylength C 12 d10_11 rfl p0 ?_
                    refine go_icmpN C 15 d10_12 rfl (tlt ((by decide) : (9 : Int32) < (23 : Int32))).2.1 ?_
                    refine go_aloadN C 16 d10_15 rfl rfl rfl ?_
                    refine go_iloadN C 17 d10_16 rfl rfl ?_
                    refine go_baload C 18 (v := (.int 117)) d10_17 rfl p0 (by decide) rfl ?_
                    refine go_aloadN C 19 d10_18 rfl rfl rfl ?_
                    refine go_iloadN C 20 d10_19 rfl rfl ?_
                    refine go_baload C 21 (v := (.int x9)) d10_20 rfl p1 (by decide) rfl ?_
                    by_cases q9 : (117 : Int32) = x9
                    · skip
                      refine go_icmpY C (pc' := 26) d10_21 (teq q9).1 (by decide) (by decide) ?_
                      refine go_iinc C 29 (Ls' := #[.val (.ref t), .val (.ref u), .val (.int 10)]) (1 : Int32) d10_26 rfl (by decide) rfl rfl ?_
                      refine go_goto C (pc' := 9) d10_29 (by decide) (by decide) ?_
                      refine go_iloadN C 10 d10_9 rfl rfl ?_
                      refine go_aloadN C 11 d10_10 rfl rfl rfl ?_
                      refine go_arraylength C 12 d10_11 rfl p0 ?_
                      refine go_icmpN C 15 d10_12 rfl (tlt ((by decide) : (10 : Int32) < (23 : Int32))).2.1 ?_
                      refine go_aloadN C 16 d10_15 rfl rfl rfl ?_
                      refine go_iloadN C 17 d10_16 rfl rfl ?_
                      refine go_baload C 18 (v := (.int 114)) d10_17 rfl p0 (by decide) rfl ?_
                      refine go_aloadN C 19 d10_18 rfl rfl rfl ?_
                      refine go_iloadN C 20 d10_19 rfl rfl ?_
                      refine go_baload C 21 (v := (.int x10)) d10_20 rfl p1 (by decide) rfl ?_
                      by_cases q10 : (114 : Int32) = x10
                      · skip
                        refine go_icmpY C (pc' := 26) d10_21 (teq q10).1 (by decide) (by decide) ?_
                        refine go_iinc C 29 (Ls' := #[.val (.ref t), .val (.ref u), .val (.int 11)]) (1 : Int32) d10_26 rfl (by decide) rfl rfl ?_
                        refine go_goto C (pc' := 9) d10_29 (by decide) (by decide) ?_
                        refine go_iloadN C 10 d10_9 rfl rfl ?_
                        refine go_aloadN C 11 d10_10 rfl rfl rfl ?_
                        refine go_arraylength C 12 d10_11 rfl p0 ?_
                        refine go_icmpN C 15 d10_12 rfl (tlt ((by decide) : (11 : Int32) < (23 : Int32))).2.1 ?_
                        refine go_aloadN C 16 d10_15 rfl rfl rfl ?_
                        refine go_iloadN C 17 d10_16 rfl rfl ?_
                        refine go_baload C 18 (v := (.int 105)) d10_17 rfl p0 (by decide) rfl ?_
                        refine go_aloadN C 19 d10_18 rfl rfl rfl ?_
                        refine go_iloadN C 20 d10_19 rfl rfl ?_
                        refine go_baload C 21 (v := (.int x11)) d10_20 rfl p1 (by decide) rfl ?_
                        by_cases q11 : (105 : Int32) = x11
                        · skip
                          refine go_icmpY C (pc' := 26) d10_21 (teq q11).1 (by decide) (by decide) ?_
                          refine go_iinc C 29 (Ls' := #[.val (.ref t), .val (.ref u), .val (.int 12)]) (1 : Int32) d10_26 rfl (by decide) rfl rfl ?_
                          refine go_goto C (pc' := 9) d10_29 (by decide) (by decide) ?_
                          refine go_iloadN C 10 d10_9 rfl rfl ?_
                          refine go_aloadN C 11 d10_10 rfl rfl rfl ?_
                          refine go_arraylength C 12 d10_11 rfl p0 ?_
                          refine go_icmpN C 15 d10_12 rfl (tlt ((by decide) : (12 : Int32) < (23 : Int32))).2.1 ?_
                          refine go_aloadN C 16 d10_15 rfl rfl rfl ?_
                          refine go_iloadN C 17 d10_16 rfl rfl ?_
                          refine go_baload C 18 (v := (.int 116)) d10_17 rfl p0 (by decide) rfl ?_
                          refine go_aloadN C 19 d10_18 rfl rfl rfl ?_
                          refine go_iloadN C 20 d10_19 rfl rfl ?_
                          refine go_baload C 21 (v := (.int x12)) d10_20 rfl p1 (by decide) rfl ?_
                          by_cases q12 : (116 : Int32) = x12
                          · skip
                            refine go_icmpY C (pc' := 26) d10_21 (teq q12).1 (by decide) (by decide) ?_
                            refine go_iinc C 29 (Ls' := #[.val (.ref t), .val (.ref u), .val (.int 13)]) (1 : Int32) d10_26 rfl (by decide) rfl rfl ?_
                            refine go_goto C (pc' := 9) d10_29 (by decide) (by decide) ?_
                            refine go_iloadN C 10 d10_9 rfl rfl ?_
                            refine go_aloadN C 11 d10_10 rfl rfl rfl ?_
                            refine go_arraylength C 12 d10_11 rfl p0 ?_
                            refine go_icmpN C 15 d10_12 rfl (tlt ((by decide) : (13 : Int32) < (23 : Int32))).2.1 ?_
                            refine go_aloadN C 16 d10_15 rfl rfl rfl ?_
                            refine go_iloadN C 17 d10_16 rfl rfl ?_
                            refine go_baload C 18 (v := (.int 121)) d10_17 rfl p0 (by decide) rfl ?_
                            refine go_aloadN C 19 d10_18 rfl rfl rfl ?_
                            refine go_iloadN C 20 d10_19 rfl rfl ?_
                            refine go_baload C 21 (v := (.int x13)) d10_20 rfl p1 (by decide) rfl ?_
                            by_cases q13 : (121 : Int32) = x13
                            · skip
                              refine go_icmpY C (pc' := 26) d10_21 (teq q13).1 (by decide) (by decide) ?_
                              refine go_iinc C 29 (Ls' := #[.val (.ref t), .val (.ref u), .val (.int 14)]) (1 : Int32) d10_26 rfl (by decide) rfl rfl ?_
                              refine go_goto C (pc' := 9) d10_29 (by decide) (by decide) ?_
                              refine go_iloadN C 10 d10_9 rfl rfl ?_
                              refine go_aloadN C 11 d10_10 rfl rfl rfl ?_
                              refine go_arraylength C 12 d10_11 rfl p0 ?_
                              refine go_icmpN C 15 d10_12 rfl (tlt ((by decide) : (14 : Int32) < (23 : Int32))).2.1 ?_
                              refine go_aloadN C 16 d10_15 rfl rfl rfl ?_
                              refine go_iloadN C 17 d10_16 rfl rfl ?_
                              refine go_baload C 18 (v := (.int 46)) d10_17 rfl p0 (by decide) rfl ?_
                              refine go_aloadN C 19 d10_18 rfl rfl rfl ?_
                              refine go_iloadN C 20 d10_19 rfl rfl ?_
                              refine go_baload C 21 (v := (.int x14)) d10_20 rfl p1 (by decide) rfl ?_
                              by_cases q14 : (46 : Int32) = x14
                              · skip
                                refine go_icmpY C (pc' := 26) d10_21 (teq q14).1 (by decide) (by decide) ?_
                                refine go_iinc C 29 (Ls' := #[.val (.ref t), .val (.ref u), .val (.int 15)]) (1 : Int32) d10_26 rfl (by decide) rfl rfl ?_
                                refine go_goto C (pc' := 9) d10_29 (by decide) (by decide) ?_
                                refine go_iloadN C 10 d10_9 rfl rfl ?_
                                refine go_aloadN C 11 d10_10 rfl rfl rfl ?_
                                refine go_arraylength C 12 d10_11 rfl p0 ?_
                                refine go_icmpN C 15 d10_12 rfl (tlt ((by decide) : (15 : Int32) < (23 : Int32))).2.1 ?_
                                refine go_aloadN C 16 d10_15 rfl rfl rfl ?_
                                refine go_iloadN C 17 d10_16 rfl rfl ?_
                                refine go_baload C 18 (v := (.int 115)) d10_17 rfl p0 (by decide) rfl ?_
                                refine go_aloadN C 19 d10_18 rfl rfl rfl ?_
                                refine go_iloadN C 20 d10_19 rfl rfl ?_
                                refine go_baload C 21 (v := (.int x15)) d10_20 rfl p1 (by decide) rfl ?_
                                by_cases q15 : (115 : Int32) = x15
                                · skip
                                  refine go_icmpY C (pc' := 26) d10_21 (teq q15).1 (by decide) (by decide) ?_
                                  refine go_iinc C 29 (Ls' := #[.val (.ref t), .val (.ref u), .val (.int 16)]) (1 : Int32) d10_26 rfl (by decide) rfl rfl ?_
                                  refine go_goto C (pc' := 9) d10_29 (by decide) (by decide) ?_
                                  refine go_iloadN C 10 d10_9 rfl rfl ?_
                                  refine go_aloadN C 11 d10_10 rfl rfl rfl ?_
                                  refine go_arraylength C 12 d10_11 rfl p0 ?_
                                  refine go_icmpN C 15 d10_12 rfl (tlt ((by decide) : (16 : Int32) < (23 : Int32))).2.1 ?_
                                  refine go_aloadN C 16 d10_15 rfl rfl rfl ?_
                                  refine go_iloadN C 17 d10_16 rfl rfl ?_
                                  refine go_baload C 18 (v := (.int 97)) d10_17 rfl p0 (by decide) rfl ?_
                                  refine go_aloadN C 19 d10_18 rfl rfl rfl ?_
                                  refine go_iloadN C 20 d10_19 rfl rfl ?_
                                  refine go_baload C 21 (v := (.int x16)) d10_20 rfl p1 (by decide) rfl ?_
                                  by_cases q16 : (97 : Int32) = x16
                                  · skip
                                    refine go_icmpY C (pc' := 26) d10_21 (teq q16).1 (by decide) (by decide) ?_
                                    refine go_iinc C 29 (Ls' := #[.val (.ref t), .val (.ref u), .val (.int 17)]) (1 : Int32) d10_26 rfl (by decide) rfl rfl ?_
                                    refine go_goto C (pc' := 9) d10_29 (by decide) (by decide) ?_
                                    refine go_iloadN C 10 d10_9 rfl rfl ?_
                                    refine go_aloadN C 11 d10_10 rfl rfl rfl ?_
                                    refine go_arraylength C 12 d10_11 rfl p0 ?_
                                    refine go_icmpN C 15 d10_12 rfl (tlt ((by decide) : (17 : Int32) < (23 : Int32))).2.1 ?_
                                    refine go_aloadN C 16 d10_15 rfl rfl rfl ?_
                                    refine go_iloadN C 17 d10_16 rfl rfl ?_
                                    refine go_baload C 18 (v := (.int 115)) d10_17 rfl p0 (by decide) rfl ?_
                                    refine go_aloadN C 19 d10_18 rfl rfl rfl ?_
                                    refine go_iloadN C 20 d10_19 rfl rfl ?_
                                    refine go_baload C 21 (v := (.int x17)) d10_20 rfl p1 (by decide) rfl ?_
                                    by_cases q17 : (115 : Int32) = x17
                                    · skip
                                      refine go_icmpY C (pc' := 26) d10_21 (teq q17).1 (by decide) (by decide) ?_
                                      refine go_iinc C 29 (Ls' := #[.val (.ref t), .val (.ref u), .val (.int 18)]) (1 : Int32) d10_26 rfl (by decide) rfl rfl ?_
                                      refine go_goto C (pc' := 9) d10_29 (by decide) (by decide) ?_
                                      refine go_iloadN C 10 d10_9 rfl rfl ?_
                                      refine go_aloadN C 11 d10_10 rfl rfl rfl ?_
                                      refine go_arraylength C 12 d10_11 rfl p0 ?_
                                      refine go_icmpN C 15 d10_12 rfl (tlt ((by decide) : (18 : Int32) < (23 : Int32))).2.1 ?_
                                      refine go_aloadN C 16 d10_15 rfl rfl rfl ?_
                                      refine go_iloadN C 17 d10_16 rfl rfl ?_
                                      refine go_baload C 18 (v := (.int 108)) d10_17 rfl p0 (by decide) rfl ?_
                                      refine go_aloadN C 19 d10_18 rfl rfl rfl ?_
                                      refine go_iloadN C 20 d10_19 rfl rfl ?_
                                      refine go_baload C 21 (v := (.int x18)) d10_20 rfl p1 (by decide) rfl ?_
                                      by_cases q18 : (108 : Int32) = x18
                                      · skip
                                        refine go_icmpY C (pc' := 26) d10_21 (teq q18).1 (by decide) (by decide) ?_
                                        refine go_iinc C 29 (Ls' := #[.val (.ref t), .val (.ref u), .val (.int 19)]) (1 : Int32) d10_26 rfl (by decide) rfl rfl ?_
                                        refine go_goto C (pc' := 9) d10_29 (by decide) (by decide) ?_
                                        refine go_iloadN C 10 d10_9 rfl rfl ?_
                                        refine go_aloadN C 11 d10_10 rfl rfl rfl ?_
                                        refine go_arraylength C 12 d10_11 rfl p0 ?_
                                        refine go_icmpN C 15 d10_12 rfl (tlt ((by decide) : (19 : Int32) < (23 : Int32))).2.1 ?_
                                        refine go_aloadN C 16 d10_15 rfl rfl rfl ?_
                                        refine go_iloadN C 17 d10_16 rfl rfl ?_
                                        refine go_baload C 18 (v := (.int 46)) d10_17 rfl p0 (by decide) rfl ?_
                                        refine go_aloadN C 19 d10_18 rfl rfl rfl ?_
                                        refine go_iloadN C 20 d10_19 rfl rfl ?_
                                        refine go_baload C 21 (v := (.int x19)) d10_20 rfl p1 (by decide) rfl ?_
                                        by_cases q19 : (46 : Int32) = x19
                                        · skip
                                          refine go_icmpY C (pc' := 26) d10_21 (teq q19).1 (by decide) (by decide) ?_
                                          refine go_iinc C 29 (Ls' := #[.val (.ref t), .val (.ref u), .val (.int 20)]) (1 : Int32) d10_26 rfl (by decide) rfl rfl ?_
                                          refine go_goto C (pc' := 9) d10_29 (by decide) (by decide) ?_
                                          refine go_iloadN C 10 d10_9 rfl rfl ?_
                                          refine go_aloadN C 11 d10_10 rfl rfl rfl ?_
                                          refine go_arraylength C 12 d10_11 rfl p0 ?_
                                          refine go_icmpN C 15 d10_12 rfl (tlt ((by decide) : (20 : Int32) < (23 : Int32))).2.1 ?_
                                          refine go_aloadN C 16 d10_15 rfl rfl rfl ?_
                                          refine go_iloadN C 17 d10_16 rfl rfl ?_
                                          refine go_baload C 18 (v := (.int 113)) d10_17 rfl p0 (by decide) rfl ?_
                                          refine go_aloadN C 19 d10_18 rfl rfl rfl ?_
                                          refine go_iloadN C 20 d10_19 rfl rfl ?_
                                          refine go_baload C 21 (v := (.int x20)) d10_20 rfl p1 (by decide) rfl ?_
                                          by_cases q20 : (113 : Int32) = x20
                                          · skip
                                            refine go_icmpY C (pc' := 26) d10_21 (teq q20).1 (by decide) (by decide) ?_
                                            refine go_iinc C 29 (Ls' := #[.val (.ref t), .val (.ref u), .val (.int 21)]) (1 : Int32) d10_26 rfl (by decide) rfl rfl ?_
                                            refine go_goto C (pc' := 9) d10_29 (by decide) (by decide) ?_
                                            refine go_iloadN C 10 d10_9 rfl rfl ?_
                                            refine go_aloadN C 11 d10_10 rfl rfl rfl ?_
                                            refine go_arraylength C 12 d10_11 rfl p0 ?_
                                            refine go_icmpN C 15 d10_12 rfl (tlt ((by decide) : (21 : Int32) < (23 : Int32))).2.1 ?_
                                            refine go_aloadN C 16 d10_15 rfl rfl rfl ?_
                                            refine go_iloadN C 17 d10_16 rfl rfl ?_
                                            refine go_baload C 18 (v := (.int 111)) d10_17 rfl p0 (by decide) rfl ?_
                                            refine go_aloadN C 19 d10_18 rfl rfl rfl ?_
                                            refine go_iloadN C 20 d10_19 rfl rfl ?_
                                            refine go_baload C 21 (v := (.int x21)) d10_20 rfl p1 (by decide) rfl ?_
                                            by_cases q21 : (111 : Int32) = x21
                                            · skip
                                              refine go_icmpY C (pc' := 26) d10_21 (teq q21).1 (by decide) (by decide) ?_
                                              refine go_iinc C 29 (Ls' := #[.val (.ref t), .val (.ref u), .val (.int 22)]) (1 : Int32) d10_26 rfl (by decide) rfl rfl ?_
                                              refine go_goto C (pc' := 9) d10_29 (by decide) (by decide) ?_
                                              refine go_iloadN C 10 d10_9 rfl rfl ?_
                                              refine go_aloadN C 11 d10_10 rfl rfl rfl ?_
                                              refine go_arraylength C 12 d10_11 rfl p0 ?_
                                              refine go_icmpN C 15 d10_12 rfl (tlt ((by decide) : (22 : Int32) < (23 : Int32))).2.1 ?_
                                              refine go_aloadN C 16 d10_15 rfl rfl rfl ?_
                                              refine go_iloadN C 17 d10_16 rfl rfl ?_
                                              refine go_baload C 18 (v := (.int 112)) d10_17 rfl p0 (by decide) rfl ?_
                                              refine go_aloadN C 19 d10_18 rfl rfl rfl ?_
                                              refine go_iloadN C 20 d10_19 rfl rfl ?_
                                              refine go_baload C 21 (v := (.int x22)) d10_20 rfl p1 (by decide) rfl ?_
                                              by_cases q22 : (112 : Int32) = x22
                                              · skip
                                                refine go_icmpY C (pc' := 26) d10_21 (teq q22).1 (by decide) (by decide) ?_
                                                refine go_iinc C 29 (Ls' := #[.val (.ref t), .val (.ref u), .val (.int 23)]) (1 : Int32) d10_26 rfl (by decide) rfl rfl ?_
                                                refine go_goto C (pc' := 9) d10_29 (by decide) (by decide) ?_
                                                refine go_iloadN C 10 d10_9 rfl rfl ?_
                                                refine go_aloadN C 11 d10_10 rfl rfl rfl ?_
                                                refine go_arraylength C 12 d10_11 rfl p0 ?_
                                                refine go_icmpY C (pc' := 32) d10_12 (flt ((by decide) : ¬ ((23 : Int32) < (23 : Int32)))).2.1 (by decide) (by decide) ?_
                                                refine go_iconst C 33 (1 : Int32) d10_32 rfl (by decide) ?_
                                                refine go_retN C (t := .boolean) (z := (1 : Int32)) d10_33 rfl (by decide) (by decide) (by decide) (by decide) ?_
                                                exact Or.inl ⟨rfl, rfl, ⟨q0, q1, q2, q3, q4, q5, q6, q7, q8, q9, q10, q11, q12, q13, q14, q15, q16, q17, q18, q19, q20, q21, q22⟩⟩
                                              · skip
                                                refine go_icmpN C 24 d10_21 rfl (feq q22).1 ?_
                                                refine go_iconst C 25 (0 : Int32) d10_24 rfl (by decide) ?_
                                                refine go_retN C (t := .boolean) (z := (0 : Int32)) d10_25 rfl (by decide) (by decide) (by decide) (by decide) ?_
                                                exact Or.inr (⟨rfl, rfl, (fun z => q22 z.2.2.2.2.2.2.2.2.2.2.2.2.2.2.2.2.2.2.2.2.2.2)⟩)
                                            · skip
                                              refine go_icmpN C 24 d10_21 rfl (feq q21).1 ?_
                                              refine go_iconst C 25 (0 : Int32) d10_24 rfl (by decide) ?_
                                              refine go_retN C (t := .boolean) (z := (0 : Int32)) d10_25 rfl (by decide) (by decide) (by decide) (by decide) ?_
                                              exact Or.inr (⟨rfl, rfl, (fun z => q21 z.2.2.2.2.2.2.2.2.2.2.2.2.2.2.2.2.2.2.2.2.2.1)⟩)
                                          · skip
                                            refine go_icmpN C 24 d10_21 rfl (feq q20).1 ?_
                                            refine go_iconst C 25 (0 : Int32) d10_24 rfl (by decide) ?_
                                            refine go_retN C (t := .boolean) (z := (0 : Int32)) d10_25 rfl (by decide) (by decide) (by decide) (by decide) ?_
                                            exact Or.inr (⟨rfl, rfl, (fun z => q20 z.2.2.2.2.2.2.2.2.2.2.2.2.2.2.2.2.2.2.2.2.1)⟩)
                                        · skip
                                          refine go_icmpN C 24 d10_21 rfl (feq q19).1 ?_
                                          refine go_iconst C 25 (0 : Int32) d10_24 rfl (by decide) ?_
                                          refine go_retN C (t := .boolean) (z := (0 : Int32)) d10_25 rfl (by decide) (by decide) (by decide) (by decide) ?_
                                          exact Or.inr (⟨rfl, rfl, (fun z => q19 z.2.2.2.2.2.2.2.2.2.2.2.2.2.2.2.2.2.2.2.1)⟩)
                                      · skip
                                        refine go_icmpN C 24 d10_21 rfl (feq q18).1 ?_
                                        refine go_iconst C 25 (0 : Int32) d10_24 rfl (by decide) ?_
                                        refine go_retN C (t := .boolean) (z := (0 : Int32)) d10_25 rfl (by decide) (by decide) (by decide) (by decide) ?_
                                        exact Or.inr (⟨rfl, rfl, (fun z => q18 z.2.2.2.2.2.2.2.2.2.2.2.2.2.2.2.2.2.2.1)⟩)
                                    · skip
                                      refine go_icmpN C 24 d10_21 rfl (feq q17).1 ?_
                                      refine go_iconst C 25 (0 : Int32) d10_24 rfl (by decide) ?_
                                      refine go_retN C (t := .boolean) (z := (0 : Int32)) d10_25 rfl (by decide) (by decide) (by decide) (by decide) ?_
                                      exact Or.inr (⟨rfl, rfl, (fun z => q17 z.2.2.2.2.2.2.2.2.2.2.2.2.2.2.2.2.2.1)⟩)
                                  · skip
                                    refine go_icmpN C 24 d10_21 rfl (feq q16).1 ?_
                                    refine go_iconst C 25 (0 : Int32) d10_24 rfl (by decide) ?_
                                    refine go_retN C (t := .boolean) (z := (0 : Int32)) d10_25 rfl (by decide) (by decide) (by decide) (by decide) ?_
                                    exact Or.inr (⟨rfl, rfl, (fun z => q16 z.2.2.2.2.2.2.2.2.2.2.2.2.2.2.2.2.1)⟩)
                                · skip
                                  refine go_icmpN C 24 d10_21 rfl (feq q15).1 ?_
                                  refine go_iconst C 25 (0 : Int32) d10_24 rfl (by decide) ?_
                                  refine go_retN C (t := .boolean) (z := (0 : Int32)) d10_25 rfl (by decide) (by decide) (by decide) (by decide) ?_
                                  exact Or.inr (⟨rfl, rfl, (fun z => q15 z.2.2.2.2.2.2.2.2.2.2.2.2.2.2.2.1)⟩)
                              · skip
                                refine go_icmpN C 24 d10_21 rfl (feq q14).1 ?_
                                refine go_iconst C 25 (0 : Int32) d10_24 rfl (by decide) ?_
                                refine go_retN C (t := .boolean) (z := (0 : Int32)) d10_25 rfl (by decide) (by decide) (by decide) (by decide) ?_
                                exact Or.inr (⟨rfl, rfl, (fun z => q14 z.2.2.2.2.2.2.2.2.2.2.2.2.2.2.1)⟩)
                            · skip
                              refine go_icmpN C 24 d10_21 rfl (feq q13).1 ?_
                              refine go_iconst C 25 (0 : Int32) d10_24 rfl (by decide) ?_
                              refine go_retN C (t := .boolean) (z := (0 : Int32)) d10_25 rfl (by decide) (by decide) (by decide) (by decide) ?_
                              exact Or.inr (⟨rfl, rfl, (fun z => q13 z.2.2.2.2.2.2.2.2.2.2.2.2.2.1)⟩)
                          · skip
                            refine go_icmpN C 24 d10_21 rfl (feq q12).1 ?_
                            refine go_iconst C 25 (0 : Int32) d10_24 rfl (by decide) ?_
                            refine go_retN C (t := .boolean) (z := (0 : Int32)) d10_25 rfl (by decide) (by decide) (by decide) (by decide) ?_
                            exact Or.inr (⟨rfl, rfl, (fun z => q12 z.2.2.2.2.2.2.2.2.2.2.2.2.1)⟩)
                        · skip
                          refine go_icmpN C 24 d10_21 rfl (feq q11).1 ?_
                          refine go_iconst C 25 (0 : Int32) d10_24 rfl (by decide) ?_
                          refine go_retN C (t := .boolean) (z := (0 : Int32)) d10_25 rfl (by decide) (by decide) (by decide) (by decide) ?_
                          exact Or.inr (⟨rfl, rfl, (fun z => q11 z.2.2.2.2.2.2.2.2.2.2.2.1)⟩)
                      · skip
                        refine go_icmpN C 24 d10_21 rfl (feq q10).1 ?_
                        refine go_iconst C 25 (0 : Int32) d10_24 rfl (by decide) ?_
                        refine go_retN C (t := .boolean) (z := (0 : Int32)) d10_25 rfl (by decide) (by decide) (by decide) (by decide) ?_
                        exact Or.inr (⟨rfl, rfl, (fun z => q10 z.2.2.2.2.2.2.2.2.2.2.1)⟩)
                    · skip
                      refine go_icmpN C 24 d10_21 rfl (feq q9).1 ?_
                      refine go_iconst C 25 (0 : Int32) d10_24 rfl (by decide) ?_
                      refine go_retN C (t := .boolean) (z := (0 : Int32)) d10_25 rfl (by decide) (by decide) (by decide) (by decide) ?_
                      exact Or.inr (⟨rfl, rfl, (fun z => q9 z.2.2.2.2.2.2.2.2.2.1)⟩)
                  · skip
                    refine go_icmpN C 24 d10_21 rfl (feq q8).1 ?_
                    refine go_iconst C 25 (0 : Int32) d10_24 rfl (by decide) ?_
                    refine go_retN C (t := .boolean) (z := (0 : Int32)) d10_25 rfl (by decide) (by decide) (by decide) (by decide) ?_
                    exact Or.inr (⟨rfl, rfl, (fun z => q8 z.2.2.2.2.2.2.2.2.1)⟩)
                · skip
                  refine go_icmpN C 24 d10_21 rfl (feq q7).1 ?_
                  refine go_iconst C 25 (0 : Int32) d10_24 rfl (by decide) ?_
                  refine go_retN C (t := .boolean) (z := (0 : Int32)) d10_25 rfl (by decide) (by decide) (by decide) (by decide) ?_
                  exact Or.inr (⟨rfl, rfl, (fun z => q7 z.2.2.2.2.2.2.2.1)⟩)
              · skip
                refine go_icmpN C 24 d10_21 rfl (feq q6).1 ?_
                refine go_iconst C 25 (0 : Int32) d10_24 rfl (by decide) ?_
                refine go_retN C (t := .boolean) (z := (0 : Int32)) d10_25 rfl (by decide) (by decide) (by decide) (by decide) ?_
                exact Or.inr (⟨rfl, rfl, (fun z => q6 z.2.2.2.2.2.2.1)⟩)
            · skip
              refine go_icmpN C 24 d10_21 rfl (feq q5).1 ?_
              refine go_iconst C 25 (0 : Int32) d10_24 rfl (by decide) ?_
              refine go_retN C (t := .boolean) (z := (0 : Int32)) d10_25 rfl (by decide) (by decide) (by decide) (by decide) ?_
              exact Or.inr (⟨rfl, rfl, (fun z => q5 z.2.2.2.2.2.1)⟩)
          · skip
            refine go_icmpN C 24 d10_21 rfl (feq q4).1 ?_
            refine go_iconst C 25 (0 : Int32) d10_24 rfl (by decide) ?_
            refine go_retN C (t := .boolean) (z := (0 : Int32)) d10_25 rfl (by decide) (by decide) (by decide) (by decide) ?_
            exact Or.inr (⟨rfl, rfl, (fun z => q4 z.2.2.2.2.1)⟩)
        · skip
          refine go_icmpN C 24 d10_21 rfl (feq q3).1 ?_
          refine go_iconst C 25 (0 : Int32) d10_24 rfl (by decide) ?_
          refine go_retN C (t := .boolean) (z := (0 : Int32)) d10_25 rfl (by decide) (by decide) (by decide) (by decide) ?_
          exact Or.inr (⟨rfl, rfl, (fun z => q3 z.2.2.2.1)⟩)
      · skip
        refine go_icmpN C 24 d10_21 rfl (feq q2).1 ?_
        refine go_iconst C 25 (0 : Int32) d10_24 rfl (by decide) ?_
        refine go_retN C (t := .boolean) (z := (0 : Int32)) d10_25 rfl (by decide) (by decide) (by decide) (by decide) ?_
        exact Or.inr (⟨rfl, rfl, (fun z => q2 z.2.2.1)⟩)
    · skip
      refine go_icmpN C 24 d10_21 rfl (feq q1).1 ?_
      refine go_iconst C 25 (0 : Int32) d10_24 rfl (by decide) ?_
      refine go_retN C (t := .boolean) (z := (0 : Int32)) d10_25 rfl (by decide) (by decide) (by decide) (by decide) ?_
      exact Or.inr (⟨rfl, rfl, (fun z => q1 z.2.1)⟩)
  · skip
    refine go_icmpN C 24 d10_21 rfl (feq q0).1 ?_
    refine go_iconst C 25 (0 : Int32) d10_24 rfl (by decide) ?_
    refine go_retN C (t := .boolean) (z := (0 : Int32)) d10_25 rfl (by decide) (by decide) (by decide) (by decide) ?_
    exact Or.inr (⟨rfl, rfl, (fun z => q0 z.1)⟩)
theorem ct_eq23 (l : Launch) (Z : State) (a0 : Array Value) (hw : HW a0 Z) {cS : Int32} {m1 : Addr} {m2 : Addr} (am : Amb Z a0 cS m1 m2) {a : Addr} {b : Addr} {t : Addr} {u : Addr} {kt : ClassId} {ku : ClassId} {x0 : Int32} {x1 : Int32} {x2 : Int32} {x3 : Int32} {x4 : Int32} {x5 : Int32} {x6 : Int32} {x7 : Int32} {x8 : Int32} {x9 : Int32} {x10 : Int32} {x11 : Int32} {x12 : Int32} {x13 : Int32} {x14 : Int32} {x15 : Int32} {x16 : Int32} {x17 : Int32} {x18 : Int32} {x19 : Int32} {x20 : Int32} {x21 : Int32} {x22 : Int32} {h0 : Heap} (p0 : Exa Z h0 a "java/lang/String") (p1 : Fld Z h0 a "java/lang/String" "coder" "B" (.int 0)) (p2 : Fld Z h0 a "java/lang/String" "value" "[B" (.ref t)) (p3 : Arv Z h0 t kt .byte (23 : Int32) [(.int 106), (.int 97), (.int 118), (.int 97), (.int 120), (.int 46), (.int 115), (.int 101), (.int 99), (.int 117), (.int 114), (.int 105), (.int 116), (.int 121), (.int 46), (.int 115), (.int 97), (.int 115), (.int 108), (.int 46), (.int 113), (.int 111), (.int 112)] (.int 0)) (p4 : Exa Z h0 b "java/lang/String") (p5 : Fld Z h0 b "java/lang/String" "coder" "B" (.int 0)) (p6 : Fld Z h0 b "java/lang/String" "value" "[B" (.ref u)) (p7 : Arv Z h0 u ku .byte (23 : Int32) [(.int x0), (.int x1), (.int x2), (.int x3), (.int x4), (.int x5), (.int x6), (.int x7), (.int x8), (.int x9), (.int x10), (.int x11), (.int x12), (.int x13), (.int x14), (.int x15), (.int x16), (.int x17), (.int x18), (.int x19), (.int x20), (.int x21), (.int x22)] (.int 0)) (hab : a ≠ b) :
    Py l Z (⟨"java/lang/String", "equals", "(Ljava/lang/Object;)Z"⟩ : MethodName) 2 28 0 0 #[(.ref a), (.ref b)] h0 [] (fun rv h' => (rv = some (.int 1) ∧ h' = h0 ∧ ((106 : Int32) = x0 ∧ (97 : Int32) = x1 ∧ (118 : Int32) = x2 ∧ (97 : Int32) = x3 ∧ (120 : Int32) = x4 ∧ (46 : Int32) = x5 ∧ (115 : Int32) = x6 ∧ (101 : Int32) = x7 ∧ (99 : Int32) = x8 ∧ (117 : Int32) = x9 ∧ (114 : Int32) = x10 ∧ (105 : Int32) = x11 ∧ (116 : Int32) = x12 ∧ (121 : Int32) = x13 ∧ (46 : Int32) = x14 ∧ (115 : Int32) = x15 ∧ (97 : Int32) = x16 ∧ (115 : Int32) = x17 ∧ (108 : Int32) = x18 ∧ (46 : Int32) = x19 ∧ (113 : Int32) = x20 ∧ (111 : Int32) = x21 ∧ (112 : Int32) = x22)) ∨ (rv = some (.int 0) ∧ h' = h0 ∧ (¬ ((106 : Int32) = x0 ∧ (97 : Int32) = x1 ∧ (118 : Int32) = x2 ∧ (97 : Int32) = x3 ∧ (120 : Int32) = x4 ∧ (46 : Int32) = x5 ∧ (115 : Int32) = x6 ∧ (101 : Int32) = x7 ∧ (99 : Int32) = x8 ∧ (117 : Int32) = x9 ∧ (114 : Int32) = x10 ∧ (105 : Int32) = x11 ∧ (116 : Int32) = x12 ∧ (121 : Int32) = x13 ∧ (46 : Int32) = x14 ∧ (115 : Int32) = x15 ∧ (97 : Int32) = x16 ∧ (115 : Int32) = x17 ∧ (108 : Int32) = x18 ∧ (46 : Int32) = x19 ∧ (113 : Int32) = x20 ∧ (111 : Int32) = x21 ∧ (112 : Int32) = x22)))) := by
  refine Ct.py (by0 := jdk_42_method_66_code) (ml := 3) (rt := (some .boolean)) (rm := ({ frames := 1, cells := 0, slots := 0, locals := 14 } : Room)) ?_ (hq hw 49 rfl) (hq hw 5 rfl)
  refine Ct.mk (a0 := a0) (Ls := #[.val (.ref a), .val (.ref b), .unset]) (plainFor_of_name pn_java_lang_String) (fun m => by first | (simp [entryFrame, mkF, argsToLocals, Value.category]; done) | rfl) ?_
  intro κ C
  show Go l _ Z _ _ _ κ [] h0 0 #[.val (.ref a), .val (.ref b), .unset] [] 0 0
  refine go_aloadN C 1 d9_0 rfl rfl rfl ?_
  refine go_aloadN C 2 d9_1 rfl rfl rfl ?_
  refine go_acmp C (b := false) (pc' := 7) d9_2 rfl rfl (decide_eq_false fun q => hab (Value.ref.inj q)) (by decide) (by decide) ?_
  refine go_aloadN C 8 d9_7 rfl rfl rfl ?_
  refine go_instY C 11 d9_8 rfl (hq hw 50 rfl) (Ins.self p4) ?_
  refine go_ifN C 14 d9_11 rfl (feq ((by decide) : ¬ ((1 : Int32) = (0 : Int32)))).1 ?_
  refine go_aloadN C 15 d9_14 rfl rfl rfl ?_
  refine go_cast C 18 d9_15 rfl (hq hw 50 rfl) (Ins.self p4) ?_
  refine go_astoreN C 19 (Ls' := #[.val (.ref a), .val (.ref b), .val (.ref b)]) d9_18 rfl rfl rfl ?_
  refine go_getS C 22 d9_19 rfl (hq hw 21 rfl) am.2.1 ?_
  refine go_ifN C 25 d9_22 rfl (feq (am.2.2.1 : ¬ (cS = (0 : Int32)))).1 ?_
  refine go_aloadN C 26 d9_25 rfl rfl rfl ?_
  refine go_getF C 29 d9_26 rfl (hq hw 33 rfl) Via.refl p1 ?_
  refine go_aloadN C 30 d9_29 rfl rfl rfl ?_
  refine go_getF C 33 d9_30 rfl (hq hw 33 rfl) Via.refl p5 ?_
  refine go_icmpN C 36 d9_33 rfl (teq ((by decide) : (0 : Int32) = (0 : Int32))).2 ?_
  refine go_aloadN C 37 d9_36 rfl rfl rfl ?_
  refine go_getF C 40 d9_37 rfl (hq hw 35 rfl) Via.refl p2 ?_
  refine go_aloadN C 41 d9_40 rfl rfl rfl ?_
  refine go_getF C 44 d9_41 rfl (hq hw 35 rfl) Via.refl p6 ?_
  refine go_callS C (argsL := [(.ref t), (.ref u)]) (W := 0) d9_44 (hq hw 51 rfl) (hq hw 52 rfl) (hq hw 53 rfl) (hq hw 54 rfl) (by decide) pd___B_B_Z (ct_leq23 l Z a0 hw am (t := t) (u := u) (kt := kt) (ku := ku) (x0 := x0) (x1 := x1) (x2 := x2) (x3 := x3) (x4 := x4) (x5 := x5) (x6 := x6) (x7 := x7) (x8 := x8) (x9 := x9) (x10 := x10) (x11 := x11) (x12 := x12) (x13 := x13) (x14 := x14) (x15 := x15) (x16 := x16) (x17 := x17) (x18 := x18) (x19 := x19) (x20 := x20) (x21 := x21) (x22 := x22) p3 p7) rfl (by decide) (Nat.le_of_eq rfl) (by decide) rfl (by decide) (by decide) mems0 ?_
  intro fv1 h2 K3 fq4
  rcases fq4 with ⟨rfl, rfl, fx5⟩ | ⟨rfl, rfl, fx6⟩
  · skip
    refine ⟨[], fresh0, ?_⟩
    show Go l _ Z _ _ _ κ _ _ 47 _ [(.int 1)] 0 0
    refine go_ifN C 50 d9_47 rfl (feq ((by decide) : ¬ ((1 : Int32) = (0 : Int32)))).1 ?_
    refine go_iconst C 51 (1 : Int32) d9_50 rfl (by decide) ?_
    refine go_goto C (pc' := 55) d9_51 (by decide) (by decide) ?_
    refine go_retN C (t := .boolean) (z := (1 : Int32)) d9_55 rfl (by decide) (by decide) (by decide) (by decide) ?_
    exact Or.inl ⟨rfl, rfl, fx5⟩
  · skip
    refine ⟨[], fresh0, ?_⟩
    show Go l _ Z _ _ _ κ _ _ 47 _ [(.int 0)] 0 0
    refine go_ifY C (pc' := 54) d9_47 (teq ((by decide) : (0 : Int32) = (0 : Int32))).1 (by decide) (by decide) ?_
    refine go_iconst C 55 (0 : Int32) d9_54 rfl (by decide) ?_
    refine go_retN C (t := .boolean) (z := (0 : Int32)) d9_55 rfl (by decide) (by decide) (by decide) (by decide) ?_
    exact Or.inr (⟨rfl, rfl, fx6⟩)
theorem ct_leqN (l : Launch) (Z : State) (a0 : Array Value) (hw : HW a0 Z) {cS : Int32} {m1 : Addr} {m2 : Addr} (am : Amb Z a0 cS m1 m2) {t : Addr} {u : Addr} {kt : ClassId} {ku : ClassId} {vs : List Value} {us : List Value} {n : Int32} {h0 : Heap} (p0 : Arv Z h0 t kt .byte (23 : Int32) vs (.int 0)) (p1 : Arv Z h0 u ku .byte n us (.int 0)) (hn : ¬ ((23 : Int32) = n)) :
    Py l Z (⟨"java/lang/StringLatin1", "equals", "([B[B)Z"⟩ : MethodName) 1 14 0 0 #[(.ref t), (.ref u)] h0 [] (fun rv h' => rv = some (.int 0) ∧ h' = h0) := by
  refine Ct.py (by0 := jdk_43_method_13_code) (ml := 3) (rt := (some .boolean)) (rm := ({ frames := 0, cells := 0, slots := 0, locals := 0 } : Room)) ?_ (hq hw 54 rfl) (hq hw 53 rfl)
  refine Ct.mk (a0 := a0) (Ls := #[.val (.ref t), .val (.ref u), .unset]) (plainFor_of_name pn_java_lang_StringLatin1) (fun m => by first | (simp [entryFrame, mkF, argsToLocals, Value.category]; done) | rfl) ?_
  intro κ C
  show Go l _ Z _ _ _ κ [] h0 0 #[.val (.ref t), .val (.ref u), .unset] [] 0 0
  refine go_aloadN C 1 d10_0 rfl rfl rfl ?_
  refine go_arraylength C 2 d10_1 rfl p0 ?_
  refine go_aloadN C 3 d10_2 rfl rfl rfl ?_
  refine go_arraylength C 4 d10_3 rfl p1 ?_
  refine go_icmpY C (pc' := 34) d10_4 (feq (hn : ¬ ((23 : Int32) = n))).2 (by decide) (by decide) ?_
  refine go_iconst C 35 (0 : Int32) d10_34 rfl (by decide) ?_
  refine go_retN C (t := .boolean) (z := (0 : Int32)) d10_35 rfl (by decide) (by decide) (by decide) (by decide) ?_
  exact ⟨rfl, rfl⟩
theorem ct_eqN (l : Launch) (Z : State) (a0 : Array Value) (hw : HW a0 Z) {cS : Int32} {m1 : Addr} {m2 : Addr} (am : Amb Z a0 cS m1 m2) {a : Addr} {b : Addr} {t : Addr} {u : Addr} {kt : ClassId} {ku : ClassId} {vs : List Value} {us : List Value} {n : Int32} {h0 : Heap} (p0 : Exa Z h0 a "java/lang/String") (p1 : Fld Z h0 a "java/lang/String" "coder" "B" (.int 0)) (p2 : Fld Z h0 a "java/lang/String" "value" "[B" (.ref t)) (p3 : Arv Z h0 t kt .byte (23 : Int32) vs (.int 0)) (p4 : Exa Z h0 b "java/lang/String") (p5 : Fld Z h0 b "java/lang/String" "coder" "B" (.int 0)) (p6 : Fld Z h0 b "java/lang/String" "value" "[B" (.ref u)) (p7 : Arv Z h0 u ku .byte n us (.int 0)) (hab : a ≠ b) (hn : ¬ ((23 : Int32) = n)) :
    Py l Z (⟨"java/lang/String", "equals", "(Ljava/lang/Object;)Z"⟩ : MethodName) 2 28 0 0 #[(.ref a), (.ref b)] h0 [] (fun rv h' => rv = some (.int 0) ∧ h' = h0) := by
  refine Ct.py (by0 := jdk_42_method_66_code) (ml := 3) (rt := (some .boolean)) (rm := ({ frames := 1, cells := 0, slots := 0, locals := 14 } : Room)) ?_ (hq hw 49 rfl) (hq hw 5 rfl)
  refine Ct.mk (a0 := a0) (Ls := #[.val (.ref a), .val (.ref b), .unset]) (plainFor_of_name pn_java_lang_String) (fun m => by first | (simp [entryFrame, mkF, argsToLocals, Value.category]; done) | rfl) ?_
  intro κ C
  show Go l _ Z _ _ _ κ [] h0 0 #[.val (.ref a), .val (.ref b), .unset] [] 0 0
  refine go_aloadN C 1 d9_0 rfl rfl rfl ?_
  refine go_aloadN C 2 d9_1 rfl rfl rfl ?_
  refine go_acmp C (b := false) (pc' := 7) d9_2 rfl rfl (decide_eq_false fun q => hab (Value.ref.inj q)) (by decide) (by decide) ?_
  refine go_aloadN C 8 d9_7 rfl rfl rfl ?_
  refine go_instY C 11 d9_8 rfl (hq hw 50 rfl) (Ins.self p4) ?_
  refine go_ifN C 14 d9_11 rfl (feq ((by decide) : ¬ ((1 : Int32) = (0 : Int32)))).1 ?_
  refine go_aloadN C 15 d9_14 rfl rfl rfl ?_
  refine go_cast C 18 d9_15 rfl (hq hw 50 rfl) (Ins.self p4) ?_
  refine go_astoreN C 19 (Ls' := #[.val (.ref a), .val (.ref b), .val (.ref b)]) d9_18 rfl rfl rfl ?_
  refine go_getS C 22 d9_19 rfl (hq hw 21 rfl) am.2.1 ?_
  refine go_ifN C 25 d9_22 rfl (feq (am.2.2.1 : ¬ (cS = (0 : Int32)))).1 ?_
  refine go_aloadN C 26 d9_25 rfl rfl rfl ?_
  refine go_getF C 29 d9_26 rfl (hq hw 33 rfl) Via.refl p1 ?_
  refine go_aloadN C 30 d9_29 rfl rfl rfl ?_
  refine go_getF C 33 d9_30 rfl (hq hw 33 rfl) Via.refl p5 ?_
  refine go_icmpN C 36 d9_33 rfl (teq ((by decide) : (0 : Int32) = (0 : Int32))).2 ?_
  refine go_aloadN C 37 d9_36 rfl rfl rfl ?_
  refine go_getF C 40 d9_37 rfl (hq hw 35 rfl) Via.refl p2 ?_
  refine go_aloadN C 41 d9_40 rfl rfl rfl ?_
  refine go_getF C 44 d9_41 rfl (hq hw 35 rfl) Via.refl p6 ?_
  refine go_callS C (argsL := [(.ref t), (.ref u)]) (W := 0) d9_44 (hq hw 51 rfl) (hq hw 52 rfl) (hq hw 53 rfl) (hq hw 54 rfl) (by decide) pd___B_B_Z (ct_leqN l Z a0 hw am (t := t) (u := u) (kt := kt) (ku := ku) (vs := vs) (us := us) (n := n) p3 p7 hn) rfl (by decide) (Nat.le_of_eq rfl) (by decide) rfl (by decide) (by decide) mems0 ?_
  intro fv1 h2 K3 fq4
  obtain ⟨rfl, rfl⟩ := fq4
  refine ⟨[], fresh0, ?_⟩
  show Go l _ Z _ _ _ κ _ _ 47 _ [(.int 0)] 0 0
  refine go_ifY C (pc' := 54) d9_47 (teq ((by decide) : (0 : Int32) = (0 : Int32))).1 (by decide) (by decide) ?_
  refine go_iconst C 55 (0 : Int32) d9_54 rfl (by decide) ?_
  refine go_retN C (t := .boolean) (z := (0 : Int32)) d9_55 rfl (by decide) (by decide) (by decide) (by decide) ?_
  exact ⟨rfl, rfl⟩
theorem ct_eqnull (l : Launch) (Z : State) (a0 : Array Value) (hw : HW a0 Z) {cS : Int32} {m1 : Addr} {m2 : Addr} (am : Amb Z a0 cS m1 m2) {a : Addr} {h0 : Heap} :
    Py l Z (⟨"java/lang/String", "equals", "(Ljava/lang/Object;)Z"⟩ : MethodName) 1 14 0 0 #[(.ref a), .null] h0 [] (fun rv h' => rv = some (.int 0) ∧ h' = h0) := by
  refine Ct.py (by0 := jdk_42_method_66_code) (ml := 3) (rt := (some .boolean)) (rm := ({ frames := 0, cells := 0, slots := 0, locals := 0 } : Room)) ?_ (hq hw 49 rfl) (hq hw 5 rfl)
  refine Ct.mk (a0 := a0) (Ls := #[.val (.ref a), .val .null, .unset]) (plainFor_of_name pn_java_lang_String) (fun m => by first | (simp [entryFrame, mkF, argsToLocals, Value.category]; done) | rfl) ?_
  intro κ C
  show Go l _ Z _ _ _ κ [] h0 0 #[.val (.ref a), .val .null, .unset] [] 0 0
  refine go_aloadN C 1 d9_0 rfl rfl rfl ?_
  refine go_aloadN C 2 d9_1 rfl rfl rfl ?_
  refine go_acmp C (b := false) (pc' := 7) d9_2 rfl rfl (decide_eq_false nofun) (by decide) (by decide) ?_
  refine go_aloadN C 8 d9_7 rfl rfl rfl ?_
  refine go_instNull C 11 d9_8 rfl ?_
  refine go_ifY C (pc' := 54) d9_11 (teq ((by decide) : (0 : Int32) = (0 : Int32))).1 (by decide) (by decide) ?_
  refine go_iconst C 55 (0 : Int32) d9_54 rfl (by decide) ?_
  refine go_retN C (t := .boolean) (z := (0 : Int32)) d9_55 rfl (by decide) (by decide) (by decide) (by decide) ?_
  exact ⟨rfl, rfl⟩
theorem ct_leq4 (l : Launch) (Z : State) (a0 : Array Value) (hw : HW a0 Z) {cS : Int32} {m1 : Addr} {m2 : Addr} (am : Amb Z a0 cS m1 m2) {t : Addr} {u : Addr} {kt : ClassId} {ku : ClassId} {x0 : Int32} {x1 : Int32} {x2 : Int32} {x3 : Int32} {y0 : Int32} {y1 : Int32} {y2 : Int32} {y3 : Int32} {h0 : Heap} (p0 : Arv Z h0 t kt .byte (4 : Int32) [(.int x0), (.int x1), (.int x2), (.int x3)] (.int 0)) (p1 : Arv Z h0 u ku .byte (4 : Int32) [(.int y0), (.int y1), (.int y2), (.int y3)] (.int 0)) (e0 : x0 = y0) (e1 : x1 = y1) (e2 : x2 = y2) (e3 : x3 = y3) :
    Py l Z (⟨"java/lang/StringLatin1", "equals", "([B[B)Z"⟩ : MethodName) 1 14 0 0 #[(.ref t), (.ref u)] h0 [] (fun rv h' => rv = some (.int 1) ∧ h' = h0) := by
  refine Ct.py (by0 := jdk_43_method_13_code) (ml := 3) (rt := (some .boolean)) (rm := ({ frames := 0, cells := 0, slots := 0, locals := 0 } : Room)) ?_ (hq hw 54 rfl) (hq hw 53 rfl)
  refine Ct.mk (a0 := a0) (Ls := #[.val (.ref t), .val (.ref u), .unset]) (plainFor_of_name pn_java_lang_StringLatin1) (fun m => by first | (simp [entryFrame, mkF, argsToLocals, Value.category]; done) | rfl) ?_
  intro κ C
  show Go l _ Z _ _ _ κ [] h0 0 #[.val (.ref t), .val (.ref u), .unset] [] 0 0
  refine go_aloadN C 1 d10_0 rfl rfl rfl ?_
  refine go_arraylength C 2 d10_1 rfl p0 ?_
  refine go_aloadN C 3 d10_2 rfl rfl rfl ?_
  refine go_arraylength C 4 d10_3 rfl p1 ?_
  refine go_icmpN C 7 d10_4 rfl (teq ((by decide) : (4 : Int32) = (4 : Int32))).2 ?_
  refine go_iconst C 8 (0 : Int32) d10_7 rfl (by decide) ?_
  refine go_istoreN C 9 (Ls' := #[.val (.ref t), .val (.ref u), .val (.int 0)]) d10_8 rfl rfl ?_
  refine go_iloadN C 10 d10_9 rfl rfl ?_
  refine go_aloadN C 11 d10_10 rfl rfl rfl ?_
  refine go_arraylength C 12 d10_11 rfl p0 ?_
  refine go_icmpN C 15 d10_12 rfl (tlt ((by decide) : (0 : Int32) < (4 : Int32))).2.1 ?_
  refine go_aloadN C 16 d10_15 rfl rfl rfl ?_
  refine go_iloadN C 17 d10_16 rfl rfl ?_
  refine go_baload C 18 (v := (.int x0)) d10_17 rfl p0 (by decide) rfl ?_
  refine go_aloadN C 19 d10_18 rfl rfl rfl ?_
  refine go_iloadN C 20 d10_19 rfl rfl ?_
  refine go_baload C 21 (v := (.int y0)) d10_20 rfl p1 (by decide) rfl ?_
  refine go_icmpY C (pc' := 26) d10_21 (teq (e0 : x0 = y0)).1 (by decide) (by decide) ?_
  refine go_iinc C 29 (Ls' := #[.val (.ref t), .val (.ref u), .val (.int 1)]) (1 : Int32) d10_26 rfl (by decide) rfl rfl ?_
  refine go_goto C (pc' := 9) d10_29 (by decide) (by decide) ?_
  refine go_iloadN C 10 d10_9 rfl rfl ?_
  refine go_aloadN C 11 d10_10 rfl rfl rfl ?_
  refine go_arraylength C 12 d10_11 rfl p0 ?_
  refine go_icmpN C 15 d10_12 rfl (tlt ((by decide) : (1 : Int32) < (4 : Int32))).2.1 ?_
  refine go_aloadN C 16 d10_15 rfl rfl rfl ?_
  refine go_iloadN C 17 d10_16 rfl rfl ?_
  refine go_baload C 18 (v := (.int x1)) d10_17 rfl p0 (by decide) rfl ?_
  refine go_aloadN C 19 d10_18 rfl rfl rfl ?_
  refine go_iloadN C 20 d10_19 rfl rfl ?_
  refine go_baload C 21 (v := (.int y1)) d10_20 rfl p1 (by decide) rfl ?_
  refine go_icmpY C (pc' := 26) d10_21 (teq (e1 : x1 = y1)).1 (by decide) (by decide) ?_
  refine go_iinc C 29 (Ls' := #[.val (.ref t), .val (.ref u), .val (.int 2)]) (1 : Int32) d10_26 rfl (by decide) rfl rfl ?_
  refine go_goto C (pc' := 9) d10_29 (by decide) (by decide) ?_
  refine go_iloadN C 10 d10_9 rfl rfl ?_
  refine go_aloadN C 11 d10_10 rfl rfl rfl ?_
  refine go_arraylength C 12 d10_11 rfl p0 ?_
  refine go_icmpN C 15 d10_12 rfl (tlt ((by decide) : (2 : Int32) < (4 : Int32))).2.1 ?_
  refine go_aloadN C 16 d10_15 rfl rfl rfl ?_
  refine go_iloadN C 17 d10_16 rfl rfl ?_
  refine go_baload C 18 (v := (.int x2)) d10_17 rfl p0 (by decide) rfl ?_
  refine go_aloadN C 19 d10_18 rfl rfl rfl ?_
  refine go_iloadN C 20 d10_19 rfl rfl ?_
  refine go_baload C 21 (v := (.int y2)) d10_20 rfl p1 (by decide) rfl ?_
  refine go_icmpY C (pc' := 26) d10_21 (teq (e2 : x2 = y2)).1 (by decide) (by decide) ?_
  refine go_iinc C 29 (Ls' := #[.val (.ref t), .val (.ref u), .val (.int 3)]) (1 : Int32) d10_26 rfl (by decide) rfl rfl ?_
  refine go_goto C (pc' := 9) d10_29 (by decide) (by decide) ?_
  refine go_iloadN C 10 d10_9 rfl rfl ?_
  refine go_aloadN C 11 d10_10 rfl rfl rfl ?_
  refine go_arraylength C 12 d10_11 rfl p0 ?_
  refine go_icmpN C 15 d10_12 rfl (tlt ((by decide) : (3 : Int32) < (4 : Int32))).2.1 ?_
  refine go_aloadN C 16 d10_15 rfl rfl rfl ?_
  refine go_iloadN C 17 d10_16 rfl rfl ?_
  refine go_baload C 18 (v := (.int x3)) d10_17 rfl p0 (by decide) rfl ?_
  refine go_aloadN C 19 d10_18 rfl rfl rfl ?_
  refine go_iloadN C 20 d10_19 rfl rfl ?_
  refine go_baload C 21 (v := (.int y3)) d10_20 rfl p1 (by decide) rfl ?_
  refine go_icmpY C (pc' := 26) d10_21 (teq (e3 : x3 = y3)).1 (by decide) (by decide) ?_
  refine go_iinc C 29 (Ls' := #[.val (.ref t), .val (.ref u), .val (.int 4)]) (1 : Int32) d10_26 rfl (by decide) rfl rfl ?_
  refine go_goto C (pc' := 9) d10_29 (by decide) (by decide) ?_
  refine go_iloadN C 10 d10_9 rfl rfl ?_
  refine go_aloadN C 11 d10_10 rfl rfl rfl ?_
  refine go_arraylength C 12 d10_11 rfl p0 ?_
  refine go_icmpY C (pc' := 32) d10_12 (flt ((by decide) : ¬ ((4 : Int32) < (4 : Int32)))).2.1 (by decide) (by decide) ?_
  refine go_iconst C 33 (1 : Int32) d10_32 rfl (by decide) ?_
  refine go_retN C (t := .boolean) (z := (1 : Int32)) d10_33 rfl (by decide) (by decide) (by decide) (by decide) ?_
  exact ⟨rfl, rfl⟩
theorem ct_eq4 (l : Launch) (Z : State) (a0 : Array Value) (hw : HW a0 Z) {cS : Int32} {m1 : Addr} {m2 : Addr} (am : Amb Z a0 cS m1 m2) {a : Addr} {b : Addr} {t : Addr} {u : Addr} {kt : ClassId} {ku : ClassId} {x0 : Int32} {x1 : Int32} {x2 : Int32} {x3 : Int32} {y0 : Int32} {y1 : Int32} {y2 : Int32} {y3 : Int32} {h0 : Heap} (p0 : Exa Z h0 a "java/lang/String") (p1 : Fld Z h0 a "java/lang/String" "coder" "B" (.int 0)) (p2 : Fld Z h0 a "java/lang/String" "value" "[B" (.ref t)) (p3 : Arv Z h0 t kt .byte (4 : Int32) [(.int x0), (.int x1), (.int x2), (.int x3)] (.int 0)) (p4 : Exa Z h0 b "java/lang/String") (p5 : Fld Z h0 b "java/lang/String" "coder" "B" (.int 0)) (p6 : Fld Z h0 b "java/lang/String" "value" "[B" (.ref u)) (p7 : Arv Z h0 u ku .byte (4 : Int32) [(.int y0), (.int y1), (.int y2), (.int y3)] (.int 0)) (e0 : x0 = y0) (e1 : x1 = y1) (e2 : x2 = y2) (e3 : x3 = y3) :
    Py l Z (⟨"java/lang/String", "equals", "(Ljava/lang/Object;)Z"⟩ : MethodName) 2 28 0 0 #[(.ref a), (.ref b)] h0 [] (fun rv h' => rv = some (.int 1) ∧ h' = h0) := by
  refine Ct.py (by0 := jdk_42_method_66_code) (ml := 3) (rt := (some .boolean)) (rm := ({ frames := 1, cells := 0, slots := 0, locals := 14 } : Room)) ?_ (hq hw 49 rfl) (hq hw 5 rfl)
  refine Ct.mk (a0 := a0) (Ls := #[.val (.ref a), .val (.ref b), .unset]) (plainFor_of_name pn_java_lang_String) (fun m => by first | (simp [entryFrame, mkF, argsToLocals, Value.category]; done) | rfl) ?_
  intro κ C
  show Go l _ Z _ _ _ κ [] h0 0 #[.val (.ref a), .val (.ref b), .unset] [] 0 0
  refine go_aloadN C 1 d9_0 rfl rfl rfl ?_
  refine go_aloadN C 2 d9_1 rfl rfl rfl ?_
  by_cases ha1 : a = b
  · skip
    refine go_acmp C (b := true) (pc' := 5) d9_2 rfl rfl (decide_eq_true (congrArg Value.ref ha1)) (by decide) (by decide) ?_
    refine go_iconst C 6 (1 : Int32) d9_5 rfl (by decide) ?_
    refine go_retN C (t := .boolean) (z := (1 : Int32)) d9_6 rfl (by decide) (by decide) (by decide) (by decide) ?_
    exact ⟨rfl, rfl⟩
  · skip
    refine go_acmp C (b := false) (pc' := 7) d9_2 rfl rfl (decide_eq_false fun q => ha1 (Value.ref.inj q)) (by decide) (by decide) ?_
    refine go_aloadN C 8 d9_7 rfl rfl rfl ?_
    refine go_instY C 11 d9_8 rfl (hq hw 50 rfl) (Ins.self p4) ?_
    refine go_ifN C 14 d9_11 rfl (feq ((by decide) : ¬ ((1 : Int32) = (0 : Int32)))).1 ?_
    refine go_aloadN C 15 d9_14 rfl rfl rfl ?_
    refine go_cast C 18 d9_15 rfl (hq hw 50 rfl) (Ins.self p4) ?_
    refine go_astoreN C 19 (Ls' := #[.val (.ref a), .val (.ref b), .val (.ref b)]) d9_18 rfl rfl rfl ?_
    refine go_getS C 22 d9_19 rfl (hq hw 21 rfl) am.2.1 ?_
    refine go_ifN C 25 d9_22 rfl (feq (am.2.2.1 : ¬ (cS = (0 : Int32)))).1 ?_
    refine go_aloadN C 26 d9_25 rfl rfl rfl ?_
    refine go_getF C 29 d9_26 rfl (hq hw 33 rfl) Via.refl p1 ?_
    refine go_aloadN C 30 d9_29 rfl rfl rfl ?_
    refine go_getF C 33 d9_30 rfl (hq hw 33 rfl) Via.refl p5 ?_
    refine go_icmpN C 36 d9_33 rfl (teq ((by decide) : (0 : Int32) = (0 : Int32))).2 ?_
    refine go_aloadN C 37 d9_36 rfl rfl rfl ?_
    refine go_getF C 40 d9_37 rfl (hq hw 35 rfl) Via.refl p2 ?_
    refine go_aloadN C 41 d9_40 rfl rfl rfl ?_
    refine go_getF C 44 d9_41 rfl (hq hw 35 rfl) Via.refl p6 ?_
    refine go_callS C (argsL := [(.ref t), (.ref u)]) (W := 0) d9_44 (hq hw 51 rfl) (hq hw 52 rfl) (hq hw 53 rfl) (hq hw 54 rfl) (by decide) pd___B_B_Z (ct_leq4 l Z a0 hw am (t := t) (u := u) (kt := kt) (ku := ku) (x0 := x0) (x1 := x1) (x2 := x2) (x3 := x3) (y0 := y0) (y1 := y1) (y2 := y2) (y3 := y3) p3 p7 e0 e1 e2 e3) rfl (by decide) (Nat.le_of_eq rfl) (by decide) rfl (by decide) (by decide) mems0 ?_
    intro fv2 h3 K4 fq5
    obtain ⟨rfl, rfl⟩ := fq5
    refine ⟨[], fresh0, ?_⟩
    show Go l _ Z _ _ _ κ _ _ 47 _ [(.int 1)] 0 0
    refine go_ifN C 50 d9_47 rfl (feq ((by decide) : ¬ ((1 : Int32) = (0 : Int32)))).1 ?_
    refine go_iconst C 51 (1 : Int32) d9_50 rfl (by decide) ?_
    refine go_goto C (pc' := 55) d9_51 (by decide) (by decide) ?_
    refine go_retN C (t := .boolean) (z := (1 : Int32)) d9_55 rfl (by decide) (by decide) (by decide) (by decide) ?_
    exact ⟨rfl, rfl⟩
theorem ct_np23 (l : Launch) (Z : State) (a0 : Array Value) (hw : HW a0 Z) {cS : Int32} {m1 : Addr} {m2 : Addr} (am : Amb Z a0 cS m1 m2) {m : Addr} {s : Addr} {t : Addr} {kt : ClassId} {x0 : Int32} {x1 : Int32} {x2 : Int32} {x3 : Int32} {x4 : Int32} {x5 : Int32} {x6 : Int32} {x7 : Int32} {x8 : Int32} {x9 : Int32} {x10 : Int32} {x11 : Int32} {x12 : Int32} {x13 : Int32} {x14 : Int32} {x15 : Int32} {x16 : Int32} {x17 : Int32} {x18 : Int32} {x19 : Int32} {x20 : Int32} {x21 : Int32} {x22 : Int32} {h0 : Heap} (p0 : Exa Z h0 s "java/lang/String") (p1 : Fld Z h0 s "java/lang/String" "coder" "B" (.int 0)) (p2 : Fld Z h0 s "java/lang/String" "value" "[B" (.ref t)) (p3 : Arv Z h0 t kt .byte (23 : Int32) [(.int x0), (.int x1), (.int x2), (.int x3), (.int x4), (.int x5), (.int x6), (.int x7), (.int x8), (.int x9), (.int x10), (.int x11), (.int x12), (.int x13), (.int x14), (.int x15), (.int x16), (.int x17), (.int x18), (.int x19), (.int x20), (.int x21), (.int x22)] (.int 0)) :
    PyW l Z consts_1 a0 (⟨"com/example/holdfast/holdfast/sasl/Mechanism", "negotiatedProperty", "(ZLjava/lang/String;)Ljava/lang/Object;"⟩ : MethodName) 3 42 4 116 #[(.ref m), (.int 1), (.ref s)] h0 [s] (fun rv h' => (∃ (a : Addr) (u : Addr) (ku : ClassId), rv = some (.ref a) ∧ Exa Z h' a "java/lang/String" ∧ Fld Z h' a "java/lang/String" "coder" "B" (.int 0) ∧ Fld Z h' a "java/lang/String" "value" "[B" (.ref u) ∧ Arv Z h' u ku .byte (4 : Int32) [(.int 97), (.int 117), (.int 116), (.int 104)] (.int 0) ∧ ((106 : Int32) = x0 ∧ (97 : Int32) = x1 ∧ (118 : Int32) = x2 ∧ (97 : Int32) = x3 ∧ (120 : Int32) = x4 ∧ (46 : Int32) = x5 ∧ (115 : Int32) = x6 ∧ (101 : Int32) = x7 ∧ (99 : Int32) = x8 ∧ (117 : Int32) = x9 ∧ (114 : Int32) = x10 ∧ (105 : Int32) = x11 ∧ (116 : Int32) = x12 ∧ (121 : Int32) = x13 ∧ (46 : Int32) = x14 ∧ (115 : Int32) = x15 ∧ (97 : Int32) = x16 ∧ (115 : Int32) = x17 ∧ (108 : Int32) = x18 ∧ (46 : Int32) = x19 ∧ (113 : Int32) = x20 ∧ (111 : Int32) = x21 ∧ (112 : Int32) = x22)) ∨ (rv = some .null ∧ (¬ ((106 : Int32) = x0 ∧ (97 : Int32) = x1 ∧ (118 : Int32) = x2 ∧ (97 : Int32) = x3 ∧ (120 : Int32) = x4 ∧ (46 : Int32) = x5 ∧ (115 : Int32) = x6 ∧ (101 : Int32) = x7 ∧ (99 : Int32) = x8 ∧ (117 : Int32) = x9 ∧ (114 : Int32) = x10 ∧ (105 : Int32) = x11 ∧ (116 : Int32) = x12 ∧ (121 : Int32) = x13 ∧ (46 : Int32) = x14 ∧ (115 : Int32) = x15 ∧ (97 : Int32) = x16 ∧ (115 : Int32) = x17 ∧ (108 : Int32) = x18 ∧ (46 : Int32) = x19 ∧ (113 : Int32) = x20 ∧ (111 : Int32) = x21 ∧ (112 : Int32) = x22)))) := by
  have hEL := am.1
  refine CtW.py (by0 := prog_54_method_9_code) (ml := 3) (rt := (some (.object "java/lang/Object"))) (rm := ({ frames := 2, cells := 4, slots := 116, locals := 28 } : Room)) ?_ (hq hw 41 rfl) (hq hw 1 rfl)
  refine CtW.mk (a0 := a0) (Ls := #[.val (.ref m), .val (.int 1), .val (.ref s)]) (plainFor_of_name pn_com_example_holdfast_holdfast_sasl_Mechanism) (fun m => by first | (simp [entryFrame, mkF, argsToLocals, Value.category]; done) | rfl) ?_
  intro κ C
  show GoW l _ Z _ _ _ _ _ κ [s] h0 0 #[.val (.ref m), .val (.int 1), .val (.ref s)] [] 0 0
  refine gw_iloadN C 1 d8_0 rfl rfl ?_
  refine gw_ifY C (pc' := 9) d8_1 (feq ((by decide) : ¬ ((1 : Int32) = (0 : Int32)))).2 (by decide) (by decide) ?_
  refine gw_ldcS C hEL 11 2 96 (n := 92) (vs := [(.int 106), (.int 97), (.int 118), (.int 97), (.int 120), (.int 46), (.int 115), (.int 101), (.int 99), (.int 117), (.int 114), (.int 105), (.int 116), (.int 121), (.int 46), (.int 115), (.int 97), (.int 115), (.int 108), (.int 46), (.int 113), (.int 111), (.int 112)]) (zn := (23 : Int32)) d8_9 rfl rfl rfl (hq hw 42 rfl) (wS hw) (List.mem_of_getElem? (i := 0) rfl) (by decide) (by decide) rfl (by decide) (by decide) (by decide) (by decide) ?_
  intro sa1 sb2 k3 h4 E5 fx6 fx7 fx8 fx9 fn10
  have fe11 : s ≠ sa1 := (fn10 _ (List.mem_of_getElem? (i := 0) rfl)).1
  have fe12 : s ≠ sb2 := (fn10 _ (List.mem_of_getElem? (i := 0) rfl)).2
  refine gw_aloadN C 12 d8_11 rfl rfl rfl ?_
  have fx13 := (Exa.ext E5 p0)
  have fx14 := (Fld.ext E5 p1)
  have fx15 := (Fld.ext E5 p2)
  have fx16 := (p3.ext E5)
  refine gw_callV C (a := sa1) (argsL := [(.ref s)]) (W := 0) d8_12 (hq hw 45 rfl) (hq hw 46 rfl) (fun _ hZ => notFace_of_selects (args := #[]) (mvT hZ (hq hw 48 rfl))) (hq hw 48 rfl) (hq hw 47 rfl) fx6 (by decide) pd__Ljava_lang_Object__Z (ct_eq23 l Z a0 hw am (a := sa1) (b := s) (t := sb2) (u := t) (kt := k3) (ku := kt) (x0 := x0) (x1 := x1) (x2 := x2) (x3 := x3) (x4 := x4) (x5 := x5) (x6 := x6) (x7 := x7) (x8 := x8) (x9 := x9) (x10 := x10) (x11 := x11) (x12 := x12) (x13 := x13) (x14 := x14) (x15 := x15) (x16 := x16) (x17 := x17) (x18 := x18) (x19 := x19) (x20 := x20) (x21 := x21) (x22 := x22) fx6 fx7 fx8 fx9 fx13 fx14 fx15 fx16 (Ne.symm fe11)) rfl (by decide) (Nat.le_of_eq rfl) (by decide) rfl (by decide) (by decide) mems0 ?_
  intro fv17 h18 K19 fq20
  rcases fq20 with ⟨rfl, rfl, fx21⟩ | ⟨rfl, rfl, fx22⟩
  · skip
    refine ⟨[], fresh0, ?_⟩
    show GoW l _ Z _ _ _ _ _ κ _ _ 15 _ [(.int 1)] 2 96
    refine gw_ifN C 18 d8_15 rfl (feq ((by decide) : ¬ ((1 : Int32) = (0 : Int32)))).1 ?_
    refine gw_ldcS C hEL 20 4 116 (n := 16) (vs := [(.int 97), (.int 117), (.int 116), (.int 104)]) (zn := (4 : Int32)) d8_18 rfl rfl rfl (hq hw 55 rfl) (wS hw) (List.mem_of_getElem? (i := 1) rfl) (by decide) (by decide) rfl (by decide) (by decide) (by decide) (by decide) ?_
    intro sa23 sb24 k25 h26 E27 fx28 fx29 fx30 fx31 fn32
    have fe33 : s ≠ sa23 := (fn32 _ (List.mem_of_getElem? (i := 0) rfl)).1
    have fe34 : s ≠ sb24 := (fn32 _ (List.mem_of_getElem? (i := 0) rfl)).2
    refine gw_goto C (pc' := 24) d8_20 (by decide) (by decide) ?_
    refine gw_retA C hEL (v := (.ref sa23)) d8_24 rfl rfl rfl (by decide) (by decide) ?_
    exact Or.inl ⟨sa23, sb24, k25, rfl, fx28, fx29, fx30, fx31, fx21⟩
  · skip
    refine ⟨[], fresh0, ?_⟩
    show GoW l _ Z _ _ _ _ _ κ _ _ 15 _ [(.int 0)] 2 96
    refine gw_ifY C (pc' := 23) d8_15 (teq ((by decide) : (0 : Int32) = (0 : Int32))).1 (by decide) (by decide) ?_
    refine gw_aconstNull C 24 d8_23 rfl ?_
    refine gw_retA C hEL (v := .null) d8_24 rfl rfl rfl (by decide) (by decide) ?_
    exact Or.inr (⟨rfl, fx22⟩)
theorem ct_npN (l : Launch) (Z : State) (a0 : Array Value) (hw : HW a0 Z) {cS : Int32} {m1 : Addr} {m2 : Addr} (am : Amb Z a0 cS m1 m2) {m : Addr} {s : Addr} {t : Addr} {kt : ClassId} {vs : List Value} {n : Int32} {h0 : Heap} (p0 : Exa Z h0 s "java/lang/String") (p1 : Fld Z h0 s "java/lang/String" "coder" "B" (.int 0)) (p2 : Fld Z h0 s "java/lang/String" "value" "[B" (.ref t)) (p3 : Arv Z h0 t kt .byte n vs (.int 0)) (hn : ¬ ((23 : Int32) = n)) :
    PyW l Z consts_1 a0 (⟨"com/example/holdfast/holdfast/sasl/Mechanism", "negotiatedProperty", "(ZLjava/lang/String;)Ljava/lang/Object;"⟩ : MethodName) 3 42 2 96 #[(.ref m), (.int 1), (.ref s)] h0 [s] (fun rv h' => rv = some .null) := by
  have hEL := am.1
  refine CtW.py (by0 := prog_54_method_9_code) (ml := 3) (rt := (some (.object "java/lang/Object"))) (rm := ({ frames := 2, cells := 2, slots := 96, locals := 28 } : Room)) ?_ (hq hw 41 rfl) (hq hw 1 rfl)
  refine CtW.mk (a0 := a0) (Ls := #[.val (.ref m), .val (.int 1), .val (.ref s)]) (plainFor_of_name pn_com_example_holdfast_holdfast_sasl_Mechanism) (fun m => by first | (simp [entryFrame, mkF, argsToLocals, Value.category]; done) | rfl) ?_
  intro κ C
  show GoW l _ Z _ _ _ _ _ κ [s] h0 0 #[.val (.ref m), .val (.int 1), .val (.ref s)] [] 0 0
  refine gw_iloadN C 1 d8_0 rfl rfl ?_
  refine gw_ifY C (pc' := 9) d8_1 (feq ((by decide) : ¬ ((1 : Int32) = (0 : Int32)))).2 (by decide) (by decide) ?_
  refine gw_ldcS C hEL 11 2 96 (n := 92) (vs := [(.int 106), (.int 97), (.int 118), (.int 97), (.int 120), (.int 46), (.int 115), (.int 101), (.int 99), (.int 117), (.int 114), (.int 105), (.int 116), (.int 121), (.int 46), (.int 115), (.int 97), (.int 115), (.int 108), (.int 46), (.int 113), (.int 111), (.int 112)]) (zn := (23 : Int32)) d8_9 rfl rfl rfl (hq hw 42 rfl) (wS hw) (List.mem_of_getElem? (i := 0) rfl) (by decide) (by decide) rfl (by decide) (by decide) (by decide) (by decide) ?_
  intro sa1 sb2 k3 h4 E5 fx6 fx7 fx8 fx9 fn10
  have fe11 : s ≠ sa1 := (fn10 _ (List.mem_of_getElem? (i := 0) rfl)).1
  have fe12 : s ≠ sb2 := (fn10 _ (List.mem_of_getElem? (i := 0) rfl)).2
  refine gw_aloadN C 12 d8_11 rfl rfl rfl ?_
  have fx13 := (Exa.ext E5 p0)
  have fx14 := (Fld.ext E5 p1)
  have fx15 := (Fld.ext E5 p2)
  have fx16 := (p3.ext E5)
  refine gw_callV C (a := sa1) (argsL := [(.ref s)]) (W := 0) d8_12 (hq hw 45 rfl) (hq hw 46 rfl) (fun _ hZ => notFace_of_selects (args := #[]) (mvT hZ (hq hw 48 rfl))) (hq hw 48 rfl) (hq hw 47 rfl) fx6 (by decide) pd__Ljava_lang_Object__Z (ct_eqN l Z a0 hw am (a := sa1) (b := s) (t := sb2) (u := t) (kt := k3) (ku := kt) (vs := [(.int 106), (.int 97), (.int 118), (.int 97), (.int 120), (.int 46), (.int 115), (.int 101), (.int 99), (.int 117), (.int 114), (.int 105), (.int 116), (.int 121), (.int 46), (.int 115), (.int 97), (.int 115), (.int 108), (.int 46), (.int 113), (.int 111), (.int 112)]) (us := vs) (n := n) fx6 fx7 fx8 fx9 fx13 fx14 fx15 fx16 (Ne.symm fe11) hn) rfl (by decide) (Nat.le_of_eq rfl) (by decide) rfl (by decide) (by decide) mems0 ?_
  intro fv17 h18 K19 fq20
  obtain ⟨rfl, rfl⟩ := fq20
  refine ⟨[], fresh0, ?_⟩
  show GoW l _ Z _ _ _ _ _ κ _ _ 15 _ [(.int 0)] 2 96
  refine gw_ifY C (pc' := 23) d8_15 (teq ((by decide) : (0 : Int32) = (0 : Int32))).1 (by decide) (by decide) ?_
  refine gw_aconstNull C 24 d8_23 rfl ?_
  refine gw_retA C hEL (v := .null) d8_24 rfl rfl rfl (by decide) (by decide) ?_
  exact rfl
theorem ct_npnull (l : Launch) (Z : State) (a0 : Array Value) (hw : HW a0 Z) {cS : Int32} {m1 : Addr} {m2 : Addr} (am : Amb Z a0 cS m1 m2) {m : Addr} {h0 : Heap} :
    PyW l Z consts_1 a0 (⟨"com/example/holdfast/holdfast/sasl/Mechanism", "negotiatedProperty", "(ZLjava/lang/String;)Ljava/lang/Object;"⟩ : MethodName) 2 28 2 96 #[(.ref m), (.int 1), .null] h0 [] (fun rv h' => rv = some .null) := by
  have hEL := am.1
  refine CtW.py (by0 := prog_54_method_9_code) (ml := 3) (rt := (some (.object "java/lang/Object"))) (rm := ({ frames := 1, cells := 2, slots := 96, locals := 14 } : Room)) ?_ (hq hw 41 rfl) (hq hw 1 rfl)
  refine CtW.mk (a0 := a0) (Ls := #[.val (.ref m), .val (.int 1), .val .null]) (plainFor_of_name pn_com_example_holdfast_holdfast_sasl_Mechanism) (fun m => by first | (simp [entryFrame, mkF, argsToLocals, Value.category]; done) | rfl) ?_
  intro κ C
  show GoW l _ Z _ _ _ _ _ κ [] h0 0 #[.val (.ref m), .val (.int 1), .val .null] [] 0 0
  refine gw_iloadN C 1 d8_0 rfl rfl ?_
  refine gw_ifY C (pc' := 9) d8_1 (feq ((by decide) : ¬ ((1 : Int32) = (0 : Int32)))).2 (by decide) (by decide) ?_
  refine gw_ldcS C hEL 11 2 96 (n := 92) (vs := [(.int 106), (.int 97), (.int 118), (.int 97), (.int 120), (.int 46), (.int 115), (.int 101), (.int 99), (.int 117), (.int 114), (.int 105), (.int 116), (.int 121), (.int 46), (.int 115), (.int 97), (.int 115), (.int 108), (.int 46), (.int 113), (.int 111), (.int 112)]) (zn := (23 : Int32)) d8_9 rfl rfl rfl (hq hw 42 rfl) (wS hw) (List.mem_of_getElem? (i := 0) rfl) (by decide) (by decide) rfl (by decide) (by decide) (by decide) (by decide) ?_
  intro sa1 sb2 k3 h4 E5 fx6 fx7 fx8 fx9 fn10
  refine gw_aloadN C 12 d8_11 rfl rfl rfl ?_
  refine gw_callV C (a := sa1) (argsL := [.null]) (W := 0) d8_12 (hq hw 45 rfl) (hq hw 46 rfl) (fun _ hZ => notFace_of_selects (args := #[]) (mvT hZ (hq hw 48 rfl))) (hq hw 48 rfl) (hq hw 47 rfl) fx6 (by decide) pd__Ljava_lang_Object__Z (ct_eqnull l Z a0 hw am (a := sa1)) rfl (by decide) (Nat.le_of_eq rfl) (by decide) rfl (by decide) (by decide) mems0 ?_
  intro fv11 h12 K13 fq14
  obtain ⟨rfl, rfl⟩ := fq14
  refine ⟨[], fresh0, ?_⟩
  show GoW l _ Z _ _ _ _ _ κ _ _ 15 _ [(.int 0)] 2 96
  refine gw_ifY C (pc' := 23) d8_15 (teq ((by decide) : (0 : Int32) = (0 : Int32))).1 (by decide) (by decide) ?_
  refine gw_aconstNull C 24 d8_23 rfl ?_
  refine gw_retA C hEL (v := .null) d8_24 rfl rfl rfl (by decide) (by decide) ?_
  exact rfl
theorem law15 (l : Launch) (Z : State) (a0 : Array Value) (hw : HW a0 Z) {cS : Int32} {m1 : Addr} {m2 : Addr} (am : Amb Z a0 cS m1 m2) {p0 : Int32} {p1 : Int32} {p2 : Int32} {m : Addr} {h0 : Heap} (pm : Exa Z Z.heap m "com/example/holdfast/holdfast/sasl/Mechanism") {κ : Kx} (C : Cx Z a0 x code maxLocals ret κ) :
    GoW l room_1 Z consts_1 x.cls [] h0 (fun v h' => v = some (.int 1)) κ [] h0 15 #[.val (.int p0), .val (.int p1), .val (.int p2), .unset, .unset, .unset, .unset, .unset, .unset, .unset, .unset] [(.ref m)] 0 0 := by
  have hEL := am.1
  refine gw_astoreN C 16 (Ls' := #[.val (.int p0), .val (.int p1), .val (.int p2), .val (.ref m), .unset, .unset, .unset, .unset, .unset, .unset, .unset]) at_15 rfl rfl rfl ?_
  refine gw_iloadN C 17 at_16 rfl rfl ?_
  refine gw_iconst C 18 (1 : Int32) at_17 rfl (by decide) ?_
  refine gw_iushr C 19 (XT.ushr p0 (1 : Int32)) at_18 rfl rfl ?_
  refine gw_bipush C 21 (7 : Int32) at_19 rfl (by decide) ?_
  refine gw_iand C 22 ((XT.ushr p0 (1 : Int32)) &&& (7 : Int32)) at_21 rfl rfl ?_
  refine gw_istore C 24 (Ls' := #[.val (.int p0), .val (.int p1), .val (.int p2), .val (.ref m), .val (.int ((XT.ushr p0 (1 : Int32)) &&& (7 : Int32))), .unset, .unset, .unset, .unset, .unset, .unset]) at_22 rfl rfl ?_
  refine gw_iloadN C 25 at_24 rfl rfl ?_
  refine gw_sipush C 28 (255 : Int32) at_25 rfl (by decide) ?_
  refine gw_iand C 29 (p2 &&& (255 : Int32)) at_28 rfl rfl ?_
  refine gw_i2c C 30 (p2 &&& (255 : Int32)) at_29 rfl (chr_and255 _).i2c ?_
  refine gw_istore C 32 (Ls' := #[.val (.int p0), .val (.int p1), .val (.int p2), .val (.ref m), .val (.int ((XT.ushr p0 (1 : Int32)) &&& (7 : Int32))), .val (.int (p2 &&& (255 : Int32))), .unset, .unset, .unset, .unset, .unset]) at_30 rfl rfl ?_
  refine gw_iload C 34 at_32 rfl rfl ?_
  by_cases hc1 : ((XT.ushr p0 (1 : Int32)) &&& (7 : Int32)) = (0 : Int32)
  · skip
    refine gw_ifN C 37 at_34 rfl (teq hc1).2 ?_
    refine gw_new C 40 1 4 at_37 rfl rfl rfl (hq hw 3 rfl) (hq hw 4 rfl) (hq hw 5 rfl) (by decide) (by decide) ?_
    intro b2 h3 g4 E5 A6 D7
    have fx8 : Fld Z h3 b2 "java/lang/String" "coder" "B" (.int 0) := D7 (Or.inr (hq hw 34 rfl)) (ty := .byte) (by decide)
    have fx9 : Fld Z h3 b2 "java/lang/String" "value" "[B" .null := D7 (Or.inr (hq hw 36 rfl)) (ty := (.array .byte)) (by decide)
    refine gw_dup C 41 at_40 rfl rfl ?_
    refine gw_callS C (argsL := []) (W := 2) at_41 (hq hw 6 rfl) (hq hw 7 rfl) (hq hw 8 rfl) (hq hw 9 rfl) (by decide) pd____C (ct_qop l Z a0 hw am) rfl (by decide) (Nat.le_of_eq rfl) (by decide) rfl (by decide) (by decide) mems0 ?_
    intro fv10 h11 K12 fq13
    obtain ⟨t14, kC15, rfl, fx16, fx17⟩ := fq13
    refine ⟨[t14], (freshS ⟨fx17, (fx16).lt⟩ fresh0), ?_⟩
    show GoW l _ Z _ _ _ _ _ κ [t14, b2] _ 44 _ [(.ref t14), (.ref b2), (.ref b2)] 2 27
    have fx18 := (A6.keep K12)
    have fx19 := (fx9.keep K12 nin0)
    have fx20 := (fx8.keep K12 nin0)
    refine gw_callI C (a := b2) (argsL := [(.ref t14)]) (W := 1) at_44 rfl (hq hw 11 rfl) (hq hw 12 rfl) (hq hw 13 rfl) (by decide) pd___C_V (ct_str23 l Z a0 hw am (a := b2) (b := t14) (kC := kC15) (c0 := (106 : Int32)) (c1 := (97 : Int32)) (c2 := (118 : Int32)) (c3 := (97 : Int32)) (c4 := (120 : Int32)) (c5 := (46 : Int32)) (c6 := (115 : Int32)) (c7 := (101 : Int32)) (c8 := (99 : Int32)) (c9 := (117 : Int32)) (c10 := (114 : Int32)) (c11 := (105 : Int32)) (c12 := (116 : Int32)) (c13 := (121 : Int32)) (c14 := (46 : Int32)) (c15 := (115 : Int32)) (c16 := (97 : Int32)) (c17 := (115 : Int32)) (c18 := (108 : Int32)) (c19 := (46 : Int32)) (c20 := (113 : Int32)) (c21 := (111 : Int32)) (c22 := (112 : Int32)) fx18 fx19 fx20 fx16 (by decide) (by decide) (by decide) (by decide) (by decide) (by decide) (by decide) (by decide) (by decide) (by decide) (by decide) (by decide) (by decide) (by decide) (by decide) (by decide) (by decide) (by decide) (by decide) (by decide) (by decide) (by decide) (by decide)) rfl (by decide) (Nat.le_of_eq rfl) (by decide) rfl (by decide) (by decide) (memsS (mi 1 rfl) mems0) ?_
    intro fv21 h22 K23 fq24
    obtain ⟨t25, kB26, rfl, fx27, fx28, fx29, fx30, fx31⟩ := fq24
    refine ⟨[t25], (freshS ⟨fx31, (fx30).lt⟩ fresh0), ?_⟩
    show GoW l _ Z _ _ _ _ _ κ [t25, t14, b2] _ 47 _ [(.ref b2)] 3 50
    refine gw_astore C 49 (Ls' := #[.val (.int p0), .val (.int p1), .val (.int p2), .val (.ref m), .val (.int ((XT.ushr p0 (1 : Int32)) &&& (7 : Int32))), .val (.int (p2 &&& (255 : Int32))), .val (.ref b2), .unset, .unset, .unset, .unset]) at_47 rfl rfl rfl ?_
    refine gw_iconst C 50 (1 : Int32) at_49 rfl (by decide) ?_
    refine gw_istore C 52 (Ls' := #[.val (.int p0), .val (.int p1), .val (.int p2), .val (.ref m), .val (.int ((XT.ushr p0 (1 : Int32)) &&& (7 : Int32))), .val (.int (p2 &&& (255 : Int32))), .val (.ref b2), .val (.int 1), .unset, .unset, .unset]) at_50 rfl rfl ?_
    refine gw_goto C (pc' := 481) at_52 (by decide) (by decide) ?_
    refine gw_aloadN C 482 at_481 rfl rfl rfl ?_
    refine gw_iconst C 483 (1 : Int32) at_482 rfl (by decide) ?_
    refine gw_aload C 485 at_483 rfl rfl rfl ?_
    refine gw_old ?_
    intro O32 zO32
    refine gw_callVW C hEL (a := m) (argsL := [(.int 1), (.ref b2)]) (W := 0) at_485 (hq hw 37 rfl) (hq hw 38 rfl) (fun _ hZ => notFace_of_selects (args := #[]) (mvT hZ (hq hw 40 rfl))) (hq hw 40 rfl) (hq hw 39 rfl) (Exa.ext O32 pm) (by decide) pd__ZLjava_lang_String__Ljava_lang_Object_ (ct_np23 l Z a0 hw am (m := m) (s := b2) (t := t25) (kt := kB26) (x0 := (lo8 106)) (x1 := (lo8 97)) (x2 := (lo8 118)) (x3 := (lo8 97)) (x4 := (lo8 120)) (x5 := (lo8 46)) (x6 := (lo8 115)) (x7 := (lo8 101)) (x8 := (lo8 99)) (x9 := (lo8 117)) (x10 := (lo8 114)) (x11 := (lo8 105)) (x12 := (lo8 116)) (x13 := (lo8 121)) (x14 := (lo8 46)) (x15 := (lo8 115)) (x16 := (lo8 97)) (x17 := (lo8 115)) (x18 := (lo8 108)) (x19 := (lo8 46)) (x20 := (lo8 113)) (x21 := (lo8 111)) (x22 := (lo8 112)) fx27 fx28 fx29 fx30) rfl (by decide) (Nat.le_of_eq rfl) (by decide) rfl (by decide) (by decide) (memsS (mi 2 rfl) mems0) ?_
    intro fv33 h34 K35 fq36
    rcases fq36 with ⟨a37, u38, ku39, rfl, fx40, fx41, fx42, fx43, fx44⟩ | ⟨rfl, fx45⟩
    · skip
      show GoW l _ Z _ _ _ _ _ κ _ _ 488 _ [(.ref a37)] 7 166
      refine gw_astore C 490 (Ls' := #[.val (.int p0), .val (.int p1), .val (.int p2), .val (.ref m), .val (.int ((XT.ushr p0 (1 : Int32)) &&& (7 : Int32))), .val (.int (p2 &&& (255 : Int32))), .val (.ref b2), .val (.int 1), .val (.ref a37), .unset, .unset]) at_488 rfl rfl rfl ?_
      refine gw_iload C 492 at_490 rfl rfl ?_
      refine gw_ifN C 495 at_492 rfl (feq ((by decide) : ¬ ((1 : Int32) = (0 : Int32)))).1 ?_
      refine gw_aload C 497 at_495 rfl rfl rfl ?_
      refine gw_ifnullN C 500 at_497 rfl ?_
      refine gw_ldcS C hEL 502 9 186 (n := 16) (vs := [(.int 97), (.int 117), (.int 116), (.int 104)]) (zn := (4 : Int32)) at_500 rfl rfl rfl (hq hw 56 rfl) (wS hw) (List.mem_of_getElem? (i := 2) rfl) (by decide) (by decide) rfl (by decide) (by decide) (by decide) (by decide) ?_
      intro sa46 sb47 k48 h49 E50 fx51 fx52 fx53 fx54 fn55
      have fe56 : t25 ≠ sa46 := (fn55 _ (List.mem_of_getElem? (i := 0) rfl)).1
      have fe57 : t25 ≠ sb47 := (fn55 _ (List.mem_of_getElem? (i := 0) rfl)).2
      have fe58 : t14 ≠ sa46 := (fn55 _ (List.mem_of_getElem? (i := 1) rfl)).1
      have fe59 : t14 ≠ sb47 := (fn55 _ (List.mem_of_getElem? (i := 1) rfl)).2
      have fe60 : b2 ≠ sa46 := (fn55 _ (List.mem_of_getElem? (i := 2) rfl)).1
      have fe61 : b2 ≠ sb47 := (fn55 _ (List.mem_of_getElem? (i := 2) rfl)).2
      refine gw_aload C 504 at_502 rfl rfl rfl ?_
      have fx62 := (Exa.ext E50 fx40)
      have fx63 := (Fld.ext E50 fx41)
      have fx64 := (Fld.ext E50 fx42)
      have fx65 := (fx43.ext E50)
      refine gw_callV C (a := sa46) (argsL := [(.ref a37)]) (W := 0) at_504 (hq hw 57 rfl) (hq hw 46 rfl) (fun _ hZ => notFace_of_selects (args := #[]) (mvT hZ (hq hw 48 rfl))) (hq hw 48 rfl) (hq hw 47 rfl) fx51 (by decide) pd__Ljava_lang_Object__Z (ct_eq4 l Z a0 hw am (a := sa46) (b := a37) (t := sb47) (u := u38) (kt := k48) (ku := ku39) (x0 := (97 : Int32)) (x1 := (117 : Int32)) (x2 := (116 : Int32)) (x3 := (104 : Int32)) (y0 := (97 : Int32)) (y1 := (117 : Int32)) (y2 := (116 : Int32)) (y3 := (104 : Int32)) fx51 fx52 fx53 fx54 fx62 fx63 fx64 fx65 rfl rfl rfl rfl) rfl (by decide) (Nat.le_of_eq rfl) (by decide) rfl (by decide) (by decide) mems0 ?_
      intro fv66 h67 K68 fq69
      obtain ⟨rfl, rfl⟩ := fq69
      refine ⟨[], fresh0, ?_⟩
      show GoW l _ Z _ _ _ _ _ κ _ _ 507 _ [(.int 1)] 9 186
      refine gw_ifN C 510 at_507 rfl (feq ((by decide) : ¬ ((1 : Int32) = (0 : Int32)))).1 ?_
      refine gw_iconst C 511 (1 : Int32) at_510 rfl (by decide) ?_
      refine gw_goto C (pc' := 515) at_511 (by decide) (by decide) ?_
      refine gw_retN C hEL (t := .boolean) (z := (1 : Int32)) at_515 rfl (by decide) (by decide) (by decide) (by decide) ?_
      exact rfl
    · skip
      exact (fx45 (by decide)).elim
  · skip
    refine gw_ifY C (pc' := 55) at_34 (feq hc1).2 (by decide) (by decide) ?_
    refine gw_iload C 57 at_55 rfl rfl ?_
    refine gw_iconst C 58 (2 : Int32) at_57 rfl (by decide) ?_
    by_cases hc70 : ((XT.ushr p0 (1 : Int32)) &&& (7 : Int32)) = (2 : Int32)
    · skip
      refine gw_icmpN C 61 at_58 rfl (teq hc70).2 ?_
      refine gw_new C 64 1 4 at_61 rfl rfl rfl (hq hw 3 rfl) (hq hw 4 rfl) (hq hw 5 rfl) (by decide) (by decide) ?_
      intro b71 h72 g73 E74 A75 D76
      have fx77 : Fld Z h72 b71 "java/lang/String" "coder" "B" (.int 0) := D76 (Or.inr (hq hw 34 rfl)) (ty := .byte) (by decide)
      have fx78 : Fld Z h72 b71 "java/lang/String" "value" "[B" .null := D76 (Or.inr (hq hw 36 rfl)) (ty := (.array .byte)) (by decide)
      refine gw_dup C 65 at_64 rfl rfl ?_
      refine gw_iconst C 66 (0 : Int32) at_65 rfl (by decide) ?_
      refine gw_newP C 68 2 4 (ty := .char) (cap := 0) at_66 rfl rfl rfl rfl (hq hw 10 rfl) (by decide) (by decide) (by decide) (by decide) (by decide) ?_
      intro b79 h80 k81 g82 E83 V84
      have fx85 : Arv Z h80 b79 k81 .char (0 : Int32) [] (.int 0) := V84
      have fx86 := (Exa.ext E83 A75)
      have fx87 := (Fld.ext E83 fx78)
      have fx88 := (Fld.ext E83 fx77)
      refine gw_callIW C hEL (a := b71) (argsL := [(.ref b79)]) (W := 1) at_68 rfl (hq hw 11 rfl) (hq hw 12 rfl) (hq hw 13 rfl) (by decide) pd___C_V (ct_str0 l Z a0 hw am (a := b71) (b := b79) (kC := k81) fx86 fx87 fx88 fx85) rfl (by decide) (Nat.le_of_eq rfl) (by decide) rfl (by decide) (by decide) (memsS (mi 1 rfl) mems0) ?_
      intro fv89 h90 K91 fq92
      obtain ⟨t93, kB94, rfl, fx95, fx96, fx97, fx98⟩ := fq92
      show GoW l _ Z _ _ _ _ _ κ _ _ 71 _ [(.ref b71)] 6 12
      refine gw_astore C 73 (Ls' := #[.val (.int p0), .val (.int p1), .val (.int p2), .val (.ref m), .val (.int ((XT.ushr p0 (1 : Int32)) &&& (7 : Int32))), .val (.int (p2 &&& (255 : Int32))), .val (.ref b71), .unset, .unset, .unset, .unset]) at_71 rfl rfl rfl ?_
      refine gw_iconst C 74 (0 : Int32) at_73 rfl (by decide) ?_
      refine gw_istore C 76 (Ls' := #[.val (.int p0), .val (.int p1), .val (.int p2), .val (.ref m), .val (.int ((XT.ushr p0 (1 : Int32)) &&& (7 : Int32))), .val (.int (p2 &&& (255 : Int32))), .val (.ref b71), .val (.int 0), .unset, .unset, .unset]) at_74 rfl rfl ?_
      refine gw_goto C (pc' := 481) at_76 (by decide) (by decide) ?_
      refine gw_aloadN C 482 at_481 rfl rfl rfl ?_
      refine gw_iconst C 483 (1 : Int32) at_482 rfl (by decide) ?_
      refine gw_aload C 485 at_483 rfl rfl rfl ?_
      refine gw_old ?_
      intro O99 zO99
      refine gw_callVW C hEL (a := m) (argsL := [(.int 1), (.ref b71)]) (W := 0) at_485 (hq hw 37 rfl) (hq hw 38 rfl) (fun _ hZ => notFace_of_selects (args := #[]) (mvT hZ (hq hw 40 rfl))) (hq hw 40 rfl) (hq hw 39 rfl) (Exa.ext O99 pm) (by decide) pd__ZLjava_lang_String__Ljava_lang_Object_ (ct_npN l Z a0 hw am (m := m) (s := b71) (t := t93) (kt := kB94) (vs := []) (n := (0 : Int32)) fx95 fx96 fx97 fx98 (by decide)) rfl (by decide) (Nat.le_of_eq rfl) (by decide) rfl (by decide) (by decide) (memsS (mi 1 rfl) mems0) ?_
      intro fv100 h101 K102 fq103
      obtain rfl := fq103
      show GoW l _ Z _ _ _ _ _ κ _ _ 488 _ [.null] 8 108
      refine gw_astore C 490 (Ls' := #[.val (.int p0), .val (.int p1), .val (.int p2), .val (.ref m), .val (.int ((XT.ushr p0 (1 : Int32)) &&& (7 : Int32))), .val (.int (p2 &&& (255 : Int32))), .val (.ref b71), .val (.int 0), .val .null, .unset, .unset]) at_488 rfl rfl rfl ?_
      refine gw_iload C 492 at_490 rfl rfl ?_
      refine gw_ifY C (pc' := 516) at_492 (teq ((by decide) : (0 : Int32) = (0 : Int32))).1 (by decide) (by decide) ?_
      refine gw_aload C 518 at_516 rfl rfl rfl ?_
      refine gw_ifnonnullN C 521 at_518 rfl ?_
      refine gw_iconst C 522 (1 : Int32) at_521 rfl (by decide) ?_
      refine gw_goto C (pc' := 526) at_522 (by decide) (by decide) ?_
      refine gw_retN C hEL (t := .boolean) (z := (1 : Int32)) at_526 rfl (by decide) (by decide) (by decide) (by decide) ?_
      exact rfl
    · skip
      refine gw_icmpY C (pc' := 79) at_58 (feq hc70).2 (by decide) (by decide) ?_
      refine gw_iload C 81 at_79 rfl rfl ?_
      refine gw_iconst C 82 (3 : Int32) at_81 rfl (by decide) ?_
      by_cases hc104 : ((XT.ushr p0 (1 : Int32)) &&& (7 : Int32)) = (3 : Int32)
      · skip
        refine gw_icmpN C 85 at_82 rfl (teq hc104).2 ?_
        refine gw_iload C 87 at_85 rfl rfl ?_
        refine gw_callS C (argsL := [(.int (p2 &&& (255 : Int32)))]) (W := 0) at_87 (hq hw 62 rfl) (hq hw 63 rfl) (hq hw 5 rfl) (hq hw 64 rfl) (by decide) pd__C_Ljava_lang_String_ (ct_vo l Z a0 hw am (c := (p2 &&& (255 : Int32))) (and_small _ 255 (by decide)).2) rfl (by decide) (Nat.le_of_eq rfl) (by decide) rfl (by decide) (by decide) mems0 ?_
        intro fv105 h106 K107 fq108
        obtain ⟨a109, t110, kt111, rfl, fx112, fx113, fx114, fx115, fx116⟩ := fq108
        refine ⟨[a109], (freshS ⟨fx116, (fx112).lt⟩ fresh0), ?_⟩
        show GoW l _ Z _ _ _ _ _ κ [a109] _ 90 _ [(.ref a109)] 2 5
        refine gw_astore C 92 (Ls' := #[.val (.int p0), .val (.int p1), .val (.int p2), .val (.ref m), .val (.int ((XT.ushr p0 (1 : Int32)) &&& (7 : Int32))), .val (.int (p2 &&& (255 : Int32))), .val (.ref a109), .unset, .unset, .unset, .unset]) at_90 rfl rfl rfl ?_
        refine gw_iconst C 93 (0 : Int32) at_92 rfl (by decide) ?_
        refine gw_istore C 95 (Ls' := #[.val (.int p0), .val (.int p1), .val (.int p2), .val (.ref m), .val (.int ((XT.ushr p0 (1 : Int32)) &&& (7 : Int32))), .val (.int (p2 &&& (255 : Int32))), .val (.ref a109), .val (.int 0), .unset, .unset, .unset]) at_93 rfl rfl ?_
        refine gw_goto C (pc' := 481) at_95 (by decide) (by decide) ?_
        refine gw_aloadN C 482 at_481 rfl rfl rfl ?_
        refine gw_iconst C 483 (1 : Int32) at_482 rfl (by decide) ?_
        refine gw_aload C 485 at_483 rfl rfl rfl ?_
        refine gw_old ?_
        intro O117 zO117
        refine gw_callVW C hEL (a := m) (argsL := [(.int 1), (.ref a109)]) (W := 0) at_485 (hq hw 37 rfl) (hq hw 38 rfl) (fun _ hZ => notFace_of_selects (args := #[]) (mvT hZ (hq hw 40 rfl))) (hq hw 40 rfl) (hq hw 39 rfl) (Exa.ext O117 pm) (by decide) pd__ZLjava_lang_String__Ljava_lang_Object_ (ct_npN l Z a0 hw am (m := m) (s := a109) (t := t110) (kt := kt111) (vs := [(.int (lo8 (p2 &&& (255 : Int32))))]) (n := (1 : Int32)) fx112 fx113 fx114 fx115 (by decide)) rfl (by decide) (Nat.le_of_eq rfl) (by decide) rfl (by decide) (by decide) (memsS (mi 0 rfl) mems0) ?_
        intro fv118 h119 K120 fq121
        obtain rfl := fq121
        show GoW l _ Z _ _ _ _ _ κ _ _ 488 _ [.null] 4 101
        refine gw_astore C 490 (Ls' := #[.val (.int p0), .val (.int p1), .val (.int p2), .val (.ref m), .val (.int ((XT.ushr p0 (1 : Int32)) &&& (7 : Int32))), .val (.int (p2 &&& (255 : Int32))), .val (.ref a109), .val (.int 0), .val .null, .unset, .unset]) at_488 rfl rfl rfl ?_
        refine gw_iload C 492 at_490 rfl rfl ?_
        refine gw_ifY C (pc' := 516) at_492 (teq ((by decide) : (0 : Int32) = (0 : Int32))).1 (by decide) (by decide) ?_
        refine gw_aload C 518 at_516 rfl rfl rfl ?_
        refine gw_ifnonnullN C 521 at_518 rfl ?_
        refine gw_iconst C 522 (1 : Int32) at_521 rfl (by decide) ?_
        refine gw_goto C (pc' := 526) at_522 (by decide) (by decide) ?_
        refine gw_retN C hEL (t := .boolean) (z := (1 : Int32)) at_526 rfl (by decide) (by decide) (by decide) (by decide) ?_
        exact rfl
      · skip
        refine gw_icmpY C (pc' := 98) at_82 (feq hc104).2 (by decide) (by decide) ?_
        refine gw_iload C 100 at_98 rfl rfl ?_
        refine gw_iconst C 101 (4 : Int32) at_100 rfl (by decide) ?_
        by_cases hc122 : ((XT.ushr p0 (1 : Int32)) &&& (7 : Int32)) = (4 : Int32)
        · skip
          refine gw_icmpN C 104 at_101 rfl (teq hc122).2 ?_
          refine gw_new C 107 1 4 at_104 rfl rfl rfl (hq hw 3 rfl) (hq hw 4 rfl) (hq hw 5 rfl) (by decide) (by decide) ?_
          intro b123 h124 g125 E126 A127 D128
          have fx129 : Fld Z h124 b123 "java/lang/String" "coder" "B" (.int 0) := D128 (Or.inr (hq hw 34 rfl)) (ty := .byte) (by decide)
          have fx130 : Fld Z h124 b123 "java/lang/String" "value" "[B" .null := D128 (Or.inr (hq hw 36 rfl)) (ty := (.array .byte)) (by decide)
          refine gw_dup C 108 at_107 rfl rfl ?_
          refine gw_bipush C 110 (24 : Int32) at_108 rfl (by decide) ?_
          refine gw_newP C 112 2 28 (ty := .char) (cap := 24) at_110 rfl rfl rfl rfl (hq hw 10 rfl) (by decide) (by decide) (by decide) (by decide) (by decide) ?_
          intro b131 h132 k133 g134 E135 V136
          have fx137 : Arv Z h132 b131 k133 .char (24 : Int32) [(.int 0), (.int 0), (.int 0), (.int 0), (.int 0), (.int 0), (.int 0), (.int 0), (.int 0), (.int 0), (.int 0), (.int 0), (.int 0), (.int 0), (.int 0), (.int 0), (.int 0), (.int 0), (.int 0), (.int 0), (.int 0), (.int 0), (.int 0), (.int 0)] (.int 0) := V136
          refine gw_dup C 113 at_112 rfl rfl ?_
          refine gw_iconst C 114 (0 : Int32) at_113 rfl (by decide) ?_
          refine gw_bipush C 116 (106 : Int32) at_114 rfl (by decide) ?_
          refine gw_castore C 117 0 (v := (106 : Int32)) (by decide) at_116 rfl fx137 (by decide) rfl (nble rfl) (mi 0 rfl) ?_
          intro h138 W139 fx140
          have fx141 : Arv Z h138 b131 k133 .char (24 : Int32) [(.int 106), (.int 0), (.int 0), (.int 0), (.int 0), (.int 0), (.int 0), (.int 0), (.int 0), (.int 0), (.int 0), (.int 0), (.int 0), (.int 0), (.int 0), (.int 0), (.int 0), (.int 0), (.int 0), (.int 0), (.int 0), (.int 0), (.int 0), (.int 0)] (.int 0) := fx140
          refine gw_dup C 118 at_117 rfl rfl ?_
          refine gw_iconst C 119 (1 : Int32) at_118 rfl (by decide) ?_
          refine gw_bipush C 121 (97 : Int32) at_119 rfl (by decide) ?_
          refine gw_castore C 122 1 (v := (97 : Int32)) (by decide) at_121 rfl fx141 (by decide) rfl (nble rfl) (mi 0 rfl) ?_
          intro h142 W143 fx144
          have fx145 : Arv Z h142 b131 k133 .char (24 : Int32) [(.int 106), (.int 97), (.int 0), (.int 0), (.int 0), (.int 0), (.int 0), (.int 0), (.int 0), (.int 0), (.int 0), (.int 0), (.int 0), (.int 0), (.int 0), (.int 0), (.int 0), (.int 0), (.int 0), (.int 0), (.int 0), (.int 0), (.int 0), (.int 0)] (.int 0) := fx144
          refine gw_dup C 123 at_122 rfl rfl ?_
          refine gw_iconst C 124 (2 : Int32) at_123 rfl (by decide) ?_
          refine gw_bipush C 126 (118 : Int32) at_124 rfl (by decide) ?_
          refine gw_castore C 127 2 (v := (118 : Int32)) (by decide) at_126 rfl fx145 (by decide) rfl (nble rfl) (mi 0 rfl) ?_
          intro h146 W147 fx148
          have fx149 : Arv Z h146 b131 k133 .char (24 : Int32) [(.int 106), (.int 97), (.int 118), (.int 0), (.int 0), (.int 0), (.int 0), (.int 0), (.int 0), (.int 0), (.int 0), (.int 0), (.int 0), (.int 0), (.int 0), (.int 0), (.int 0), (.int 0), (.int 0), (.int 0), (.int 0), (.int 0), (.int 0), (.int 0)] (.int 0) := fx148
          refine gw_dup C 128 at_127 rfl rfl ?_
          refine gw_iconst C 129 (3 : Int32) at_128 rfl (by decide) ?_
          refine gw_bipush C 131 (97 : Int32) at_129 rfl (by decide) ?_
          refine gw_castore C 132 3 (v := (97 : Int32)) (by decide) at_131 rfl fx149 (by decide) rfl (nble rfl) (mi 0 rfl) ?_
          intro h150 W151 fx152
          have fx153 : Arv Z h150 b131 k133 .char (24 : Int32) [(.int 106), (.int 97), (.int 118), (.int 97), (.int 0), (.int 0), (.int 0), (.int 0), (.int 0), (.int 0), (.int 0), (.int 0), (.int 0), (.int 0), (.int 0), (.int 0), (.int 0), (.int 0), (.int 0), (.int 0), (.int 0), (.int 0), (.int 0), (.int 0)] (.int 0) := fx152
          refine gw_dup C 133 at_132 rfl rfl ?_
          refine gw_iconst C 134 (4 : Int32) at_133 rfl (by decide) ?_
          refine gw_bipush C 136 (120 : Int32) at_134 rfl (by decide) ?_
          refine gw_castore C 137 4 (v := (120 : Int32)) (by decide) at_136 rfl fx153 (by decide) rfl (nble rfl) (mi 0 rfl) ?_
          intro h154 W155 fx156
          have fx157 : Arv Z h154 b131 k133 .char (24 : Int32) [(.int 106), (.int 97), (.int 118), (.int 97), (.int 120), (.int 0), (.int 0), (.int 0), (.int 0), (.int 0), (.int 0), (.int 0), (.int 0), (.int 0), (.int 0), (.int 0), (.int 0), (.int 0), (.int 0), (.int 0), (.int 0), (.int 0), (.int 0), (.int 0)] (.int 0) := fx156
          refine gw_dup C 138 at_137 rfl rfl ?_
          refine gw_iconst C 139 (5 : Int32) at_138 rfl (by decide) ?_
          refine gw_bipush C 141 (46 : Int32) at_139 rfl (by decide) ?_
          refine gw_castore C 142 5 (v := (46 : Int32)) (by decide) at_141 rfl fx157 (by decide) rfl (nble rfl) (mi 0 rfl) ?_
          intro h158 W159 fx160
          have fx161 : Arv Z h158 b131 k133 .char (24 : Int32) [(.int 106), (.int 97), (.int 118), (.int 97), (.int 120), (.int 46), (.int 0), (.int 0), (.int 0), (.int 0), (.int 0), (.int 0), (.int 0), (.int 0), (.int 0), (.int 0), (.int 0), (.int 0), (.int 0), (.int 0), (.int 0), (.int 0), (.int 0), (.int 0)] (.int 0) := fx160
          refine gw_dup C 143 at_142 rfl rfl ?_
          refine gw_bipush C 145 (6 : Int32) at_143 rfl (by decide) ?_
          refine gw_bipush C 147 (115 : Int32) at_145 rfl (by decide) ?_
          refine gw_castore C 148 6 (v := (115 : Int32)) (by decide) at_147 rfl fx161 (by decide) rfl (nble rfl) (mi 0 rfl) ?_
          intro h162 W163 fx164
          have fx165 : Arv Z h162 b131 k133 .char (24 : Int32) [(.int 106), (.int 97), (.int 118), (.int 97), (.int 120), (.int 46), (.int 115), (.int 0), (.int 0), (.int 0), (.int 0), (.int 0), (.int 0), (.int 0), (.int 0), (.int 0), (.int 0), (.int 0), (.int 0), (.int 0), (.int 0), (.int 0), (.int 0), (.int 0)] (.int 0) := fx164
          refine gw_dup C 149 at_148 rfl rfl ?_
          refine gw_bipush C 151 (7 : Int32) at_149 rfl (by decide) ?_
          refine gw_bipush C 153 (101 : Int32) at_151 rfl (by decide) ?_
          refine gw_castore C 154 7 (v := (101 : Int32)) (by decide) at_153 rfl fx165 (by decide) rfl (nble rfl) (mi 0 rfl) ?_
          intro h166 W167 fx168
          have fx169 : Arv Z h166 b131 k133 .char (24 : Int32) [(.int 106), (.int 97), (.int 118), (.int 97), (.int 120), (.int 46), (.int 115), (.int 101), (.int 0), (.int 0), (.int 0), (.int 0), (.int 0), (.int 0), (.int 0), (.int 0), (.int 0), (.int 0), (.int 0), (.int 0), (.int 0), (.int 0), (.int 0), (.int 0)] (.int 0) := fx168
          refine gw_dup C 155 at_154 rfl rfl ?_
          refine gw_bipush C 157 (8 : Int32) at_155 rfl (by decide) ?_
          refine gw_bipush C 159 (99 : Int32) at_157 rfl (by decide) ?_
          refine gw_castore C 160 8 (v := (99 : Int32)) (by decide) at_159 rfl fx169 (by decide) rfl (nble rfl) (mi 0 rfl) ?_
          intro h170 W171 fx172
          have fx173 : Arv Z h170 b131 k133 .char (24 : Int32) [(.int 106), (.int 97), (.int 118), (.int 97), (.int 120), (.int 46), (.int 115), (.int 101), (.int 99), (.int 0), (.int 0), (.int 0), (.int 0), (.int 0), (.int 0), (.int 0), (.int 0), (.int 0), (.int 0), (.int 0), (.int 0), (.int 0), (.int 0), (.int 0)] (.int 0) := fx172
          refine gw_dup C 161 at_160 rfl rfl ?_
          refine gw_bipush C 163 (9 : Int32) at_161 rfl (by decide) ?_
          refine gw_bipush C 165 (117 : Int32) at_163 rfl (by decide) ?_
          refine gw_castore C 166 9 (v := (117 : Int32)) (by decide) at_165 rfl fx173 (by decide) rfl (nble rfl) (mi 0 rfl) ?_
          intro h174 W175 fx176
          have fx177 : Arv Z h174 b131 k133 .char (24 : Int32) [(.int 106), (.int 97), (.int 118), (.int 97), (.int 120), (.int 46), (.int 115), (.int 101), (.int 99), (.int 117), (.int 0), (.int 0), (.int 0), (.int 0), (.int 0), (.int 0), (.int 0), (.int 0), (.int 0), (.int 0), (.int 0), (.int 0), (.int 0), (.int 0)] (.int 0) := fx176
          refine gw_dup C 167 at_166 rfl rfl ?_
          refine gw_bipush C 169 (10 : Int32) at_167 rfl (by decide) ?_
          refine gw_bipush C 171 (114 : Int32) at_169 rfl (by decide) ?_
          refine gw_castore C 172 10 (v := (114 : Int32)) (by decide) at_171 rfl fx177 (by decide) rfl (nble rfl) (mi 0 rfl) ?_
          intro h178 W179 fx180
          have fx181 : Arv Z h178 b131 k133 .char (24 : Int32) [(.int 106), (.int 97), (.int 118), (.int 97), (.int 120), (.int 46), (.int 115), (.int 101), (.int 99), (.int 117), (.int 114), (.int 0), (.int 0), (.int 0), (.int 0), (.int 0), (.int 0), (.int 0), (.int 0), (.int 0), (.int 0), (.int 0), (.int 0), (.int 0)] (.int 0) := fx180
          refine gw_dup C 173 at_172 rfl rfl ?_
          refine gw_bipush C 175 (11 : Int32) at_173 rfl (by decide) ?_
          refine gw_bipush C 177 (105 : Int32) at_175 rfl (by decide) ?_
          refine gw_castore C 178 11 (v := (105 : Int32)) (by decide) at_177 rfl fx181 (by decide) rfl (nble rfl) (mi 0 rfl) ?_
          intro h182 W183 fx184
          have fx185 : Arv Z h182 b131 k133 .char (24 : Int32) [(.int 106), (.int 97), (.int 118), (.int 97), (.int 120), (.int 46), (.int 115), (.int 101), (.int 99), (.int 117), (.int 114), (.int 105), (.int 0), (.int 0), (.int 0), (.int 0), (.int 0), (.int 0), (.int 0), (.int 0), (.int 0), (.int 0), (.int 0), (.int 0)] (.int 0) := fx184
          refine gw_dup C 179 at_178 rfl rfl ?_
          refine gw_bipush C 181 (12 : Int32) at_179 rfl (by decide) ?_
          refine gw_bipush C 183 (116 : Int32) at_181 rfl (by decide) ?_
          refine gw_castore C 184 12 (v := (116 : Int32)) (by decide) at_183 rfl fx185 (by decide) rfl (nble rfl) (mi 0 rfl) ?_
          intro h186 W187 fx188
          have fx189 : Arv Z h186 b131 k133 .char (24 : Int32) [(.int 106), (.int 97), (.int 118), (.int 97), (.int 120), (.int 46), (.int 115), (.int 101), (.int 99), (.int 117), (.int 114), (.int 105), (.int 116), (.int 0), (.int 0), (.int 0), (.int 0), (.int 0), (.int 0), (.int 0), (.int 0), (.int 0), (.int 0), (.int 0)] (.int 0) := fx188
          refine gw_dup C 185 at_184 rfl rfl ?_
          refine gw_bipush C 187 (13 : Int32) at_185 rfl (by decide) ?_
          refine gw_bipush C 189 (121 : Int32) at_187 rfl (by decide) ?_
          refine gw_castore C 190 13 (v := (121 : Int32)) (by decide) at_189 rfl fx189 (by decide) rfl (nble rfl) (mi 0 rfl) ?_
          intro h190 W191 fx192
          have fx193 : Arv Z h190 b131 k133 .char (24 : Int32) [(.int 106), (.int 97), (.int 118), (.int 97), (.int 120), (.int 46), (.int 115), (.int 101), (.int 99), (.int 117), (.int 114), (.int 105), (.int 116), (.int 121), (.int 0), (.int 0), (.int 0), (.int 0), (.int 0), (.int 0), (.int 0), (.int 0), (.int 0), (.int 0)] (.int 0) := fx192
          refine gw_dup C 191 at_190 rfl rfl ?_
          refine gw_bipush C 193 (14 : Int32) at_191 rfl (by decide) ?_
          refine gw_bipush C 195 (46 : Int32) at_193 rfl (by decide) ?_
          refine gw_castore C 196 14 (v := (46 : Int32)) (by decide) at_195 rfl fx193 (by decide) rfl (nble rfl) (mi 0 rfl) ?_
          intro h194 W195 fx196
          have fx197 : Arv Z h194 b131 k133 .char (24 : Int32) [(.int 106), (.int 97), (.int 118), (.int 97), (.int 120), (.int 46), (.int 115), (.int 101), (.int 99), (.int 117), (.int 114), (.int 105), (.int 116), (.int 121), (.int 46), (.int 0), (.int 0), (.int 0), (.int 0), (.int 0), (.int 0), (.int 0), (.int 0), (.int 0)] (.int 0) := fx196
          refine gw_dup C 197 at_196 rfl rfl ?_
          refine gw_bipush C 199 (15 : Int32) at_197 rfl (by decide) ?_
          refine gw_bipush C 201 (115 : Int32) at_199 rfl (by decide) ?_
          refine gw_castore C 202 15 (v := (115 : Int32)) (by decide) at_201 rfl fx197 (by decide) rfl (nble rfl) (mi 0 rfl) ?_
          intro h198 W199 fx200
          have fx201 : Arv Z h198 b131 k133 .char (24 : Int32) [(.int 106), (.int 97), (.int 118), (.int 97), (.int 120), (.int 46), (.int 115), (.int 101), (.int 99), (.int 117), (.int 114), (.int 105), (.int 116), (.int 121), (.int 46), (.int 115), (.int 0), (.int 0), (.int 0), (.int 0), (.int 0), (.int 0), (.int 0), (.int 0)] (.int 0) := fx200
          refine gw_dup C 203 at_202 rfl rfl ?_
          refine gw_bipush C 205 (16 : Int32) at_203 rfl (by decide) ?_
          refine gw_bipush C 207 (97 : Int32) at_205 rfl (by decide) ?_
          refine gw_castore C 208 16 (v := (97 : Int32)) (by decide) at_207 rfl fx201 (by decide) rfl (nble rfl) (mi 0 rfl) ?_
          intro h202 W203 fx204
          have fx205 : Arv Z h202 b131 k133 .char (24 : Int32) [(.int 106), (.int 97), (.int 118), (.int 97), (.int 120), (.int 46), (.int 115), (.int 101), (.int 99), (.int 117), (.int 114), (.int 105), (.int 116), (.int 121), (.int 46), (.int 115), (.int 97), (.int 0), (.int 0), (.int 0), (.int 0), (.int 0), (.int 0), (.int 0)] (.int 0) := fx204
          refine gw_dup C 209 at_208 rfl rfl ?_
          refine gw_bipush C 211 (17 : Int32) at_209 rfl (by decide) ?_
          refine gw_bipush C 213 (115 : Int32) at_211 rfl (by decide) ?_
          refine gw_castore C 214 17 (v := (115 : Int32)) (by decide) at_213 rfl fx205 (by decide) rfl (nble rfl) (mi 0 rfl) ?_
          intro h206 W207 fx208
          have fx209 : Arv Z h206 b131 k133 .char (24 : Int32) [(.int 106), (.int 97), (.int 118), (.int 97), (.int 120), (.int 46), (.int 115), (.int 101), (.int 99), (.int 117), (.int 114), (.int 105), (.int 116), (.int 121), (.int 46), (.int 115), (.int 97), (.int 115), (.int 0), (.int 0), (.int 0), (.int 0), (.int 0), (.int 0)] (.int 0) := fx208
          refine gw_dup C 215 at_214 rfl rfl ?_
          refine gw_bipush C 217 (18 : Int32) at_215 rfl (by decide) ?_
          refine gw_bipush C 219 (108 : Int32) at_217 rfl (by decide) ?_
          refine gw_castore C 220 18 (v := (108 : Int32)) (by decide) at_219 rfl fx209 (by decide) rfl (nble rfl) (mi 0 rfl) ?_
          intro h210 W211 fx212
          have fx213 : Arv Z h210 b131 k133 .char (24 : Int32) [(.int 106), (.int 97), (.int 118), (.int 97), (.int 120), (.int 46), (.int 115), (.int 101), (.int 99), (.int 117), (.int 114), (.int 105), (.int 116), (.int 121), (.int 46), (.int 115), (.int 97), (.int 115), (.int 108), (.int 0), (.int 0), (.int 0), (.int 0), (.int 0)] (.int 0) := fx212
          refine gw_dup C 221 at_220 rfl rfl ?_
          refine gw_bipush C 223 (19 : Int32) at_221 rfl (by decide) ?_
          refine gw_bipush C 225 (46 : Int32) at_223 rfl (by decide) ?_
          refine gw_castore C 226 19 (v := (46 : Int32)) (by decide) at_225 rfl fx213 (by decide) rfl (nble rfl) (mi 0 rfl) ?_
          intro h214 W215 fx216
          have fx217 : Arv Z h214 b131 k133 .char (24 : Int32) [(.int 106), (.int 97), (.int 118), (.int 97), (.int 120), (.int 46), (.int 115), (.int 101), (.int 99), (.int 117), (.int 114), (.int 105), (.int 116), (.int 121), (.int 46), (.int 115), (.int 97), (.int 115), (.int 108), (.int 46), (.int 0), (.int 0), (.int 0), (.int 0)] (.int 0) := fx216
          refine gw_dup C 227 at_226 rfl rfl ?_
          refine gw_bipush C 229 (20 : Int32) at_227 rfl (by decide) ?_
          refine gw_bipush C 231 (113 : Int32) at_229 rfl (by decide) ?_
          refine gw_castore C 232 20 (v := (113 : Int32)) (by decide) at_231 rfl fx217 (by decide) rfl (nble rfl) (mi 0 rfl) ?_
          intro h218 W219 fx220
          have fx221 : Arv Z h218 b131 k133 .char (24 : Int32) [(.int 106), (.int 97), (.int 118), (.int 97), (.int 120), (.int 46), (.int 115), (.int 101), (.int 99), (.int 117), (.int 114), (.int 105), (.int 116), (.int 121), (.int 46), (.int 115), (.int 97), (.int 115), (.int 108), (.int 46), (.int 113), (.int 0), (.int 0), (.int 0)] (.int 0) := fx220
          refine gw_dup C 233 at_232 rfl rfl ?_
          refine gw_bipush C 235 (21 : Int32) at_233 rfl (by decide) ?_
          refine gw_bipush C 237 (111 : Int32) at_235 rfl (by decide) ?_
          refine gw_castore C 238 21 (v := (111 : Int32)) (by decide) at_237 rfl fx221 (by decide) rfl (nble rfl) (mi 0 rfl) ?_
          intro h222 W223 fx224
          have fx225 : Arv Z h222 b131 k133 .char (24 : Int32) [(.int 106), (.int 97), (.int 118), (.int 97), (.int 120), (.int 46), (.int 115), (.int 101), (.int 99), (.int 117), (.int 114), (.int 105), (.int 116), (.int 121), (.int 46), (.int 115), (.int 97), (.int 115), (.int 108), (.int 46), (.int 113), (.int 111), (.int 0), (.int 0)] (.int 0) := fx224
          refine gw_dup C 239 at_238 rfl rfl ?_
          refine gw_bipush C 241 (22 : Int32) at_239 rfl (by decide) ?_
          refine gw_bipush C 243 (112 : Int32) at_241 rfl (by decide) ?_
          refine gw_castore C 244 22 (v := (112 : Int32)) (by decide) at_243 rfl fx225 (by decide) rfl (nble rfl) (mi 0 rfl) ?_
          intro h226 W227 fx228
          have fx229 : Arv Z h226 b131 k133 .char (24 : Int32) [(.int 106), (.int 97), (.int 118), (.int 97), (.int 120), (.int 46), (.int 115), (.int 101), (.int 99), (.int 117), (.int 114), (.int 105), (.int 116), (.int 121), (.int 46), (.int 115), (.int 97), (.int 115), (.int 108), (.int 46), (.int 113), (.int 111), (.int 112), (.int 0)] (.int 0) := fx228
          refine gw_dup C 245 at_244 rfl rfl ?_
          refine gw_bipush C 247 (23 : Int32) at_245 rfl (by decide) ?_
          refine gw_iload C 249 at_247 rfl rfl ?_
          refine gw_castore C 250 23 (v := (p2 &&& (255 : Int32))) (chr_and255 _).nar at_249 rfl fx229 (by decide) rfl (nble rfl) (mi 0 rfl) ?_
          intro h230 W231 fx232
          have fx233 : Arv Z h230 b131 k133 .char (24 : Int32) [(.int 106), (.int 97), (.int 118), (.int 97), (.int 120), (.int 46), (.int 115), (.int 101), (.int 99), (.int 117), (.int 114), (.int 105), (.int 116), (.int 121), (.int 46), (.int 115), (.int 97), (.int 115), (.int 108), (.int 46), (.int 113), (.int 111), (.int 112), (.int (p2 &&& (255 : Int32)))] (.int 0) := fx232
          have fx234 := (Exa.wr W231 (Exa.wr W227 (Exa.wr W223 (Exa.wr W219 (Exa.wr W215 (Exa.wr W211 (Exa.wr W207 (Exa.wr W203 (Exa.wr W199 (Exa.wr W195 (Exa.wr W191 (Exa.wr W187 (Exa.wr W183 (Exa.wr W179 (Exa.wr W175 (Exa.wr W171 (Exa.wr W167 (Exa.wr W163 (Exa.wr W159 (Exa.wr W155 (Exa.wr W151 (Exa.wr W147 (Exa.wr W143 (Exa.wr W139 (Exa.ext E135 A127)))))))))))))))))))))))))
          have fx235 := (Fld.other W231 (Fld.other W227 (Fld.other W223 (Fld.other W219 (Fld.other W215 (Fld.other W211 (Fld.other W207 (Fld.other W203 (Fld.other W199 (Fld.other W195 (Fld.other W191 (Fld.other W187 (Fld.other W183 (Fld.other W179 (Fld.other W175 (Fld.other W171 (Fld.other W167 (Fld.other W163 (Fld.other W159 (Fld.other W155 (Fld.other W151 (Fld.other W147 (Fld.other W143 (Fld.other W139 (Fld.ext E135 fx130) (Or.inl (Nat.ne_of_lt (Nat.lt_of_lt_of_le (A127).lt (Nat.le_of_eq g134.symm))))) (Or.inl (Nat.ne_of_lt (Nat.lt_of_lt_of_le (A127).lt (Nat.le_of_eq g134.symm))))) (Or.inl (Nat.ne_of_lt (Nat.lt_of_lt_of_le (A127).lt (Nat.le_of_eq g134.symm))))) (Or.inl (Nat.ne_of_lt (Nat.lt_of_lt_of_le (A127).lt (Nat.le_of_eq g134.symm))))) (Or.inl (Nat.ne_of_lt (Nat.lt_of_lt_of_le (A127).lt (Nat.le_of_eq g134.symm))))) (Or.inl (Nat.ne_of_lt (Nat.lt_of_lt_of_le (A127).lt (Nat.le_of_eq g134.symm))))) (Or.inl (Nat.ne_of_lt (Nat.lt_of_lt_of_le (A127).lt (Nat.le_of_eq g134.symm))))) (Or.inl (Nat.ne_of_lt (Nat.lt_of_lt_of_le (A127).lt (Nat.le_of_eq g134.symm))))) (Or.inl (Nat.ne_of_lt (Nat.lt_of_lt_of_le (A127).lt (Nat.le_of_eq g134.symm))))) (Or.inl (Nat.ne_of_lt (Nat.lt_of_lt_of_le (A127).lt (Nat.le_of_eq g134.symm))))) (Or.inl (Nat.ne_of_lt (Nat.lt_of_lt_of_le (A127).lt (Nat.le_of_eq g134.symm))))) (Or.inl (Nat.ne_of_lt (Nat.lt_of_lt_of_le (A127).lt (Nat.le_of_eq g134.symm))))) (Or.inl (Nat.ne_of_lt (Nat.lt_of_lt_of_le (A127).lt (Nat.le_of_eq g134.symm))))) (Or.inl (Nat.ne_of_lt (Nat.lt_of_lt_of_le (A127).lt (Nat.le_of_eq g134.symm))))) (Or.inl (Nat.ne_of_lt (Nat.lt_of_lt_of_le (A127).lt (Nat.le_of_eq g134.symm))))) (Or.inl (Nat.ne_of_lt (Nat.lt_of_lt_of_le (A127).lt (Nat.le_of_eq g134.symm))))) (Or.inl (Nat.ne_of_lt (Nat.lt_of_lt_of_le (A127).lt (Nat.le_of_eq g134.symm))))) (Or.inl (Nat.ne_of_lt (Nat.lt_of_lt_of_le (A127).lt (Nat.le_of_eq g134.symm))))) (Or.inl (Nat.ne_of_lt (Nat.lt_of_lt_of_le (A127).lt (Nat.le_of_eq g134.symm))))) (Or.inl (Nat.ne_of_lt (Nat.lt_of_lt_of_le (A127).lt (Nat.le_of_eq g134.symm))))) (Or.inl (Nat.ne_of_lt (Nat.lt_of_lt_of_le (A127).lt (Nat.le_of_eq g134.symm))))) (Or.inl (Nat.ne_of_lt (Nat.lt_of_lt_of_le (A127).lt (Nat.le_of_eq g134.symm))))) (Or.inl (Nat.ne_of_lt (Nat.lt_of_lt_of_le (A127).lt (Nat.le_of_eq g134.symm))))) (Or.inl (Nat.ne_of_lt (Nat.lt_of_lt_of_le (A127).lt (Nat.le_of_eq g134.symm)))))
          have fx236 := (Fld.other W231 (Fld.other W227 (Fld.other W223 (Fld.other W219 (Fld.other W215 (Fld.other W211 (Fld.other W207 (Fld.other W203 (Fld.other W199 (Fld.other W195 (Fld.other W191 (Fld.other W187 (Fld.other W183 (Fld.other W179 (Fld.other W175 (Fld.other W171 (Fld.other W167 (Fld.other W163 (Fld.other W159 (Fld.other W155 (Fld.other W151 (Fld.other W147 (Fld.other W143 (Fld.other W139 (Fld.ext E135 fx129) (Or.inl (Nat.ne_of_lt (Nat.lt_of_lt_of_le (A127).lt (Nat.le_of_eq g134.symm))))) (Or.inl (Nat.ne_of_lt (Nat.lt_of_lt_of_le (A127).lt (Nat.le_of_eq g134.symm))))) (Or.inl (Nat.ne_of_lt (Nat.lt_of_lt_of_le (A127).lt (Nat.le_of_eq g134.symm))))) (Or.inl (Nat.ne_of_lt (Nat.lt_of_lt_of_le (A127).lt (Nat.le_of_eq g134.symm))))) (Or.inl (Nat.ne_of_lt (Nat.lt_of_lt_of_le (A127).lt (Nat.le_of_eq g134.symm))))) (Or.inl (Nat.ne_of_lt (Nat.lt_of_lt_of_le (A127).lt (Nat.le_of_eq g134.symm))))) (Or.inl (Nat.ne_of_lt (Nat.lt_of_lt_of_le (A127).lt (Nat.le_of_eq g134.symm))))) (Or.inl (Nat.ne_of_lt (Nat.lt_of_lt_of_le (A127).lt (Nat.le_of_eq g134.symm))))) (Or.inl (Nat.ne_of_lt (Nat.lt_of_lt_of_le (A127).lt (Nat.le_of_eq g134.symm))))) (Or.inl (Nat.ne_of_lt (Nat.lt_of_lt_of_le (A127).lt (Nat.le_of_eq g134.symm))))) (Or.inl (Nat.ne_of_lt (Nat.lt_of_lt_of_le (A127).lt (Nat.le_of_eq g134.symm))))) (Or.inl (Nat.ne_of_lt (Nat.lt_of_lt_of_le (A127).lt (Nat.le_of_eq g134.symm))))) (Or.inl (Nat.ne_of_lt (Nat.lt_of_lt_of_le (A127).lt (Nat.le_of_eq g134.symm))))) (Or.inl (Nat.ne_of_lt (Nat.lt_of_lt_of_le (A127).lt (Nat.le_of_eq g134.symm))))) (Or.inl (Nat.ne_of_lt (Nat.lt_of_lt_of_le (A127).lt (Nat.le_of_eq g134.symm))))) (Or.inl (Nat.ne_of_lt (Nat.lt_of_lt_of_le (A127).lt (Nat.le_of_eq g134.symm))))) (Or.inl (Nat.ne_of_lt (Nat.lt_of_lt_of_le (A127).lt (Nat.le_of_eq g134.symm))))) (Or.inl (Nat.ne_of_lt (Nat.lt_of_lt_of_le (A127).lt (Nat.le_of_eq g134.symm))))) (Or.inl (Nat.ne_of_lt (Nat.lt_of_lt_of_le (A127).lt (Nat.le_of_eq g134.symm))))) (Or.inl (Nat.ne_of_lt (Nat.lt_of_lt_of_le (A127).lt (Nat.le_of_eq g134.symm))))) (Or.inl (Nat.ne_of_lt (Nat.lt_of_lt_of_le (A127).lt (Nat.le_of_eq g134.symm))))) (Or.inl (Nat.ne_of_lt (Nat.lt_of_lt_of_le (A127).lt (Nat.le_of_eq g134.symm))))) (Or.inl (Nat.ne_of_lt (Nat.lt_of_lt_of_le (A127).lt (Nat.le_of_eq g134.symm))))) (Or.inl (Nat.ne_of_lt (Nat.lt_of_lt_of_le (A127).lt (Nat.le_of_eq g134.symm)))))
          refine gw_callI C (a := b123) (argsL := [(.ref b131)]) (W := 1) at_250 rfl (hq hw 11 rfl) (hq hw 12 rfl) (hq hw 13 rfl) (by decide) pd___C_V (ct_str24 l Z a0 hw am (a := b123) (b := b131) (kC := k133) (c0 := (106 : Int32)) (c1 := (97 : Int32)) (c2 := (118 : Int32)) (c3 := (97 : Int32)) (c4 := (120 : Int32)) (c5 := (46 : Int32)) (c6 := (115 : Int32)) (c7 := (101 : Int32)) (c8 := (99 : Int32)) (c9 := (117 : Int32)) (c10 := (114 : Int32)) (c11 := (105 : Int32)) (c12 := (116 : Int32)) (c13 := (121 : Int32)) (c14 := (46 : Int32)) (c15 := (115 : Int32)) (c16 := (97 : Int32)) (c17 := (115 : Int32)) (c18 := (108 : Int32)) (c19 := (46 : Int32)) (c20 := (113 : Int32)) (c21 := (111 : Int32)) (c22 := (112 : Int32)) (c23 := (p2 &&& (255 : Int32))) fx234 fx235 fx236 fx233 (by decide) (by decide) (by decide) (by decide) (by decide) (by decide) (by decide) (by decide) (by decide) (by decide) (by decide) (by decide) (by decide) (by decide) (by decide) (by decide) (by decide) (by decide) (by decide) (by decide) (by decide) (by decide) (by decide) (and_small _ 255 (by decide)).2) rfl (by decide) (Nat.le_of_eq rfl) (by decide) rfl (by decide) (by decide) (memsS (mi 1 rfl) mems0) ?_
          intro fv237 h238 K239 fq240
          obtain ⟨t241, kB242, rfl, fx243, fx244, fx245, fx246, fx247⟩ := fq240
          refine ⟨[t241], (freshS ⟨fx247, (fx246).lt⟩ fresh0), ?_⟩
          show GoW l _ Z _ _ _ _ _ κ [t241, b131, b123] _ 253 _ [(.ref b123)] 3 52
          refine gw_astore C 255 (Ls' := #[.val (.int p0), .val (.int p1), .val (.int p2), .val (.ref m), .val (.int ((XT.ushr p0 (1 : Int32)) &&& (7 : Int32))), .val (.int (p2 &&& (255 : Int32))), .val (.ref b123), .unset, .unset, .unset, .unset]) at_253 rfl rfl rfl ?_
          refine gw_iconst C 256 (0 : Int32) at_255 rfl (by decide) ?_
          refine gw_istore C 258 (Ls' := #[.val (.int p0), .val (.int p1), .val (.int p2), .val (.ref m), .val (.int ((XT.ushr p0 (1 : Int32)) &&& (7 : Int32))), .val (.int (p2 &&& (255 : Int32))), .val (.ref b123), .val (.int 0), .unset, .unset, .unset]) at_256 rfl rfl ?_
          refine gw_goto C (pc' := 481) at_258 (by decide) (by decide) ?_
          refine gw_aloadN C 482 at_481 rfl rfl rfl ?_
          refine gw_iconst C 483 (1 : Int32) at_482 rfl (by decide) ?_
          refine gw_aload C 485 at_483 rfl rfl rfl ?_
          refine gw_old ?_
          intro O248 zO248
          refine gw_callVW C hEL (a := m) (argsL := [(.int 1), (.ref b123)]) (W := 0) at_485 (hq hw 37 rfl) (hq hw 38 rfl) (fun _ hZ => notFace_of_selects (args := #[]) (mvT hZ (hq hw 40 rfl))) (hq hw 40 rfl) (hq hw 39 rfl) (Exa.ext O248 pm) (by decide) pd__ZLjava_lang_String__Ljava_lang_Object_ (ct_npN l Z a0 hw am (m := m) (s := b123) (t := t241) (kt := kB242) (vs := [(.int (lo8 106)), (.int (lo8 97)), (.int (lo8 118)), (.int (lo8 97)), (.int (lo8 120)), (.int (lo8 46)), (.int (lo8 115)), (.int (lo8 101)), (.int (lo8 99)), (.int (lo8 117)), (.int (lo8 114)), (.int (lo8 105)), (.int (lo8 116)), (.int (lo8 121)), (.int (lo8 46)), (.int (lo8 115)), (.int (lo8 97)), (.int (lo8 115)), (.int (lo8 108)), (.int (lo8 46)), (.int (lo8 113)), (.int (lo8 111)), (.int (lo8 112)), (.int (lo8 (p2 &&& (255 : Int32))))]) (n := (24 : Int32)) fx243 fx244 fx245 fx246 (by decide)) rfl (by decide) (Nat.le_of_eq rfl) (by decide) rfl (by decide) (by decide) (memsS (mi 2 rfl) mems0) ?_
          intro fv249 h250 K251 fq252
          obtain rfl := fq252
          show GoW l _ Z _ _ _ _ _ κ _ _ 488 _ [.null] 5 148
          refine gw_astore C 490 (Ls' := #[.val (.int p0), .val (.int p1), .val (.int p2), .val (.ref m), .val (.int ((XT.ushr p0 (1 : Int32)) &&& (7 : Int32))), .val (.int (p2 &&& (255 : Int32))), .val (.ref b123), .val (.int 0), .val .null, .unset, .unset]) at_488 rfl rfl rfl ?_
          refine gw_iload C 492 at_490 rfl rfl ?_
          refine gw_ifY C (pc' := 516) at_492 (teq ((by decide) : (0 : Int32) = (0 : Int32))).1 (by decide) (by decide) ?_
          refine gw_aload C 518 at_516 rfl rfl rfl ?_
          refine gw_ifnonnullN C 521 at_518 rfl ?_
          refine gw_iconst C 522 (1 : Int32) at_521 rfl (by decide) ?_
          refine gw_goto C (pc' := 526) at_522 (by decide) (by decide) ?_
          refine gw_retN C hEL (t := .boolean) (z := (1 : Int32)) at_526 rfl (by decide) (by decide) (by decide) (by decide) ?_
          exact rfl
        · skip
          refine gw_icmpY C (pc' := 261) at_101 (feq hc122).2 (by decide) (by decide) ?_
          refine gw_iload C 263 at_261 rfl rfl ?_
          refine gw_iconst C 264 (5 : Int32) at_263 rfl (by decide) ?_
          by_cases hc253 : ((XT.ushr p0 (1 : Int32)) &&& (7 : Int32)) = (5 : Int32)
          · skip
            refine gw_icmpN C 267 at_264 rfl (teq hc253).2 ?_
            refine gw_new C 270 1 4 at_267 rfl rfl rfl (hq hw 3 rfl) (hq hw 4 rfl) (hq hw 5 rfl) (by decide) (by decide) ?_
            intro b254 h255 g256 E257 A258 D259
            have fx260 : Fld Z h255 b254 "java/lang/String" "coder" "B" (.int 0) := D259 (Or.inr (hq hw 34 rfl)) (ty := .byte) (by decide)
            have fx261 : Fld Z h255 b254 "java/lang/String" "value" "[B" .null := D259 (Or.inr (hq hw 36 rfl)) (ty := (.array .byte)) (by decide)
            refine gw_dup C 271 at_270 rfl rfl ?_
            refine gw_bipush C 273 (22 : Int32) at_271 rfl (by decide) ?_
            refine gw_newP C 275 2 26 (ty := .char) (cap := 22) at_273 rfl rfl rfl rfl (hq hw 10 rfl) (by decide) (by decide) (by decide) (by decide) (by decide) ?_
            intro b262 h263 k264 g265 E266 V267
            have fx268 : Arv Z h263 b262 k264 .char (22 : Int32) [(.int 0), (.int 0), (.int 0), (.int 0), (.int 0), (.int 0), (.int 0), (.int 0), (.int 0), (.int 0), (.int 0), (.int 0), (.int 0), (.int 0), (.int 0), (.int 0), (.int 0), (.int 0), (.int 0), (.int 0), (.int 0), (.int 0)] (.int 0) := V267
            refine gw_dup C 276 at_275 rfl rfl ?_
            refine gw_iconst C 277 (0 : Int32) at_276 rfl (by decide) ?_
            refine gw_bipush C 279 (106 : Int32) at_277 rfl (by decide) ?_
            refine gw_castore C 280 0 (v := (106 : Int32)) (by decide) at_279 rfl fx268 (by decide) rfl (nble rfl) (mi 0 rfl) ?_
            intro h269 W270 fx271
            have fx272 : Arv Z h269 b262 k264 .char (22 : Int32) [(.int 106), (.int 0), (.int 0), (.int 0), (.int 0), (.int 0), (.int 0), (.int 0), (.int 0), (.int 0), (.int 0), (.int 0), (.int 0), (.int 0), (.int 0), (.int 0), (.int 0), (.int 0), (.int 0), (.int 0), (.int 0), (.int 0)] (.int 0) := fx271
            refine gw_dup C 281 at_280 rfl rfl ?_
            refine gw_iconst C 282 (1 : Int32) at_281 rfl (by decide) ?_
            refine gw_bipush C 284 (97 : Int32) at_282 rfl (by decide) ?_
            refine gw_castore C 285 1 (v := (97 : Int32)) (by decide) at_284 rfl fx272 (by decide) rfl (nble rfl) (mi 0 rfl) ?_
            intro h273 W274 fx275
            have fx276 : Arv Z h273 b262 k264 .char (22 : Int32) [(.int 106), (.int 97), (.int 0), (.int 0), (.int 0), (.int 0), (.int 0), (.int 0), (.int 0), (.int 0), (.int 0), (.int 0), (.int 0), (.int 0), (.int 0), (.int 0), (.int 0), (.int 0), (.int 0), (.int 0), (.int 0), (.int 0)] (.int 0) := fx275
            refine gw_dup C 286 at_285 rfl rfl ?_
            refine gw_iconst C 287 (2 : Int32) at_286 rfl (by decide) ?_
            refine gw_bipush C 289 (118 : Int32) at_287 rfl (by decide) ?_
            refine gw_castore C 290 2 (v := (118 : Int32)) (by decide) at_289 rfl fx276 (by decide) rfl (nble rfl) (mi 0 rfl) ?_
            intro h277 W278 fx279
            have fx280 : Arv Z h277 b262 k264 .char (22 : Int32) [(.int 106), (.int 97), (.int 118), (.int 0), (.int 0), (.int 0), (.int 0), (.int 0), (.int 0), (.int 0), (.int 0), (.int 0), (.int 0), (.int 0), (.int 0), (.int 0), (.int 0), (.int 0), (.int 0), (.int 0), (.int 0), (.int 0)] (.int 0) := fx279
            refine gw_dup C 291 at_290 rfl rfl ?_
            refine gw_iconst C 292 (3 : Int32) at_291 rfl (by decide) ?_
            refine gw_bipush C 294 (97 : Int32) at_292 rfl (by decide) ?_
            refine gw_castore C 295 3 (v := (97 : Int32)) (by decide) at_294 rfl fx280 (by decide) rfl (nble rfl) (mi 0 rfl) ?_
            intro h281 W282 fx283
            have fx284 : Arv Z h281 b262 k264 .char (22 : Int32) [(.int 106), (.int 97), (.int 118), (.int 97), (.int 0), (.int 0), (.int 0), (.int 0), (.int 0), (.int 0), (.int 0), (.int 0), (.int 0), (.int 0), (.int 0), (.int 0), (.int 0), (.int 0), (.int 0), (.int 0), (.int 0), (.int 0)] (.int 0) := fx283
            refine gw_dup C 296 at_295 rfl rfl ?_
            refine gw_iconst C 297 (4 : Int32) at_296 rfl (by decide) ?_
            refine gw_bipush C 299 (120 : Int32) at_297 rfl (by decide) ?_
            refine gw_castore C 300 4 (v := (120 : Int32)) (by decide) at_299 rfl fx284 (by decide) rfl (nble rfl) (mi 0 rfl) ?_
            intro h285 W286 fx287
            have fx288 : Arv Z h285 b262 k264 .char (22 : Int32) [(.int 106), (.int 97), (.int 118), (.int 97), (.int 120), (.int 0), (.int 0), (.int 0), (.int 0), (.int 0), (.int 0), (.int 0), (.int 0), (.int 0), (.int 0), (.int 0), (.int 0), (.int 0), (.int 0), (.int 0), (.int 0), (.int 0)] (.int 0) := fx287
            refine gw_dup C 301 at_300 rfl rfl ?_
            refine gw_iconst C 302 (5 : Int32) at_301 rfl (by decide) ?_
            refine gw_bipush C 304 (46 : Int32) at_302 rfl (by decide) ?_
            refine gw_castore C 305 5 (v := (46 : Int32)) (by decide) at_304 rfl fx288 (by decide) rfl (nble rfl) (mi 0 rfl) ?_
            intro h289 W290 fx291
            have fx292 : Arv Z h289 b262 k264 .char (22 : Int32) [(.int 106), (.int 97), (.int 118), (.int 97), (.int 120), (.int 46), (.int 0), (.int 0), (.int 0), (.int 0), (.int 0), (.int 0), (.int 0), (.int 0), (.int 0), (.int 0), (.int 0), (.int 0), (.int 0), (.int 0), (.int 0), (.int 0)] (.int 0) := fx291
            refine gw_dup C 306 at_305 rfl rfl ?_
            refine gw_bipush C 308 (6 : Int32) at_306 rfl (by decide) ?_
            refine gw_bipush C 310 (115 : Int32) at_308 rfl (by decide) ?_
            refine gw_castore C 311 6 (v := (115 : Int32)) (by decide) at_310 rfl fx292 (by decide) rfl (nble rfl) (mi 0 rfl) ?_
            intro h293 W294 fx295
            have fx296 : Arv Z h293 b262 k264 .char (22 : Int32) [(.int 106), (.int 97), (.int 118), (.int 97), (.int 120), (.int 46), (.int 115), (.int 0), (.int 0), (.int 0), (.int 0), (.int 0), (.int 0), (.int 0), (.int 0), (.int 0), (.int 0), (.int 0), (.int 0), (.int 0), (.int 0), (.int 0)] (.int 0) := fx295
            refine gw_dup C 312 at_311 rfl rfl ?_
            refine gw_bipush C 314 (7 : Int32) at_312 rfl (by decide) ?_
            refine gw_bipush C 316 (101 : Int32) at_314 rfl (by decide) ?_
            refine gw_castore C 317 7 (v := (101 : Int32)) (by decide) at_316 rfl fx296 (by decide) rfl (nble rfl) (mi 0 rfl) ?_
            intro h297 W298 fx299
            have fx300 : Arv Z h297 b262 k264 .char (22 : Int32) [(.int 106), (.int 97), (.int 118), (.int 97), (.int 120), (.int 46), (.int 115), (.int 101), (.int 0), (.int 0), (.int 0), (.int 0), (.int 0), (.int 0), (.int 0), (.int 0), (.int 0), (.int 0), (.int 0), (.int 0), (.int 0), (.int 0)] (.int 0) := fx299
            refine gw_dup C 318 at_317 rfl rfl ?_
            refine gw_bipush C 320 (8 : Int32) at_318 rfl (by decide) ?_
            refine gw_bipush C 322 (99 : Int32) at_320 rfl (by decide) ?_
            refine gw_castore C 323 8 (v := (99 : Int32)) (by decide) at_322 rfl fx300 (by decide) rfl (nble rfl) (mi 0 rfl) ?_
            intro h301 W302 fx303
            have fx304 : Arv Z h301 b262 k264 .char (22 : Int32) [(.int 106), (.int 97), (.int 118), (.int 97), (.int 120), (.int 46), (.int 115), (.int 101), (.int 99), (.int 0), (.int 0), (.int 0), (.int 0), (.int 0), (.int 0), (.int 0), (.int 0), (.int 0), (.int 0), (.int 0), (.int 0), (.int 0)] (.int 0) := fx303
            refine gw_dup C 324 at_323 rfl rfl ?_
            refine gw_bipush C 326 (9 : Int32) at_324 rfl (by decide) ?_
            refine gw_bipush C 328 (117 : Int32) at_326 rfl (by decide) ?_
            refine gw_castore C 329 9 (v := (117 : Int32)) (by decide) at_328 rfl fx304 (by decide) rfl (nble rfl) (mi 0 rfl) ?_
            intro h305 W306 fx307
            have fx308 : Arv Z h305 b262 k264 .char (22 : Int32) [(.int 106), (.int 97), (.int 118), (.int 97), (.int 120), (.int 46), (.int 115), (.int 101), (.int 99), (.int 117), (.int 0), (.int 0), (.int 0), (.int 0), (.int 0), (.int 0), (.int 0), (.int 0), (.int 0), (.int 0), (.int 0), (.int 0)] (.int 0) := fx307
            refine gw_dup C 330 at_329 rfl rfl ?_
            refine gw_bipush C 332 (10 : Int32) at_330 rfl (by decide) ?_
            refine gw_bipush C 334 (114 : Int32) at_332 rfl (by decide) ?_
            refine gw_castore C 335 10 (v := (114 : Int32)) (by decide) at_334 rfl fx308 (by decide) rfl (nble rfl) (mi 0 rfl) ?_
            intro h309 W310 fx311
            have fx312 : Arv Z h309 b262 k264 .char (22 : Int32) [(.int 106), (.int 97), (.int 118), (.int 97), (.int 120), (.int 46), (.int 115), (.int 101), (.int 99), (.int 117), (.int 114), (.int 0), (.int 0), (.int 0), (.int 0), (.int 0), (.int 0), (.int 0), (.int 0), (.int 0), (.int 0), (.int 0)] (.int 0) := fx311
            refine gw_dup C 336 at_335 rfl rfl ?_
            refine gw_bipush C 338 (11 : Int32) at_336 rfl (by decide) ?_
            refine gw_bipush C 340 (105 : Int32) at_338 rfl (by decide) ?_
            refine gw_castore C 341 11 (v := (105 : Int32)) (by decide) at_340 rfl fx312 (by decide) rfl (nble rfl) (mi 0 rfl) ?_
            intro h313 W314 fx315
            have fx316 : Arv Z h313 b262 k264 .char (22 : Int32) [(.int 106), (.int 97), (.int 118), (.int 97), (.int 120), (.int 46), (.int 115), (.int 101), (.int 99), (.int 117), (.int 114), (.int 105), (.int 0), (.int 0), (.int 0), (.int 0), (.int 0), (.int 0), (.int 0), (.int 0), (.int 0), (.int 0)] (.int 0) := fx315
            refine gw_dup C 342 at_341 rfl rfl ?_
            refine gw_bipush C 344 (12 : Int32) at_342 rfl (by decide) ?_
            refine gw_bipush C 346 (116 : Int32) at_344 rfl (by decide) ?_
            refine gw_castore C 347 12 (v := (116 : Int32)) (by decide) at_346 rfl fx316 (by decide) rfl (nble rfl) (mi 0 rfl) ?_
            intro h317 W318 fx319
            have fx320 : Arv Z h317 b262 k264 .char (22 : Int32) [(.int 106), (.int 97), (.int 118), (.int 97), (.int 120), (.int 46), (.int 115), (.int 101), (.int 99), (.int 117), (.int 114), (.int 105), (.int 116), (.int 0), (.int 0), (.int 0), (.int 0), (.int 0), (.int 0), (.int 0), (.int 0), (.int 0)] (.int 0) := fx319
            refine gw_dup C 348 at_347 rfl rfl ?_
            refine gw_bipush C 350 (13 : Int32) at_348 rfl (by decide) ?_
            refine gw_bipush C 352 (121 : Int32) at_350 rfl (by decide) ?_
            refine gw_castore C 353 13 (v := (121 : Int32)) (by decide) at_352 rfl fx320 (by decide) rfl (nble rfl) (mi 0 rfl) ?_
            intro h321 W322 fx323
            have fx324 : Arv Z h321 b262 k264 .char (22 : Int32) [(.int 106), (.int 97), (.int 118), (.int 97), (.int 120), (.int 46), (.int 115), (.int 101), (.int 99), (.int 117), (.int 114), (.int 105), (.int 116), (.int 121), (.int 0), (.int 0), (.int 0), (.int 0), (.int 0), (.int 0), (.int 0), (.int 0)] (.int 0) := fx323
            refine gw_dup C 354 at_353 rfl rfl ?_
            refine gw_bipush C 356 (14 : Int32) at_354 rfl (by decide) ?_
            refine gw_bipush C 358 (46 : Int32) at_356 rfl (by decide) ?_
            refine gw_castore C 359 14 (v := (46 : Int32)) (by decide) at_358 rfl fx324 (by decide) rfl (nble rfl) (mi 0 rfl) ?_
            intro h325 W326 fx327
            have fx328 : Arv Z h325 b262 k264 .char (22 : Int32) [(.int 106), (.int 97), (.int 118), (.int 97), (.int 120), (.int 46), (.int 115), (.int 101), (.int 99), (.int 117), (.int 114), (.int 105), (.int 116), (.int 121), (.int 46), (.int 0), (.int 0), (.int 0), (.int 0), (.int 0), (.int 0), (.int 0)] (.int 0) := fx327
            refine gw_dup C 360 at_359 rfl rfl ?_
            refine gw_bipush C 362 (15 : Int32) at_360 rfl (by decide) ?_
            refine gw_bipush C 364 (115 : Int32) at_362 rfl (by decide) ?_
            refine gw_castore C 365 15 (v := (115 : Int32)) (by decide) at_364 rfl fx328 (by decide) rfl (nble rfl) (mi 0 rfl) ?_
            intro h329 W330 fx331
            have fx332 : Arv Z h329 b262 k264 .char (22 : Int32) [(.int 106), (.int 97), (.int 118), (.int 97), (.int 120), (.int 46), (.int 115), (.int 101), (.int 99), (.int 117), (.int 114), (.int 105), (.int 116), (.int 121), (.int 46), (.int 115), (.int 0), (.int 0), (.int 0), (.int 0), (.int 0), (.int 0)] (.int 0) := fx331
            refine gw_dup C 366 at_365 rfl rfl ?_
            refine gw_bipush C 368 (16 : Int32) at_366 rfl (by decide) ?_
            refine gw_bipush C 370 (97 : Int32) at_368 rfl (by decide) ?_
            refine gw_castore C 371 16 (v := (97 : Int32)) (by decide) at_370 rfl fx332 (by decide) rfl (nble rfl) (mi 0 rfl) ?_
            intro h333 W334 fx335
            have fx336 : Arv Z h333 b262 k264 .char (22 : Int32) [(.int 106), (.int 97), (.int 118), (.int 97), (.int 120), (.int 46), (.int 115), (.int 101), (.int 99), (.int 117), (.int 114), (.int 105), (.int 116), (.int 121), (.int 46), (.int 115), (.int 97), (.int 0), (.int 0), (.int 0), (.int 0), (.int 0)] (.int 0) := fx335
            refine gw_dup C 372 at_371 rfl rfl ?_
            refine gw_bipush C 374 (17 : Int32) at_372 rfl (by decide) ?_
            refine gw_bipush C 376 (115 : Int32) at_374 rfl (by decide) ?_
            refine gw_castore C 377 17 (v := (115 : Int32)) (by decide) at_376 rfl fx336 (by decide) rfl (nble rfl) (mi 0 rfl) ?_
            intro h337 W338 fx339
            have fx340 : Arv Z h337 b262 k264 .char (22 : Int32) [(.int 106), (.int 97), (.int 118), (.int 97), (.int 120), (.int 46), (.int 115), (.int 101), (.int 99), (.int 117), (.int 114), (.int 105), (.int 116), (.int 121), (.int 46), (.int 115), (.int 97), (.int 115), (.int 0), (.int 0), (.int 0), (.int 0)] (.int 0) := fx339
            refine gw_dup C 378 at_377 rfl rfl ?_
            refine gw_bipush C 380 (18 : Int32) at_378 rfl (by decide) ?_
            refine gw_bipush C 382 (108 : Int32) at_380 rfl (by decide) ?_
            refine gw_castore C 383 18 (v := (108 : Int32)) (by decide) at_382 rfl fx340 (by decide) rfl (nble rfl) (mi 0 rfl) ?_
            intro h341 W342 fx343
            have fx344 : Arv Z h341 b262 k264 .char (22 : Int32) [(.int 106), (.int 97), (.int 118), (.int 97), (.int 120), (.int 46), (.int 115), (.int 101), (.int 99), (.int 117), (.int 114), (.int 105), (.int 116), (.int 121), (.int 46), (.int 115), (.int 97), (.int 115), (.int 108), (.int 0), (.int 0), (.int 0)] (.int 0) := fx343
            refine gw_dup C 384 at_383 rfl rfl ?_
            refine gw_bipush C 386 (19 : Int32) at_384 rfl (by decide) ?_
            refine gw_bipush C 388 (46 : Int32) at_386 rfl (by decide) ?_
            refine gw_castore C 389 19 (v := (46 : Int32)) (by decide) at_388 rfl fx344 (by decide) rfl (nble rfl) (mi 0 rfl) ?_
            intro h345 W346 fx347
            have fx348 : Arv Z h345 b262 k264 .char (22 : Int32) [(.int 106), (.int 97), (.int 118), (.int 97), (.int 120), (.int 46), (.int 115), (.int 101), (.int 99), (.int 117), (.int 114), (.int 105), (.int 116), (.int 121), (.int 46), (.int 115), (.int 97), (.int 115), (.int 108), (.int 46), (.int 0), (.int 0)] (.int 0) := fx347
            refine gw_dup C 390 at_389 rfl rfl ?_
            refine gw_bipush C 392 (20 : Int32) at_390 rfl (by decide) ?_
            refine gw_bipush C 394 (113 : Int32) at_392 rfl (by decide) ?_
            refine gw_castore C 395 20 (v := (113 : Int32)) (by decide) at_394 rfl fx348 (by decide) rfl (nble rfl) (mi 0 rfl) ?_
            intro h349 W350 fx351
            have fx352 : Arv Z h349 b262 k264 .char (22 : Int32) [(.int 106), (.int 97), (.int 118), (.int 97), (.int 120), (.int 46), (.int 115), (.int 101), (.int 99), (.int 117), (.int 114), (.int 105), (.int 116), (.int 121), (.int 46), (.int 115), (.int 97), (.int 115), (.int 108), (.int 46), (.int 113), (.int 0)] (.int 0) := fx351
            refine gw_dup C 396 at_395 rfl rfl ?_
            refine gw_bipush C 398 (21 : Int32) at_396 rfl (by decide) ?_
            refine gw_bipush C 400 (111 : Int32) at_398 rfl (by decide) ?_
            refine gw_castore C 401 21 (v := (111 : Int32)) (by decide) at_400 rfl fx352 (by decide) rfl (nble rfl) (mi 0 rfl) ?_
            intro h353 W354 fx355
            have fx356 : Arv Z h353 b262 k264 .char (22 : Int32) [(.int 106), (.int 97), (.int 118), (.int 97), (.int 120), (.int 46), (.int 115), (.int 101), (.int 99), (.int 117), (.int 114), (.int 105), (.int 116), (.int 121), (.int 46), (.int 115), (.int 97), (.int 115), (.int 108), (.int 46), (.int 113), (.int 111)] (.int 0) := fx355
            have fx357 := (Exa.wr W354 (Exa.wr W350 (Exa.wr W346 (Exa.wr W342 (Exa.wr W338 (Exa.wr W334 (Exa.wr W330 (Exa.wr W326 (Exa.wr W322 (Exa.wr W318 (Exa.wr W314 (Exa.wr W310 (Exa.wr W306 (Exa.wr W302 (Exa.wr W298 (Exa.wr W294 (Exa.wr W290 (Exa.wr W286 (Exa.wr W282 (Exa.wr W278 (Exa.wr W274 (Exa.wr W270 (Exa.ext E266 A258)))))))))))))))))))))))
            have fx358 := (Fld.other W354 (Fld.other W350 (Fld.other W346 (Fld.other W342 (Fld.other W338 (Fld.other W334 (Fld.other W330 (Fld.other W326 (Fld.other W322 (Fld.other W318 (Fld.other W314 (Fld.other W310 (Fld.other W306 (Fld.other W302 (Fld.other W298 (Fld.other W294 (Fld.other W290 (Fld.other W286 (Fld.other W282 (Fld.other W278 (Fld.other W274 (Fld.other W270 (Fld.ext E266 fx261) (Or.inl (Nat.ne_of_lt (Nat.lt_of_lt_of_le (A258).lt (Nat.le_of_eq g265.symm))))) (Or.inl (Nat.ne_of_lt (Nat.lt_of_lt_of_le (A258).lt (Nat.le_of_eq g265.symm))))) (Or.inl (Nat.ne_of_lt (Nat.lt_of_lt_of_le (A258).lt (Nat.le_of_eq g265.symm))))) (Or.inl (Nat.ne_of_lt (Nat.lt_of_lt_of_le (A258).lt (Nat.le_of_eq g265.symm))))) (Or.inl (Nat.ne_of_lt (Nat.lt_of_lt_of_le (A258).lt (Nat.le_of_eq g265.symm))))) (Or.inl (Nat.ne_of_lt (Nat.lt_of_lt_of_le (A258).lt (Nat.le_of_eq g265.symm))))) (Or.inl (Nat.ne_of_lt (Nat.lt_of_lt_of_le (A258).lt (Nat.le_of_eq g265.symm))))) (Or.inl (Nat.ne_of_lt (Nat.lt_of_lt_of_le (A258).lt (Nat.le_of_eq g265.symm))))) (Or.inl (Nat.ne_of_lt (Nat.lt_of_lt_of_le (A258).lt (Nat.le_of_eq g265.symm))))) (Or.inl (Nat.ne_of_lt (Nat.lt_of_lt_of_le (A258).lt (Nat.le_of_eq g265.symm))))) (Or.inl (Nat.ne_of_lt (Nat.lt_of_lt_of_le (A258).lt (Nat.le_of_eq g265.symm))))) (Or.inl (Nat.ne_of_lt (Nat.lt_of_lt_of_le (A258).lt (Nat.le_of_eq g265.symm))))) (Or.inl (Nat.ne_of_lt (Nat.lt_of_lt_of_le (A258).lt (Nat.le_of_eq g265.symm))))) (Or.inl (Nat.ne_of_lt (Nat.lt_of_lt_of_le (A258).lt (Nat.le_of_eq g265.symm))))) (Or.inl (Nat.ne_of_lt (Nat.lt_of_lt_of_le (A258).lt (Nat.le_of_eq g265.symm))))) (Or.inl (Nat.ne_of_lt (Nat.lt_of_lt_of_le (A258).lt (Nat.le_of_eq g265.symm))))) (Or.inl (Nat.ne_of_lt (Nat.lt_of_lt_of_le (A258).lt (Nat.le_of_eq g265.symm))))) (Or.inl (Nat.ne_of_lt (Nat.lt_of_lt_of_le (A258).lt (Nat.le_of_eq g265.symm))))) (Or.inl (Nat.ne_of_lt (Nat.lt_of_lt_of_le (A258).lt (Nat.le_of_eq g265.symm))))) (Or.inl (Nat.ne_of_lt (Nat.lt_of_lt_of_le (A258).lt (Nat.le_of_eq g265.symm))))) (Or.inl (Nat.ne_of_lt (Nat.lt_of_lt_of_le (A258).lt (Nat.le_of_eq g265.symm))))) (Or.inl (Nat.ne_of_lt (Nat.lt_of_lt_of_le (A258).lt (Nat.le_of_eq g265.symm)))))
            have fx359 := (Fld.other W354 (Fld.other W350 (Fld.other W346 (Fld.other W342 (Fld.other W338 (Fld.other W334 (Fld.other W330 (Fld.other W326 (Fld.other W322 (Fld.other W318 (Fld.other W314 (Fld.other W310 (Fld.other W306 (Fld.other W302 (Fld.other W298 (Fld.other W294 (Fld.other W290 (Fld.other W286 (Fld.other W282 (Fld.other W278 (Fld.other W274 (Fld.other W270 (Fld.ext E266 fx260) (Or.inl (Nat.ne_of_lt (Nat.lt_of_lt_of_le (A258).lt (Nat.le_of_eq g265.symm))))) (Or.inl (Nat.ne_of_lt (Nat.lt_of_lt_of_le (A258).lt (Nat.le_of_eq g265.symm))))) (Or.inl (Nat.ne_of_lt (Nat.lt_of_lt_of_le (A258).lt (Nat.le_of_eq g265.symm))))) (Or.inl (Nat.ne_of_lt (Nat.lt_of_lt_of_le (A258).lt (Nat.le_of_eq g265.symm))))) (Or.inl (Nat.ne_of_lt (Nat.lt_of_lt_of_le (A258).lt (Nat.le_of_eq g265.symm))))) (Or.inl (Nat.ne_of_lt (Nat.lt_of_lt_of_le (A258).lt (Nat.le_of_eq g265.symm))))) (Or.inl (Nat.ne_of_lt (Nat.lt_of_lt_of_le (A258).lt (Nat.le_of_eq g265.symm))))) (Or.inl (Nat.ne_of_lt (Nat.lt_of_lt_of_le (A258).lt (Nat.le_of_eq g265.symm))))) (Or.inl (Nat.ne_of_lt (Nat.lt_of_lt_of_le (A258).lt (Nat.le_of_eq g265.symm))))) (Or.inl (Nat.ne_of_lt (Nat.lt_of_lt_of_le (A258).lt (Nat.le_of_eq g265.symm))))) (Or.inl (Nat.ne_of_lt (Nat.lt_of_lt_of_le (A258).lt (Nat.le_of_eq g265.symm))))) (Or.inl (Nat.ne_of_lt (Nat.lt_of_lt_of_le (A258).lt (Nat.le_of_eq g265.symm))))) (Or.inl (Nat.ne_of_lt (Nat.lt_of_lt_of_le (A258).lt (Nat.le_of_eq g265.symm))))) (Or.inl (Nat.ne_of_lt (Nat.lt_of_lt_of_le (A258).lt (Nat.le_of_eq g265.symm))))) (Or.inl (Nat.ne_of_lt (Nat.lt_of_lt_of_le (A258).lt (Nat.le_of_eq g265.symm))))) (Or.inl (Nat.ne_of_lt (Nat.lt_of_lt_of_le (A258).lt (Nat.le_of_eq g265.symm))))) (Or.inl (Nat.ne_of_lt (Nat.lt_of_lt_of_le (A258).lt (Nat.le_of_eq g265.symm))))) (Or.inl (Nat.ne_of_lt (Nat.lt_of_lt_of_le (A258).lt (Nat.le_of_eq g265.symm))))) (Or.inl (Nat.ne_of_lt (Nat.lt_of_lt_of_le (A258).lt (Nat.le_of_eq g265.symm))))) (Or.inl (Nat.ne_of_lt (Nat.lt_of_lt_of_le (A258).lt (Nat.le_of_eq g265.symm))))) (Or.inl (Nat.ne_of_lt (Nat.lt_of_lt_of_le (A258).lt (Nat.le_of_eq g265.symm))))) (Or.inl (Nat.ne_of_lt (Nat.lt_of_lt_of_le (A258).lt (Nat.le_of_eq g265.symm)))))
            refine gw_callI C (a := b254) (argsL := [(.ref b262)]) (W := 1) at_401 rfl (hq hw 11 rfl) (hq hw 12 rfl) (hq hw 13 rfl) (by decide) pd___C_V (ct_str22 l Z a0 hw am (a := b254) (b := b262) (kC := k264) (c0 := (106 : Int32)) (c1 := (97 : Int32)) (c2 := (118 : Int32)) (c3 := (97 : Int32)) (c4 := (120 : Int32)) (c5 := (46 : Int32)) (c6 := (115 : Int32)) (c7 := (101 : Int32)) (c8 := (99 : Int32)) (c9 := (117 : Int32)) (c10 := (114 : Int32)) (c11 := (105 : Int32)) (c12 := (116 : Int32)) (c13 := (121 : Int32)) (c14 := (46 : Int32)) (c15 := (115 : Int32)) (c16 := (97 : Int32)) (c17 := (115 : Int32)) (c18 := (108 : Int32)) (c19 := (46 : Int32)) (c20 := (113 : Int32)) (c21 := (111 : Int32)) fx357 fx358 fx359 fx356 (by decide) (by decide) (by decide) (by decide) (by decide) (by decide) (by decide) (by decide) (by decide) (by decide) (by decide) (by decide) (by decide) (by decide) (by decide) (by decide) (by decide) (by decide) (by decide) (by decide) (by decide) (by decide)) rfl (by decide) (Nat.le_of_eq rfl) (by decide) rfl (by decide) (by decide) (memsS (mi 1 rfl) mems0) ?_
            intro fv360 h361 K362 fq363
            obtain ⟨t364, kB365, rfl, fx366, fx367, fx368, fx369, fx370⟩ := fq363
            refine ⟨[t364], (freshS ⟨fx370, (fx369).lt⟩ fresh0), ?_⟩
            show GoW l _ Z _ _ _ _ _ κ [t364, b262, b254] _ 404 _ [(.ref b254)] 3 48
            refine gw_astore C 406 (Ls' := #[.val (.int p0), .val (.int p1), .val (.int p2), .val (.ref m), .val (.int ((XT.ushr p0 (1 : Int32)) &&& (7 : Int32))), .val (.int (p2 &&& (255 : Int32))), .val (.ref b254), .unset, .unset, .unset, .unset]) at_404 rfl rfl rfl ?_
            refine gw_iconst C 407 (0 : Int32) at_406 rfl (by decide) ?_
            refine gw_istore C 409 (Ls' := #[.val (.int p0), .val (.int p1), .val (.int p2), .val (.ref m), .val (.int ((XT.ushr p0 (1 : Int32)) &&& (7 : Int32))), .val (.int (p2 &&& (255 : Int32))), .val (.ref b254), .val (.int 0), .unset, .unset, .unset]) at_407 rfl rfl ?_
            refine gw_goto C (pc' := 481) at_409 (by decide) (by decide) ?_
            refine gw_aloadN C 482 at_481 rfl rfl rfl ?_
            refine gw_iconst C 483 (1 : Int32) at_482 rfl (by decide) ?_
            refine gw_aload C 485 at_483 rfl rfl rfl ?_
            refine gw_old ?_
            intro O371 zO371
            refine gw_callVW C hEL (a := m) (argsL := [(.int 1), (.ref b254)]) (W := 0) at_485 (hq hw 37 rfl) (hq hw 38 rfl) (fun _ hZ => notFace_of_selects (args := #[]) (mvT hZ (hq hw 40 rfl))) (hq hw 40 rfl) (hq hw 39 rfl) (Exa.ext O371 pm) (by decide) pd__ZLjava_lang_String__Ljava_lang_Object_ (ct_npN l Z a0 hw am (m := m) (s := b254) (t := t364) (kt := kB365) (vs := [(.int (lo8 106)), (.int (lo8 97)), (.int (lo8 118)), (.int (lo8 97)), (.int (lo8 120)), (.int (lo8 46)), (.int (lo8 115)), (.int (lo8 101)), (.int (lo8 99)), (.int (lo8 117)), (.int (lo8 114)), (.int (lo8 105)), (.int (lo8 116)), (.int (lo8 121)), (.int (lo8 46)), (.int (lo8 115)), (.int (lo8 97)), (.int (lo8 115)), (.int (lo8 108)), (.int (lo8 46)), (.int (lo8 113)), (.int (lo8 111))]) (n := (22 : Int32)) fx366 fx367 fx368 fx369 (by decide)) rfl (by decide) (Nat.le_of_eq rfl) (by decide) rfl (by decide) (by decide) (memsS (mi 2 rfl) mems0) ?_
            intro fv372 h373 K374 fq375
            obtain rfl := fq375
            show GoW l _ Z _ _ _ _ _ κ _ _ 488 _ [.null] 5 144
            refine gw_astore C 490 (Ls' := #[.val (.int p0), .val (.int p1), .val (.int p2), .val (.ref m), .val (.int ((XT.ushr p0 (1 : Int32)) &&& (7 : Int32))), .val (.int (p2 &&& (255 : Int32))), .val (.ref b254), .val (.int 0), .val .null, .unset, .unset]) at_488 rfl rfl rfl ?_
            refine gw_iload C 492 at_490 rfl rfl ?_
            refine gw_ifY C (pc' := 516) at_492 (teq ((by decide) : (0 : Int32) = (0 : Int32))).1 (by decide) (by decide) ?_
            refine gw_aload C 518 at_516 rfl rfl rfl ?_
            refine gw_ifnonnullN C 521 at_518 rfl ?_
            refine gw_iconst C 522 (1 : Int32) at_521 rfl (by decide) ?_
            refine gw_goto C (pc' := 526) at_522 (by decide) (by decide) ?_
            refine gw_retN C hEL (t := .boolean) (z := (1 : Int32)) at_526 rfl (by decide) (by decide) (by decide) (by decide) ?_
            exact rfl
          · skip
            refine gw_icmpY C (pc' := 412) at_264 (feq hc253).2 (by decide) (by decide) ?_
            refine gw_iload C 414 at_412 rfl rfl ?_
            refine gw_bipush C 416 (6 : Int32) at_414 rfl (by decide) ?_
            by_cases hc376 : ((XT.ushr p0 (1 : Int32)) &&& (7 : Int32)) = (6 : Int32)
            · skip
              refine gw_icmpN C 419 at_416 rfl (teq hc376).2 ?_
              refine gw_aconstNull C 420 at_419 rfl ?_
              refine gw_astore C 422 (Ls' := #[.val (.int p0), .val (.int p1), .val (.int p2), .val (.ref m), .val (.int ((XT.ushr p0 (1 : Int32)) &&& (7 : Int32))), .val (.int (p2 &&& (255 : Int32))), .val .null, .unset, .unset, .unset, .unset]) at_420 rfl rfl rfl ?_
              refine gw_iconst C 423 (0 : Int32) at_422 rfl (by decide) ?_
              refine gw_istore C 425 (Ls' := #[.val (.int p0), .val (.int p1), .val (.int p2), .val (.ref m), .val (.int ((XT.ushr p0 (1 : Int32)) &&& (7 : Int32))), .val (.int (p2 &&& (255 : Int32))), .val .null, .val (.int 0), .unset, .unset, .unset]) at_423 rfl rfl ?_
              refine gw_goto C (pc' := 481) at_425 (by decide) (by decide) ?_
              refine gw_aloadN C 482 at_481 rfl rfl rfl ?_
              refine gw_iconst C 483 (1 : Int32) at_482 rfl (by decide) ?_
              refine gw_aload C 485 at_483 rfl rfl rfl ?_
              refine gw_old ?_
              intro O377 zO377
              refine gw_callVW C hEL (a := m) (argsL := [(.int 1), .null]) (W := 0) at_485 (hq hw 37 rfl) (hq hw 38 rfl) (fun _ hZ => notFace_of_selects (args := #[]) (mvT hZ (hq hw 40 rfl))) (hq hw 40 rfl) (hq hw 39 rfl) (Exa.ext O377 pm) (by decide) pd__ZLjava_lang_String__Ljava_lang_Object_ (ct_npnull l Z a0 hw am (m := m)) rfl (by decide) (Nat.le_of_eq rfl) (by decide) rfl (by decide) (by decide) mems0 ?_
              intro fv378 h379 K380 fq381
              obtain rfl := fq381
              show GoW l _ Z _ _ _ _ _ κ _ _ 488 _ [.null] 2 96
              refine gw_astore C 490 (Ls' := #[.val (.int p0), .val (.int p1), .val (.int p2), .val (.ref m), .val (.int ((XT.ushr p0 (1 : Int32)) &&& (7 : Int32))), .val (.int (p2 &&& (255 : Int32))), .val .null, .val (.int 0), .val .null, .unset, .unset]) at_488 rfl rfl rfl ?_
              refine gw_iload C 492 at_490 rfl rfl ?_
              refine gw_ifY C (pc' := 516) at_492 (teq ((by decide) : (0 : Int32) = (0 : Int32))).1 (by decide) (by decide) ?_
              refine gw_aload C 518 at_516 rfl rfl rfl ?_
              refine gw_ifnonnullN C 521 at_518 rfl ?_
              refine gw_iconst C 522 (1 : Int32) at_521 rfl (by decide) ?_
              refine gw_goto C (pc' := 526) at_522 (by decide) (by decide) ?_
              refine gw_retN C hEL (t := .boolean) (z := (1 : Int32)) at_526 rfl (by decide) (by decide) (by decide) (by decide) ?_
              exact rfl
            · skip
              refine gw_icmpY C (pc' := 428) at_416 (feq hc376).2 (by decide) (by decide) ?_
              refine gw_callS C (argsL := []) (W := 0) at_428 (hq hw 6 rfl) (hq hw 7 rfl) (hq hw 8 rfl) (hq hw 9 rfl) (by decide) pd____C (ct_qop l Z a0 hw am) rfl (by decide) (Nat.le_of_eq rfl) (by decide) rfl (by decide) (by decide) mems0 ?_
              intro fv382 h383 K384 fq385
              obtain ⟨t386, kC387, rfl, fx388, fx389⟩ := fq385
              refine ⟨[t386], (freshS ⟨fx389, (fx388).lt⟩ fresh0), ?_⟩
              show GoW l _ Z _ _ _ _ _ κ [t386] _ 431 _ [(.ref t386)] 1 23
              refine gw_astore C 433 (Ls' := #[.val (.int p0), .val (.int p1), .val (.int p2), .val (.ref m), .val (.int ((XT.ushr p0 (1 : Int32)) &&& (7 : Int32))), .val (.int (p2 &&& (255 : Int32))), .unset, .unset, .val (.ref t386), .unset, .unset]) at_431 rfl rfl rfl ?_
              refine gw_iloadN C 434 at_433 rfl rfl ?_
              refine gw_ldcInt C 436 (v := (2147483647 : Int32)) at_434 rfl (hq hw 61 rfl) ?_
              refine gw_iand C 437 (p1 &&& (2147483647 : Int32)) at_436 rfl rfl ?_
              refine gw_bipush C 439 (23 : Int32) at_437 rfl (by decide) ?_
              rcases mod23 p1 with ec390 | ec390 | ec390 | ec390 | ec390 | ec390 | ec390 | ec390 | ec390 | ec390 | ec390 | ec390 | ec390 | ec390 | ec390 | ec390 | ec390 | ec390 | ec390 | ec390 | ec390 | ec390 | ec390
              · skip
                refine gw_irem C 440 (0 : Int32) at_439 rfl (by decide) ec390 ?_
                refine gw_istore C 442 (Ls' := #[.val (.int p0), .val (.int p1), .val (.int p2), .val (.ref m), .val (.int ((XT.ushr p0 (1 : Int32)) &&& (7 : Int32))), .val (.int (p2 &&& (255 : Int32))), .unset, .unset, .val (.ref t386), .val (.int 0), .unset]) at_440 rfl rfl ?_
                refine gw_aload C 444 at_442 rfl rfl rfl ?_
                refine gw_iload C 446 at_444 rfl rfl ?_
                refine gw_caload C 447 (v := (.int 106)) at_446 rfl fx388 (by decide) rfl ?_
                refine gw_istore C 449 (Ls' := #[.val (.int p0), .val (.int p1), .val (.int p2), .val (.ref m), .val (.int ((XT.ushr p0 (1 : Int32)) &&& (7 : Int32))), .val (.int (p2 &&& (255 : Int32))), .unset, .unset, .val (.ref t386), .val (.int 0), .val (.int 106)]) at_447 rfl rfl ?_
                refine gw_aload C 451 at_449 rfl rfl rfl ?_
                refine gw_iload C 453 at_451 rfl rfl ?_
                refine gw_iload C 455 at_453 rfl rfl ?_
                refine gw_castore C 456 0 (v := (p2 &&& (255 : Int32))) (chr_and255 _).nar at_455 rfl fx388 (by decide) rfl (nble rfl) (mi 0 rfl) ?_
                intro h391 W392 fx393
                have fx394 : Arv Z h391 t386 kC387 .char (23 : Int32) [(.int (p2 &&& (255 : Int32))), (.int 97), (.int 118), (.int 97), (.int 120), (.int 46), (.int 115), (.int 101), (.int 99), (.int 117), (.int 114), (.int 105), (.int 116), (.int 121), (.int 46), (.int 115), (.int 97), (.int 115), (.int 108), (.int 46), (.int 113), (.int 111), (.int 112)] (.int 0) := fx393
                refine gw_new C 459 2 27 at_456 rfl rfl rfl (hq hw 3 rfl) (hq hw 4 rfl) (hq hw 5 rfl) (by decide) (by decide) ?_
                intro b395 h396 g397 E398 A399 D400
                have fx401 : Fld Z h396 b395 "java/lang/String" "coder" "B" (.int 0) := D400 (Or.inr (hq hw 34 rfl)) (ty := .byte) (by decide)
                have fx402 : Fld Z h396 b395 "java/lang/String" "value" "[B" .null := D400 (Or.inr (hq hw 36 rfl)) (ty := (.array .byte)) (by decide)
                refine gw_dup C 460 at_459 rfl rfl ?_
                refine gw_aload C 462 at_460 rfl rfl rfl ?_
                have fx403 := (fx394.ext E398)
                refine gw_callI C (a := b395) (argsL := [(.ref t386)]) (W := 1) at_462 rfl (hq hw 11 rfl) (hq hw 12 rfl) (hq hw 13 rfl) (by decide) pd___C_V (ct_str23 l Z a0 hw am (a := b395) (b := t386) (kC := kC387) (c0 := (p2 &&& (255 : Int32))) (c1 := (97 : Int32)) (c2 := (118 : Int32)) (c3 := (97 : Int32)) (c4 := (120 : Int32)) (c5 := (46 : Int32)) (c6 := (115 : Int32)) (c7 := (101 : Int32)) (c8 := (99 : Int32)) (c9 := (117 : Int32)) (c10 := (114 : Int32)) (c11 := (105 : Int32)) (c12 := (116 : Int32)) (c13 := (121 : Int32)) (c14 := (46 : Int32)) (c15 := (115 : Int32)) (c16 := (97 : Int32)) (c17 := (115 : Int32)) (c18 := (108 : Int32)) (c19 := (46 : Int32)) (c20 := (113 : Int32)) (c21 := (111 : Int32)) (c22 := (112 : Int32)) A399 fx402 fx401 fx403 (and_small _ 255 (by decide)).2 (by decide) (by decide) (by decide) (by decide) (by decide) (by decide) (by decide) (by decide) (by decide) (by decide) (by decide) (by decide) (by decide) (by decide) (by decide) (by decide) (by decide) (by decide) (by decide) (by decide) (by decide) (by decide)) rfl (by decide) (Nat.le_of_eq rfl) (by decide) rfl (by decide) (by decide) (memsS (mi 0 rfl) mems0) ?_
                intro fv404 h405 K406 fq407
                obtain ⟨t408, kB409, rfl, fx410, fx411, fx412, fx413, fx414⟩ := fq407
                refine ⟨[t408], (freshS ⟨fx414, (fx413).lt⟩ fresh0), ?_⟩
                show GoW l _ Z _ _ _ _ _ κ [t408, b395, t386] _ 465 _ [(.ref b395)] 3 50
                refine gw_astore C 467 (Ls' := #[.val (.int p0), .val (.int p1), .val (.int p2), .val (.ref m), .val (.int ((XT.ushr p0 (1 : Int32)) &&& (7 : Int32))), .val (.int (p2 &&& (255 : Int32))), .val (.ref b395), .unset, .val (.ref t386), .val (.int 0), .val (.int 106)]) at_465 rfl rfl rfl ?_
                refine gw_iload C 469 at_467 rfl rfl ?_
                refine gw_iload C 471 at_469 rfl rfl ?_
                by_cases hcq : (p2 &&& (255 : Int32)) = (106 : Int32)
                · skip
                  refine gw_icmpN C 474 at_471 rfl (teq hcq).2 ?_
                  refine gw_iconst C 475 (1 : Int32) at_474 rfl (by decide) ?_
                  refine gw_goto C (pc' := 479) at_475 (by decide) (by decide) ?_
                  refine gw_istore C 481 (Ls' := #[.val (.int p0), .val (.int p1), .val (.int p2), .val (.ref m), .val (.int ((XT.ushr p0 (1 : Int32)) &&& (7 : Int32))), .val (.int (p2 &&& (255 : Int32))), .val (.ref b395), .val (.int 1), .val (.ref t386), .val (.int 0), .val (.int 106)]) at_479 rfl rfl ?_
                  refine gw_aloadN C 482 at_481 rfl rfl rfl ?_
                  refine gw_iconst C 483 (1 : Int32) at_482 rfl (by decide) ?_
                  refine gw_aload C 485 at_483 rfl rfl rfl ?_
                  refine gw_old ?_
                  intro O415 zO415
                  refine gw_callVW C hEL (a := m) (argsL := [(.int 1), (.ref b395)]) (W := 0) at_485 (hq hw 37 rfl) (hq hw 38 rfl) (fun _ hZ => notFace_of_selects (args := #[]) (mvT hZ (hq hw 40 rfl))) (hq hw 40 rfl) (hq hw 39 rfl) (Exa.ext O415 pm) (by decide) pd__ZLjava_lang_String__Ljava_lang_Object_ (ct_np23 l Z a0 hw am (m := m) (s := b395) (t := t408) (kt := kB409) (x0 := (lo8 (p2 &&& (255 : Int32)))) (x1 := (lo8 97)) (x2 := (lo8 118)) (x3 := (lo8 97)) (x4 := (lo8 120)) (x5 := (lo8 46)) (x6 := (lo8 115)) (x7 := (lo8 101)) (x8 := (lo8 99)) (x9 := (lo8 117)) (x10 := (lo8 114)) (x11 := (lo8 105)) (x12 := (lo8 116)) (x13 := (lo8 121)) (x14 := (lo8 46)) (x15 := (lo8 115)) (x16 := (lo8 97)) (x17 := (lo8 115)) (x18 := (lo8 108)) (x19 := (lo8 46)) (x20 := (lo8 113)) (x21 := (lo8 111)) (x22 := (lo8 112)) fx410 fx411 fx412 fx413) rfl (by decide) (Nat.le_of_eq rfl) (by decide) rfl (by decide) (by decide) (memsS (mi 1 rfl) mems0) ?_
                  intro fv416 h417 K418 fq419
                  rcases fq419 with ⟨a420, u421, ku422, rfl, fx423, fx424, fx425, fx426, fx427⟩ | ⟨rfl, fx428⟩
                  · skip
                    show GoW l _ Z _ _ _ _ _ κ _ _ 488 _ [(.ref a420)] 7 166
                    refine gw_astore C 490 (Ls' := #[.val (.int p0), .val (.int p1), .val (.int p2), .val (.ref m), .val (.int ((XT.ushr p0 (1 : Int32)) &&& (7 : Int32))), .val (.int (p2 &&& (255 : Int32))), .val (.ref b395), .val (.int 1), .val (.ref a420), .val (.int 0), .val (.int 106)]) at_488 rfl rfl rfl ?_
                    refine gw_iload C 492 at_490 rfl rfl ?_
                    refine gw_ifN C 495 at_492 rfl (feq ((by decide) : ¬ ((1 : Int32) = (0 : Int32)))).1 ?_
                    refine gw_aload C 497 at_495 rfl rfl rfl ?_
                    refine gw_ifnullN C 500 at_497 rfl ?_
                    refine gw_ldcS C hEL 502 9 186 (n := 16) (vs := [(.int 97), (.int 117), (.int 116), (.int 104)]) (zn := (4 : Int32)) at_500 rfl rfl rfl (hq hw 56 rfl) (wS hw) (List.mem_of_getElem? (i := 2) rfl) (by decide) (by decide) rfl (by decide) (by decide) (by decide) (by decide) ?_
                    intro sa429 sb430 k431 h432 E433 fx434 fx435 fx436 fx437 fn438
                    have fe439 : t408 ≠ sa429 := (fn438 _ (List.mem_of_getElem? (i := 0) rfl)).1
                    have fe440 : t408 ≠ sb430 := (fn438 _ (List.mem_of_getElem? (i := 0) rfl)).2
                    have fe441 : b395 ≠ sa429 := (fn438 _ (List.mem_of_getElem? (i := 1) rfl)).1
                    have fe442 : b395 ≠ sb430 := (fn438 _ (List.mem_of_getElem? (i := 1) rfl)).2
                    have fe443 : t386 ≠ sa429 := (fn438 _ (List.mem_of_getElem? (i := 2) rfl)).1
                    have fe444 : t386 ≠ sb430 := (fn438 _ (List.mem_of_getElem? (i := 2) rfl)).2
                    refine gw_aload C 504 at_502 rfl rfl rfl ?_
                    have fx445 := (Exa.ext E433 fx423)
                    have fx446 := (Fld.ext E433 fx424)
                    have fx447 := (Fld.ext E433 fx425)
                    have fx448 := (fx426.ext E433)
                    refine gw_callV C (a := sa429) (argsL := [(.ref a420)]) (W := 0) at_504 (hq hw 57 rfl) (hq hw 46 rfl) (fun _ hZ => notFace_of_selects (args := #[]) (mvT hZ (hq hw 48 rfl))) (hq hw 48 rfl) (hq hw 47 rfl) fx434 (by decide) pd__Ljava_lang_Object__Z (ct_eq4 l Z a0 hw am (a := sa429) (b := a420) (t := sb430) (u := u421) (kt := k431) (ku := ku422) (x0 := (97 : Int32)) (x1 := (117 : Int32)) (x2 := (116 : Int32)) (x3 := (104 : Int32)) (y0 := (97 : Int32)) (y1 := (117 : Int32)) (y2 := (116 : Int32)) (y3 := (104 : Int32)) fx434 fx435 fx436 fx437 fx445 fx446 fx447 fx448 rfl rfl rfl rfl) rfl (by decide) (Nat.le_of_eq rfl) (by decide) rfl (by decide) (by decide) mems0 ?_
                    intro fv449 h450 K451 fq452
                    obtain ⟨rfl, rfl⟩ := fq452
                    refine ⟨[], fresh0, ?_⟩
                    show GoW l _ Z _ _ _ _ _ κ _ _ 507 _ [(.int 1)] 9 186
                    refine gw_ifN C 510 at_507 rfl (feq ((by decide) : ¬ ((1 : Int32) = (0 : Int32)))).1 ?_
                    refine gw_iconst C 511 (1 : Int32) at_510 rfl (by decide) ?_
                    refine gw_goto C (pc' := 515) at_511 (by decide) (by decide) ?_
                    refine gw_retN C hEL (t := .boolean) (z := (1 : Int32)) at_515 rfl (by decide) (by decide) (by decide) (by decide) ?_
                    exact rfl
                  · skip
                    exact (fx428 (by rw [hcq]; decide)).elim
                · skip
                  refine gw_icmpY C (pc' := 478) at_471 (feq hcq).2 (by decide) (by decide) ?_
                  refine gw_iconst C 479 (0 : Int32) at_478 rfl (by decide) ?_
                  refine gw_istore C 481 (Ls' := #[.val (.int p0), .val (.int p1), .val (.int p2), .val (.ref m), .val (.int ((XT.ushr p0 (1 : Int32)) &&& (7 : Int32))), .val (.int (p2 &&& (255 : Int32))), .val (.ref b395), .val (.int 0), .val (.ref t386), .val (.int 0), .val (.int 106)]) at_479 rfl rfl ?_
                  refine gw_aloadN C 482 at_481 rfl rfl rfl ?_
                  refine gw_iconst C 483 (1 : Int32) at_482 rfl (by decide) ?_
                  refine gw_aload C 485 at_483 rfl rfl rfl ?_
                  refine gw_old ?_
                  intro O453 zO453
                  refine gw_callVW C hEL (a := m) (argsL := [(.int 1), (.ref b395)]) (W := 0) at_485 (hq hw 37 rfl) (hq hw 38 rfl) (fun _ hZ => notFace_of_selects (args := #[]) (mvT hZ (hq hw 40 rfl))) (hq hw 40 rfl) (hq hw 39 rfl) (Exa.ext O453 pm) (by decide) pd__ZLjava_lang_String__Ljava_lang_Object_ (ct_np23 l Z a0 hw am (m := m) (s := b395) (t := t408) (kt := kB409) (x0 := (lo8 (p2 &&& (255 : Int32)))) (x1 := (lo8 97)) (x2 := (lo8 118)) (x3 := (lo8 97)) (x4 := (lo8 120)) (x5 := (lo8 46)) (x6 := (lo8 115)) (x7 := (lo8 101)) (x8 := (lo8 99)) (x9 := (lo8 117)) (x10 := (lo8 114)) (x11 := (lo8 105)) (x12 := (lo8 116)) (x13 := (lo8 121)) (x14 := (lo8 46)) (x15 := (lo8 115)) (x16 := (lo8 97)) (x17 := (lo8 115)) (x18 := (lo8 108)) (x19 := (lo8 46)) (x20 := (lo8 113)) (x21 := (lo8 111)) (x22 := (lo8 112)) fx410 fx411 fx412 fx413) rfl (by decide) (Nat.le_of_eq rfl) (by decide) rfl (by decide) (by decide) (memsS (mi 1 rfl) mems0) ?_
                  intro fv454 h455 K456 fq457
                  rcases fq457 with ⟨a458, u459, ku460, rfl, fx461, fx462, fx463, fx464, fx465⟩ | ⟨rfl, fx466⟩
                  · skip
                    exact (hcq ((lo8_mask (chr_and255 p2).1 (and_small _ 255 (by decide)).2).symm.trans (by rw [← fx465.1]; decide))).elim
                  · skip
                    show GoW l _ Z _ _ _ _ _ κ _ _ 488 _ [.null] 7 166
                    refine gw_astore C 490 (Ls' := #[.val (.int p0), .val (.int p1), .val (.int p2), .val (.ref m), .val (.int ((XT.ushr p0 (1 : Int32)) &&& (7 : Int32))), .val (.int (p2 &&& (255 : Int32))), .val (.ref b395), .val (.int 0), .val .null, .val (.int 0), .val (.int 106)]) at_488 rfl rfl rfl ?_
                    refine gw_iload C 492 at_490 rfl rfl ?_
                    refine gw_ifY C (pc' := 516) at_492 (teq ((by decide) : (0 : Int32) = (0 : Int32))).1 (by decide) (by decide) ?_
                    refine gw_aload C 518 at_516 rfl rfl rfl ?_
                    refine gw_ifnonnullN C 521 at_518 rfl ?_
                    refine gw_iconst C 522 (1 : Int32) at_521 rfl (by decide) ?_
                    refine gw_goto C (pc' := 526) at_522 (by decide) (by decide) ?_
                    refine gw_retN C hEL (t := .boolean) (z := (1 : Int32)) at_526 rfl (by decide) (by decide) (by decide) (by decide) ?_
                    exact rfl
              · skip
                refine gw_irem C 440 (1 : Int32) at_439 rfl (by decide) ec390 ?_
                refine gw_istore C 442 (Ls' := #[.val (.int p0), .val (.int p1), .val (.int p2), .val (.ref m), .val (.int ((XT.ushr p0 (1 : Int32)) &&& (7 : Int32))), .val (.int (p2 &&& (255 : Int32))), .unset, .unset, .val (.ref t386), .val (.int 1), .unset]) at_440 rfl rfl ?_
                refine gw_aload C 444 at_442 rfl rfl rfl ?_
                refine gw_iload C 446 at_444 rfl rfl ?_
                refine gw_caload C 447 (v := (.int 97)) at_446 rfl fx388 (by decide) rfl ?_
                refine gw_istore C 449 (Ls' := #[.val (.int p0), .val (.int p1), .val (.int p2), .val (.ref m), .val (.int ((XT.ushr p0 (1 : Int32)) &&& (7 : Int32))), .val (.int (p2 &&& (255 : Int32))), .unset, .unset, .val (.ref t386), .val (.int 1), .val (.int 97)]) at_447 rfl rfl ?_
                refine gw_aload C 451 at_449 rfl rfl rfl ?_
                refine gw_iload C 453 at_451 rfl rfl ?_
                refine gw_iload C 455 at_453 rfl rfl ?_
                refine gw_castore C 456 1 (v := (p2 &&& (255 : Int32))) (chr_and255 _).nar at_455 rfl fx388 (by decide) rfl (nble rfl) (mi 0 rfl) ?_
                intro h467 W468 fx469
                have fx470 : Arv Z h467 t386 kC387 .char (23 : Int32) [(.int 106), (.int (p2 &&& (255 : Int32))), (.int 118), (.int 97), (.int 120), (.int 46), (.int 115), (.int 101), (.int 99), (.int 117), (.int 114), (.int 105), (.int 116), (.int 121), (.int 46), (.int 115), (.int 97), (.int 115), (.int 108), (.int 46), (.int 113), (.int 111), (.int 112)] (.int 0) := fx469
                refine gw_new C 459 2 27 at_456 rfl rfl rfl (hq hw 3 rfl) (hq hw 4 rfl) (hq hw 5 rfl) (by decide) (by decide) ?_
                intro b471 h472 g473 E474 A475 D476
                have fx477 : Fld Z h472 b471 "java/lang/String" "coder" "B" (.int 0) := D476 (Or.inr (hq hw 34 rfl)) (ty := .byte) (by decide)
                have fx478 : Fld Z h472 b471 "java/lang/String" "value" "[B" .null := D476 (Or.inr (hq hw 36 rfl)) (ty := (.array .byte)) (by decide)
                refine gw_dup C 460 at_459 rfl rfl ?_
                refine gw_aload C 462 at_460 rfl rfl rfl ?_
                have fx479 := (fx470.ext E474)
                refine gw_callI C (a := b471) (argsL := [(.ref t386)]) (W := 1) at_462 rfl (hq hw 11 rfl) (hq hw 12 rfl) (hq hw 13 rfl) (by decide) pd___C_V (ct_str23 l Z a0 hw am (a := b471) (b := t386) (kC := kC387) (c0 := (106 : Int32)) (c1 := (p2 &&& (255 : Int32))) (c2 := (118 : Int32)) (c3 := (97 : Int32)) (c4 := (120 : Int32)) (c5 := (46 : Int32)) (c6 := (115 : Int32)) (c7 := (101 : Int32)) (c8 := (99 : Int32)) (c9 := (117 : Int32)) (c10 := (114 : Int32)) (c11 := (105 : Int32)) (c12 := (116 : Int32)) (c13 := (121 : Int32)) (c14 := (46 : Int32)) (c15 := (115 : Int32)) (c16 := (97 : Int32)) (c17 := (115 : Int32)) (c18 := (108 : Int32)) (c19 := (46 : Int32)) (c20 := (113 : Int32)) (c21 := (111 : Int32)) (c22 := (112 : Int32)) A475 fx478 fx477 fx479 (by decide) (and_small _ 255 (by decide)).2 (by decide) (by decide) (by decide) (by decide) (by decide) (by decide) (by decide) (by decide) (by decide) (by decide) (by decide) (by decide) (by decide) (by decide) (by decide) (by decide) (by decide) (by decide) (by decide) (by decide) (by decide)) rfl (by decide) (Nat.le_of_eq rfl) (by decide) rfl (by decide) (by decide) (memsS (mi 0 rfl) mems0) ?_
                intro fv480 h481 K482 fq483
                obtain ⟨t484, kB485, rfl, fx486, fx487, fx488, fx489, fx490⟩ := fq483
                refine ⟨[t484], (freshS ⟨fx490, (fx489).lt⟩ fresh0), ?_⟩
                show GoW l _ Z _ _ _ _ _ κ [t484, b471, t386] _ 465 _ [(.ref b471)] 3 50
                refine gw_astore C 467 (Ls' := #[.val (.int p0), .val (.int p1), .val (.int p2), .val (.ref m), .val (.int ((XT.ushr p0 (1 : Int32)) &&& (7 : Int32))), .val (.int (p2 &&& (255 : Int32))), .val (.ref b471), .unset, .val (.ref t386), .val (.int 1), .val (.int 97)]) at_465 rfl rfl rfl ?_
                refine gw_iload C 469 at_467 rfl rfl ?_
                refine gw_iload C 471 at_469 rfl rfl ?_
                by_cases hcq : (p2 &&& (255 : Int32)) = (97 : Int32)
                · skip
                  refine gw_icmpN C 474 at_471 rfl (teq hcq).2 ?_
                  refine gw_iconst C 475 (1 : Int32) at_474 rfl (by decide) ?_
                  refine gw_goto C (pc' := 479) at_475 (by decide) (by decide) ?_
                  refine gw_istore C 481 (Ls' := #[.val (.int p0), .val (.int p1), .val (.int p2), .val (.ref m), .val (.int ((XT.ushr p0 (1 : Int32)) &&& (7 : Int32))), .val (.int (p2 &&& (255 : Int32))), .val (.ref b471), .val (.int 1), .val (.ref t386), .val (.int 1), .val (.int 97)]) at_479 rfl rfl ?_
                  refine gw_aloadN C 482 at_481 rfl rfl rfl ?_
                  refine gw_iconst C 483 (1 : Int32) at_482 rfl (by decide) ?_
                  refine gw_aload C 485 at_483 rfl rfl rfl ?_
                  refine gw_old ?_
                  intro O491 zO491
                  refine gw_callVW C hEL (a := m) (argsL := [(.int 1), (.ref b471)]) (W := 0) at_485 (hq hw 37 rfl) (hq hw 38 rfl) (fun _ hZ => notFace_of_selects (args := #[]) (mvT hZ (hq hw 40 rfl))) (hq hw 40 rfl) (hq hw 39 rfl) (Exa.ext O491 pm) (by decide) pd__ZLjava_lang_String__Ljava_lang_Object_ (ct_np23 l Z a0 hw am (m := m) (s := b471) (t := t484) (kt := kB485) (x0 := (lo8 106)) (x1 := (lo8 (p2 &&& (255 : Int32)))) (x2 := (lo8 118)) (x3 := (lo8 97)) (x4 := (lo8 120)) (x5 := (lo8 46)) (x6 := (lo8 115)) (x7 := (lo8 101)) (x8 := (lo8 99)) (x9 := (lo8 117)) (x10 := (lo8 114)) (x11 := (lo8 105)) (x12 := (lo8 116)) (x13 := (lo8 121)) (x14 := (lo8 46)) (x15 := (lo8 115)) (x16 := (lo8 97)) (x17 := (lo8 115)) (x18 := (lo8 108)) (x19 := (lo8 46)) (x20 := (lo8 113)) (x21 := (lo8 111)) (x22 := (lo8 112)) fx486 fx487 fx488 fx489) rfl (by decide) (Nat.le_of_eq rfl) (by decide) rfl (by decide) (by decide) (memsS (mi 1 rfl) mems0) ?_
                  intro fv492 h493 K494 fq495
                  rcases fq495 with ⟨a496, u497, ku498, rfl, fx499, fx500, fx501, fx502, fx503⟩ | ⟨rfl, fx504⟩
                  · skip
                    show GoW l _ Z _ _ _ _ _ κ _ _ 488 _ [(.ref a496)] 7 166
                    refine gw_astore C 490 (Ls' := #[.val (.int p0), .val (.int p1), .val (.int p2), .val (.ref m), .val (.int ((XT.ushr p0 (1 : Int32)) &&& (7 : Int32))), .val (.int (p2 &&& (255 : Int32))), .val (.ref b471), .val (.int 1), .val (.ref a496), .val (.int 1), .val (.int 97)]) at_488 rfl rfl rfl ?_
                    refine gw_iload C 492 at_490 rfl rfl ?_
                    refine gw_ifN C 495 at_492 rfl (feq ((by decide) : ¬ ((1 : Int32) = (0 : Int32)))).1 ?_
                    refine gw_aload C 497 at_495 rfl rfl rfl ?_
                    refine gw_ifnullN C 500 at_497 rfl ?_
                    refine gw_ldcS C hEL 502 9 186 (n := 16) (vs := [(.int 97), (.int 117), (.int 116), (.int 104)]) (zn := (4 : Int32)) at_500 rfl rfl rfl (hq hw 56 rfl) (wS hw) (List.mem_of_getElem? (i := 2) rfl) (by decide) (by decide) rfl (by decide) (by decide) (by decide) (by decide) ?_
                    intro sa505 sb506 k507 h508 E509 fx510 fx511 fx512 fx513 fn514
                    have fe515 : t484 ≠ sa505 := (fn514 _ (List.mem_of_getElem? (i := 0) rfl)).1
                    have fe516 : t484 ≠ sb506 := (fn514 _ (List.mem_of_getElem? (i := 0) rfl)).2
                    have fe517 : b471 ≠ sa505 := (fn514 _ (List.mem_of_getElem? (i := 1) rfl)).1
                    have fe518 : b471 ≠ sb506 := (fn514 _ (List.mem_of_getElem? (i := 1) rfl)).2
                    have fe519 : t386 ≠ sa505 := (fn514 _ (List.mem_of_getElem? (i := 2) rfl)).1
                    have fe520 : t386 ≠ sb506 := (fn514 _ (List.mem_of_getElem? (i := 2) rfl)).2
                    refine gw_aload C 504 at_502 rfl rfl rfl ?_
                    have fx521 := (Exa.ext E509 fx499)
                    have fx522 := (Fld.ext E509 fx500)
                    have fx523 := (Fld.ext E509 fx501)
                    have fx524 := (fx502.ext E509)
                    refine gw_callV C (a := sa505) (argsL := [(.ref a496)]) (W := 0) at_504 (hq hw 57 rfl) (hq hw 46 rfl) (fun _ hZ => notFace_of_selects (args := #[]) (mvT hZ (hq hw 48 rfl))) (hq hw 48 rfl) (hq hw 47 rfl) fx510 (by decide) pd__Ljava_lang_Object__Z (ct_eq4 l Z a0 hw am (a := sa505) (b := a496) (t := sb506) (u := u497) (kt := k507) (ku := ku498) (x0 := (97 : Int32)) (x1 := (117 : Int32)) (x2 := (116 : Int32)) (x3 := (104 : Int32)) (y0 := (97 : Int32)) (y1 := (117 : Int32)) (y2 := (116 : Int32)) (y3 := (104 : Int32)) fx510 fx511 fx512 fx513 fx521 fx522 fx523 fx524 rfl rfl rfl rfl) rfl (by decide) (Nat.le_of_eq rfl) (by decide) rfl (by decide) (by decide) mems0 ?_
                    intro fv525 h526 K527 fq528
                    obtain ⟨rfl, rfl⟩ := fq528
                    refine ⟨[], fresh0, ?_⟩
                    show GoW l _ Z _ _ _ _ _ κ _ _ 507 _ [(.int 1)] 9 186
                    refine gw_ifN C 510 at_507 rfl (feq ((by decide) : ¬ ((1 : Int32) = (0 : Int32)))).1 ?_
                    refine gw_iconst C 511 (1 : Int32) at_510 rfl (by decide) ?_
                    refine gw_goto C (pc' := 515) at_511 (by decide) (by decide) ?_
                    refine gw_retN C hEL (t := .boolean) (z := (1 : Int32)) at_515 rfl (by decide) (by decide) (by decide) (by decide) ?_
                    exact rfl
                  · skip
                    exact (fx504 (by rw [hcq]; decide)).elim
                · skip
                  refine gw_icmpY C (pc' := 478) at_471 (feq hcq).2 (by decide) (by decide) ?_
                  refine gw_iconst C 479 (0 : Int32) at_478 rfl (by decide) ?_
                  refine gw_istore C 481 (Ls' := #[.val (.int p0), .val (.int p1), .val (.int p2), .val (.ref m), .val (.int ((XT.ushr p0 (1 : Int32)) &&& (7 : Int32))), .val (.int (p2 &&& (255 : Int32))), .val (.ref b471), .val (.int 0), .val (.ref t386), .val (.int 1), .val (.int 97)]) at_479 rfl rfl ?_
                  refine gw_aloadN C 482 at_481 rfl rfl rfl ?_
                  refine gw_iconst C 483 (1 : Int32) at_482 rfl (by decide) ?_
                  refine gw_aload C 485 at_483 rfl rfl rfl ?_
                  refine gw_old ?_
                  intro O529 zO529
                  refine gw_callVW C hEL (a := m) (argsL := [(.int 1), (.ref b471)]) (W := 0) at_485 (hq hw 37 rfl) (hq hw 38 rfl) (fun _ hZ => notFace_of_selects (args := #[]) (mvT hZ (hq hw 40 rfl))) (hq hw 40 rfl) (hq hw 39 rfl) (Exa.ext O529 pm) (by decide) pd__ZLjava_lang_String__Ljava_lang_Object_ (ct_np23 l Z a0 hw am (m := m) (s := b471) (t := t484) (kt := kB485) (x0 := (lo8 106)) (x1 := (lo8 (p2 &&& (255 : Int32)))) (x2 := (lo8 118)) (x3 := (lo8 97)) (x4 := (lo8 120)) (x5 := (lo8 46)) (x6 := (lo8 115)) (x7 := (lo8 101)) (x8 := (lo8 99)) (x9 := (lo8 117)) (x10 := (lo8 114)) (x11 := (lo8 105)) (x12 := (lo8 116)) (x13 := (lo8 121)) (x14 := (lo8 46)) (x15 := (lo8 115)) (x16 := (lo8 97)) (x17 := (lo8 115)) (x18 := (lo8 108)) (x19 := (lo8 46)) (x20 := (lo8 113)) (x21 := (lo8 111)) (x22 := (lo8 112)) fx486 fx487 fx488 fx489) rfl (by decide) (Nat.le_of_eq rfl) (by decide) rfl (by decide) (by decide) (memsS (mi 1 rfl) mems0) ?_
                  intro fv530 h531 K532 fq533
                  rcases fq533 with ⟨a534, u535, ku536, rfl, fx537, fx538, fx539, fx540, fx541⟩ | ⟨rfl, fx542⟩
                  · skip
                    exact (hcq ((lo8_mask (chr_and255 p2).1 (and_small _ 255 (by decide)).2).symm.trans (by rw [← fx541.2.1]; decide))).elim
                  · skip
                    show GoW l _ Z _ _ _ _ _ κ _ _ 488 _ [.null] 7 166
                    refine gw_astore C 490 (Ls' := #[.val (.int p0), .val (.int p1), .val (.int p2), .val (.ref m), .val (.int ((XT.ushr p0 (1 : Int32)) &&& (7 : Int32))), .val (.int (p2 &&& (255 : Int32))), .val (.ref b471), .val (.int 0), .val .null, .val (.int 1), .val (.int 97)]) at_488 rfl rfl rfl ?_
                    refine gw_iload C 492 at_490 rfl rfl ?_
                    refine gw_ifY C (pc' := 516) at_492 (teq ((by decide) : (0 : Int32) = (0 : Int32))).1 (by decide) (by decide) ?_
                    refine gw_aload C 518 at_516 rfl rfl rfl ?_
                    refine gw_ifnonnullN C 521 at_518 rfl ?_
                    refine gw_iconst C 522 (1 : Int32) at_521 rfl (by decide) ?_
                    refine gw_goto C (pc' := 526) at_522 (by decide) (by decide) ?_
                    refine gw_retN C hEL (t := .boolean) (z := (1 : Int32)) at_526 rfl (by decide) (by decide) (by decide) (by decide) ?_
                    exact rfl
              · skip
                refine gw_irem C 440 (2 : Int32) at_439 rfl (by decide) ec390 ?_
                refine gw_istore C 442 (Ls' := #[.val (.int p0), .val (.int p1), .val (.int p2), .val (.ref m), .val (.int ((XT.ushr p0 (1 : Int32)) &&& (7 : Int32))), .val (.int (p2 &&& (255 : Int32))), .unset, .unset, .val (.ref t386), .val (.int 2), .unset]) at_440 rfl rfl ?_
                refine gw_aload C 444 at_442 rfl rfl rfl ?_
                refine gw_iload C 446 at_444 rfl rfl ?_
                refine gw_caload C 447 (v := (.int 118)) at_446 rfl fx388 (by decide) rfl ?_
                refine gw_istore C 449 (Ls' := #[.val (.int p0), .val (.int p1), .val (.int p2), .val (.ref m), .val (.int ((XT.ushr p0 (1 : Int32)) &&& (7 : Int32))), .val (.int (p2 &&& (255 : Int32))), .unset, .unset, .val (.ref t386), .val (.int 2), .val (.int 118)]) at_447 rfl rfl ?_
                refine gw_aload C 451 at_449 rfl rfl rfl ?_
                refine gw_iload C 453 at_451 rfl rfl ?_
                refine gw_iload C 455 at_453 rfl rfl ?_
                refine gw_castore C 456 2 (v := (p2 &&& (255 : Int32))) (chr_and255 _).nar at_455 rfl fx388 (by decide) rfl (nble rfl) (mi 0 rfl) ?_
                intro h543 W544 fx545
                have fx546 : Arv Z h543 t386 kC387 .char (23 : Int32) [(.int 106), (.int 97), (.int (p2 &&& (255 : Int32))), (.int 97), (.int 120), (.int 46), (.int 115), (.int 101), (.int 99), (.int 117), (.int 114), (.int 105), (.int 116), (.int 121), (.int 46), (.int 115), (.int 97), (.int 115), (.int 108), (.int 46), (.int 113), (.int 111), (.int 112)] (.int 0) := fx545
                refine gw_new C 459 2 27 at_456 rfl rfl rfl (hq hw 3 rfl) (hq hw 4 rfl) (hq hw 5 rfl) (by decide) (by decide) ?_
                intro b547 h548 g549 E550 A551 D552
                have fx553 : Fld Z h548 b547 "java/lang/String" "coder" "B" (.int 0) := D552 (Or.inr (hq hw 34 rfl)) (ty := .byte) (by decide)
                have fx554 : Fld Z h548 b547 "java/lang/String" "value" "[B" .null := D552 (Or.inr (hq hw 36 rfl)) (ty := (.array .byte)) (by decide)
                refine gw_dup C 460 at_459 rfl rfl ?_
                refine gw_aload C 462 at_460 rfl rfl rfl ?_
                have fx555 := (fx546.ext E550)
                refine gw_callI C (a := b547) (argsL := [(.ref t386)]) (W := 1) at_462 rfl (hq hw 11 rfl) (hq hw 12 rfl) (hq hw 13 rfl) (by decide) pd___C_V (ct_str23 l Z a0 hw am (a := b547) (b := t386) (kC := kC387) (c0 := (106 : Int32)) (c1 := (97 : Int32)) (c2 := (p2 &&& (255 : Int32))) (c3 := (97 : Int32)) (c4 := (120 : Int32)) (c5 := (46 : Int32)) (c6 := (115 : Int32)) (c7 := (101 : Int32)) (c8 := (99 : Int32)) (c9 := (117 : Int32)) (c10 := (114 : Int32)) (c11 := (105 : Int32)) (c12 := (116 : Int32)) (c13 := (121 : Int32)) (c14 := (46 : Int32)) (c15 := (115 : Int32)) (c16 := (97 : Int32)) (c17 := (115 : Int32)) (c18 := (108 : Int32)) (c19 := (46 : Int32)) (c20 := (113 : Int32)) (c21 := (111 : Int32)) (c22 := (112 : Int32)) A551 fx554 fx553 fx555 (by decide) (by decide) (and_small _ 255 (by decide)).2 (by decide) (by decide) (by decide) (by decide) (by decide) (by decide) (by decide) (by decide) (by decide) (by decide) (by decide) (by decide) (by decide) (by decide) (by decide) (by decide) (by decide) (by decide) (by decide) (by decide)) rfl (by decide) (Nat.le_of_eq rfl) (by decide) rfl (by decide) (by decide) (memsS (mi 0 rfl) mems0) ?_
                intro fv556 h557 K558 fq559
                obtain ⟨t560, kB561, rfl, fx562, fx563, fx564, fx565, fx566⟩ := fq559
                refine ⟨[t560], (freshS ⟨fx566, (fx565).lt⟩ fresh0), ?_⟩
                show GoW l _ Z _ _ _ _ _ κ [t560, b547, t386] _ 465 _ [(.ref b547)] 3 50
                refine gw_astore C 467 (Ls' := #[.val (.int p0), .val (.int p1), .val (.int p2), .val (.ref m), .val (.int ((XT.ushr p0 (1 : Int32)) &&& (7 : Int32))), .val (.int (p2 &&& (255 : Int32))), .val (.ref b547), .unset, .val (.ref t386), .val (.int 2), .val (.int 118)]) at_465 rfl rfl rfl ?_
                refine gw_iload C 469 at_467 rfl rfl ?_
                refine gw_iload C 471 at_469 rfl rfl ?_
                by_cases hcq : (p2 &&& (255 : Int32)) = (118 : Int32)
                · skip
                  refine gw_icmpN C 474 at_471 rfl (teq hcq).2 ?_
                  refine gw_iconst C 475 (1 : Int32) at_474 rfl (by decide) ?_
                  refine gw_goto C (pc' := 479) at_475 (by decide) (by decide) ?_
                  refine gw_istore C 481 (Ls' := #[.val (.int p0), .val (.int p1), .val (.int p2), .val (.ref m), .val (.int ((XT.ushr p0 (1 : Int32)) &&& (7 : Int32))), .val (.int (p2 &&& (255 : Int32))), .val (.ref b547), .val (.int 1), .val (.ref t386), .val (.int 2), .val (.int 118)]) at_479 rfl rfl ?_
                  refine gw_aloadN C 482 at_481 rfl rfl rfl ?_
                  refine gw_iconst C 483 (1 : Int32) at_482 rfl (by decide) ?_
                  refine gw_aload C 485 at_483 rfl rfl rfl ?_
                  refine gw_old ?_
                  intro O567 zO567
                  refine gw_callVW C hEL (a := m) (argsL := [(.int 1), (.ref b547)]) (W := 0) at_485 (hq hw 37 rfl) (hq hw 38 rfl) (fun _ hZ => notFace_of_selects (args := #[]) (mvT hZ (hq hw 40 rfl))) (hq hw 40 rfl) (hq hw 39 rfl) (Exa.ext O567 pm) (by decide) pd__ZLjava_lang_String__Ljava_lang_Object_ (ct_np23 l Z a0 hw am (m := m) (s := b547) (t := t560) (kt := kB561) (x0 := (lo8 106)) (x1 := (lo8 97)) (x2 := (lo8 (p2 &&& (255 : Int32)))) (x3 := (lo8 97)) (x4 := (lo8 120)) (x5 := (lo8 46)) (x6 := (lo8 115)) (x7 := (lo8 101)) (x8 := (lo8 99)) (x9 := (lo8 117)) (x10 := (lo8 114)) (x11 := (lo8 105)) (x12 := (lo8 116)) (x13 := (lo8 121)) (x14 := (lo8 46)) (x15 := (lo8 115)) (x16 := (lo8 97)) (x17 := (lo8 115)) (x18 := (lo8 108)) (x19 := (lo8 46)) (x20 := (lo8 113)) (x21 := (lo8 111)) (x22 := (lo8 112)) fx562 fx563 fx564 fx565) rfl (by decide) (Nat.le_of_eq rfl) (by decide) rfl (by decide) (by decide) (memsS (mi 1 rfl) mems0) ?_
                  intro fv568 h569 K570 fq571
                  rcases fq571 with ⟨a572, u573, ku574, rfl, fx575, fx576, fx577, fx578, fx579⟩ | ⟨rfl, fx580⟩
                  · skip
                    show GoW l _ Z _ _ _ _ _ κ _ _ 488 _ [(.ref a572)] 7 166
                    refine gw_astore C 490 (Ls' := #[.val (.int p0), .val (.int p1), .val (.int p2), .val (.ref m), .val (.int ((XT.ushr p0 (1 : Int32)) &&& (7 : Int32))), .val (.int (p2 &&& (255 : Int32))), .val (.ref b547), .val (.int 1), .val (.ref a572), .val (.int 2), .val (.int 118)]) at_488 rfl rfl rfl ?_
                    refine gw_iload C 492 at_490 rfl rfl ?_
                    refine gw_ifN C 495 at_492 rfl (feq ((by decide) : ¬ ((1 : Int32) = (0 : Int32)))).1 ?_
                    refine gw_aload C 497 at_495 rfl rfl rfl ?_
                    refine gw_ifnullN C 500 at_497 rfl ?_
                    refine gw_ldcS C hEL 502 9 186 (n := 16) (vs := [(.int 97), (.int 117), (.int 116), (.int 104)]) (zn := (4 : Int32)) at_500 rfl rfl rfl (hq hw 56 rfl) (wS hw) (List.mem_of_getElem? (i := 2) rfl) (by decide) (by decide) rfl (by decide) (by decide) (by decide) (by decide) ?_
                    intro sa581 sb582 k583 h584 E585 fx586 fx587 fx588 fx589 fn590
                    have fe591 : t560 ≠ sa581 := (fn590 _ (List.mem_of_getElem? (i := 0) rfl)).1
                    have fe592 : t560 ≠ sb582 := (fn590 _ (List.mem_of_getElem? (i := 0) rfl)).2
                    have fe593 : b547 ≠ sa581 := (fn590 _ (List.mem_of_getElem? (i := 1) rfl)).1
                    have fe594 : b547 ≠ sb582 := (fn590 _ (List.mem_of_getElem? (i := 1) rfl)).2
                    have fe595 : t386 ≠ sa581 := (fn590 _ (List.mem_of_getElem? (i := 2) rfl)).1
                    have fe596 : t386 ≠ sb582 := (fn590 _ (List.mem_of_getElem? (i := 2) rfl)).2
                    refine gw_aload C 504 at_502 rfl rfl rfl ?_
                    have fx597 := (Exa.ext E585 fx575)
                    have fx598 := (Fld.ext E585 fx576)
                    have fx599 := (Fld.ext E585 fx577)
                    have fx600 := (fx578.ext E585)
                    refine gw_callV C (a := sa581) (argsL := [(.ref a572)]) (W := 0) at_504 (hq hw 57 rfl) (hq hw 46 rfl) (fun _ hZ => notFace_of_selects (args := #[]) (mvT hZ (hq hw 48 rfl))) (hq hw 48 rfl) (hq hw 47 rfl) fx586 (by decide) pd__Ljava_lang_Object__Z (ct_eq4 l Z a0 hw am (a := sa581) (b := a572) (t := sb582) (u := u573) (kt := k583) (ku := ku574) (x0 := (97 : Int32)) (x1 := (117 : Int32)) (x2 := (116 : Int32)) (x3 := (104 : Int32)) (y0 := (97 : Int32)) (y1 := (117 : Int32)) (y2 := (116 : Int32)) (y3 := (104 : Int32)) fx586 fx587 fx588 fx589 fx597 fx598 fx599 fx600 rfl rfl rfl rfl) rfl (by decide) (Nat.le_of_eq rfl) (by decide) rfl (by decide) (by decide) mems0 ?_
                    intro fv601 h602 K603 fq604
                    obtain ⟨rfl, rfl⟩ := fq604
                    refine ⟨[], fresh0, ?_⟩
                    show GoW l _ Z _ _ _ _ _ κ _ _ 507 _ [(.int 1)] 9 186
                    refine gw_ifN C 510 at_507 rfl (feq ((by decide) : ¬ ((1 : Int32) = (0 : Int32)))).1 ?_
                    refine gw_iconst C 511 (1 : Int32) at_510 rfl (by decide) ?_
                    refine gw_goto C (pc' := 515) at_511 (by decide) (by decide) ?_
                    refine gw_retN C hEL (t := .boolean) (z := (1 : Int32)) at_515 rfl (by decide) (by decide) (by decide) (by decide) ?_
                    exact rfl
                  · skip
                    exact (fx580 (by rw [hcq]; decide)).elim
                · skip
                  refine gw_icmpY C (pc' := 478) at_471 (feq hcq).2 (by decide) (by decide) ?_
                  refine gw_iconst C 479 (0 : Int32) at_478 rfl (by decide) ?_
                  refine gw_istore C 481 (Ls' := #[.val (.int p0), .val (.int p1), .val (.int p2), .val (.ref m), .val (.int ((XT.ushr p0 (1 : Int32)) &&& (7 : Int32))), .val (.int (p2 &&& (255 : Int32))), .val (.ref b547), .val (.int 0), .val (.ref t386), .val (.int 2), .val (.int 118)]) at_479 rfl rfl ?_
                  refine gw_aloadN C 482 at_481 rfl rfl rfl ?_
                  refine gw_iconst C 483 (1 : Int32) at_482 rfl (by decide) ?_
                  refine gw_aload C 485 at_483 rfl rfl rfl ?_
                  refine gw_old ?_
                  intro O605 zO605
                  refine gw_callVW C hEL (a := m) (argsL := [(.int 1), (.ref b547)]) (W := 0) at_485 (hq hw 37 rfl) (hq hw 38 rfl) (fun _ hZ => notFace_of_selects (args := #[]) (mvT hZ (hq hw 40 rfl))) (hq hw 40 rfl) (hq hw 39 rfl) (Exa.ext O605 pm) (by decide) pd__ZLjava_lang_String__Ljava_lang_Object_ (ct_np23 l Z a0 hw am (m := m) (s := b547) (t := t560) (kt := kB561) (x0 := (lo8 106)) (x1 := (lo8 97)) (x2 := (lo8 (p2 &&& (255 : Int32)))) (x3 := (lo8 97)) (x4 := (lo8 120)) (x5 := (lo8 46)) (x6 := (lo8 115)) (x7 := (lo8 101)) (x8 := (lo8 99)) (x9 := (lo8 117)) (x10 := (lo8 114)) (x11 := (lo8 105)) (x12 := (lo8 116)) (x13 := (lo8 121)) (x14 := (lo8 46)) (x15 := (lo8 115)) (x16 := (lo8 97)) (x17 := (lo8 115)) (x18 := (lo8 108)) (x19 := (lo8 46)) (x20 := (lo8 113)) (x21 := (lo8 111)) (x22 := (lo8 112)) fx562 fx563 fx564 fx565) rfl (by decide) (Nat.le_of_eq rfl) (by decide) rfl (by decide) (by decide) (memsS (mi 1 rfl) mems0) ?_
                  intro fv606 h607 K608 fq609
                  rcases fq609 with ⟨a610, u611, ku612, rfl, fx613, fx614, fx615, fx616, fx617⟩ | ⟨rfl, fx618⟩
                  · skip
                    exact (hcq ((lo8_mask (chr_and255 p2).1 (and_small _ 255 (by decide)).2).symm.trans (by rw [← fx617.2.2.1]; decide))).elim
                  · skip
                    show GoW l _ Z _ _ _ _ _ κ _ _ 488 _ [.null] 7 166
                    refine gw_astore C 490 (Ls' := #[.val (.int p0), .val (.int p1), .val (.int p2), .val (.ref m), .val (.int ((XT.ushr p0 (1 : Int32)) &&& (7 : Int32))), .val (.int (p2 &&& (255 : Int32))), .val (.ref b547), .val (.int 0), .val .null, .val (.int 2), .val (.int 118)]) at_488 rfl rfl rfl ?_
                    refine gw_iload C 492 at_490 rfl rfl ?_
                    refine gw_ifY C (pc' := 516) at_492 (teq ((by decide) : (0 : Int32) = (0 : Int32))).1 (by decide) (by decide) ?_
                    refine gw_aload C 518 at_516 rfl rfl rfl ?_
                    refine gw_ifnonnullN C 521 at_518 rfl ?_
                    refine gw_iconst C 522 (1 : Int32) at_521 rfl (by decide) ?_
                    refine gw_goto C (pc' := 526) at_522 (by decide) (by decide) ?_
                    refine gw_retN C hEL (t := .boolean) (z := (1 : Int32)) at_526 rfl (by decide) (by decide) (by decide) (by decide) ?_
                    exact rfl
              · skip
                refine gw_irem C 440 (3 : Int32) at_439 rfl (by decide) ec390 ?_
                refine gw_istore C 442 (Ls' := #[.val (.int p0), .val (.int p1), .val (.int p2), .val (.ref m), .val (.int ((XT.ushr p0 (1 : Int32)) &&& (7 : Int32))), .val (.int (p2 &&& (255 : Int32))), .unset, .unset, .val (.ref t386), .val (.int 3), .unset]) at_440 rfl rfl ?_
                refine gw_aload C 444 at_442 rfl rfl rfl ?_
                refine gw_iload C 446 at_444 rfl rfl ?_
                refine gw_caload C 447 (v := (.int 97)) at_446 rfl fx388 (by decide) rfl ?_
                refine gw_istore C 449 (Ls' := #[.val (.int p0), .val (.int p1), .val (.int p2), .val (.ref m), .val (.int ((XT.ushr p0 (1 : Int32)) &&& (7 : Int32))), .val (.int (p2 &&& (255 : Int32))), .unset, .unset, .val (.ref t386), .val (.int 3), .val (.int 97)]) at_447 rfl rfl ?_
                refine gw_aload C 451 at_449 rfl rfl rfl ?_
                refine gw_iload C 453 at_451 rfl rfl ?_
                refine gw_iload C 455 at_453 rfl rfl ?_
                refine gw_castore C 456 3 (v := (p2 &&& (255 : Int32))) (chr_and255 _).nar at_455 rfl fx388 (by decide) rfl (nble rfl) (mi 0 rfl) ?_
                intro h619 W620 fx621
                have fx622 : Arv Z h619 t386 kC387 .char (23 : Int32) [(.int 106), (.int 97), (.int 118), (.int (p2 &&& (255 : Int32))), (.int 120), (.int 46), (.int 115), (.int 101), (.int 99), (.int 117), (.int 114), (.int 105), (.int 116), (.int 121), (.int 46), (.int 115), (.int 97), (.int 115), (.int 108), (.int 46), (.int 113), (.int 111), (.int 112)] (.int 0) := fx621
                refine gw_new C 459 2 27 at_456 rfl rfl rfl (hq hw 3 rfl) (hq hw 4 rfl) (hq hw 5 rfl) (by decide) (by decide) ?_
                intro b623 h624 g625 E626 A627 D628
                have fx629 : Fld Z h624 b623 "java/lang/String" "coder" "B" (.int 0) := D628 (Or.inr (hq hw 34 rfl)) (ty := .byte) (by decide)
                have fx630 : Fld Z h624 b623 "java/lang/String" "value" "[B" .null := D628 (Or.inr (hq hw 36 rfl)) (ty := (.array .byte)) (by decide)
                refine gw_dup C 460 at_459 rfl rfl ?_
                refine gw_aload C 462 at_460 rfl rfl rfl ?_
                have fx631 := (fx622.ext E626)
                refine gw_callI C (a := b623) (argsL := [(.ref t386)]) (W := 1) at_462 rfl (hq hw 11 rfl) (hq hw 12 rfl) (hq hw 13 rfl) (by decide) pd___C_V (ct_str23 l Z a0 hw am (a := b623) (b := t386) (kC := kC387) (c0 := (106 : Int32)) (c1 := (97 : Int32)) (c2 := (118 : Int32)) (c3 := (p2 &&& (255 : Int32))) (c4 := (120 : Int32)) (c5 := (46 : Int32)) (c6 := (115 : Int32)) (c7 := (101 : Int32)) (c8 := (99 : Int32)) (c9 := (117 : Int32)) (c10 := (114 : Int32)) (c11 := (105 : Int32)) (c12 := (116 : Int32)) (c13 := (121 : Int32)) (c14 := (46 : Int32)) (c15 := (115 : Int32)) (c16 := (97 : Int32)) (c17 := (115 : Int32)) (c18 := (108 : Int32)) (c19 := (46 : Int32)) (c20 := (113 : Int32)) (c21 := (111 : Int32)) (c22 := (112 : Int32)) A627 fx630 fx629 fx631 (by decide) (by decide) (by decide) (and_small _ 255 (by decide)).2 (by decide) (by decide) (by decide) (by decide) (by decide) (by decide) (by decide) (by decide) (by decide) (by decide) (by decide) (by decide) (by decide) (by decide) (by decide) (by decide) (by decide) (by decide) (by decide)) rfl (by decide) (Nat.le_of_eq rfl) (by decide) rfl (by decide) (by decide) (memsS (mi 0 rfl) mems0) ?_
                intro fv632 h633 K634 fq635
                obtain ⟨t636, kB637, rfl, fx638, fx639, fx640, fx641, fx642⟩ := fq635
                refine ⟨[t636], (freshS ⟨fx642, (fx641).lt⟩ fresh0), ?_⟩
                show GoW l _ Z _ _ _ _ _ κ [t636, b623, t386] _ 465 _ [(.ref b623)] 3 50
                refine gw_astore C 467 (Ls' := #[.val (.int p0), .val (.int p1), .val (.int p2), .val (.ref m), .val (.int ((XT.ushr p0 (1 : Int32)) &&& (7 : Int32))), .val (.int (p2 &&& (255 : Int32))), .val (.ref b623), .unset, .val (.ref t386), .val (.int 3), .val (.int 97)]) at_465 rfl rfl rfl ?_
                refine gw_iload C 469 at_467 rfl rfl ?_
                refine gw_iload C 471 at_469 rfl rfl ?_
                by_cases hcq : (p2 &&& (255 : Int32)) = (97 : Int32)
                · skip
                  refine gw_icmpN C 474 at_471 rfl (teq hcq).2 ?_
                  refine gw_iconst C 475 (1 : Int32) at_474 rfl (by decide) ?_
                  refine gw_goto C (pc' := 479) at_475 (by decide) (by decide) ?_
                  refine gw_istore C 481 (Ls' := #[.val (.int p0), .val (.int p1), .val (.int p2), .val (.ref m), .val (.int ((XT.ushr p0 (1 : Int32)) &&& (7 : Int32))), .val (.int (p2 &&& (255 : Int32))), .val (.ref b623), .val (.int 1), .val (.ref t386), .val (.int 3), .val (.int 97)]) at_479 rfl rfl ?_
                  refine gw_aloadN C 482 at_481 rfl rfl rfl ?_
                  refine gw_iconst C 483 (1 : Int32) at_482 rfl (by decide) ?_
                  refine gw_aload C 485 at_483 rfl rfl rfl ?_
                  refine gw_old ?_
                  intro O643 zO643
                  refine gw_callVW C hEL (a := m) (argsL := [(.int 1), (.ref b623)]) (W := 0) at_485 (hq hw 37 rfl) (hq hw 38 rfl) (fun _ hZ => notFace_of_selects (args := #[]) (mvT hZ (hq hw 40 rfl))) (hq hw 40 rfl) (hq hw 39 rfl) (Exa.ext O643 pm) (by decide) pd__ZLjava_lang_String__Ljava_lang_Object_ (ct_np23 l Z a0 hw am (m := m) (s := b623) (t := t636) (kt := kB637) (x0 := (lo8 106)) (x1 := (lo8 97)) (x2 := (lo8 118)) (x3 := (lo8 (p2 &&& (255 : Int32)))) (x4 := (lo8 120)) (x5 := (lo8 46)) (x6 := (lo8 115)) (x7 := (lo8 101)) (x8 := (lo8 99)) (x9 := (lo8 117)) (x10 := (lo8 114)) (x11 := (lo8 105)) (x12 := (lo8 116)) (x13 := (lo8 121)) (x14 := (lo8 46)) (x15 := (lo8 115)) (x16 := (lo8 97)) (x17 := (lo8 115)) (x18 := (lo8 108)) (x19 := (lo8 46)) (x20 := (lo8 113)) (x21 := (lo8 111)) (x22 := (lo8 112)) fx638 fx639 fx640 fx641) rfl (by decide) (Nat.le_of_eq rfl) (by decide) rfl (by decide) (by decide) (memsS (mi 1 rfl) mems0) ?_
                  intro fv644 h645 K646 fq647
                  rcases fq647 with ⟨a648, u649, ku650, rfl, fx651, fx652, fx653, fx654, fx655⟩ | ⟨rfl, fx656⟩
                  · skip
                    show GoW l _ Z _ _ _ _ _ κ _ _ 488 _ [(.ref a648)] 7 166
                    refine gw_astore C 490 (Ls' := #[.val (.int p0), .val (.int p1), .val (.int p2), .val (.ref m), .val (.int ((XT.ushr p0 (1 : Int32)) &&& (7 : Int32))), .val (.int (p2 &&& (255 : Int32))), .val (.ref b623), .val (.int 1), .val (.ref a648), .val (.int 3), .val (.int 97)]) at_488 rfl rfl rfl ?_
                    refine gw_iload C 492 at_490 rfl rfl ?_
                    refine gw_ifN C 495 at_492 rfl (feq ((by decide) : ¬ ((1 : Int32) = (0 : Int32)))).1 ?_
                    refine gw_aload C 497 at_495 rfl rfl rfl ?_
                    refine gw_ifnullN C 500 at_497 rfl ?_
                    refine gw_ldcS C hEL 502 9 186 (n := 16) (vs := [(.int 97), (.int 117), (.int 116), (.int 104)]) (zn := (4 : Int32)) at_500 rfl rfl rfl (hq hw 56 rfl) (wS hw) (List.mem_of_getElem? (i := 2) rfl) (by decide) (by decide) rfl (by decide) (by decide) (by decide) (by decide) ?_
                    intro sa657 sb658 k659 h660 E661 fx662 fx663 fx664 fx665 fn666
                    have fe667 : t636 ≠ sa657 := (fn666 _ (List.mem_of_getElem? (i := 0) rfl)).1
                    have fe668 : t636 ≠ sb658 := (fn666 _ (List.mem_of_getElem? (i := 0) rfl)).2
                    have fe669 : b623 ≠ sa657 := (fn666 _ (List.mem_of_getElem? (i := 1) rfl)).1
                    have fe670 : b623 ≠ sb658 := (fn666 _ (List.mem_of_getElem? (i := 1) rfl)).2
                    have fe671 : t386 ≠ sa657 := (fn666 _ (List.mem_of_getElem? (i := 2) rfl)).1
                    have fe672 : t386 ≠ sb658 := (fn666 _ (List.mem_of_getElem? (i := 2) rfl)).2
                    refine gw_aload C 504 at_502 rfl rfl rfl ?_
                    have fx673 := (Exa.ext E661 fx651)
                    have fx674 := (Fld.ext E661 fx652)
                    have fx675 := (Fld.ext E661 fx653)
                    have fx676 := (fx654.ext E661)
                    refine gw_callV C (a := sa657) (argsL := [(.ref a648)]) (W := 0) at_504 (hq hw 57 rfl) (hq hw 46 rfl) (fun _ hZ => notFace_of_selects (args := #[]) (mvT hZ (hq hw 48 rfl))) (hq hw 48 rfl) (hq hw 47 rfl) fx662 (by decide) pd__Ljava_lang_Object__Z (ct_eq4 l Z a0 hw am (a := sa657) (b := a648) (t := sb658) (u := u649) (kt := k659) (ku := ku650) (x0 := (97 : Int32)) (x1 := (117 : Int32)) (x2 := (116 : Int32)) (x3 := (104 : Int32)) (y0 := (97 : Int32)) (y1 := (117 : Int32)) (y2 := (116 : Int32)) (y3 := (104 : Int32)) fx662 fx663 fx664 fx665 fx673 fx674 fx675 fx676 rfl rfl rfl rfl) rfl (by decide) (Nat.le_of_eq rfl) (by decide) rfl (by decide) (by decide) mems0 ?_
                    intro fv677 h678 K679 fq680
                    obtain ⟨rfl, rfl⟩ := fq680
                    refine ⟨[], fresh0, ?_⟩
                    show GoW l _ Z _ _ _ _ _ κ _ _ 507 _ [(.int 1)] 9 186
                    refine gw_ifN C 510 at_507 rfl (feq ((by decide) : ¬ ((1 : Int32) = (0 : Int32)))).1 ?_
                    refine gw_iconst C 511 (1 : Int32) at_510 rfl (by decide) ?_
                    refine gw_goto C (pc' := 515) at_511 (by decide) (by decide) ?_
                    refine gw_retN C hEL (t := .boolean) (z := (1 : Int32)) at_515 rfl (by decide) (by decide) (by decide) (by decide) ?_
                    exact rfl
                  · skip
                    exact (fx656 (by rw [hcq]; decide)).elim
                · skip
                  refine gw_icmpY C (pc' := 478) at_471 (feq hcq).2 (by decide) (by decide) ?_
                  refine gw_iconst C 479 (0 : Int32) at_478 rfl (by decide) ?_
                  refine gw_istore C 481 (Ls' := #[.val (.int p0), .val (.int p1), .val (.int p2), .val (.ref m), .val (.int ((XT.ushr p0 (1 : Int32)) &&& (7 : Int32))), .val (.int (p2 &&& (255 : Int32))), .val (.ref b623), .val (.int 0), .val (.ref t386), .val (.int 3), .val (.int 97)]) at_479 rfl rfl ?_
                  refine gw_aloadN C 482 at_481 rfl rfl rfl ?_
                  refine gw_iconst C 483 (1 : Int32) at_482 rfl (by decide) ?_
                  refine gw_aload C 485 at_483 rfl rfl rfl ?_
                  refine gw_old ?_
                  intro O681 zO681
                  refine gw_callVW C hEL (a := m) (argsL := [(.int 1), (.ref b623)]) (W := 0) at_485 (hq hw 37 rfl) (hq hw 38 rfl) (fun _ hZ => notFace_of_selects (args := #[]) (mvT hZ (hq hw 40 rfl))) (hq hw 40 rfl) (hq hw 39 rfl) (Exa.ext O681 pm) (by decide) pd__ZLjava_lang_String__Ljava_lang_Object_ (ct_np23 l Z a0 hw am (m := m) (s := b623) (t := t636) (kt := kB637) (x0 := (lo8 106)) (x1 := (lo8 97)) (x2 := (lo8 118)) (x3 := (lo8 (p2 &&& (255 : Int32)))) (x4 := (lo8 120)) (x5 := (lo8 46)) (x6 := (lo8 115)) (x7 := (lo8 101)) (x8 := (lo8 99)) (x9 := (lo8 117)) (x10 := (lo8 114)) (x11 := (lo8 105)) (x12 := (lo8 116)) (x13 := (lo8 121)) (x14 := (lo8 46)) (x15 := (lo8 115)) (x16 := (lo8 97)) (x17 := (lo8 115)) (x18 := (lo8 108)) (x19 := (lo8 46)) (x20 := (lo8 113)) (x21 := (lo8 111)) (x22 := (lo8 112)) fx638 fx639 fx640 fx641) rfl (by decide) (Nat.le_of_eq rfl) (by decide) rfl (by decide) (by decide) (memsS (mi 1 rfl) mems0) ?_
                  intro fv682 h683 K684 fq685
                  rcases fq685 with ⟨a686, u687, ku688, rfl, fx689, fx690, fx691, fx692, fx693⟩ | ⟨rfl, fx694⟩
                  · skip
                    exact (hcq ((lo8_mask (chr_and255 p2).1 (and_small _ 255 (by decide)).2).symm.trans (by rw [← fx693.2.2.2.1]; decide))).elim
                  · skip
                    show GoW l _ Z _ _ _ _ _ κ _ _ 488 _ [.null] 7 166
                    refine gw_astore C 490 (Ls' := #[.val (.int p0), .val (.int p1), .val (.int p2), .val (.ref m), .val (.int ((XT.ushr p0 (1 : Int32)) &&& (7 : Int32))), .val (.int (p2 &&& (255 : Int32))), .val (.ref b623), .val (.int 0), .val .null, .val (.int 3), .val (.int 97)]) at_488 rfl rfl rfl ?_
                    refine gw_iload C 492 at_490 rfl rfl ?_
                    refine gw_ifY C (pc' := 516) at_492 (teq ((by decide) : (0 : Int32) = (0 : Int32))).1 (by decide) (by decide) ?_
                    refine gw_aload C 518 at_516 rfl rfl rfl ?_
                    refine gw_ifnonnullN C 521 at_518 rfl ?_
                    refine gw_iconst C 522 (1 : Int32) at_521 rfl (by decide) ?_
                    refine gw_goto C (pc' := 526) at_522 (by decide) (by decide) ?_
                    refine gw_retN C hEL (t := .boolean) (z := (1 : Int32)) at_526 rfl (by decide) (by decide) (by decide) (by decide) ?_
                    exact rfl
              · skip
                refine gw_irem C 440 (4 : Int32) at_439 rfl (by decide) ec390 ?_
                refine gw_istore C 442 (Ls' := #[.val (.int p0), .val (.int p1), .val (.int p2), .val (.ref m), .val (.int ((XT.ushr p0 (1 : Int32)) &&& (7 : Int32))), .val (.int (p2 &&& (255 : Int32))), .unset, .unset, .val (.ref t386), .val (.int 4), .unset]) at_440 rfl rfl ?_
                refine gw_aload C 444 at_442 rfl rfl rfl ?_
                refine gw_iload C 446 at_444 rfl rfl ?_
                refine gw_caload C 447 (v := (.int 120)) at_446 rfl fx388 (by decide) rfl ?_
                refine gw_istore C 449 (Ls' := #[.val (.int p0), .val (.int p1), .val (.int p2), .val (.ref m), .val (.int ((XT.ushr p0 (1 : Int32)) &&& (7 : Int32))), .val (.int (p2 &&& (255 : Int32))), .unset, .unset, .val (.ref t386), .val (.int 4), .val (.int 120)]) at_447 rfl rfl ?_
                refine gw_aload C 451 at_449 rfl rfl rfl ?_
                refine gw_iload C 453 at_451 rfl rfl ?_
                refine gw_iload C 455 at_453 rfl rfl ?_
                refine gw_castore C 456 4 (v := (p2 &&& (255 : Int32))) (chr_and255 _).nar at_455 rfl fx388 (by decide) rfl (nble rfl) (mi 0 rfl) ?_
                intro h695 W696 fx697
                have fx698 : Arv Z h695 t386 kC387 .char (23 : Int32) [(.int 106), (.int 97), (.int 118), (.int 97), (.int (p2 &&& (255 : Int32))), (.int 46), (.int 115), (.int 101), (.int 99), (.int 117), (.int 114), (.int 105), (.int 116), (.int 121), (.int 46), (.int 115), (.int 97), (.int 115), (.int 108), (.int 46), (.int 113), (.int 111), (.int 112)] (.int 0) := fx697
                refine gw_new C 459 2 27 at_456 rfl rfl rfl (hq hw 3 rfl) (hq hw 4 rfl) (hq hw 5 rfl) (by decide) (by decide) ?_
                intro b699 h700 g701 E702 A703 D704
                have fx705 : Fld Z h700 b699 "java/lang/String" "coder" "B" (.int 0) := D704 (Or.inr (hq hw 34 rfl)) (ty := .byte) (by decide)
                have fx706 : Fld Z h700 b699 "java/lang/String" "value" "[B" .null := D704 (Or.inr (hq hw 36 rfl)) (ty := (.array .byte)) (by decide)
                refine gw_dup C 460 at_459 rfl rfl ?_
                refine gw_aload C 462 at_460 rfl rfl rfl ?_
                have fx707 := (fx698.ext E702)
                refine gw_callI C (a := b699) (argsL := [(.ref t386)]) (W := 1) at_462 rfl (hq hw 11 rfl) (hq hw 12 rfl) (hq hw 13 rfl) (by decide) pd___C_V (ct_str23 l Z a0 hw am (a := b699) (b := t386) (kC := kC387) (c0 := (106 : Int32)) (c1 := (97 : Int32)) (c2 := (118 : Int32)) (c3 := (97 : Int32)) (c4 := (p2 &&& (255 : Int32))) (c5 := (46 : Int32)) (c6 := (115 : Int32)) (c7 := (101 : Int32)) (c8 := (99 : Int32)) (c9 := (117 : Int32)) (c10 := (114 : Int32)) (c11 := (105 : Int32)) (c12 := (116 : Int32)) (c13 := (121 : Int32)) (c14 := (46 : Int32)) (c15 := (115 : Int32)) (c16 := (97 : Int32)) (c17 := (115 : Int32)) (c18 := (108 : Int32)) (c19 := (46 : Int32)) (c20 := (113 : Int32)) (c21 := (111 : Int32)) (c22 := (112 : Int32)) A703 fx706 fx705 fx707 (by decide) (by decide) (by decide) (by decide) (and_small _ 255 (by decide)).2 (by decide) (by decide) (by decide) (by decide) (by decide) (by decide) (by decide) (by decide) (by decide) (by decide) (by decide) (by decide) (by decide) (by decide) (by decide) (by decide) (by decide) (by decide)) rfl (by decide) (Nat.le_of_eq rfl) (by decide) rfl (by decide) (by decide) (memsS (mi 0 rfl) mems0) ?_
                intro fv708 h709 K710 fq711
                obtain ⟨t712, kB713, rfl, fx714, fx715, fx716, fx717, fx718⟩ := fq711
                refine ⟨[t712], (freshS ⟨fx718, (fx717).lt⟩ fresh0), ?_⟩
                show GoW l _ Z _ _ _ _ _ κ [t712, b699, t386] _ 465 _ [(.ref b699)] 3 50
                refine gw_astore C 467 (Ls' := #[.val (.int p0), .val (.int p1), .val (.int p2), .val (.ref m), .val (.int ((XT.ushr p0 (1 : Int32)) &&& (7 : Int32))), .val (.int (p2 &&& (255 : Int32))), .val (.ref b699), .unset, .val (.ref t386), .val (.int 4), .val (.int 120)]) at_465 rfl rfl rfl ?_
                refine gw_iload C 469 at_467 rfl rfl ?_
                refine gw_iload C 471 at_469 rfl rfl ?_
                by_cases hcq : (p2 &&& (255 : Int32)) = (120 : Int32)
                · skip
                  refine gw_icmpN C 474 at_471 rfl (teq hcq).2 ?_
                  refine gw_iconst C 475 (1 : Int32) at_474 rfl (by decide) ?_
                  refine gw_goto C (pc' := 479) at_475 (by decide) (by decide) ?_
                  refine gw_istore C 481 (Ls' := #[.val (.int p0), .val (.int p1), .val (.int p2), .val (.ref m), .val (.int ((XT.ushr p0 (1 : Int32)) &&& (7 : Int32))), .val (.int (p2 &&& (255 : Int32))), .val (.ref b699), .val (.int 1), .val (.ref t386), .val (.int 4), .val (.int 120)]) at_479 rfl rfl ?_
                  refine gw_aloadN C 482 at_481 rfl rfl rfl ?_
                  refine gw_iconst C 483 (1 : Int32) at_482 rfl (by decide) ?_
                  refine gw_aload C 485 at_483 rfl rfl rfl ?_
                  refine gw_old ?_
                  intro O719 zO719
                  refine gw_callVW C hEL (a := m) (argsL := [(.int 1), (.ref b699)]) (W := 0) at_485 (hq hw 37 rfl) (hq hw 38 rfl) (fun _ hZ => notFace_of_selects (args := #[]) (mvT hZ (hq hw 40 rfl))) (hq hw 40 rfl) (hq hw 39 rfl) (Exa.ext O719 pm) (by decide) pd__ZLjava_lang_String__Ljava_lang_Object_ (ct_np23 l Z a0 hw am (m := m) (s := b699) (t := t712) (kt := kB713) (x0 := (lo8 106)) (x1 := (lo8 97)) (x2 := (lo8 118)) (x3 := (lo8 97)) (x4 := (lo8 (p2 &&& (255 : Int32)))) (x5 := (lo8 46)) (x6 := (lo8 115)) (x7 := (lo8 101)) (x8 := (lo8 99)) (x9 := (lo8 117)) (x10 := (lo8 114)) (x11 := (lo8 105)) (x12 := (lo8 116)) (x13 := (lo8 121)) (x14 := (lo8 46)) (x15 := (lo8 115)) (x16 := (lo8 97)) (x17 := (lo8 115)) (x18 := (lo8 108)) (x19 := (lo8 46)) (x20 := (lo8 113)) (x21 := (lo8 111)) (x22 := (lo8 112)) fx714 fx715 fx716 fx717) rfl (by decide) (Nat.le_of_eq rfl) (by decide) rfl (by decide) (by decide) (memsS (mi 1 rfl) mems0) ?_
                  intro fv720 h721 K722 fq723
                  rcases fq723 with ⟨a724, u725, ku726, rfl, fx727, fx728, fx729, fx730, fx731⟩ | ⟨rfl, fx732⟩
                  · skip
                    show GoW l _ Z _ _ _ _ _ κ _ _ 488 _ [(.ref a724)] 7 166
                    refine gw_astore C 490 (Ls' := #[.val (.int p0), .val (.int p1), .val (.int p2), .val (.ref m), .val (.int ((XT.ushr p0 (1 : Int32)) &&& (7 : Int32))), .val (.int (p2 &&& (255 : Int32))), .val (.ref b699), .val (.int 1), .val (.ref a724), .val (.int 4), .val (.int 120)]) at_488 rfl rfl rfl ?_
                    refine gw_iload C 492 at_490 rfl rfl ?_
                    refine gw_ifN C 495 at_492 rfl (feq ((by decide) : ¬ ((1 : Int32) = (0 : Int32)))).1 ?_
                    refine gw_aload C 497 at_495 rfl rfl rfl ?_
                    refine gw_ifnullN C 500 at_497 rfl ?_
                    refine gw_ldcS C hEL 502 9 186 (n := 16) (vs := [(.int 97), (.int 117), (.int 116), (.int 104)]) (zn := (4 : Int32)) at_500 rfl rfl rfl (hq hw 56 rfl) (wS hw) (List.mem_of_getElem? (i := 2) rfl) (by decide) (by decide) rfl (by decide) (by decide) (by decide) (by decide) ?_
                    intro sa733 sb734 k735 h736 E737 fx738 fx739 fx740 fx741 fn742
                    have fe743 : t712 ≠ sa733 := (fn742 _ (List.mem_of_getElem? (i := 0) rfl)).1
                    have fe744 : t712 ≠ sb734 := (fn742 _ (List.mem_of_getElem? (i := 0) rfl)).2
                    have fe745 : b699 ≠ sa733 := (fn742 _ (List.mem_of_getElem? (i := 1) rfl)).1
                    have fe746 : b699 ≠ sb734 := (fn742 _ (List.mem_of_getElem? (i := 1) rfl)).2
                    have fe747 : t386 ≠ sa733 := (fn742 _ (List.mem_of_getElem? (i := 2) rfl)).1
                    have fe748 : t386 ≠ sb734 := (fn742 _ (List.mem_of_getElem? (i := 2) rfl)).2
                    refine gw_aload C 504 at_502 rfl rfl rfl ?_
                    have fx749 := (Exa.ext E737 fx727)
                    have fx750 := (Fld.ext E737 fx728)
                    have fx751 := (Fld.ext E737 fx729)
                    have fx752 := (fx730.ext E737)
                    refine gw_callV C (a := sa733) (argsL := [(.ref a724)]) (W := 0) at_504 (hq hw 57 rfl) (hq hw 46 rfl) (fun _ hZ => notFace_of_selects (args := #[]) (mvT hZ (hq hw 48 rfl))) (hq hw 48 rfl) (hq hw 47 rfl) fx738 (by decide) pd__Ljava_lang_Object__Z (ct_eq4 l Z a0 hw am (a := sa733) (b := a724) (t := sb734) (u := u725) (kt := k735) (ku := ku726) (x0 := (97 : Int32)) (x1 := (117 : Int32)) (x2 := (116 : Int32)) (x3 := (104 : Int32)) (y0 := (97 : Int32)) (y1 := (117 : Int32)) (y2 := (116 : Int32)) (y3 := (104 : Int32)) fx738 fx739 fx740 fx741 fx749 fx750 fx751 fx752 rfl rfl rfl rfl) rfl (by decide) (Nat.le_of_eq rfl) (by decide) rfl (by decide) (by decide) mems0 ?_
                    intro fv753 h754 K755 fq756
                    obtain ⟨rfl, rfl⟩ := fq756
                    refine ⟨[], fresh0, ?_⟩
                    show GoW l _ Z _ _ _ _ _ κ _ _ 507 _ [(.int 1)] 9 186
                    refine gw_ifN C 510 at_507 rfl (feq ((by decide) : ¬ ((1 : Int32) = (0 : Int32)))).1 ?_
                    refine gw_iconst C 511 (1 : Int32) at_510 rfl (by decide) ?_
                    refine gw_goto C (pc' := 515) at_511 (by decide) (by decide) ?_
                    refine gw_retN C hEL (t := .boolean) (z := (1 : Int32)) at_515 rfl (by decide) (by decide) (by decide) (by decide) ?_
                    exact rfl
                  · skip
                    exact (fx732 (by rw [hcq]; decide)).elim
                · skip
                  refine gw_icmpY C (pc' := 478) at_471 (feq hcq).2 (by decide) (by decide) ?_
                  refine gw_iconst C 479 (0 : Int32) at_478 rfl (by decide) ?_
                  refine gw_istore C 481 (Ls' := #[.val (.int p0), .val (.int p1), .val (.int p2), .val (.ref m), .val (.int ((XT.ushr p0 (1 : Int32)) &&& (7 : Int32))), .val (.int (p2 &&& (255 : Int32))), .val (.ref b699), .val (.int 0), .val (.ref t386), .val (.int 4), .val (.int 120)]) at_479 rfl rfl ?_
                  refine gw_aloadN C 482 at_481 rfl rfl rfl ?_
                  refine gw_iconst C 483 (1 : Int32) at_482 rfl (by decide) ?_
                  refine gw_aload C 485 at_483 rfl rfl rfl ?_
                  refine gw_old ?_
                  intro O757 zO757
                  refine gw_callVW C hEL (a := m) (argsL := [(.int 1), (.ref b699)]) (W := 0) at_485 (hq hw 37 rfl) (hq hw 38 rfl) (fun _ hZ => notFace_of_selects (args := #[]) (mvT hZ (hq hw 40 rfl))) (hq hw 40 rfl) (hq hw 39 rfl) (Exa.ext O757 pm) (by decide) pd__ZLjava_lang_String__Ljava_lang_Object_ (ct_np23 l Z a0 hw am (m := m) (s := b699) (t := t712) (kt := kB713) (x0 := (lo8 106)) (x1 := (lo8 97)) (x2 := (lo8 118)) (x3 := (lo8 97)) (x4 := (lo8 (p2 &&& (255 : Int32)))) (x5 := (lo8 46)) (x6 := (lo8 115)) (x7 := (lo8 101)) (x8 := (lo8 99)) (x9 := (lo8 117)) (x10 := (lo8 114)) (x11 := (lo8 105)) (x12 := (lo8 116)) (x13 := (lo8 121)) (x14 := (lo8 46)) (x15 := (lo8 115)) (x16 := (lo8 97)) (x17 := (lo8 115)) (x18 := (lo8 108)) (x19 := (lo8 46)) (x20 := (lo8 113)) (x21 := (lo8 111)) (x22 := (lo8 112)) fx714 fx715 fx716 fx717) rfl (by decide) (Nat.le_of_eq rfl) (by decide) rfl (by decide) (by decide) (memsS (mi 1 rfl) mems0) ?_
                  intro fv758 h759 K760 fq761
                  rcases fq761 with ⟨a762, u763, ku764, rfl, fx765, fx766, fx767, fx768, fx769⟩ | ⟨rfl, fx770⟩
                  · skip
                    exact (hcq ((lo8_mask (chr_and255 p2).1 (and_small _ 255 (by decide)).2).symm.trans (by rw [← fx769.2.2.2.2.1]; decide))).elim
                  · skip
                    show GoW l _ Z _ _ _ _ _ κ _ _ 488 _ [.null] 7 166
                    refine gw_astore C 490 (Ls' := #[.val (.int p0), .val (.int p1), .val (.int p2), .val (.ref m), .val (.int ((XT.ushr p0 (1 : Int32)) &&& (7 : Int32))), .val (.int (p2 &&& (255 : Int32))), .val (.ref b699), .val (.int 0), .val .null, .val (.int 4), .val (.int 120)]) at_488 rfl rfl rfl ?_
                    refine gw_iload C 492 at_490 rfl rfl ?_
                    refine gw_ifY C (pc' := 516) at_492 (teq ((by decide) : (0 : Int32) = (0 : Int32))).1 (by decide) (by decide) ?_
                    refine gw_aload C 518 at_516 rfl rfl rfl ?_
                    refine gw_ifnonnullN C 521 at_518 rfl ?_
                    refine gw_iconst C 522 (1 : Int32) at_521 rfl (by decide) ?_
                    refine gw_goto C (pc' := 526) at_522 (by decide) (by decide) ?_
                    refine gw_retN C hEL (t := .boolean) (z := (1 : Int32)) at_526 rfl (by decide) (by decide) (by decide) (by decide) ?_
                    exact rfl
              · skip
                refine gw_irem C 440 (5 : Int32) at_439 rfl (by decide) ec390 ?_
                refine gw_istore C 442 (Ls' := #[.val (.int p0), .val (.int p1), .val (.int p2), .val (.ref m), .val (.int ((XT.ushr p0 (1 : Int32)) &&& (7 : Int32))), .val (.int (p2 &&& (255 : Int32))), .unset, .unset, .val (.ref t386), .val (.int 5), .unset]) at_440 rfl rfl ?_
                refine gw_aload C 444 at_442 rfl rfl rfl ?_
                refine gw_iload C 446 at_444 rfl rfl ?_
                refine gw_caload C 447 (v := (.int 46)) at_446 rfl fx388 (by decide) rfl ?_
                refine gw_istore C 449 (Ls' := #[.val (.int p0), .val (.int p1), .val (.int p2), .val (.ref m), .val (.int ((XT.ushr p0 (1 : Int32)) &&& (7 : Int32))), .val (.int (p2 &&& (255 : Int32))), .unset, .unset, .val (.ref t386), .val (.int 5), .val (.int 46)]) at_447 rfl rfl ?_
                refine gw_aload C 451 at_449 rfl rfl rfl ?_
                refine gw_iload C 453 at_451 rfl rfl ?_
                refine gw_iload C 455 at_453 rfl rfl ?_
                refine gw_castore C 456 5 (v := (p2 &&& (255 : Int32))) (chr_and255 _).nar at_455 rfl fx388 (by decide) rfl (nble rfl) (mi 0 rfl) ?_
                intro h771 W772 fx773
                have fx774 : Arv Z h771 t386 kC387 .char (23 : Int32) [(.int 106), (.int 97), (.int 118), (.int 97), (.int 120), (.int (p2 &&& (255 : Int32))), (.int 115), (.int 101), (.int 99), (.int 117), (.int 114), (.int 105), (.int 116), (.int 121), (.int 46), (.int 115), (.int 97), (.int 115), (.int 108), (.int 46), (.int 113), (.int 111), (.int 112)] (.int 0) := fx773
                refine gw_new C 459 2 27 at_456 rfl rfl rfl (hq hw 3 rfl) (hq hw 4 rfl) (hq hw 5 rfl) (by decide) (by decide) ?_
                intro b775 h776 g777 E778 A779 D780
                have fx781 : Fld Z h776 b775 "java/lang/String" "coder" "B" (.int 0) := D780 (Or.inr (hq hw 34 rfl)) (ty := .byte) (by decide)
                have fx782 : Fld Z h776 b775 "java/lang/String" "value" "[B" .null := D780 (Or.inr (hq hw 36 rfl)) (ty := (.array .byte)) (by decide)
                refine gw_dup C 460 at_459 rfl rfl ?_
                refine gw_aload C 462 at_460 rfl rfl rfl ?_
                have fx783 := (fx774.ext E778)
                refine gw_callI C (a := b775) (argsL := [(.ref t386)]) (W := 1) at_462 rfl (hq hw 11 rfl) (hq hw 12 rfl) (hq hw 13 rfl) (by decide) pd___C_V (ct_str23 l Z a0 hw am (a := b775) (b := t386) (kC := kC387) (c0 := (106 : Int32)) (c1 := (97 : Int32)) (c2 := (118 : Int32)) (c3 := (97 : Int32)) (c4 := (120 : Int32)) (c5 := (p2 &&& (255 : Int32))) (c6 := (115 : Int32)) (c7 := (101 : Int32)) (c8 := (99 : Int32)) (c9 := (117 : Int32)) (c10 := (114 : Int32)) (c11 := (105 : Int32)) (c12 := (116 : Int32)) (c13 := (121 : Int32)) (c14 := (46 : Int32)) (c15 := (115 : Int32)) (c16 := (97 : Int32)) (c17 := (115 : Int32)) (c18 := (108 : Int32)) (c19 := (46 : Int32)) (c20 := (113 : Int32)) (c21 := (111 : Int32)) (c22 := (112 : Int32)) A779 fx782 fx781 fx783 (by decide) (by decide) (by decide) (by decide) (by decide) (and_small _ 255 (by decide)).2 (by decide) (by decide) (by decide) (by decide) (by decide) (by decide) (by decide) (by decide) (by decide) (by decide) (by decide) (by decide) (by decide) (by decide) (by decide) (by decide) (by decide)) rfl (by decide) (Nat.le_of_eq rfl) (by decide) rfl (by decide) (by decide) (memsS (mi 0 rfl) mems0) ?_
                intro fv784 h785 K786 fq787
                obtain ⟨t788, kB789, rfl, fx790, fx791, fx792, fx793, fx794⟩ := fq787
                refine ⟨[t788], (freshS ⟨fx794, (fx793).lt⟩ fresh0), ?_⟩
                show GoW l _ Z _ _ _ _ _ κ [t788, b775, t386] _ 465 _ [(.ref b775)] 3 50
                refine gw_astore C 467 (Ls' := #[.val (.int p0), .val (.int p1), .val (.int p2), .val (.ref m), .val (.int ((XT.ushr p0 (1 : Int32)) &&& (7 : Int32))), .val (.int (p2 &&& (255 : Int32))), .val (.ref b775), .unset, .val (.ref t386), .val (.int 5), .val (.int 46)]) at_465 rfl rfl rfl ?_
                refine gw_iload C 469 at_467 rfl rfl ?_
                refine gw_iload C 471 at_469 rfl rfl ?_
                by_cases hcq : (p2 &&& (255 : Int32)) = (46 : Int32)
                · skip
                  refine gw_icmpN C 474 at_471 rfl (teq hcq).2 ?_
                  refine gw_iconst C 475 (1 : Int32) at_474 rfl (by decide) ?_
                  refine gw_goto C (pc' := 479) at_475 (by decide) (by decide) ?_
                  refine gw_istore C 481 (Ls' := #[.val (.int p0), .val (.int p1), .val (.int p2), .val (.ref m), .val (.int ((XT.ushr p0 (1 : Int32)) &&& (7 : Int32))), .val (.int (p2 &&& (255 : Int32))), .val (.ref b775), .val (.int 1), .val (.ref t386), .val (.int 5), .val (.int 46)]) at_479 rfl rfl ?_
                  refine gw_aloadN C 482 at_481 rfl rfl rfl ?_
                  refine gw_iconst C 483 (1 : Int32) at_482 rfl (by decide) ?_
                  refine gw_aload C 485 at_483 rfl rfl rfl ?_
                  refine gw_old ?_
                  intro O795 zO795
                  refine gw_callVW C hEL (a := m) (argsL := [(.int 1), (.ref b775)]) (W := 0) at_485 (hq hw 37 rfl) (hq hw 38 rfl) (fun _ hZ => notFace_of_selects (args := #[]) (mvT hZ (hq hw 40 rfl))) (hq hw 40 rfl) (hq hw 39 rfl) (Exa.ext O795 pm) (by decide) pd__ZLjava_lang_String__Ljava_lang_Object_ (ct_np23 l Z a0 hw am (m := m) (s := b775) (t := t788) (kt := kB789) (x0 := (lo8 106)) (x1 := (lo8 97)) (x2 := (lo8 118)) (x3 := (lo8 97)) (x4 := (lo8 120)) (x5 := (lo8 (p2 &&& (255 : Int32)))) (x6 := (lo8 115)) (x7 := (lo8 101)) (x8 := (lo8 99)) (x9 := (lo8 117)) (x10 := (lo8 114)) (x11 := (lo8 105)) (x12 := (lo8 116)) (x13 := (lo8 121)) (x14 := (lo8 46)) (x15 := (lo8 115)) (x16 := (lo8 97)) (x17 := (lo8 115)) (x18 := (lo8 108)) (x19 := (lo8 46)) (x20 := (lo8 113)) (x21 := (lo8 111)) (x22 := (lo8 112)) fx790 fx791 fx792 fx793) rfl (by decide) (Nat.le_of_eq rfl) (by decide) rfl (by decide) (by decide) (memsS (mi 1 rfl) mems0) ?_
                  intro fv796 h797 K798 fq799
                  rcases fq799 with ⟨a800, u801, ku802, rfl, fx803, fx804, fx805, fx806, fx807⟩ | ⟨rfl, fx808⟩
                  · skip
                    show GoW l _ Z _ _ _ _ _ κ _ _ 488 _ [(.ref a800)] 7 166
                    refine gw_astore C 490 (Ls' := #[.val (.int p0), .val (.int p1), .val (.int p2), .val (.ref m), .val (.int ((XT.ushr p0 (1 : Int32)) &&& (7 : Int32))), .val (.int (p2 &&& (255 : Int32))), .val (.ref b775), .val (.int 1), .val (.ref a800), .val (.int 5), .val (.int 46)]) at_488 rfl rfl rfl ?_
                    refine gw_iload C 492 at_490 rfl rfl ?_
                    refine gw_ifN C 495 at_492 rfl (feq ((by decide) : ¬ ((1 : Int32) = (0 : Int32)))).1 ?_
                    refine gw_aload C 497 at_495 rfl rfl rfl ?_
                    refine gw_ifnullN C 500 at_497 rfl ?_
                    refine gw_ldcS C hEL 502 9 186 (n := 16) (vs := [(.int 97), (.int 117), (.int 116), (.int 104)]) (zn := (4 : Int32)) at_500 rfl rfl rfl (hq hw 56 rfl) (wS hw) (List.mem_of_getElem? (i := 2) rfl) (by decide) (by decide) rfl (by decide) (by decide) (by decide) (by decide) ?_
                    intro sa809 sb810 k811 h812 E813 fx814 fx815 fx816 fx817 fn818
                    have fe819 : t788 ≠ sa809 := (fn818 _ (List.mem_of_getElem? (i := 0) rfl)).1
                    have fe820 : t788 ≠ sb810 := (fn818 _ (List.mem_of_getElem? (i := 0) rfl)).2
                    have fe821 : b775 ≠ sa809 := (fn818 _ (List.mem_of_getElem? (i := 1) rfl)).1
                    have fe822 : b775 ≠ sb810 := (fn818 _ (List.mem_of_getElem? (i := 1) rfl)).2
                    have fe823 : t386 ≠ sa809 := (fn818 _ (List.mem_of_getElem? (i := 2) rfl)).1
                    have fe824 : t386 ≠ sb810 := (fn818 _ (List.mem_of_getElem? (i := 2) rfl)).2
                    refine gw_aload C 504 at_502 rfl rfl rfl ?_
                    have fx825 := (Exa.ext E813 fx803)
                    have fx826 := (Fld.ext E813 fx804)
                    have fx827 := (Fld.ext E813 fx805)
                    have fx828 := (fx806.ext E813)
                    refine gw_callV C (a := sa809) (argsL := [(.ref a800)]) (W := 0) at_504 (hq hw 57 rfl) (hq hw 46 rfl) (fun _ hZ => notFace_of_selects (args := #[]) (mvT hZ (hq hw 48 rfl))) (hq hw 48 rfl) (hq hw 47 rfl) fx814 (by decide) pd__Ljava_lang_Object__Z (ct_eq4 l Z a0 hw am (a := sa809) (b := a800) (t := sb810) (u := u801) (kt := k811) (ku := ku802) (x0 := (97 : Int32)) (x1 := (117 : Int32)) (x2 := (116 : Int32)) (x3 := (104 : Int32)) (y0 := (97 : Int32)) (y1 := (117 : Int32)) (y2 := (116 : Int32)) (y3 := (104 : Int32)) fx814 fx815 fx816 fx817 fx825 fx826 fx827 fx828 rfl rfl rfl rfl) rfl (by decide) (Nat.le_of_eq rfl) (by decide) rfl (by decide) (by decide) mems0 ?_
                    intro fv829 h830 K831 fq832
                    obtain ⟨rfl, rfl⟩ := fq832
                    refine ⟨[], fresh0, ?_⟩
                    show GoW l _ Z _ _ _ _ _ κ _ _ 507 _ [(.int 1)] 9 186
                    refine gw_ifN C 510 at_507 rfl (feq ((by decide) : ¬ ((1 : Int32) = (0 : Int32)))).1 ?_
                    refine gw_iconst C 511 (1 : Int32) at_510 rfl (by decide) ?_
                    refine gw_goto C (pc' := 515) at_511 (by decide) (by decide) ?_
                    refine gw_retN C hEL (t := .boolean) (z := (1 : Int32)) at_515 rfl (by decide) (by decide) (by decide) (by decide) ?_
                    exact rfl
                  · skip
                    exact (fx808 (by rw [hcq]; decide)).elim
                · skip
                  refine gw_icmpY C (pc' := 478) at_471 (feq hcq).2 (by decide) (by decide) ?_
                  refine gw_iconst C 479 (0 : Int32) at_478 rfl (by decide) ?_
                  refine gw_istore C 481 (Ls' := #[.val (.int p0), .val (.int p1), .val (.int p2), .val (.ref m), .val (.int ((XT.ushr p0 (1 : Int32)) &&& (7 : Int32))), .val (.int (p2 &&& (255 : Int32))), .val (.ref b775), .val (.int 0), .val (.ref t386), .val (.int 5), .val (.int 46)]) at_479 rfl rfl ?_
                  refine gw_aloadN C 482 at_481 rfl rfl rfl ?_
                  refine gw_iconst C 483 (1 : Int32) at_482 rfl (by decide) ?_
                  refine gw_aload C 485 at_483 rfl rfl rfl ?_
                  refine gw_old ?_
                  intro O833 zO833
                  refine gw_callVW C hEL (a := m) (argsL := [(.int 1), (.ref b775)]) (W := 0) at_485 (hq hw 37 rfl) (hq hw 38 rfl) (fun _ hZ => notFace_of_selects (args := #[]) (mvT hZ (hq hw 40 rfl))) (hq hw 40 rfl) (hq hw 39 rfl) (Exa.ext O833 pm) (by decide) pd__ZLjava_lang_String__Ljava_lang_Object_ (ct_np23 l Z a0 hw am (m := m) (s := b775) (t := t788) (kt := kB789) (x0 := (lo8 106)) (x1 := (lo8 97)) (x2 := (lo8 118)) (x3 := (lo8 97)) (x4 := (lo8 120)) (x5 := (lo8 (p2 &&& (255 : Int32)))) (x6 := (lo8 115)) (x7 := (lo8 101)) (x8 := (lo8 99)) (x9 := (lo8 117)) (x10 := (lo8 114)) (x11 := (lo8 105)) (x12 := (lo8 116)) (x13 := (lo8 121)) (x14 := (lo8 46)) (x15 := (lo8 115)) (x16 := (lo8 97)) (x17 := (lo8 115)) (x18 := (lo8 108)) (x19 := (lo8 46)) (x20 := (lo8 113)) (x21 := (lo8 111)) (x22 := (lo8 112)) fx790 fx791 fx792 fx793) rfl (by decide) (Nat.le_of_eq rfl) (by decide) rfl (by decide) (by decide) (memsS (mi 1 rfl) mems0) ?_
                  intro fv834 h835 K836 fq837
                  rcases fq837 with ⟨a838, u839, ku840, rfl, fx841, fx842, fx843, fx844, fx845⟩ | ⟨rfl, fx846⟩
                  · skip
                    exact (hcq ((lo8_mask (chr_and255 p2).1 (and_small _ 255 (by decide)).2).symm.trans (by rw [← fx845.2.2.2.2.2.1]; decide))).elim
                  · skip
                    show GoW l _ Z _ _ _ _ _ κ _ _ 488 _ [.null] 7 166
                    refine gw_astore C 490 (Ls' := #[.val (.int p0), .val (.int p1), .val (.int p2), .val (.ref m), .val (.int ((XT.ushr p0 (1 : Int32)) &&& (7 : Int32))), .val (.int (p2 &&& (255 : Int32))), .val (.ref b775), .val (.int 0), .val .null, .val (.int 5), .val (.int 46)]) at_488 rfl rfl rfl ?_
                    refine gw_iload C 492 at_490 rfl rfl ?_
                    refine gw_ifY C (pc' := 516) at_492 (teq ((by decide) : (0 : Int32) = (0 : Int32))).1 (by decide) (by decide) ?_
                    refine gw_aload C 518 at_516 rfl rfl rfl ?_
                    refine gw_ifnonnullN C 521 at_518 rfl ?_
                    refine gw_iconst C 522 (1 : Int32) at_521 rfl (by decide) ?_
                    refine gw_goto C (pc' := 526) at_522 (by decide) (by decide) ?_
                    refine gw_retN C hEL (t := .boolean) (z := (1 : Int32)) at_526 rfl (by decide) (by decide) (by decide) (by decide) ?_
                    exact rfl
              · skip
                refine gw_irem C 440 (6 : Int32) at_439 rfl (by decide) ec390 ?_
                refine gw_istore C 442 (Ls' := #[.val (.int p0), .val (.int p1), .val (.int p2), .val (.ref m), .val (.int ((XT.ushr p0 (1 : Int32)) &&& (7 : Int32))), .val (.int (p2 &&& (255 : Int32))), .unset, .unset, .val (.ref t386), .val (.int 6), .unset]) at_440 rfl rfl ?_
                refine gw_aload C 444 at_442 rfl rfl rfl ?_
                refine gw_iload C 446 at_444 rfl rfl ?_
                refine gw_caload C 447 (v := (.int 115)) at_446 rfl fx388 (by decide) rfl ?_
                refine gw_istore C 449 (Ls' := #[.val (.int p0), .val (.int p1), .val (.int p2), .val (.ref m), .val (.int ((XT.ushr p0 (1 : Int32)) &&& (7 : Int32))), .val (.int (p2 &&& (255 : Int32))), .unset, .unset, .val (.ref t386), .val (.int 6), .val (.int 115)]) at_447 rfl rfl ?_
                refine gw_aload C 451 at_449 rfl rfl rfl ?_
                refine gw_iload C 453 at_451 rfl rfl ?_
                refine gw_iload C 455 at_453 rfl rfl ?_
                refine gw_castore C 456 6 (v := (p2 &&& (255 : Int32))) (chr_and255 _).nar at_455 rfl fx388 (by decide) rfl (nble rfl) (mi 0 rfl) ?_
                intro h847 W848 fx849
                have fx850 : Arv Z h847 t386 kC387 .char (23 : Int32) [(.int 106), (.int 97), (.int 118), (.int 97), (.int 120), (.int 46), (.int (p2 &&& (255 : Int32))), (.int 101), (.int 99), (.int 117), (.int 114), (.int 105), (.int 116), (.int 121), (.int 46), (.int 115), (.int 97), (.int 115), (.int 108), (.int 46), (.int 113), (.int 111), (.int 112)] (.int 0) := fx849
                refine gw_new C 459 2 27 at_456 rfl rfl rfl (hq hw 3 rfl) (hq hw 4 rfl) (hq hw 5 rfl) (by decide) (by decide) ?_
                intro b851 h852 g853 E854 A855 D856
                have fx857 : Fld Z h852 b851 "java/lang/String" "coder" "B" (.int 0) := D856 (Or.inr (hq hw 34 rfl)) (ty := .byte) (by decide)
                have fx858 : Fld Z h852 b851 "java/lang/String" "value" "[B" .null := D856 (Or.inr (hq hw 36 rfl)) (ty := (.array .byte)) (by decide)
                refine gw_dup C 460 at_459 rfl rfl ?_
                refine gw_aload C 462 at_460 rfl rfl rfl ?_
                have fx859 := (fx850.ext E854)
                refine gw_callI C (a := b851) (argsL := [(.ref t386)]) (W := 1) at_462 rfl (hq hw 11 rfl) (hq hw 12 rfl) (hq hw 13 rfl) (by decide) pd___C_V (ct_str23 l Z a0 hw am (a := b851) (b := t386) (kC := kC387) (c0 := (106 : Int32)) (c1 := (97 : Int32)) (c2 := (118 : Int32)) (c3 := (97 : Int32)) (c4 := (120 : Int32)) (c5 := (46 : Int32)) (c6 := (p2 &&& (255 : Int32))) (c7 := (101 : Int32)) (c8 := (99 : Int32)) (c9 := (117 : Int32)) (c10 := (114 : Int32)) (c11 := (105 : Int32)) (c12 := (116 : Int32)) (c13 := (121 : Int32)) (c14 := (46 : Int32)) (c15 := (115 : Int32)) (c16 := (97 : Int32)) (c17 := (115 : Int32)) (c18 := (108 : Int32)) (c19 := (46 : Int32)) (c20 := (113 : Int32)) (c21 := (111 : Int32)) (c22 := (112 : Int32)) A855 fx858 fx857 fx859 (by decide) (by decide) (by decide) (by decide) (by decide) (by decide) (and_small _ 255 (by decide)).2 (by decide) (by decide) (by decide) (by decide) (by decide) (by decide) (by decide) (by decide) (by decide) (by decide) (by decide) (by decide) (by decide) (by decide) (by decide) (by decide)) rfl (by decide) (Nat.le_of_eq rfl) (by decide) rfl (by decide) (by decide) (memsS (mi 0 rfl) mems0) ?_
                intro fv860 h861 K862 fq863
                obtain ⟨t864, kB865, rfl, fx866, fx867, fx868, fx869, fx870⟩ := fq863
                refine ⟨[t864], (freshS ⟨fx870, (fx869).lt⟩ fresh0), ?_⟩
                show GoW l _ Z _ _ _ _ _ κ [t864, b851, t386] _ 465 _ [(.ref b851)] 3 50
                refine gw_astore C 467 (Ls' := #[.val (.int p0), .val (.int p1), .val (.int p2), .val (.ref m), .val (.int ((XT.ushr p0 (1 : Int32)) &&& (7 : Int32))), .val (.int (p2 &&& (255 : Int32))), .val (.ref b851), .unset, .val (.ref t386), .val (.int 6), .val (.int 115)]) at_465 rfl rfl rfl ?_
                refine gw_iload C 469 at_467 rfl rfl ?_
                refine gw_iload C 471 at_469 rfl rfl ?_
                by_cases hcq : (p2 &&& (255 : Int32)) = (115 : Int32)
                · skip
                  refine gw_icmpN C 474 at_471 rfl (teq hcq).2 ?_
                  refine gw_iconst C 475 (1 : Int32) at_474 rfl (by decide) ?_
                  refine gw_goto C (pc' := 479) at_475 (by decide) (by decide) ?_
                  refine gw_istore C 481 (Ls' := #[.val (.int p0), .val (.int p1), .val (.int p2), .val (.ref m), .val (.int ((XT.ushr p0 (1 : Int32)) &&& (7 : Int32))), .val (.int (p2 &&& (255 : Int32))), .val (.ref b851), .val (.int 1), .val (.ref t386), .val (.int 6), .val (.int 115)]) at_479 rfl rfl ?_
                  refine gw_aloadN C 482 at_481 rfl rfl rfl ?_
                  refine gw_iconst C 483 (1 : Int32) at_482 rfl (by decide) ?_
                  refine gw_aload C 485 at_483 rfl rfl rfl ?_
                  refine gw_old ?_
                  intro O871 zO871
                  refine gw_callVW C hEL (a := m) (argsL := [(.int 1), (.ref b851)]) (W := 0) at_485 (hq hw 37 rfl) (hq hw 38 rfl) (fun _ hZ => notFace_of_selects (args := #[]) (mvT hZ (hq hw 40 rfl))) (hq hw 40 rfl) (hq hw 39 rfl) (Exa.ext O871 pm) (by decide) pd__ZLjava_lang_String__Ljava_lang_Object_ (ct_np23 l Z a0 hw am (m := m) (s := b851) (t := t864) (kt := kB865) (x0 := (lo8 106)) (x1 := (lo8 97)) (x2 := (lo8 118)) (x3 := (lo8 97)) (x4 := (lo8 120)) (x5 := (lo8 46)) (x6 := (lo8 (p2 &&& (255 : Int32)))) (x7 := (lo8 101)) (x8 := (lo8 99)) (x9 := (lo8 117)) (x10 := (lo8 114)) (x11 := (lo8 105)) (x12 := (lo8 116)) (x13 := (lo8 121)) (x14 := (lo8 46)) (x15 := (lo8 115)) (x16 := (lo8 97)) (x17 := (lo8 115)) (x18 := (lo8 108)) (x19 := (lo8 46)) (x20 := (lo8 113)) (x21 := (lo8 111)) (x22 := (lo8 112)) fx866 fx867 fx868 fx869) rfl (by decide) (Nat.le_of_eq rfl) (by decide) rfl (by decide) (by decide) (memsS (mi 1 rfl) mems0) ?_
                  intro fv872 h873 K874 fq875
                  rcases fq875 with ⟨a876, u877, ku878, rfl, fx879, fx880, fx881, fx882, fx883⟩ | ⟨rfl, fx884⟩
                  · skip
                    show GoW l _ Z _ _ _ _ _ κ _ _ 488 _ [(.ref a876)] 7 166
                    refine gw_astore C 490 (Ls' := #[.val (.int p0), .val (.int p1), .val (.int p2), .val (.ref m), .val (.int ((XT.ushr p0 (1 : Int32)) &&& (7 : Int32))), .val (.int (p2 &&& (255 : Int32))), .val (.ref b851), .val (.int 1), .val (.ref a876), .val (.int 6), .val (.int 115)]) at_488 rfl rfl rfl ?_
                    refine gw_iload C 492 at_490 rfl rfl ?_
                    refine gw_ifN C 495 at_492 rfl (feq ((by decide) : ¬ ((1 : Int32) = (0 : Int32)))).1 ?_
                    refine gw_aload C 497 at_495 rfl rfl rfl ?_
                    refine gw_ifnullN C 500 at_497 rfl ?_
                    refine gw_ldcS C hEL 502 9 186 (n := 16) (vs := [(.int 97), (.int 117), (.int 116), (.int 104)]) (zn := (4 : Int32)) at_500 rfl rfl rfl (hq hw 56 rfl) (wS hw) (List.mem_of_getElem? (i := 2) rfl) (by decide) (by decide) rfl (by decide) (by decide) (by decide) (by decide) ?_
                    intro sa885 sb886 k887 h888 E889 fx890 fx891 fx892 fx893 fn894
                    have fe895 : t864 ≠ sa885 := (fn894 _ (List.mem_of_getElem? (i := 0) rfl)).1
                    have fe896 : t864 ≠ sb886 := (fn894 _ (List.mem_of_getElem? (i := 0) rfl)).2
                    have fe897 : b851 ≠ sa885 := (fn894 _ (List.mem_of_getElem? (i := 1) rfl)).1
                    have fe898 : b851 ≠ sb886 := (fn894 _ (List.mem_of_getElem? (i := 1) rfl)).2
                    have fe899 : t386 ≠ sa885 := (fn894 _ (List.mem_of_getElem? (i := 2) rfl)).1
                    have fe900 : t386 ≠ sb886 := (fn894 _ (List.mem_of_getElem? (i := 2) rfl)).2
                    refine gw_aload C 504 at_502 rfl rfl rfl ?_
                    have fx901 := (Exa.ext E889 fx879)
                    have fx902 := (Fld.ext E889 fx880)
                    have fx903 := (Fld.ext E889 fx881)
                    have fx904 := (fx882.ext E889)
                    refine gw_callV C (a := sa885) (argsL := [(.ref a876)]) (W := 0) at_504 (hq hw 57 rfl) (hq hw 46 rfl) (fun _ hZ => notFace_of_selects (args := #[]) (mvT hZ (hq hw 48 rfl))) (hq hw 48 rfl) (hq hw 47 rfl) fx890 (by decide) pd__Ljava_lang_Object__Z (ct_eq4 l Z a0 hw am (a := sa885) (b := a876) (t := sb886) (u := u877) (kt := k887) (ku := ku878) (x0 := (97 : Int32)) (x1 := (117 : Int32)) (x2 := (116 : Int32)) (x3 := (104 : Int32)) (y0 := (97 : Int32)) (y1 := (117 : Int32)) (y2 := (116 : Int32)) (y3 := (104 : Int32)) fx890 fx891 fx892 fx893 fx901 fx902 fx903 fx904 rfl rfl rfl rfl) rfl (by decide) (Nat.le_of_eq rfl) (by decide) rfl (by decide) (by decide) mems0 ?_
                    intro fv905 h906 K907 fq908
                    obtain ⟨rfl, rfl⟩ := fq908
                    refine ⟨[], fresh0, ?_⟩
                    show GoW l _ Z _ _ _ _ _ κ _ _ 507 _ [(.int 1)] 9 186
                    refine gw_ifN C 510 at_507 rfl (feq ((by decide) : ¬ ((1 : Int32) = (0 : Int32)))).1 ?_
                    refine gw_iconst C 511 (1 : Int32) at_510 rfl (by decide) ?_
                    refine gw_goto C (pc' := 515) at_511 (by decide) (by decide) ?_
                    refine gw_retN C hEL (t := .boolean) (z := (1 : Int32)) at_515 rfl (by decide) (by decide) (by decide) (by decide) ?_
                    exact rfl
                  · skip
                    exact (fx884 (by rw [hcq]; decide)).elim
                · skip
                  refine gw_icmpY C (pc' := 478) at_471 (feq hcq).2 (by decide) (by decide) ?_
                  refine gw_iconst C 479 (0 : Int32) at_478 rfl (by decide) ?_
                  refine gw_istore C 481 (Ls' := #[.val (.int p0), .val (.int p1), .val (.int p2), .val (.ref m), .val (.int ((XT.ushr p0 (1 : Int32)) &&& (7 : Int32))), .val (.int (p2 &&& (255 : Int32))), .val (.ref b851), .val (.int 0), .val (.ref t386), .val (.int 6), .val (.int 115)]) at_479 rfl rfl ?_
                  refine gw_aloadN C 482 at_481 rfl rfl rfl ?_
                  refine gw_iconst C 483 (1 : Int32) at_482 rfl (by decide) ?_
                  refine gw_aload C 485 at_483 rfl rfl rfl ?_
                  refine gw_old ?_
                  intro O909 zO909
                  refine gw_callVW C hEL (a := m) (argsL := [(.int 1), (.ref b851)]) (W := 0) at_485 (hq hw 37 rfl) (hq hw 38 rfl) (fun _ hZ => notFace_of_selects (args := #[]) (mvT hZ (hq hw 40 rfl))) (hq hw 40 rfl) (hq hw 39 rfl) (Exa.ext O909 pm) (by decide) pd__ZLjava_lang_String__Ljava_lang_Object_ (ct_np23 l Z a0 hw am (m := m) (s := b851) (t := t864) (kt := kB865) (x0 := (lo8 106)) (x1 := (lo8 97)) (x2 := (lo8 118)) (x3 := (lo8 97)) (x4 := (lo8 120)) (x5 := (lo8 46)) (x6 := (lo8 (p2 &&& (255 : Int32)))) (x7 := (lo8 101)) (x8 := (lo8 99)) (x9 := (lo8 117)) (x10 := (lo8 114)) (x11 := (lo8 105)) (x12 := (lo8 116)) (x13 := (lo8 121)) (x14 := (lo8 46)) (x15 := (lo8 115)) (x16 := (lo8 97)) (x17 := (lo8 115)) (x18 := (lo8 108)) (x19 := (lo8 46)) (x20 := (lo8 113)) (x21 := (lo8 111)) (x22 := (lo8 112)) fx866 fx867 fx868 fx869) rfl (by decide) (Nat.le_of_eq rfl) (by decide) rfl (by decide) (by decide) (memsS (mi 1 rfl) mems0) ?_
                  intro fv910 h911 K912 fq913
                  rcases fq913 with ⟨a914, u915, ku916, rfl, fx917, fx918, fx919, fx920, fx921⟩ | ⟨rfl, fx922⟩
                  · skip
                    exact (hcq ((lo8_mask (chr_and255 p2).1 (and_small _ 255 (by decide)).2).symm.trans (by rw [← fx921.2.2.2.2.2.2.1]; decide))).elim
                  · skip
                    show GoW l _ Z _ _ _ _ _ κ _ _ 488 _ [.null] 7 166
                    refine gw_astore C 490 (Ls' := #[.val (.int p0), .val (.int p1), .val (.int p2), .val (.ref m), .val (.int ((XT.ushr p0 (1 : Int32)) &&& (7 : Int32))), .val (.int (p2 &&& (255 : Int32))), .val (.ref b851), .val (.int 0), .val .null, .val (.int 6), .val (.int 115)]) at_488 rfl rfl rfl ?_
                    refine gw_iload C 492 at_490 rfl rfl ?_
                    refine gw_ifY C (pc' := 516) at_492 (teq ((by decide) : (0 : Int32) = (0 : Int32))).1 (by decide) (by decide) ?_
                    refine gw_aload C 518 at_516 rfl rfl rfl ?_
                    refine gw_ifnonnullN C 521 at_518 rfl ?_
                    refine gw_iconst C 522 (1 : Int32) at_521 rfl (by decide) ?_
                    refine gw_goto C (pc' := 526) at_522 (by decide) (by decide) ?_
                    refine gw_retN C hEL (t := .boolean) (z := (1 : Int32)) at_526 rfl (by decide) (by decide) (by decide) (by decide) ?_
                    exact rfl
              · skip
                refine gw_irem C 440 (7 : Int32) at_439 rfl (by decide) ec390 ?_
                refine gw_istore C 442 (Ls' := #[.val (.int p0), .val (.int p1), .val (.int p2), .val (.ref m), .val (.int ((XT.ushr p0 (1 : Int32)) &&& (7 : Int32))), .val (.int (p2 &&& (255 : Int32))), .unset, .unset, .val (.ref t386), .val (.int 7), .unset]) at_440 rfl rfl ?_
                refine gw_aload C 444 at_442 rfl rfl rfl ?_
                refine gw_iload C 446 at_444 rfl rfl ?_
                refine gw_caload C 447 (v := (.int 101)) at_446 rfl fx388 (by decide) rfl ?_
                refine gw_istore C 449 (Ls' := #[.val (.int p0), .val (.int p1), .val (.int p2), .val (.ref m), .val (.int ((XT.ushr p0 (1 : Int32)) &&& (7 : Int32))), .val (.int (p2 &&& (255 : Int32))), .unset, .unset, .val (.ref t386), .val (.int 7), .val (.int 101)]) at_447 rfl rfl ?_
                refine gw_aload C 451 at_449 rfl rfl rfl ?_
                refine gw_iload C 453 at_451 rfl rfl ?_
                refine gw_iload C 455 at_453 rfl rfl ?_
                refine gw_castore C 456 7 (v := (p2 &&& (255 : Int32))) (chr_and255 _).nar at_455 rfl fx388 (by decide) rfl (nble rfl) (mi 0 rfl) ?_
                intro h923 W924 fx925
                have fx926 : Arv Z h923 t386 kC387 .char (23 : Int32) [(.int 106), (.int 97), (.int 118), (.int 97), (.int 120), (.int 46), (.int 115), (.int (p2 &&& (255 : Int32))), (.int 99), (.int 117), (.int 114), (.int 105), (.int 116), (.int 121), (.int 46), (.int 115), (.int 97), (.int 115), (.int 108), (.int 46), (.int 113), (.int 111), (.int 112)] (.int 0) := fx925
                refine gw_new C 459 2 27 at_456 rfl rfl rfl (hq hw 3 rfl) (hq hw 4 rfl) (hq hw 5 rfl) (by decide) (by decide) ?_
                intro b927 h928 g929 E930 A931 D932
                have fx933 : Fld Z h928 b927 "java/lang/String" "coder" "B" (.int 0) := D932 (Or.inr (hq hw 34 rfl)) (ty := .byte) (by decide)
                have fx934 : Fld Z h928 b927 "java/lang/String" "value" "[B" .null := D932 (Or.inr (hq hw 36 rfl)) (ty := (.array .byte)) (by decide)
                refine gw_dup C 460 at_459 rfl rfl ?_
                refine gw_aload C 462 at_460 rfl rfl rfl ?_
                have fx935 := (fx926.ext E930)
                refine gw_callI C (a := b927) (argsL := [(.ref t386)]) (W := 1) at_462 rfl (hq hw 11 rfl) (hq hw 12 rfl) (hq hw 13 rfl) (by decide) pd___C_V (ct_str23 l Z a0 hw am (a := b927) (b := t386) (kC := kC387) (c0 := (106 : Int32)) (c1 := (97 : Int32)) (c2 := (118 : Int32)) (c3 := (97 : Int32)) (c4 := (120 : Int32)) (c5 := (46 : Int32)) (c6 := (115 : Int32)) (c7 := (p2 &&& (255 : Int32))) (c8 := (99 : Int32)) (c9 := (117 : Int32)) (c10 := (114 : Int32)) (c11 := (105 : Int32)) (c12 := (116 : Int32)) (c13 := (121 : Int32)) (c14 := (46 : Int32)) (c15 := (115 : Int32)) (c16 := (97 : Int32)) (c17 := (115 : Int32)) (c18 := (108 : Int32)) (c19 := (46 : Int32)) (c20 := (113 : Int32)) (c21 := (111 : Int32)) (c22 := (112 : Int32)) A931 fx934 fx933 fx935 (by decide) (by decide) (by decide) (by decide) (by decide) (by decide) (by decide) (and_small _ 255 (by decide)).2 (by decide) (by decide) (by decide) (by decide) (by decide) (by decide) (by decide) (by decide) (by decide) (by decide) (by decide) (by decide) (by decide) (by decide) (by decide)) rfl (by decide) (Nat.le_of_eq rfl) (by decide) rfl (by decide) (by decide) (memsS (mi 0 rfl) mems0) ?_
                intro fv936 h937 K938 fq939
                obtain ⟨t940, kB941, rfl, fx942, fx943, fx944, fx945, fx946⟩ := fq939
                refine ⟨[t940], (freshS ⟨fx946, (fx945).lt⟩ fresh0), ?_⟩
                show GoW l _ Z _ _ _ _ _ κ [t940, b927, t386] _ 465 _ [(.ref b927)] 3 50
                refine gw_astore C 467 (Ls' := #[.val (.int p0), .val (.int p1), .val (.int p2), .val (.ref m), .val (.int ((XT.ushr p0 (1 : Int32)) &&& (7 : Int32))), .val (.int (p2 &&& (255 : Int32))), .val (.ref b927), .unset, .val (.ref t386), .val (.int 7), .val (.int 101)]) at_465 rfl rfl rfl ?_
                refine gw_iload C 469 at_467 rfl rfl ?_
                refine gw_iload C 471 at_469 rfl rfl ?_
                by_cases hcq : (p2 &&& (255 : Int32)) = (101 : Int32)
                · skip
                  refine gw_icmpN C 474 at_471 rfl (teq hcq).2 ?_
                  refine gw_iconst C 475 (1 : Int32) at_474 rfl (by decide) ?_
                  refine gw_goto C (pc' := 479) at_475 (by decide) (by decide) ?_
                  refine gw_istore C 481 (Ls' := #[.val (.int p0), .val (.int p1), .val (.int p2), .val (.ref m), .val (.int ((XT.ushr p0 (1 : Int32)) &&& (7 : Int32))), .val (.int (p2 &&& (255 : Int32))), .val (.ref b927), .val (.int 1), .val (.ref t386), .val (.int 7), .val (.int 101)]) at_479 rfl rfl ?_
                  refine gw_aloadN C 482 at_481 rfl rfl rfl ?_
                  refine gw_iconst C 483 (1 : Int32) at_482 rfl (by decide) ?_
                  refine gw_aload C 485 at_483 rfl rfl rfl ?_
                  refine gw_old ?_
                  intro O947 zO947
                  refine gw_callVW C hEL (a := m) (argsL := [(.int 1), (.ref b927)]) (W := 0) at_485 (hq hw 37 rfl) (hq hw 38 rfl) (fun _ hZ => notFace_of_selects (args := #[]) (mvT hZ (hq hw 40 rfl))) (hq hw 40 rfl) (hq hw 39 rfl) (Exa.ext O947 pm) (by decide) pd__ZLjava_lang_String__Ljava_lang_Object_ (ct_np23 l Z a0 hw am (m := m) (s := b927) (t := t940) (kt := kB941) (x0 := (lo8 106)) (x1 := (lo8 97)) (x2 := (lo8 118)) (x3 := (lo8 97)) (x4 := (lo8 120)) (x5 := (lo8 46)) (x6 := (lo8 115)) (x7 := (lo8 (p2 &&& (255 : Int32)))) (x8 := (lo8 99)) (x9 := (lo8 117)) (x10 := (lo8 114)) (x11 := (lo8 105)) (x12 := (lo8 116)) (x13 := (lo8 121)) (x14 := (lo8 46)) (x15 := (lo8 115)) (x16 := (lo8 97)) (x17 := (lo8 115)) (x18 := (lo8 108)) (x19 := (lo8 46)) (x20 := (lo8 113)) (x21 := (lo8 111)) (x22 := (lo8 112)) fx942 fx943 fx944 fx945) rfl (by decide) (Nat.le_of_eq rfl) (by decide) rfl (by decide) (by decide) (memsS (mi 1 rfl) mems0) ?_
                  intro fv948 h949 K950 fq951
                  rcases fq951 with ⟨a952, u953, ku954, rfl, fx955, fx956, fx957, fx958, fx959⟩ | ⟨rfl, fx960⟩
                  · skip
                    show GoW l _ Z _ _ _ _ _ κ _ _ 488 _ [(.ref a952)] 7 166
                    refine gw_astore C 490 (Ls' := #[.val (.int p0), .val (.int p1), .val (.int p2), .val (.ref m), .val (.int ((XT.ushr p0 (1 : Int32)) &&& (7 : Int32))), .val (.int (p2 &&& (255 : Int32))), .val (.ref b927), .val (.int 1), .val (.ref a952), .val (.int 7), .val (.int 101)]) at_488 rfl rfl rfl ?_
                    refine gw_iload C 492 at_490 rfl rfl ?_
                    refine gw_ifN C 495 at_492 rfl (feq ((by decide) : ¬ ((1 : Int32) = (0 : Int32)))).1 ?_
                    refine gw_aload C 497 at_495 rfl rfl rfl ?_
                    refine gw_ifnullN C 500 at_497 rfl ?_
                    refine gw_ldcS C hEL 502 9 186 (n := 16) (vs := [(.int 97), (.int 117), (.int 116), (.int 104)]) (zn := (4 : Int32)) at_500 rfl rfl rfl (hq hw 56 rfl) (wS hw) (List.mem_of_getElem? (i := 2) rfl) (by decide) (by decide) rfl (by decide) (by decide) (by decide) (by decide) ?_
                    intro sa961 sb962 k963 h964 E965 fx966 fx967 fx968 fx969 fn970
                    have fe971 : t940 ≠ sa961 := (fn970 _ (List.mem_of_getElem? (i := 0) rfl)).1
                    have fe972 : t940 ≠ sb962 := (fn970 _ (List.mem_of_getElem? (i := 0) rfl)).2
                    have fe973 : b927 ≠ sa961 := (fn970 _ (List.mem_of_getElem? (i := 1) rfl)).1
                    have fe974 : b927 ≠ sb962 := (fn970 _ (List.mem_of_getElem? (i := 1) rfl)).2
                    have fe975 : t386 ≠ sa961 := (fn970 _ (List.mem_of_getElem? (i := 2) rfl)).1
                    have fe976 : t386 ≠ sb962 := (fn970 _ (List.mem_of_getElem? (i := 2) rfl)).2
                    refine gw_aload C 504 at_502 rfl rfl rfl ?_
                    have fx977 := (Exa.ext E965 fx955)
                    have fx978 := (Fld.ext E965 fx956)
                    have fx979 := (Fld.ext E965 fx957)
                    have fx980 := (fx958.ext E965)
                    refine gw_callV C (a := sa961) (argsL := [(.ref a952)]) (W := 0) at_504 (hq hw 57 rfl) (hq hw 46 rfl) (fun _ hZ => notFace_of_selects (args := #[]) (mvT hZ (hq hw 48 rfl))) (hq hw 48 rfl) (hq hw 47 rfl) fx966 (by decide) pd__Ljava_lang_Object__Z (ct_eq4 l Z a0 hw am (a := sa961) (b := a952) (t := sb962) (u := u953) (kt := k963) (ku := ku954) (x0 := (97 : Int32)) (x1 := (117 : Int32)) (x2 := (116 : Int32)) (x3 := (104 : Int32)) (y0 := (97 : Int32)) (y1 := (117 : Int32)) (y2 := (116 : Int32)) (y3 := (104 : Int32)) fx966 fx967 fx968 fx969 fx977 fx978 fx979 fx980 rfl rfl rfl rfl) rfl (by decide) (Nat.le_of_eq rfl) (by decide) rfl (by decide) (by decide) mems0 ?_
                    intro fv981 h982 K983 fq984
                    obtain ⟨rfl, rfl⟩ := fq984
                    refine ⟨[], fresh0, ?_⟩
                    show GoW l _ Z _ _ _ _ _ κ _ _ 507 _ [(.int 1)] 9 186
                    refine gw_ifN C 510 at_507 rfl (feq ((by decide) : ¬ ((1 : Int32) = (0 : Int32)))).1 ?_
                    refine gw_iconst C 511 (1 : Int32) at_510 rfl (by decide) ?_
                    refine gw_goto C (pc' := 515) at_511 (by decide) (by decide) ?_
                    refine gw_retN C hEL (t := .boolean) (z := (1 : Int32)) at_515 rfl (by decide) (by decide) (by decide) (by decide) ?_
                    exact rfl
                  · skip
                    exact (fx960 (by rw [hcq]; decide)).elim
                · skip
                  refine gw_icmpY C (pc' := 478) at_471 (feq hcq).2 (by decide) (by decide) ?_
                  refine gw_iconst C 479 (0 : Int32) at_478 rfl (by decide) ?_
                  refine gw_istore C 481 (Ls' := #[.val (.int p0), .val (.int p1), .val (.int p2), .val (.ref m), .val (.int ((XT.ushr p0 (1 : Int32)) &&& (7 : Int32))), .val (.int (p2 &&& (255 : Int32))), .val (.ref b927), .val (.int 0), .val (.ref t386), .val (.int 7), .val (.int 101)]) at_479 rfl rfl ?_
                  refine gw_aloadN C 482 at_481 rfl rfl rfl ?_
                  refine gw_iconst C 483 (1 : Int32) at_482 rfl (by decide) ?_
                  refine gw_aload C 485 at_483 rfl rfl rfl ?_
                  refine gw_old ?_
                  intro O985 zO985
                  refine gw_callVW C hEL (a := m) (argsL := [(.int 1), (.ref b927)]) (W := 0) at_485 (hq hw 37 rfl) (hq hw 38 rfl) (fun _ hZ => notFace_of_selects (args := #[]) (mvT hZ (hq hw 40 rfl))) (hq hw 40 rfl) (hq hw 39 rfl) (Exa.ext O985 pm) (by decide) pd__ZLjava_lang_String__Ljava_lang_Object_ (ct_np23 l Z a0 hw am (m := m) (s := b927) (t := t940) (kt := kB941) (x0 := (lo8 106)) (x1 := (lo8 97)) (x2 := (lo8 118)) (x3 := (lo8 97)) (x4 := (lo8 120)) (x5 := (lo8 46)) (x6 := (lo8 115)) (x7 := (lo8 (p2 &&& (255 : Int32)))) (x8 := (lo8 99)) (x9 := (lo8 117)) (x10 := (lo8 114)) (x11 := (lo8 105)) (x12 := (lo8 116)) (x13 := (lo8 121)) (x14 := (lo8 46)) (x15 := (lo8 115)) (x16 := (lo8 97)) (x17 := (lo8 115)) (x18 := (lo8 108)) (x19 := (lo8 46)) (x20 := (lo8 113)) (x21 := (lo8 111)) (x22 := (lo8 112)) fx942 fx943 fx944 fx945) rfl (by decide) (Nat.le_of_eq rfl) (by decide) rfl (by decide) (by decide) (memsS (mi 1 rfl) mems0) ?_
                  intro fv986 h987 K988 fq989
                  rcases fq989 with ⟨a990, u991, ku992, rfl, fx993, fx994, fx995, fx996, fx997⟩ | ⟨rfl, fx998⟩
                  · skip
                    exact (hcq ((lo8_mask (chr_and255 p2).1 (and_small _ 255 (by decide)).2).symm.trans (by rw [← fx997.2.2.2.2.2.2.2.1]; decide))).elim
                  · skip
                    show GoW l _ Z _ _ _ _ _ κ _ _ 488 _ [.null] 7 166
                    refine gw_astore C 490 (Ls' := #[.val (.int p0), .val (.int p1), .val (.int p2), .val (.ref m), .val (.int ((XT.ushr p0 (1 : Int32)) &&& (7 : Int32))), .val (.int (p2 &&& (255 : Int32))), .val (.ref b927), .val (.int 0), .val .null, .val (.int 7), .val (.int 101)]) at_488 rfl rfl rfl ?_
                    refine gw_iload C 492 at_490 rfl rfl ?_
                    refine gw_ifY C (pc' := 516) at_492 (teq ((by decide) : (0 : Int32) = (0 : Int32))).1 (by decide) (by decide) ?_
                    refine gw_aload C 518 at_516 rfl rfl rfl ?_
                    refine gw_ifnonnullN C 521 at_518 rfl ?_
                    refine gw_iconst C 522 (1 : Int32) at_521 rfl (by decide) ?_
                    refine gw_goto C (pc' := 526) at_522 (by decide) (by decide) ?_
                    refine gw_retN C hEL (t := .boolean) (z := (1 : Int32)) at_526 rfl (by decide) (by decide) (by decide) (by decide) ?_
                    exact rfl
              · skip
                refine gw_irem C 440 (8 : Int32) at_439 rfl (by decide) ec390 ?_
                refine gw_istore C 442 (Ls' := #[.val (.int p0), .val (.int p1), .val (.int p2), .val (.ref m), .val (.int ((XT.ushr p0 (1 : Int32)) &&& (7 : Int32))), .val (.int (p2 &&& (255 : Int32))), .unset, .unset, .val (.ref t386), .val (.int 8), .unset]) at_440 rfl rfl ?_
                refine gw_aload C 444 at_442 rfl rfl rfl ?_
                refine gw_iload C 446 at_444 rfl rfl ?_
                refine gw_caload C 447 (v := (.int 99)) at_446 rfl fx388 (by decide) rfl ?_
                refine gw_istore C 449 (Ls' := #[.val (.int p0), .val (.int p1), .val (.int p2), .val (.ref m), .val (.int ((XT.ushr p0 (1 : Int32)) &&& (7 : Int32))), .val (.int (p2 &&& (255 : Int32))), .unset, .unset, .val (.ref t386), .val (.int 8), .val (.int 99)]) at_447 rfl rfl ?_
                refine gw_aload C 451 at_449 rfl rfl rfl ?_
                refine gw_iload C 453 at_451 rfl rfl ?_
                refine gw_iload C 455 at_453 rfl rfl ?_
                refine gw_castore C 456 8 (v := (p2 &&& (255 : Int32))) (chr_and255 _).nar at_455 rfl fx388 (by decide) rfl (nble rfl) (mi 0 rfl) ?_
                intro h999 W1000 fx1001
                have fx1002 : Arv Z h999 t386 kC387 .char (23 : Int32) [(.int 106), (.int 97), (.int 118), (.int 97), (.int 120), (.int 46), (.int 115), (.int 101), (.int (p2 &&& (255 : Int32))), (.int 117), (.int 114), (.int 105), (.int 116), (.int 121), (.int 46), (.int 115), (.int 97), (.int 115), (.int 108), (.int 46), (.int 113), (.int 111), (.int 112)] (.int 0) := fx1001
                refine gw_new C 459 2 27 at_456 rfl rfl rfl (hq hw 3 rfl) (hq hw 4 rfl) (hq hw 5 rfl) (by decide) (by decide) ?_
                intro b1003 h1004 g1005 E1006 A1007 D1008
                have fx1009 : Fld Z h1004 b1003 "java/lang/String" "coder" "B" (.int 0) := D1008 (Or.inr (hq hw 34 rfl)) (ty := .byte) (by decide)
                have fx1010 : Fld Z h1004 b1003 "java/lang/String" "value" "[B" .null := D1008 (Or.inr (hq hw 36 rfl)) (ty := (.array .byte)) (by decide)
                refine gw_dup C 460 at_459 rfl rfl ?_
                refine gw_aload C 462 at_460 rfl rfl rfl ?_
                have fx1011 := (fx1002.ext E1006)
                refine gw_callI C (a := b1003) (argsL := [(.ref t386)]) (W := 1) at_462 rfl (hq hw 11 rfl) (hq hw 12 rfl) (hq hw 13 rfl) (by decide) pd___C_V (ct_str23 l Z a0 hw am (a := b1003) (b := t386) (kC := kC387) (c0 := (106 : Int32)) (c1 := (97 : Int32)) (c2 := (118 : Int32)) (c3 := (97 : Int32)) (c4 := (120 : Int32)) (c5 := (46 : Int32)) (c6 := (115 : Int32)) (c7 := (101 : Int32)) (c8 := (p2 &&& (255 : Int32))) (c9 := (117 : Int32)) (c10 := (114 : Int32)) (c11 := (105 : Int32)) (c12 := (116 : Int32)) (c13 := (121 : Int32)) (c14 := (46 : Int32)) (c15 := (115 : Int32)) (c16 := (97 : Int32)) (c17 := (115 : Int32)) (c18 := (108 : Int32)) (c19 := (46 : Int32)) (c20 := (113 : Int32)) (c21 := (111 : Int32)) (c22 := (112 : Int32)) A1007 fx1010 fx1009 fx1011 (by decide) (by decide) (by decide) (by decide) (by decide) (by decide) (by decide) (by decide) (and_small _ 255 (by decide)).2 (by decide) (by decide) (by decide) (by decide) (by decide) (by decide) (by decide) (by decide) (by decide) (by decide) (by decide) (by decide) (by decide) (by decide)) rfl (by decide) (Nat.le_of_eq rfl) (by decide) rfl (by decide) (by decide) (memsS (mi 0 rfl) mems0) ?_
                intro fv1012 h1013 K1014 fq1015
                obtain ⟨t1016, kB1017, rfl, fx1018, fx1019, fx1020, fx1021, fx1022⟩ := fq1015
                refine ⟨[t1016], (freshS ⟨fx1022, (fx1021).lt⟩ fresh0), ?_⟩
                show GoW l _ Z _ _ _ _ _ κ [t1016, b1003, t386] _ 465 _ [(.ref b1003)] 3 50
                refine gw_astore C 467 (Ls' := #[.val (.int p0), .val (.int p1), .val (.int p2), .val (.ref m), .val (.int ((XT.ushr p0 (1 : Int32)) &&& (7 : Int32))), .val (.int (p2 &&& (255 : Int32))), .val (.ref b1003), .unset, .val (.ref t386), .val (.int 8), .val (.int 99)]) at_465 rfl rfl rfl ?_
                refine gw_iload C 469 at_467 rfl rfl ?_
                refine gw_iload C 471 at_469 rfl rfl ?_
                by_cases hcq : (p2 &&& (255 : Int32)) = (99 : Int32)
                · skip
                  refine gw_icmpN C 474 at_471 rfl (teq hcq).2 ?_
                  refine gw_iconst C 475 (1 : Int32) at_474 rfl (by decide) ?_
                  refine gw_goto C (pc' := 479) at_475 (by decide) (by decide) ?_
                  refine gw_istore C 481 (Ls' := #[.val (.int p0), .val (.int p1), .val (.int p2), .val (.ref m), .val (.int ((XT.ushr p0 (1 : Int32)) &&& (7 : Int32))), .val (.int (p2 &&& (255 : Int32))), .val (.ref b1003), .val (.int 1), .val (.ref t386), .val (.int 8), .val (.int 99)]) at_479 rfl rfl ?_
                  refine gw_aloadN C 482 at_481 rfl rfl rfl ?_
                  refine gw_iconst C 483 (1 : Int32) at_482 rfl (by decide) ?_
                  refine gw_aload C 485 at_483 rfl rfl rfl ?_
                  refine gw_old ?_
                  intro O1023 zO1023
                  refine gw_callVW C hEL (a := m) (argsL := [(.int 1), (.ref b1003)]) (W := 0) at_485 (hq hw 37 rfl) (hq hw 38 rfl) (fun _ hZ => notFace_of_selects (args := #[]) (mvT hZ (hq hw 40 rfl))) (hq hw 40 rfl) (hq hw 39 rfl) (Exa.ext O1023 pm) (by decide) pd__ZLjava_lang_String__Ljava_lang_Object_ (ct_np23 l Z a0 hw am (m := m) (s := b1003) (t := t1016) (kt := kB1017) (x0 := (lo8 106)) (x1 := (lo8 97)) (x2 := (lo8 118)) (x3 := (lo8 97)) (x4 := (lo8 120)) (x5 := (lo8 46)) (x6 := (lo8 115)) (x7 := (lo8 101)) (x8 := (lo8 (p2 &&& (255 : Int32)))) (x9 := (lo8 117)) (x10 := (lo8 114)) (x11 := (lo8 105)) (x12 := (lo8 116)) (x13 := (lo8 121)) (x14 := (lo8 46)) (x15 := (lo8 115)) (x16 := (lo8 97)) (x17 := (lo8 115)) (x18 := (lo8 108)) (x19 := (lo8 46)) (x20 := (lo8 113)) (x21 := (lo8 111)) (x22 := (lo8 112)) fx1018 fx1019 fx1020 fx1021) rfl (by decide) (Nat.le_of_eq rfl) (by decide) rfl (by decide) (by decide) (memsS (mi 1 rfl) mems0) ?_
                  intro fv1024 h1025 K1026 fq1027
                  rcases fq1027 with ⟨a1028, u1029, ku1030, rfl, fx1031, fx1032, fx1033, fx1034, fx1035⟩ | ⟨rfl, fx1036⟩
                  · skip
                    show GoW l _ Z _ _ _ _ _ κ _ _ 488 _ [(.ref a1028)] 7 166
                    refine gw_astore C 490 (Ls' := #[.val (.int p0), .val (.int p1), .val (.int p2), .val (.ref m), .val (.int ((XT.ushr p0 (1 : Int32)) &&& (7 : Int32))), .val (.int (p2 &&& (255 : Int32))), .val (.ref b1003), .val (.int 1), .val (.ref a1028), .val (.int 8), .val (.int 99)]) at_488 rfl rfl rfl ?_
                    refine gw_iload C 492 at_490 rfl rfl ?_
                    refine gw_ifN C 495 at_492 rfl (feq ((by decide) : ¬ ((1 : Int32) = (0 : Int32)))).1 ?_
                    refine gw_aload C 497 at_495 rfl rfl rfl ?_
                    refine gw_ifnullN C 500 at_497 rfl ?_
                    refine gw_ldcS C hEL 502 9 186 (n := 16) (vs := [(.int 97), (.int 117), (.int 116), (.int 104)]) (zn := (4 : Int32)) at_500 rfl rfl rfl (hq hw 56 rfl) (wS hw) (List.mem_of_getElem? (i := 2) rfl) (by decide) (by decide) rfl (by decide) (by decide) (by decide) (by decide) ?_
                    intro sa1037 sb1038 k1039 h1040 E1041 fx1042 fx1043 fx1044 fx1045 fn1046
                    have fe1047 : t1016 ≠ sa1037 := (fn1046 _ (List.mem_of_getElem? (i := 0) rfl)).1
                    have fe1048 : t1016 ≠ sb1038 := (fn1046 _ (List.mem_of_getElem? (i := 0) rfl)).2
                    have fe1049 : b1003 ≠ sa1037 := (fn1046 _ (List.mem_of_getElem? (i := 1) rfl)).1
                    have fe1050 : b1003 ≠ sb1038 := (fn1046 _ (List.mem_of_getElem? (i := 1) rfl)).2
                    have fe1051 : t386 ≠ sa1037 := (fn1046 _ (List.mem_of_getElem? (i := 2) rfl)).1
                    have fe1052 : t386 ≠ sb1038 := (fn1046 _ (List.mem_of_getElem? (i := 2) rfl)).2
                    refine gw_aload C 504 at_502 rfl rfl rfl ?_
                    have fx1053 := (Exa.ext E1041 fx1031)
                    have fx1054 := (Fld.ext E1041 fx1032)
                    have fx1055 := (Fld.ext E1041 fx1033)
                    have fx1056 := (fx1034.ext E1041)
                    refine gw_callV C (a := sa1037) (argsL := [(.ref a1028)]) (W := 0) at_504 (hq hw 57 rfl) (hq hw 46 rfl) (fun _ hZ => notFace_of_selects (args := #[]) (mvT hZ (hq hw 48 rfl))) (hq hw 48 rfl) (hq hw 47 rfl) fx1042 (by decide) pd__Ljava_lang_Object__Z (ct_eq4 l Z a0 hw am (a := sa1037) (b := a1028) (t := sb1038) (u := u1029) (kt := k1039) (ku := ku1030) (x0 := (97 : Int32)) (x1 := (117 : Int32)) (x2 := (116 : Int32)) (x3 := (104 : Int32)) (y0 := (97 : Int32)) (y1 := (117 : Int32)) (y2 := (116 : Int32)) (y3 := (104 : Int32)) fx1042 fx1043 fx1044 fx1045 fx1053 fx1054 fx1055 fx1056 rfl rfl rfl rfl) rfl (by decide) (Nat.le_of_eq rfl) (by decide) rfl (by decide) (by decide) mems0 ?_
                    intro fv1057 h1058 K1059 fq1060
                    obtain ⟨rfl, rfl⟩ := fq1060
                    refine ⟨[], fresh0, ?_⟩
                    show GoW l _ Z _ _ _ _ _ κ _ _ 507 _ [(.int 1)] 9 186
                    refine gw_ifN C 510 at_507 rfl (feq ((by decide) : ¬ ((1 : Int32) = (0 : Int32)))).1 ?_
                    refine gw_iconst C 511 (1 : Int32) at_510 rfl (by decide) ?_
                    refine gw_goto C (pc' := 515) at_511 (by decide) (by decide) ?_
                    refine gw_retN C hEL (t := .boolean) (z := (1 : Int32)) at_515 rfl (by decide) (by decide) (by decide) (by decide) ?_
                    exact rfl
                  · skip
                    exact (fx1036 (by rw [hcq]; decide)).elim
                · skip
                  refine gw_icmpY C (pc' := 478) at_471 (feq hcq).2 (by decide) (by decide) ?_
                  refine gw_iconst C 479 (0 : Int32) at_478 rfl (by decide) ?_
                  refine gw_istore C 481 (Ls' := #[.val (.int p0), .val (.int p1), .val (.int p2), .val (.ref m), .val (.int ((XT.ushr p0 (1 : Int32)) &&& (7 : Int32))), .val (.int (p2 &&& (255 : Int32))), .val (.ref b1003), .val (.int 0), .val (.ref t386), .val (.int 8), .val (.int 99)]) at_479 rfl rfl ?_
                  refine gw_aloadN C 482 at_481 rfl rfl rfl ?_
                  refine gw_iconst C 483 (1 : Int32) at_482 rfl (by decide) ?_
                  refine gw_aload C 485 at_483 rfl rfl rfl ?_
                  refine gw_old ?_
                  intro O1061 zO1061
                  refine gw_callVW C hEL (a := m) (argsL := [(.int 1), (.ref b1003)]) (W := 0) at_485 (hq hw 37 rfl) (hq hw 38 rfl) (fun _ hZ => notFace_of_selects (args := #[]) (mvT hZ (hq hw 40 rfl))) (hq hw 40 rfl) (hq hw 39 rfl) (Exa.ext O1061 pm) (by decide) pd__ZLjava_lang_String__Ljava_lang_Object_ (ct_np23 l Z a0 hw am (m := m) (s := b1003) (t := t1016) (kt := kB1017) (x0 := (lo8 106)) (x1 := (lo8 97)) (x2 := (lo8 118)) (x3 := (lo8 97)) (x4 := (lo8 120)) (x5 := (lo8 46)) (x6 := (lo8 115)) (x7 := (lo8 101)) (x8 := (lo8 (p2 &&& (255 : Int32)))) (x9 := (lo8 117)) (x10 := (lo8 114)) (x11 := (lo8 105)) (x12 := (lo8 116)) (x13 := (lo8 121)) (x14 := (lo8 46)) (x15 := (lo8 115)) (x16 := (lo8 97)) (x17 := (lo8 115)) (x18 := (lo8 108)) (x19 := (lo8 46)) (x20 := (lo8 113)) (x21 := (lo8 111)) (x22 := (lo8 112)) fx1018 fx1019 fx1020 fx1021) rfl (by decide) (Nat.le_of_eq rfl) (by decide) rfl (by decide) (by decide) (memsS (mi 1 rfl) mems0) ?_
                  intro fv1062 h1063 K1064 fq1065
                  rcases fq1065 with ⟨a1066, u1067, ku1068, rfl, fx1069, fx1070, fx1071, fx1072, fx1073⟩ | ⟨rfl, fx1074⟩
                  · skip
                    exact (hcq ((lo8_mask (chr_and255 p2).1 (and_small _ 255 (by decide)).2).symm.trans (by rw [← fx1073.2.2.2.2.2.2.2.2.1]; decide))).elim
                  · skip
                    show GoW l _ Z _ _ _ _ _ κ _ _ 488 _ [.null] 7 166
                    refine gw_astore C 490 (Ls' := #[.val (.int p0), .val (.int p1), .val (.int p2), .val (.ref m), .val (.int ((XT.ushr p0 (1 : Int32)) &&& (7 : Int32))), .val (.int (p2 &&& (255 : Int32))), .val (.ref b1003), .val (.int 0), .val .null, .val (.int 8), .val (.int 99)]) at_488 rfl rfl rfl ?_
                    refine gw_iload C 492 at_490 rfl rfl ?_
                    refine gw_ifY C (pc' := 516) at_492 (teq ((by decide) : (0 : Int32) = (0 : Int32))).1 (by decide) (by decide) ?_
                    refine gw_aload C 518 at_516 rfl rfl rfl ?_
                    refine gw_ifnonnullN C 521 at_518 rfl ?_
                    refine gw_iconst C 522 (1 : Int32) at_521 rfl (by decide) ?_
                    refine gw_goto C (pc' := 526) at_522 (by decide) (by decide) ?_
                    refine gw_retN C hEL (t := .boolean) (z := (1 : Int32)) at_526 rfl (by decide) (by decide) (by decide) (by decide) ?_
                    exact rfl
              · skip
                refine gw_irem C 440 (9 : Int32) at_439 rfl (by decide) ec390 ?_
                refine gw_istore C 442 (Ls' := #[.val (.int p0), .val (.int p1), .val (.int p2), .val (.ref m), .val (.int ((XT.ushr p0 (1 : Int32)) &&& (7 : Int32))), .val (.int (p2 &&& (255 : Int32))), .unset, .unset, .val (.ref t386), .val (.int 9), .unset]) at_440 rfl rfl ?_
                refine gw_aload C 444 at_442 rfl rfl rfl ?_
                refine gw_iload C 446 at_444 rfl rfl ?_
                refine gw_caload C 447 (v := (.int 117)) at_446 rfl fx388 (by decide) rfl ?_
                refine gw_istore C 449 (Ls' := #[.val (.int p0), .val (.int p1), .val (.int p2), .val (.ref m), .val (.int ((XT.ushr p0 (1 : Int32)) &&& (7 : Int32))), .val (.int (p2 &&& (255 : Int32))), .unset, .unset, .val (.ref t386), .val (.int 9), .val (.int 117)]) at_447 rfl rfl ?_
                refine gw_aload C 451 at_449 rfl rfl rfl ?_
                refine gw_iload C 453 at_451 rfl rfl ?_
                refine gw_iload C 455 at_453 rfl rfl ?_
                refine gw_castore C 456 9 (v := (p2 &&& (255 : Int32))) (chr_and255 _).nar at_455 rfl fx388 (by decide) rfl (nble rfl) (mi 0 rfl) ?_
                intro h1075 W1076 fx1077
                have fx1078 : Arv Z h1075 t386 kC387 .char (23 : Int32) [(.int 106), (.int 97), (.int 118), (.int 97), (.int 120), (.int 46), (.int 115), (.int 101), (.int 99), (.int (p2 &&& (255 : Int32))), (.int 114), (.int 105), (.int 116), (.int 121), (.int 46), (.int 115), (.int 97), (.int 115), (.int 108), (.int 46), (.int 113), (.int 111), (.int 112)] (.int 0) := fx1077
                refine gw_new C 459 2 27 at_456 rfl rfl rfl (hq hw 3 rfl) (hq hw 4 rfl) (hq hw 5 rfl) (by decide) (by decide) ?_
                intro b1079 h1080 g1081 E1082 A1083 D1084
                have fx1085 : Fld Z h1080 b1079 "java/lang/String" "coder" "B" (.int 0) := D1084 (Or.inr (hq hw 34 rfl)) (ty := .byte) (by decide)
                have fx1086 : Fld Z h1080 b1079 "java/lang/String" "value" "[B" .null := D1084 (Or.inr (hq hw 36 rfl)) (ty := (.array .byte)) (by decide)
                refine gw_dup C 460 at_459 rfl rfl ?_
                refine gw_aload C 462 at_460 rfl rfl rfl ?_
                have fx1087 := (fx1078.ext E1082)
                refine gw_callI C (a := b1079) (argsL := [(.ref t386)]) (W := 1) at_462 rfl (hq hw 11 rfl) (hq hw 12 rfl) (hq hw 13 rfl) (by decide) pd___C_V (ct_str23 l Z a0 hw am (a := b1079) (b := t386) (kC := kC387) (c0 := (106 : Int32)) (c1 := (97 : Int32)) (c2 := (118 : Int32)) (c3 := (97 : Int32)) (c4 := (120 : Int32)) (c5 := (46 : Int32)) (c6 := (115 : Int32)) (c7 := (101 : Int32)) (c8 := (99 : Int32)) (c9 := (p2 &&& (255 : Int32))) (c10 := (114 : Int32)) (c11 := (105 : Int32)) (c12 := (116 : Int32)) (c13 := (121 : Int32)) (c14 := (46 : Int32)) (c15 := (115 : Int32)) (c16 := (97 : Int32)) (c17 := (115 : Int32)) (c18 := (108 : Int32)) (c19 := (46 : Int32)) (c20 := (113 : Int32)) (c21 := (111 : Int32)) (c22 := (112 : Int32)) A1083 fx1086 fx1085 fx1087 (by decide) (by decide) (by decide) (by decide) (by decide) (by decide) (by decide) (by decide) (by decide) (and_small _ 255 (by decide)).2 (by decide) (by decide) (by decide) (by decide) (by decide) (by decide) (by decide) (by decide) (by decide) (by decide) (by decide) (by decide) (by decide)) rfl (by decide) (Nat.le_of_eq rfl) (by decide) rfl (by decide) (by decide) (memsS (mi 0 rfl) mems0) ?_
                intro fv1088 h1089 K1090 fq1091
                obtain ⟨t1092, kB1093, rfl, fx1094, fx1095, fx1096, fx1097, fx1098⟩ := fq1091
                refine ⟨[t1092], (freshS ⟨fx1098, (fx1097).lt⟩ fresh0), ?_⟩
                show GoW l _ Z _ _ _ _ _ κ [t1092, b1079, t386] _ 465 _ [(.ref b1079)] 3 50
                refine gw_astore C 467 (Ls' := #[.val (.int p0), .val (.int p1), .val (.int p2), .val (.ref m), .val (.int ((XT.ushr p0 (1 : Int32)) &&& (7 : Int32))), .val (.int (p2 &&& (255 : Int32))), .val (.ref b1079), .unset, .val (.ref t386), .val (.int 9), .val (.int 117)]) at_465 rfl rfl rfl ?_
                refine gw_iload C 469 at_467 rfl rfl ?_
                refine gw_iload C 471 at_469 rfl rfl ?_
                by_cases hcq : (p2 &&& (255 : Int32)) = (117 : Int32)
                · skip
                  refine gw_icmpN C 474 at_471 rfl (teq hcq).2 ?_
                  refine gw_iconst C 475 (1 : Int32) at_474 rfl (by decide) ?_
                  refine gw_goto C (pc' := 479) at_475 (by decide) (by decide) ?_
                  refine gw_istore C 481 (Ls' := #[.val (.int p0), .val (.int p1), .val (.int p2), .val (.ref m), .val (.int ((XT.ushr p0 (1 : Int32)) &&& (7 : Int32))), .val (.int (p2 &&& (255 : Int32))), .val (.ref b1079), .val (.int 1), .val (.ref t386), .val (.int 9), .val (.int 117)]) at_479 rfl rfl ?_
                  refine gw_aloadN C 482 at_481 rfl rfl rfl ?_
                  refine gw_iconst C 483 (1 : Int32) at_482 rfl (by decide) ?_
                  refine gw_aload C 485 at_483 rfl rfl rfl ?_
                  refine gw_old ?_
                  intro O1099 zO1099
                  refine gw_callVW C hEL (a := m) (argsL := [(.int 1), (.ref b1079)]) (W := 0) at_485 (hq hw 37 rfl) (hq hw 38 rfl) (fun _ hZ => notFace_of_selects (args := #[]) (mvT hZ (hq hw 40 rfl))) (hq hw 40 rfl) (hq hw 39 rfl) (Exa.ext O1099 pm) (by decide) pd__ZLjava_lang_String__Ljava_lang_Object_ (ct_np23 l Z a0 hw am (m := m) (s := b1079) (t := t1092) (kt := kB1093) (x0 := (lo8 106)) (x1 := (lo8 97)) (x2 := (lo8 118)) (x3 := (lo8 97)) (x4 := (lo8 120)) (x5 := (lo8 46)) (x6 := (lo8 115)) (x7 := (lo8 101)) (x8 := (lo8 99)) (x9 := (lo8 (p2 &&& (255 : Int32)))) (x10 := (lo8 114)) (x11 := (lo8 105)) (x12 := (lo8 116)) (x13 := (lo8 121)) (x14 := (lo8 46)) (x15 := (lo8 115)) (x16 := (lo8 97)) (x17 := (lo8 115)) (x18 := (lo8 108)) (x19 := (lo8 46)) (x20 := (lo8 113)) (x21 := (lo8 111)) (x22 := (lo8 112)) fx1094 fx1095 fx1096 fx1097) rfl (by decide) (Nat.le_of_eq rfl) (by decide) rfl (by decide) (by decide) (memsS (mi 1 rfl) mems0) ?_
                  intro fv1100 h1101 K1102 fq1103
                  rcases fq1103 with ⟨a1104, u1105, ku1106, rfl, fx1107, fx1108, fx1109, fx1110, fx1111⟩ | ⟨rfl, fx1112⟩
                  · skip
                    show GoW l _ Z _ _ _ _ _ κ _ _ 488 _ [(.ref a1104)] 7 166
                    refine gw_astore C 490 (Ls' := #[.val (.int p0), .val (.int p1), .val (.int p2), .val (.ref m), .val (.int ((XT.ushr p0 (1 : Int32)) &&& (7 : Int32))), .val (.int (p2 &&& (255 : Int32))), .val (.ref b1079), .val (.int 1), .val (.ref a1104), .val (.int 9), .val (.int 117)]) at_488 rfl rfl rfl ?_
                    refine gw_iload C 492 at_490 rfl rfl ?_
                    refine gw_ifN C 495 at_492 rfl (feq ((by decide) : ¬ ((1 : Int32) = (0 : Int32)))).1 ?_
                    refine gw_aload C 497 at_495 rfl rfl rfl ?_
                    refine gw_ifnullN C 500 at_497 rfl ?_
                    refine gw_ldcS C hEL 502 9 186 (n := 16) (vs := [(.int 97), (.int 117), (.int 116), (.int 104)]) (zn := (4 : Int32)) at_500 rfl rfl rfl (hq hw 56 rfl) (wS hw) (List.mem_of_getElem? (i := 2) rfl) (by decide) (by decide) rfl (by decide) (by decide) (by decide) (by decide) ?_
                    intro sa1113 sb1114 k1115 h1116 E1117 fx1118 fx1119 fx1120 fx1121 fn1122
                    have fe1123 : t1092 ≠ sa1113 := (fn1122 _ (List.mem_of_getElem? (i := 0) rfl)).1
                    have fe1124 : t1092 ≠ sb1114 := (fn1122 _ (List.mem_of_getElem? (i := 0) rfl)).2
                    have fe1125 : b1079 ≠ sa1113 := (fn1122 _ (List.mem_of_getElem? (i := 1) rfl)).1
                    have fe1126 : b1079 ≠ sb1114 := (fn1122 _ (List.mem_of_getElem? (i := 1) rfl)).2
                    have fe1127 : t386 ≠ sa1113 := (fn1122 _ (List.mem_of_getElem? (i := 2) rfl)).1
                    have fe1128 : t386 ≠ sb1114 := (fn1122 _ (List.mem_of_getElem? (i := 2) rfl)).2
                    refine gw_aload C 504 at_502 rfl rfl rfl ?_
                    have fx1129 := (Exa.ext E1117 fx1107)
                    have fx1130 := (Fld.ext E1117 fx1108)
                    have fx1131 := (Fld.ext E1117 fx1109)
                    have fx1132 := (fx1110.ext E1117)
                    refine gw_callV C (a := sa1113) (argsL := [(.ref a1104)]) (W := 0) at_504 (hq hw 57 rfl) (hq hw 46 rfl) (fun _ hZ => notFace_of_selects (args := #[]) (mvT hZ (hq hw 48 rfl))) (hq hw 48 rfl) (hq hw 47 rfl) fx1118 (by decide) pd__Ljava_lang_Object__Z (ct_eq4 l Z a0 hw am (a := sa1113) (b := a1104) (t := sb1114) (u := u1105) (kt := k1115) (ku := ku1106) (x0 := (97 : Int32)) (x1 := (117 : Int32)) (x2 := (116 : Int32)) (x3 := (104 : Int32)) (y0 := (97 : Int32)) (y1 := (117 : Int32)) (y2 := (116 : Int32)) (y3 := (104 : Int32)) fx1118 fx1119 fx1120 fx1121 fx1129 fx1130 fx1131 fx1132 rfl rfl rfl rfl) rfl (by decide) (Nat.le_of_eq rfl) (by decide) rfl (by decide) (by decide) mems0 ?_
                    intro fv1133 h1134 K1135 fq1136
                    obtain ⟨rfl, rfl⟩ := fq1136
                    refine ⟨[], fresh0, ?_⟩
                    show GoW l _ Z _ _ _ _ _ κ _ _ 507 _ [(.int 1)] 9 186
                    refine gw_ifN C 510 at_507 rfl (feq ((by decide) : ¬ ((1 : Int32) = (0 : Int32)))).1 ?_
                    refine gw_iconst C 511 (1 : Int32) at_510 rfl (by decide) ?_
                    refine gw_goto C (pc' := 515) at_511 (by decide) (by decide) ?_
                    refine gw_retN C hEL (t := .boolean) (z := (1 : Int32)) at_515 rfl (by decide) (by decide) (by decide) (by decide) ?_
                    exact rfl
                  · skip
                    exact (fx1112 (by rw [hcq]; decide)).elim
                · skip
                  refine gw_icmpY C (pc' := 478) at_471 (feq hcq).2 (by decide) (by decide) ?_
                  refine gw_iconst C 479 (0 : Int32) at_478 rfl (by decide) ?_
                  refine gw_istore C 481 (Ls' := #[.val (.int p0), .val (.int p1), .val (.int p2), .val (.ref m), .val (.int ((XT.ushr p0 (1 : Int32)) &&& (7 : Int32))), .val (.int (p2 &&& (255 : Int32))), .val (.ref b1079), .val (.int 0), .val (.ref t386), .val (.int 9), .val (.int 117)]) at_479 rfl rfl ?_
                  refine gw_aloadN C 482 at_481 rfl rfl rfl ?_
                  refine gw_iconst C 483 (1 : Int32) at_482 rfl (by decide) ?_
                  refine gw_aload C 485 at_483 rfl rfl rfl ?_
                  refine gw_old ?_
                  intro O1137 zO1137
                  refine gw_callVW C hEL (a := m) (argsL := [(.int 1), (.ref b1079)]) (W := 0) at_485 (hq hw 37 rfl) (hq hw 38 rfl) (fun _ hZ => notFace_of_selects (args := #[]) (mvT hZ (hq hw 40 rfl))) (hq hw 40 rfl) (hq hw 39 rfl) (Exa.ext O1137 pm) (by decide) pd__ZLjava_lang_String__Ljava_lang_Object_ (ct_np23 l Z a0 hw am (m := m) (s := b1079) (t := t1092) (kt := kB1093) (x0 := (lo8 106)) (x1 := (lo8 97)) (x2 := (lo8 118)) (x3 := (lo8 97)) (x4 := (lo8 120)) (x5 := (lo8 46)) (x6 := (lo8 115)) (x7 := (lo8 101)) (x8 := (lo8 99)) (x9 := (lo8 (p2 &&& (255 : Int32)))) (x10 := (lo8 114)) (x11 := (lo8 105)) (x12 := (lo8 116)) (x13 := (lo8 121)) (x14 := (lo8 46)) (x15 := (lo8 115)) (x16 := (lo8 97)) (x17 := (lo8 115)) (x18 := (lo8 108)) (x19 := (lo8 46)) (x20 := (lo8 113)) (x21 := (lo8 111)) (x22 := (lo8 112)) fx1094 fx1095 fx1096 fx1097) rfl (by decide) (Nat.le_of_eq rfl) (by decide) rfl (by decide) (by decide) (memsS (mi 1 rfl) mems0) ?_
                  intro fv1138 h1139 K1140 fq1141
                  rcases fq1141 with ⟨a1142, u1143, ku1144, rfl, fx1145, fx1146, fx1147, fx1148, fx1149⟩ | ⟨rfl, fx1150⟩
                  · skip
                    exact (hcq ((lo8_mask (chr_and255 p2).1 (and_small _ 255 (by decide)).2).symm.trans (by rw [← fx1149.2.2.2.2.2.2.2.2.2.1]; decide))).elim
                  · skip
                    show GoW l _ Z _ _ _ _ _ κ _ _ 488 _ [.null] 7 166
                    refine gw_astore C 490 (Ls' := #[.val (.int p0), .val (.int p1), .val (.int p2), .val (.ref m), .val (.int ((XT.ushr p0 (1 : Int32)) &&& (7 : Int32))), .val (.int (p2 &&& (255 : Int32))), .val (.ref b1079), .val (.int 0), .val .null, .val (.int 9), .val (.int 117)]) at_488 rfl rfl rfl ?_
                    refine gw_iload C 492 at_490 rfl rfl ?_
                    refine gw_ifY C (pc' := 516) at_492 (teq ((by decide) : (0 : Int32) = (0 : Int32))).1 (by decide) (by decide) ?_
                    refine gw_aload C 518 at_516 rfl rfl rfl ?_
                    refine gw_ifnonnullN C 521 at_518 rfl ?_
                    refine gw_iconst C 522 (1 : Int32) at_521 rfl (by decide) ?_
                    refine gw_goto C (pc' := 526) at_522 (by decide) (by decide) ?_
                    refine gw_retN C hEL (t := .boolean) (z := (1 : Int32)) at_526 rfl (by decide) (by decide) (by decide) (by decide) ?_
                    exact rfl
              · skip
                refine gw_irem C 440 (10 : Int32) at_439 rfl (by decide) ec390 ?_
                refine gw_istore C 442 (Ls' := #[.val (.int p0), .val (.int p1), .val (.int p2), .val (.ref m), .val (.int ((XT.ushr p0 (1 : Int32)) &&& (7 : Int32))), .val (.int (p2 &&& (255 : Int32))), .unset, .unset, .val (.ref t386), .val (.int 10), .unset]) at_440 rfl rfl ?_
                refine gw_aload C 444 at_442 rfl rfl rfl ?_
                refine gw_iload C 446 at_444 rfl rfl ?_
                refine gw_caload C 447 (v := (.int 114)) at_446 rfl fx388 (by decide) rfl ?_
                refine gw_istore C 449 (Ls' := #[.val (.int p0), .val (.int p1), .val (.int p2), .val (.ref m), .val (.int ((XT.ushr p0 (1 : Int32)) &&& (7 : Int32))), .val (.int (p2 &&& (255 : Int32))), .unset, .unset, .val (.ref t386), .val (.int 10), .val (.int 114)]) at_447 rfl rfl ?_
                refine gw_aload C 451 at_449 rfl rfl rfl ?_
                refine gw_iload C 453 at_451 rfl rfl ?_
                refine gw_iload C 455 at_453 rfl rfl ?_
                refine gw_castore C 456 10 (v := (p2 &&& (255 : Int32))) (chr_and255 _).nar at_455 rfl fx388 (by decide) rfl (nble rfl) (mi 0 rfl) ?_
                intro h1151 W1152 fx1153
                have fx1154 : Arv Z h1151 t386 kC387 .char (23 : Int32) [(.int 106), (.int 97), (.int 118), (.int 97), (.int 120), (.int 46), (.int 115), (.int 101), (.int 99), (.int 117), (.int (p2 &&& (255 : Int32))), (.int 105), (.int 116), (.int 121), (.int 46), (.int 115), (.int 97), (.int 115), (.int 108), (.int 46), (.int 113), (.int 111), (.int 112)] (.int 0) := fx1153
                refine gw_new C 459 2 27 at_456 rfl rfl rfl (hq hw 3 rfl) (hq hw 4 rfl) (hq hw 5 rfl) (by decide) (by decide) ?_
                intro b1155 h1156 g1157 E1158 A1159 D1160
                have fx1161 : Fld Z h1156 b1155 "java/lang/String" "coder" "B" (.int 0) := D1160 (Or.inr (hq hw 34 rfl)) (ty := .byte) (by decide)
                have fx1162 : Fld Z h1156 b1155 "java/lang/String" "value" "[B" .null := D1160 (Or.inr (hq hw 36 rfl)) (ty := (.array .byte)) (by decide)
                refine gw_dup C 460 at_459 rfl rfl ?_
                refine gw_aload C 462 at_460 rfl rfl rfl ?_
                have fx1163 := (fx1154.ext E1158)
                refine gw_callI C (a := b1155) (argsL := [(.ref t386)]) (W := 1) at_462 rfl (hq hw 11 rfl) (hq hw 12 rfl) (hq hw 13 rfl) (by decide) pd___C_V (ct_str23 l Z a0 hw am (a := b1155) (b := t386) (kC := kC387) (c0 := (106 : Int32)) (c1 := (97 : Int32)) (c2 := (118 : Int32)) (c3 := (97 : Int32)) (c4 := (120 : Int32)) (c5 := (46 : Int32)) (c6 := (115 : Int32)) (c7 := (101 : Int32)) (c8 := (99 : Int32)) (c9 := (117 : Int32)) (c10 := (p2 &&& (255 : Int32))) (c11 := (105 : Int32)) (c12 := (116 : Int32)) (c13 := (121 : Int32)) (c14 := (46 : Int32)) (c15 := (115 : Int32)) (c16 := (97 : Int32)) (c17 := (115 : Int32)) (c18 := (108 : Int32)) (c19 := (46 : Int32)) (c20 := (113 : Int32)) (c21 := (111 : Int32)) (c22 := (112 : Int32)) A1159 fx1162 fx1161 fx1163 (by decide) (by decide) (by decide) (by decide) (by decide) (by decide) (by decide) (by decide) (by decide) (by decide) (and_small _ 255 (by decide)).2 (by decide) (by decide) (by decide) (by decide) (by decide) (by decide) (by decide) (by decide) (by decide) (by decide) (by decide) (by decide)) rfl (by decide) (Nat.le_of_eq rfl) (by decide) rfl (by decide) (by decide) (memsS (mi 0 rfl) mems0) ?_
                intro fv1164 h1165 K1166 fq1167
                obtain ⟨t1168, kB1169, rfl, fx1170, fx1171, fx1172, fx1173, fx1174⟩ := fq1167
                refine ⟨[t1168], (freshS ⟨fx1174, (fx1173).lt⟩ fresh0), ?_⟩
                show GoW l _ Z _ _ _ _ _ κ [t1168, b1155, t386] _ 465 _ [(.ref b1155)] 3 50
                refine gw_astore C 467 (Ls' := #[.val (.int p0), .val (.int p1), .val (.int p2), .val (.ref m), .val (.int ((XT.ushr p0 (1 : Int32)) &&& (7 : Int32))), .val (.int (p2 &&& (255 : Int32))), .val (.ref b1155), .unset, .val (.ref t386), .val (.int 10), .val (.int 114)]) at_465 rfl rfl rfl ?_
                refine gw_iload C 469 at_467 rfl rfl ?_
                refine gw_iload C 471 at_469 rfl rfl ?_
                by_cases hcq : (p2 &&& (255 : Int32)) = (114 : Int32)
                · skip
                  refine gw_icmpN C 474 at_471 rfl (teq hcq).2 ?_
                  refine gw_iconst C 475 (1 : Int32) at_474 rfl (by decide) ?_
                  refine gw_goto C (pc' := 479) at_475 (by decide) (by decide) ?_
                  refine gw_istore C 481 (Ls' := #[.val (.int p0), .val (.int p1), .val (.int p2), .val (.ref m), .val (.int ((XT.ushr p0 (1 : Int32)) &&& (7 : Int32))), .val (.int (p2 &&& (255 : Int32))), .val (.ref b1155), .val (.int 1), .val (.ref t386), .val (.int 10), .val (.int 114)]) at_479 rfl rfl ?_
                  refine gw_aloadN C 482 at_481 rfl rfl rfl ?_
                  refine gw_iconst C 483 (1 : Int32) at_482 rfl (by decide) ?_
                  refine gw_aload C 485 at_483 rfl rfl rfl ?_
                  refine gw_old ?_
                  intro O1175 zO1175
                  refine gw_callVW C hEL (a := m) (argsL := [(.int 1), (.ref b1155)]) (W := 0) at_485 (hq hw 37 rfl) (hq hw 38 rfl) (fun _ hZ => notFace_of_selects (args := #[]) (mvT hZ (hq hw 40 rfl))) (hq hw 40 rfl) (hq hw 39 rfl) (Exa.ext O1175 pm) (by decide) pd__ZLjava_lang_String__Ljava_lang_Object_ (ct_np23 l Z a0 hw am (m := m) (s := b1155) (t := t1168) (kt := kB1169) (x0 := (lo8 106)) (x1 := (lo8 97)) (x2 := (lo8 118)) (x3 := (lo8 97)) (x4 := (lo8 120)) (x5 := (lo8 46)) (x6 := (lo8 115)) (x7 := (lo8 101)) (x8 := (lo8 99)) (x9 := (lo8 117)) (x10 := (lo8 (p2 &&& (255 : Int32)))) (x11 := (lo8 105)) (x12 := (lo8 116)) (x13 := (lo8 121)) (x14 := (lo8 46)) (x15 := (lo8 115)) (x16 := (lo8 97)) (x17 := (lo8 115)) (x18 := (lo8 108)) (x19 := (lo8 46)) (x20 := (lo8 113)) (x21 := (lo8 111)) (x22 := (lo8 112)) fx1170 fx1171 fx1172 fx1173) rfl (by decide) (Nat.le_of_eq rfl) (by decide) rfl (by decide) (by decide) (memsS (mi 1 rfl) mems0) ?_
                  intro fv1176 h1177 K1178 fq1179
                  rcases fq1179 with ⟨a1180, u1181, ku1182, rfl, fx1183, fx1184, fx1185, fx1186, fx1187⟩ | ⟨rfl, fx1188⟩
                  · skip
                    show GoW l _ Z _ _ _ _ _ κ _ _ 488 _ [(.ref a1180)] 7 166
                    refine gw_astore C 490 (Ls' := #[.val (.int p0), .val (.int p1), .val (.int p2), .val (.ref m), .val (.int ((XT.ushr p0 (1 : Int32)) &&& (7 : Int32))), .val (.int (p2 &&& (255 : Int32))), .val (.ref b1155), .val (.int 1), .val (.ref a1180), .val (.int 10), .val (.int 114)]) at_488 rfl rfl rfl ?_
                    refine gw_iload C 492 at_490 rfl rfl ?_
                    refine gw_ifN C 495 at_492 rfl (feq ((by decide) : ¬ ((1 : Int32) = (0 : Int32)))).1 ?_
                    refine gw_aload C 497 at_495 rfl rfl rfl ?_
                    refine gw_ifnullN C 500 at_497 rfl ?_
                    refine gw_ldcS C hEL 502 9 186 (n := 16) (vs := [(.int 97), (.int 117), (.int 116), (.int 104)]) (zn := (4 : Int32)) at_500 rfl rfl rfl (hq hw 56 rfl) (wS hw) (List.mem_of_getElem? (i := 2) rfl) (by decide) (by decide) rfl (by decide) (by decide) (by decide) (by decide) ?_
                    intro sa1189 sb1190 k1191 h1192 E1193 fx1194 fx1195 fx1196 fx1197 fn1198
                    have fe1199 : t1168 ≠ sa1189 := (fn1198 _ (List.mem_of_getElem? (i := 0) rfl)).1
                    have fe1200 : t1168 ≠ sb1190 := (fn1198 _ (List.mem_of_getElem? (i := 0) rfl)).2
                    have fe1201 : b1155 ≠ sa1189 := (fn1198 _ (List.mem_of_getElem? (i := 1) rfl)).1
                    have fe1202 : b1155 ≠ sb1190 := (fn1198 _ (List.mem_of_getElem? (i := 1) rfl)).2
                    have fe1203 : t386 ≠ sa1189 := (fn1198 _ (List.mem_of_getElem? (i := 2) rfl)).1
                    have fe1204 : t386 ≠ sb1190 := (fn1198 _ (List.mem_of_getElem? (i := 2) rfl)).2
                    refine gw_aload C 504 at_502 rfl rfl rfl ?_
                    have fx1205 := (Exa.ext E1193 fx1183)
                    have fx1206 := (Fld.ext E1193 fx1184)
                    have fx1207 := (Fld.ext E1193 fx1185)
                    have fx1208 := (fx1186.ext E1193)
                    refine gw_callV C (a := sa1189) (argsL := [(.ref a1180)]) (W := 0) at_504 (hq hw 57 rfl) (hq hw 46 rfl) (fun _ hZ => notFace_of_selects (args := #[]) (mvT hZ (hq hw 48 rfl))) (hq hw 48 rfl) (hq hw 47 rfl) fx1194 (by decide) pd__Ljava_lang_Object__Z (ct_eq4 l Z a0 hw am (a := sa1189) (b := a1180) (t := sb1190) (u := u1181) (kt := k1191) (ku := ku1182) (x0 := (97 : Int32)) (x1 := (117 : Int32)) (x2 := (116 : Int32)) (x3 := (104 : Int32)) (y0 := (97 : Int32)) (y1 := (117 : Int32)) (y2 := (116 : Int32)) (y3 := (104 : Int32)) fx1194 fx1195 fx1196 fx1197 fx1205 fx1206 fx1207 fx1208 rfl rfl rfl rfl) rfl (by decide) (Nat.le_of_eq rfl) (by decide) rfl (by decide) (by decide) mems0 ?_
                    intro fv1209 h1210 K1211 fq1212
                    obtain ⟨rfl, rfl⟩ := fq1212
                    refine ⟨[], fresh0, ?_⟩
                    show GoW l _ Z _ _ _ _ _ κ _ _ 507 _ [(.int 1)] 9 186
                    refine gw_ifN C 510 at_507 rfl (feq ((by decide) : ¬ ((1 : Int32) = (0 : Int32)))).1 ?_
                    refine gw_iconst C 511 (1 : Int32) at_510 rfl (by decide) ?_
                    refine gw_goto C (pc' := 515) at_511 (by decide) (by decide) ?_
                    refine gw_retN C hEL (t := .boolean) (z := (1 : Int32)) at_515 rfl (by decide) (by decide) (by decide) (by decide) ?_
                    exact rfl
                  · skip
                    exact (fx1188 (by rw [hcq]; decide)).elim
                · skip
                  refine gw_icmpY C (pc' := 478) at_471 (feq hcq).2 (by decide) (by decide) ?_
                  refine gw_iconst C 479 (0 : Int32) at_478 rfl (by decide) ?_
                  refine gw_istore C 481 (Ls' := #[.val (.int p0), .val (.int p1), .val (.int p2), .val (.ref m), .val (.int ((XT.ushr p0 (1 : Int32)) &&& (7 : Int32))), .val (.int (p2 &&& (255 : Int32))), .val (.ref b1155), .val (.int 0), .val (.ref t386), .val (.int 10), .val (.int 114)]) at_479 rfl rfl ?_
                  refine gw_aloadN C 482 at_481 rfl rfl rfl ?_
                  refine gw_iconst C 483 (1 : Int32) at_482 rfl (by decide) ?_
                  refine gw_aload C 485 at_483 rfl rfl rfl ?_
                  refine gw_old ?_
                  intro O1213 zO1213
                  refine gw_callVW C hEL (a := m) (argsL := [(.int 1), (.ref b1155)]) (W := 0) at_485 (hq hw 37 rfl) (hq hw 38 rfl) (fun _ hZ => notFace_of_selects (args := #[]) (mvT hZ (hq hw 40 rfl))) (hq hw 40 rfl) (hq hw 39 rfl) (Exa.ext O1213 pm) (by decide) pd__ZLjava_lang_String__Ljava_lang_Object_ (ct_np23 l Z a0 hw am (m := m) (s := b1155) (t := t1168) (kt := kB1169) (x0 := (lo8 106)) (x1 := (lo8 97)) (x2 := (lo8 118)) (x3 := (lo8 97)) (x4 := (lo8 120)) (x5 := (lo8 46)) (x6 := (lo8 115)) (x7 := (lo8 101)) (x8 := (lo8 99)) (x9 := (lo8 117)) (x10 := (lo8 (p2 &&& (255 : Int32)))) (x11 := (lo8 105)) (x12 := (lo8 116)) (x13 := (lo8 121)) (x14 := (lo8 46)) (x15 := (lo8 115)) (x16 := (lo8 97)) (x17 := (lo8 115)) (x18 := (lo8 108)) (x19 := (lo8 46)) (x20 := (lo8 113)) (x21 := (lo8 111)) (x22 := (lo8 112)) fx1170 fx1171 fx1172 fx1173) rfl (by decide) (Nat.le_of_eq rfl) (by decide) rfl (by decide) (by decide) (memsS (mi 1 rfl) mems0) ?_
                  intro fv1214 h1215 K1216 fq1217
                  rcases fq1217 with ⟨a1218, u1219, ku1220, rfl, fx1221, fx1222, fx1223, fx1224, fx1225⟩ | ⟨rfl, fx1226⟩
                  · skip
                    exact (hcq ((lo8_mask (chr_and255 p2).1 (and_small _ 255 (by decide)).2).symm.trans (by rw [← fx1225.2.2.2.2.2.2.2.2.2.2.1]; decide))).elim
                  · skip
                    show GoW l _ Z _ _ _ _ _ κ _ _ 488 _ [.null] 7 166
                    refine gw_astore C 490 (Ls' := #[.val (.int p0), .val (.int p1), .val (.int p2), .val (.ref m), .val (.int ((XT.ushr p0 (1 : Int32)) &&& (7 : Int32))), .val (.int (p2 &&& (255 : Int32))), .val (.ref b1155), .val (.int 0), .val .null, .val (.int 10), .val (.int 114)]) at_488 rfl rfl rfl ?_
                    refine gw_iload C 492 at_490 rfl rfl ?_
                    refine gw_ifY C (pc' := 516) at_492 (teq ((by decide) : (0 : Int32) = (0 : Int32))).1 (by decide) (by decide) ?_
                    refine gw_aload C 518 at_516 rfl rfl rfl ?_
                    refine gw_ifnonnullN C 521 at_518 rfl ?_
                    refine gw_iconst C 522 (1 : Int32) at_521 rfl (by decide) ?_
                    refine gw_goto C (pc' := 526) at_522 (by decide) (by decide) ?_
                    refine gw_retN C hEL (t := .boolean) (z := (1 : Int32)) at_526 rfl (by decide) (by decide) (by decide) (by decide) ?_
                    exact rfl
              · skip
                refine gw_irem C 440 (11 : Int32) at_439 rfl (by decide) ec390 ?_
                refine gw_istore C 442 (Ls' := #[.val (.int p0), .val (.int p1), .val (.int p2), .val (.ref m), .val (.int ((XT.ushr p0 (1 : Int32)) &&& (7 : Int32))), .val (.int (p2 &&& (255 : Int32))), .unset, .unset, .val (.ref t386), .val (.int 11), .unset]) at_440 rfl rfl ?_
                refine gw_aload C 444 at_442 rfl rfl rfl ?_
                refine gw_iload C 446 at_444 rfl rfl ?_
                refine gw_caload C 447 (v := (.int 105)) at_446 rfl fx388 (by decide) rfl ?_
                refine gw_istore C 449 (Ls' := #[.val (.int p0), .val (.int p1), .val (.int p2), .val (.ref m), .val (.int ((XT.ushr p0 (1 : Int32)) &&& (7 : Int32))), .val (.int (p2 &&& (255 : Int32))), .unset, .unset, .val (.ref t386), .val (.int 11), .val (.int 105)]) at_447 rfl rfl ?_
                refine gw_aload C 451 at_449 rfl rfl rfl ?_
                refine gw_iload C 453 at_451 rfl rfl ?_
                refine gw_iload C 455 at_453 rfl rfl ?_
                refine gw_castore C 456 11 (v := (p2 &&& (255 : Int32))) (chr_and255 _).nar at_455 rfl fx388 (by decide) rfl (nble rfl) (mi 0 rfl) ?_
                intro h1227 W1228 fx1229
                have fx1230 : Arv Z h1227 t386 kC387 .char (23 : Int32) [(.int 106), (.int 97), (.int 118), (.int 97), (.int 120), (.int 46), (.int 115), (.int 101), (.int 99), (.int 117), (.int 114), (.int (p2 &&& (255 : Int32))), (.int 116), (.int 121), (.int 46), (.int 115), (.int 97), (.int 115), (.int 108), (.int 46), (.int 113), (.int 111), (.int 112)] (.int 0) := fx1229
                refine gw_new C 459 2 27 at_456 rfl rfl rfl (hq hw 3 rfl) (hq hw 4 rfl) (hq hw 5 rfl) (by decide) (by decide) ?_
                intro b1231 h1232 g1233 E1234 A1235 D1236
                have fx1237 : Fld Z h1232 b1231 "java/lang/String" "coder" "B" (.int 0) := D1236 (Or.inr (hq hw 34 rfl)) (ty := .byte) (by decide)
                have fx1238 : Fld Z h1232 b1231 "java/lang/String" "value" "[B" .null := D1236 (Or.inr (hq hw 36 rfl)) (ty := (.array .byte)) (by decide)
                refine gw_dup C 460 at_459 rfl rfl ?_
                refine gw_aload C 462 at_460 rfl rfl rfl ?_
                have fx1239 := (fx1230.ext E1234)
                refine gw_callI C (a := b1231) (argsL := [(.ref t386)]) (W := 1) at_462 rfl (hq hw 11 rfl) (hq hw 12 rfl) (hq hw 13 rfl) (by decide) pd___C_V (ct_str23 l Z a0 hw am (a := b1231) (b := t386) (kC := kC387) (c0 := (106 : Int32)) (c1 := (97 : Int32)) (c2 := (118 : Int32)) (c3 := (97 : Int32)) (c4 := (120 : Int32)) (c5 := (46 : Int32)) (c6 := (115 : Int32)) (c7 := (101 : Int32)) (c8 := (99 : Int32)) (c9 := (117 : Int32)) (c10 := (114 : Int32)) (c11 := (p2 &&& (255 : Int32))) (c12 := (116 : Int32)) (c13 := (121 : Int32)) (c14 := (46 : Int32)) (c15 := (115 : Int32)) (c16 := (97 : Int32)) (c17 := (115 : Int32)) (c18 := (108 : Int32)) (c19 := (46 : Int32)) (c20 := (113 : Int32)) (c21 := (111 : Int32)) (c22 := (112 : Int32)) A1235 fx1238 fx1237 fx1239 (by decide) (by decide) (by decide) (by decide) (by decide) (by decide) (by decide) (by decide) (by decide) (by decide) (by decide) (and_small _ 255 (by decide)).2 (by decide) (by decide) (by decide) (by decide) (by decide) (by decide) (by decide) (by decide) (by decide) (by decide) (by decide)) rfl (by decide) (Nat.le_of_eq rfl) (by decide) rfl (by decide) (by decide) (memsS (mi 0 rfl) mems0) ?_
                intro fv1240 h1241 K1242 fq1243
                obtain ⟨t1244, kB1245, rfl, fx1246, fx1247, fx1248, fx1249, fx1250⟩ := fq1243
                refine ⟨[t1244], (freshS ⟨fx1250, (fx1249).lt⟩ fresh0), ?_⟩
                show GoW l _ Z _ _ _ _ _ κ [t1244, b1231, t386] _ 465 _ [(.ref b1231)] 3 50
                refine gw_astore C 467 (Ls' := #[.val (.int p0), .val (.int p1), .val (.int p2), .val (.ref m), .val (.int ((XT.ushr p0 (1 : Int32)) &&& (7 : Int32))), .val (.int (p2 &&& (255 : Int32))), .val (.ref b1231), .unset, .val (.ref t386), .val (.int 11), .val (.int 105)]) at_465 rfl rfl rfl ?_
                refine gw_iload C 469 at_467 rfl rfl ?_
                refine gw_iload C 471 at_469 rfl rfl ?_
                by_cases hcq : (p2 &&& (255 : Int32)) = (105 : Int32)
                · skip
                  refine gw_icmpN C 474 at_471 rfl (teq hcq).2 ?_
                  refine gw_iconst C 475 (1 : Int32) at_474 rfl (by decide) ?_
                  refine gw_goto C (pc' := 479) at_475 (by decide) (by decide) ?_
                  refine gw_istore C 481 (Ls' := #[.val (.int p0), .val (.int p1), .val (.int p2), .val (.ref m), .val (.int ((XT.ushr p0 (1 : Int32)) &&& (7 : Int32))), .val (.int (p2 &&& (255 : Int32))), .val (.ref b1231), .val (.int 1), .val (.ref t386), .val (.int 11), .val (.int 105)]) at_479 rfl rfl ?_
                  refine gw_aloadN C 482 at_481 rfl rfl rfl ?_
                  refine gw_iconst C 483 (1 : Int32) at_482 rfl (by decide) ?_
                  refine gw_aload C 485 at_483 rfl rfl rfl ?_
                  refine gw_old ?_
                  intro O1251 zO1251
                  refine gw_callVW C hEL (a := m) (argsL := [(.int 1), (.ref b1231)]) (W := 0) at_485 (hq hw 37 rfl) (hq hw 38 rfl) (fun _ hZ => notFace_of_selects (args := #[]) (mvT hZ (hq hw 40 rfl))) (hq hw 40 rfl) (hq hw 39 rfl) (Exa.ext O1251 pm) (by decide) pd__ZLjava_lang_String__Ljava_lang_Object_ (ct_np23 l Z a0 hw am (m := m) (s := b1231) (t := t1244) (kt := kB1245) (x0 := (lo8 106)) (x1 := (lo8 97)) (x2 := (lo8 118)) (x3 := (lo8 97)) (x4 := (lo8 120)) (x5 := (lo8 46)) (x6 := (lo8 115)) (x7 := (lo8 101)) (x8 := (lo8 99)) (x9 := (lo8 117)) (x10 := (lo8 114)) (x11 := (lo8 (p2 &&& (255 : Int32)))) (x12 := (lo8 116)) (x13 := (lo8 121)) (x14 := (lo8 46)) (x15 := (lo8 115)) (x16 := (lo8 97)) (x17 := (lo8 115)) (x18 := (lo8 108)) (x19 := (lo8 46)) (x20 := (lo8 113)) (x21 := (lo8 111)) (x22 := (lo8 112)) fx1246 fx1247 fx1248 fx1249) rfl (by decide) (Nat.le_of_eq rfl) (by decide) rfl (by decide) (by decide) (memsS (mi 1 rfl) mems0) ?_
                  intro fv1252 h1253 K1254 fq1255
                  rcases fq1255 with ⟨a1256, u1257, ku1258, rfl, fx1259, fx1260, fx1261, fx1262, fx1263⟩ | ⟨rfl, fx1264⟩
                  · skip
                    show GoW l _ Z _ _ _ _ _ κ _ _ 488 _ [(.ref a1256)] 7 166
                    refine gw_astore C 490 (Ls' := #[.val (.int p0), .val (.int p1), .val (.int p2), .val (.ref m), .val (.int ((XT.ushr p0 (1 : Int32)) &&& (7 : Int32))), .val (.int (p2 &&& (255 : Int32))), .val (.ref b1231), .val (.int 1), .val (.ref a1256), .val (.int 11), .val (.int 105)]) at_488 rfl rfl rfl ?_
                    refine gw_iload C 492 at_490 rfl rfl ?_
                    refine gw_ifN C 495 at_492 rfl (feq ((by decide) : ¬ ((1 : Int32) = (0 : Int32)))).1 ?_
                    refine gw_aload C 497 at_495 rfl rfl rfl ?_
                    refine gw_ifnullN C 500 at_497 rfl ?_
                    refine gw_ldcS C hEL 502 9 186 (n := 16) (vs := [(.int 97), (.int 117), (.int 116), (.int 104)]) (zn := (4 : Int32)) at_500 rfl rfl rfl (hq hw 56 rfl) (wS hw) (List.mem_of_getElem? (i := 2) rfl) (by decide) (by decide) rfl (by decide) (by decide) (by decide) (by decide) ?_
                    intro sa1265 sb1266 k1267 h1268 E1269 fx1270 fx1271 fx1272 fx1273 fn1274
                    have fe1275 : t1244 ≠ sa1265 := (fn1274 _ (List.mem_of_getElem? (i := 0) rfl)).1
                    have fe1276 : t1244 ≠ sb1266 := (fn1274 _ (List.mem_of_getElem? (i := 0) rfl)).2
                    have fe1277 : b1231 ≠ sa1265 := (fn1274 _ (List.mem_of_getElem? (i := 1) rfl)).1
                    have fe1278 : b1231 ≠ sb1266 := (fn1274 _ (List.mem_of_getElem? (i := 1) rfl)).2
                    have fe1279 : t386 ≠ sa1265 := (fn1274 _ (List.mem_of_getElem? (i := 2) rfl)).1
                    have fe1280 : t386 ≠ sb1266 := (fn1274 _ (List.mem_of_getElem? (i := 2) rfl)).2
                    refine gw_aload C 504 at_502 rfl rfl rfl ?_
                    have fx1281 := (Exa.ext E1269 fx1259)
                    have fx1282 := (Fld.ext E1269 fx1260)
                    have fx1283 := (Fld.ext E1269 fx1261)
                    have fx1284 := (fx1262.ext E1269)
                    refine gw_callV C (a := sa1265) (argsL := [(.ref a1256)]) (W := 0) at_504 (hq hw 57 rfl) (hq hw 46 rfl) (fun _ hZ => notFace_of_selects (args := #[]) (mvT hZ (hq hw 48 rfl))) (hq hw 48 rfl) (hq hw 47 rfl) fx1270 (by decide) pd__Ljava_lang_Object__Z (ct_eq4 l Z a0 hw am (a := sa1265) (b := a1256) (t := sb1266) (u := u1257) (kt := k1267) (ku := ku1258) (x0 := (97 : Int32)) (x1 := (117 : Int32)) (x2 := (116 : Int32)) (x3 := (104 : Int32)) (y0 := (97 : Int32)) (y1 := (117 : Int32)) (y2 := (116 : Int32)) (y3 := (104 : Int32)) fx1270 fx1271 fx1272 fx1273 fx1281 fx1282 fx1283 fx1284 rfl rfl rfl rfl) rfl (by decide) (Nat.le_of_eq rfl) (by decide) rfl (by decide) (by decide) mems0 ?_
                    intro fv1285 h1286 K1287 fq1288
                    obtain ⟨rfl, rfl⟩ := fq1288
                    refine ⟨[], fresh0, ?_⟩
                    show GoW l _ Z _ _ _ _ _ κ _ _ 507 _ [(.int 1)] 9 186
                    refine gw_ifN C 510 at_507 rfl (feq ((by decide) : ¬ ((1 : Int32) = (0 : Int32)))).1 ?_
                    refine gw_iconst C 511 (1 : Int32) at_510 rfl (by decide) ?_
                    refine gw_goto C (pc' := 515) at_511 (by decide) (by decide) ?_
                    refine gw_retN C hEL (t := .boolean) (z := (1 : Int32)) at_515 rfl (by decide) (by decide) (by decide) (by decide) ?_
                    exact rfl
                  · skip
                    exact (fx1264 (by rw [hcq]; decide)).elim
                · skip
                  refine gw_icmpY C (pc' := 478) at_471 (feq hcq).2 (by decide) (by decide) ?_
                  refine gw_iconst C 479 (0 : Int32) at_478 rfl (by decide) ?_
                  refine gw_istore C 481 (Ls' := #[.val (.int p0), .val (.int p1), .val (.int p2), .val (.ref m), .val (.int ((XT.ushr p0 (1 : Int32)) &&& (7 : Int32))), .val (.int (p2 &&& (255 : Int32))), .val (.ref b1231), .val (.int 0), .val (.ref t386), .val (.int 11), .val (.int 105)]) at_479 rfl rfl ?_
                  refine gw_aloadN C 482 at_481 rfl rfl rfl ?_
                  refine gw_iconst C 483 (1 : Int32) at_482 rfl (by decide) ?_
                  refine gw_aload C 485 at_483 rfl rfl rfl ?_
                  refine gw_old ?_
                  intro O1289 zO1289
                  refine gw_callVW C hEL (a := m) (argsL := [(.int 1), (.ref b1231)]) (W := 0) at_485 (hq hw 37 rfl) (hq hw 38 rfl) (fun _ hZ => notFace_of_selects (args := #[]) (mvT hZ (hq hw 40 rfl))) (hq hw 40 rfl) (hq hw 39 rfl) (Exa.ext O1289 pm) (by decide) pd__ZLjava_lang_String__Ljava_lang_Object_ (ct_np23 l Z a0 hw am (m := m) (s := b1231) (t := t1244) (kt := kB1245) (x0 := (lo8 106)) (x1 := (lo8 97)) (x2 := (lo8 118)) (x3 := (lo8 97)) (x4 := (lo8 120)) (x5 := (lo8 46)) (x6 := (lo8 115)) (x7 := (lo8 101)) (x8 := (lo8 99)) (x9 := (lo8 117)) (x10 := (lo8 114)) (x11 := (lo8 (p2 &&& (255 : Int32)))) (x12 := (lo8 116)) (x13 := (lo8 121)) (x14 := (lo8 46)) (x15 := (lo8 115)) (x16 := (lo8 97)) (x17 := (lo8 115)) (x18 := (lo8 108)) (x19 := (lo8 46)) (x20 := (lo8 113)) (x21 := (lo8 111)) (x22 := (lo8 112)) fx1246 fx1247 fx1248 fx1249) rfl (by decide) (Nat.le_of_eq rfl) (by decide) rfl (by decide) (by decide) (memsS (mi 1 rfl) mems0) ?_
                  intro fv1290 h1291 K1292 fq1293
                  rcases fq1293 with ⟨a1294, u1295, ku1296, rfl, fx1297, fx1298, fx1299, fx1300, fx1301⟩ | ⟨rfl, fx1302⟩
                  · skip
                    exact (hcq ((lo8_mask (chr_and255 p2).1 (and_small _ 255 (by decide)).2).symm.trans (by rw [← fx1301.2.2.2.2.2.2.2.2.2.2.2.1]; decide))).elim
                  · skip
                    show GoW l _ Z _ _ _ _ _ κ _ _ 488 _ [.null] 7 166
                    refine gw_astore C 490 (Ls' := #[.val (.int p0), .val (.int p1), .val (.int p2), .val (.ref m), .val (.int ((XT.ushr p0 (1 : Int32)) &&& (7 : Int32))), .val (.int (p2 &&& (255 : Int32))), .val (.ref b1231), .val (.int 0), .val .null, .val (.int 11), .val (.int 105)]) at_488 rfl rfl rfl ?_
                    refine gw_iload C 492 at_490 rfl rfl ?_
                    refine gw_ifY C (pc' := 516) at_492 (teq ((by decide) : (0 : Int32) = (0 : Int32))).1 (by decide) (by decide) ?_
                    refine gw_aload C 518 at_516 rfl rfl rfl ?_
                    refine gw_ifnonnullN C 521 at_518 rfl ?_
                    refine gw_iconst C 522 (1 : Int32) at_521 rfl (by decide) ?_
                    refine gw_goto C (pc' := 526) at_522 (by decide) (by decide) ?_
                    refine gw_retN C hEL (t := .boolean) (z := (1 : Int32)) at_526 rfl (by decide) (by decide) (by decide) (by decide) ?_
                    exact rfl
              · skip
                refine gw_irem C 440 (12 : Int32) at_439 rfl (by decide) ec390 ?_
                refine gw_istore C 442 (Ls' := #[.val (.int p0), .val (.int p1), .val (.int p2), .val (.ref m), .val (.int ((XT.ushr p0 (1 : Int32)) &&& (7 : Int32))), .val (.int (p2 &&& (255 : Int32))), .unset, .unset, .val (.ref t386), .val (.int 12), .unset]) at_440 rfl rfl ?_
                refine gw_aload C 444 at_442 rfl rfl rfl ?_
                refine gw_iload C 446 at_444 rfl rfl ?_
                refine gw_caload C 447 (v := (.int 116)) at_446 rfl fx388 (by decide) rfl ?_
                refine gw_istore C 449 (Ls' := #[.val (.int p0), .val (.int p1), .val (.int p2), .val (.ref m), .val (.int ((XT.ushr p0 (1 : Int32)) &&& (7 : Int32))), .val (.int (p2 &&& (255 : Int32))), .unset, .unset, .val (.ref t386), .val (.int 12), .val (.int 116)]) at_447 rfl rfl ?_
                refine gw_aload C 451 at_449 rfl rfl rfl ?_
                refine gw_iload C 453 at_451 rfl rfl ?_
                refine gw_iload C 455 at_453 rfl rfl ?_
                refine gw_castore C 456 12 (v := (p2 &&& (255 : Int32))) (chr_and255 _).nar at_455 rfl fx388 (by decide) rfl (nble rfl) (mi 0 rfl) ?_
                intro h1303 W1304 fx1305
                have fx1306 : Arv Z h1303 t386 kC387 .char (23 : Int32) [(.int 106), (.int 97), (.int 118), (.int 97), (.int 120), (.int 46), (.int 115), (.int 101), (.int 99), (.int 117), (.int 114), (.int 105), (.int (p2 &&& (255 : Int32))), (.int 121), (.int 46), (.int 115), (.int 97), (.int 115), (.int 108), (.int 46), (.int 113), (.int 111), (.int 112)] (.int 0) := fx1305
                refine gw_new C 459 2 27 at_456 rfl rfl rfl (hq hw 3 rfl) (hq hw 4 rfl) (hq hw 5 rfl) (by decide) (by decide) ?_
                intro b1307 h1308 g1309 E1310 A1311 D1312
                have fx1313 : Fld Z h1308 b1307 "java/lang/String" "coder" "B" (.int 0) := D1312 (Or.inr (hq hw 34 rfl)) (ty := .byte) (by decide)
                have fx1314 : Fld Z h1308 b1307 "java/lang/String" "value" "[B" .null := D1312 (Or.inr (hq hw 36 rfl)) (ty := (.array .byte)) (by decide)
                refine gw_dup C 460 at_459 rfl rfl ?_
                refine gw_aload C 462 at_460 rfl rfl rfl ?_
                have fx1315 := (fx1306.ext E1310)
                refine gw_callI C (a := b1307) (argsL := [(.ref t386)]) (W := 1) at_462 rfl (hq hw 11 rfl) (hq hw 12 rfl) (hq hw 13 rfl) (by decide) pd___C_V (ct_str23 l Z a0 hw am (a := b1307) (b := t386) (kC := kC387) (c0 := (106 : Int32)) (c1 := (97 : Int32)) (c2 := (118 : Int32)) (c3 := (97 : Int32)) (c4 := (120 : Int32)) (c5 := (46 : Int32)) (c6 := (115 : Int32)) (c7 := (101 : Int32)) (c8 := (99 : Int32)) (c9 := (117 : Int32)) (c10 := (114 : Int32)) (c11 := (105 : Int32)) (c12 := (p2 &&& (255 : Int32))) (c13 := (121 : Int32)) (c14 := (46 : Int32)) (c15 := (115 : Int32)) (c16 := (97 : Int32)) (c17 := (115 : Int32)) (c18 := (108 : Int32)) (c19 := (46 : Int32)) (c20 := (113 : Int32)) (c21 := (111 : Int32)) (c22 := (112 : Int32)) A1311 fx1314 fx1313 fx1315 (by decide) (by decide) (by decide) (by decide) (by decide) (by decide) (by decide) (by decide) (by decide) (by decide) (by decide) (by decide) (and_small _ 255 (by decide)).2 (by decide) (by decide) (by decide) (by decide) (by decide) (by decide) (by decide) (by decide) (by decide) (by decide)) rfl (by decide) (Nat.le_of_eq rfl) (by decide) rfl (by decide) (by decide) (memsS (mi 0 rfl) mems0) ?_
                intro fv1316 h1317 K1318 fq1319
                obtain ⟨t1320, kB1321, rfl, fx1322, fx1323, fx1324, fx1325, fx1326⟩ := fq1319
                refine ⟨[t1320], (freshS ⟨fx1326, (fx1325).lt⟩ fresh0), ?_⟩
                show GoW l _ Z _ _ _ _ _ κ [t1320, b1307, t386] _ 465 _ [(.ref b1307)] 3 50
                refine gw_astore C 467 (Ls' := #[.val (.int p0), .val (.int p1), .val (.int p2), .val (.ref m), .val (.int ((XT.ushr p0 (1 : Int32)) &&& (7 : Int32))), .val (.int (p2 &&& (255 : Int32))), .val (.ref b1307), .unset, .val (.ref t386), .val (.int 12), .val (.int 116)]) at_465 rfl rfl rfl ?_
                refine gw_iload C 469 at_467 rfl rfl ?_
                refine gw_iload C 471 at_469 rfl rfl ?_
                by_cases hcq : (p2 &&& (255 : Int32)) = (116 : Int32)
                · skip
                  refine gw_icmpN C 474 at_471 rfl (teq hcq).2 ?_
                  refine gw_iconst C 475 (1 : Int32) at_474 rfl (by decide) ?_
                  refine gw_goto C (pc' := 479) at_475 (by decide) (by decide) ?_
                  refine gw_istore C 481 (Ls' := #[.val (.int p0), .val (.int p1), .val (.int p2), .val (.ref m), .val (.int ((XT.ushr p0 (1 : Int32)) &&& (7 : Int32))), .val (.int (p2 &&& (255 : Int32))), .val (.ref b1307), .val (.int 1), .val (.ref t386), .val (.int 12), .val (.int 116)]) at_479 rfl rfl ?_
                  refine gw_aloadN C 482 at_481 rfl rfl rfl ?_
                  refine gw_iconst C 483 (1 : Int32) at_482 rfl (by decide) ?_
                  refine gw_aload C 485 at_483 rfl rfl rfl ?_
                  refine gw_old ?_
                  intro O1327 zO1327
                  refine gw_callVW C hEL (a := m) (argsL := [(.int 1), (.ref b1307)]) (W := 0) at_485 (hq hw 37 rfl) (hq hw 38 rfl) (fun _ hZ => notFace_of_selects (args := #[]) (mvT hZ (hq hw 40 rfl))) (hq hw 40 rfl) (hq hw 39 rfl) (Exa.ext O1327 pm) (by decide) pd__ZLjava_lang_String__Ljava_lang_Object_ (ct_np23 l Z a0 hw am (m := m) (s := b1307) (t := t1320) (kt := kB1321) (x0 := (lo8 106)) (x1 := (lo8 97)) (x2 := (lo8 118)) (x3 := (lo8 97)) (x4 := (lo8 120)) (x5 := (lo8 46)) (x6 := (lo8 115)) (x7 := (lo8 101)) (x8 := (lo8 99)) (x9 := (lo8 117)) (x10 := (lo8 114)) (x11 := (lo8 105)) (x12 := (lo8 (p2 &&& (255 : Int32)))) (x13 := (lo8 121)) (x14 := (lo8 46)) (x15 := (lo8 115)) (x16 := (lo8 97)) (x17 := (lo8 115)) (x18 := (lo8 108)) (x19 := (lo8 46)) (x20 := (lo8 113)) (x21 := (lo8 111)) (x22 := (lo8 112)) fx1322 fx1323 fx1324 fx1325) rfl (by decide) (Nat.le_of_eq rfl) (by decide) rfl (by decide) (by decide) (memsS (mi 1 rfl) mems0) ?_
                  intro fv1328 h1329 K1330 fq1331
                  rcases fq1331 with ⟨a1332, u1333, ku1334, rfl, fx1335, fx1336, fx1337, fx1338, fx1339⟩ | ⟨rfl, fx1340⟩
                  · skip
                    show GoW l _ Z _ _ _ _ _ κ _ _ 488 _ [(.ref a1332)] 7 166
                    refine gw_astore C 490 (Ls' := #[.val (.int p0), .val (.int p1), .val (.int p2), .val (.ref m), .val (.int ((XT.ushr p0 (1 : Int32)) &&& (7 : Int32))), .val (.int (p2 &&& (255 : Int32))), .val (.ref b1307), .val (.int 1), .val (.ref a1332), .val (.int 12), .val (.int 116)]) at_488 rfl rfl rfl ?_
                    refine gw_iload C 492 at_490 rfl rfl ?_
                    refine gw_ifN C 495 at_492 rfl (feq ((by decide) : ¬ ((1 : Int32) = (0 : Int32)))).1 ?_
                    refine gw_aload C 497 at_495 rfl rfl rfl ?_
                    refine gw_ifnullN C 500 at_497 rfl ?_
                    refine gw_ldcS C hEL 502 9 186 (n := 16) (vs := [(.int 97), (.int 117), (.int 116), (.int 104)]) (zn := (4 : Int32)) at_500 rfl rfl rfl (hq hw 56 rfl) (wS hw) (List.mem_of_getElem? (i := 2) rfl) (by decide) (by decide) rfl (by decide) (by decide) (by decide) (by decide) ?_
                    intro sa1341 sb1342 k1343 h1344 E1345 fx1346 fx1347 fx1348 fx1349 fn1350
                    have fe1351 : t1320 ≠ sa1341 := (fn1350 _ (List.mem_of_getElem? (i := 0) rfl)).1
                    have fe1352 : t1320 ≠ sb1342 := (fn1350 _ (List.mem_of_getElem? (i := 0) rfl)).2
                    have fe1353 : b1307 ≠ sa1341 := (fn1350 _ (List.mem_of_getElem? (i := 1) rfl)).1
                    have fe1354 : b1307 ≠ sb1342 := (fn1350 _ (List.mem_of_getElem? (i := 1) rfl)).2
                    have fe1355 : t386 ≠ sa1341 := (fn1350 _ (List.mem_of_getElem? (i := 2) rfl)).1
                    have fe1356 : t386 ≠ sb1342 := (fn1350 _ (List.mem_of_getElem? (i := 2) rfl)).2
                    refine gw_aload C 504 at_502 rfl rfl rfl ?_
                    have fx1357 := (Exa.ext E1345 fx1335)
                    have fx1358 := (Fld.ext E1345 fx1336)
                    have fx1359 := (Fld.ext E1345 fx1337)
                    have fx1360 := (fx1338.ext E1345)
                    refine gw_callV C (a := sa1341) (argsL := [(.ref a1332)]) (W := 0) at_504 (hq hw 57 rfl) (hq hw 46 rfl) (fun _ hZ => notFace_of_selects (args := #[]) (mvT hZ (hq hw 48 rfl))) (hq hw 48 rfl) (hq hw 47 rfl) fx1346 (by decide) pd__Ljava_lang_Object__Z (ct_eq4 l Z a0 hw am (a := sa1341) (b := a1332) (t := sb1342) (u := u1333) (kt := k1343) (ku := ku1334) (x0 := (97 : Int32)) (x1 := (117 : Int32)) (x2 := (116 : Int32)) (x3 := (104 : Int32)) (y0 := (97 : Int32)) (y1 := (117 : Int32)) (y2 := (116 : Int32)) (y3 := (104 : Int32)) fx1346 fx1347 fx1348 fx1349 fx1357 fx1358 fx1359 fx1360 rfl rfl rfl rfl) rfl (by decide) (Nat.le_of_eq rfl) (by decide) rfl (by decide) (by decide) mems0 ?_
                    intro fv1361 h1362 K1363 fq1364
                    obtain ⟨rfl, rfl⟩ := fq1364
                    refine ⟨[], fresh0, ?_⟩
                    show GoW l _ Z _ _ _ _ _ κ _ _ 507 _ [(.int 1)] 9 186
                    refine gw_ifN C 510 at_507 rfl (feq ((by decide) : ¬ ((1 : Int32) = (0 : Int32)))).1 ?_
                    refine gw_iconst C 511 (1 : Int32) at_510 rfl (by decide) ?_
                    refine gw_goto C (pc' := 515) at_511 (by decide) (by decide) ?_
                    refine gw_retN C hEL (t := .boolean) (z := (1 : Int32)) at_515 rfl (by decide) (by decide) (by decide) (by decide) ?_
                    exact rfl
                  · skip
                    exact (fx1340 (by rw [hcq]; decide)).elim
                · skip
                  refine gw_icmpY C (pc' := 478) at_471 (feq hcq).2 (by decide) (by decide) ?_
                  refine gw_iconst C 479 (0 : Int32) at_478 rfl (by decide) ?_
                  refine gw_istore C 481 (Ls' := #[.val (.int p0), .val (.int p1), .val (.int p2), .val (.ref m), .val (.int ((XT.ushr p0 (1 : Int32)) &&& (7 : Int32))), .val (.int (p2 &&& (255 : Int32))), .val (.ref b1307), .val (.int 0), .val (.ref t386), .val (.int 12), .val (.int 116)]) at_479 rfl rfl ?_
                  refine gw_aloadN C 482 at_481 rfl rfl rfl ?_
                  refine gw_iconst C 483 (1 : Int32) at_482 rfl (by decide) ?_
                  refine gw_aload C 485 at_483 rfl rfl rfl ?_
                  refine gw_old ?_
                  intro O1365 zO1365
                  refine gw_callVW C hEL (a := m) (argsL := [(.int 1), (.ref b1307)]) (W := 0) at_485 (hq hw 37 rfl) (hq hw 38 rfl) (fun _ hZ => notFace_of_selects (args := #[]) (mvT hZ (hq hw 40 rfl))) (hq hw 40 rfl) (hq hw 39 rfl) (Exa.ext O1365 pm) (by decide) pd__ZLjava_lang_String__Ljava_lang_Object_ (ct_np23 l Z a0 hw am (m := m) (s := b1307) (t := t1320) (kt := kB1321) (x0 := (lo8 106)) (x1 := (lo8 97)) (x2 := (lo8 118)) (x3 := (lo8 97)) (x4 := (lo8 120)) (x5 := (lo8 46)) (x6 := (lo8 115)) (x7 := (lo8 101)) (x8 := (lo8 99)) (x9 := (lo8 117)) (x10 := (lo8 114)) (x11 := (lo8 105)) (x12 := (lo8 (p2 &&& (255 : Int32)))) (x13 := (lo8 121)) (x14 := (lo8 46)) (x15 := (lo8 115)) (x16 := (lo8 97)) (x17 := (lo8 115)) (x18 := (lo8 108)) (x19 := (lo8 46)) (x20 := (lo8 113)) (x21 := (lo8 111)) (x22 := (lo8 112)) fx1322 fx1323 fx1324 fx1325) rfl (by decide) (Nat.le_of_eq rfl) (by decide) rfl (by decide) (by decide) (memsS (mi 1 rfl) mems0) ?_
                  intro fv1366 h1367 K1368 fq1369
                  rcases fq1369 with ⟨a1370, u1371, ku1372, rfl, fx1373, fx1374, fx1375, fx1376, fx1377⟩ | ⟨rfl, fx1378⟩
                  · skip
                    exact (hcq ((lo8_mask (chr_and255 p2).1 (and_small _ 255 (by decide)).2).symm.trans (by rw [← fx1377.2.2.2.2.2.2.2.2.2.2.2.2.1]; decide))).elim
                  · skip
                    show GoW l _ Z _ _ _ _ _ κ _ _ 488 _ [.null] 7 166
                    refine gw_astore C 490 (Ls' := #[.val (.int p0), .val (.int p1), .val (.int p2), .val (.ref m), .val (.int ((XT.ushr p0 (1 : Int32)) &&& (7 : Int32))), .val (.int (p2 &&& (255 : Int32))), .val (.ref b1307), .val (.int 0), .val .null, .val (.int 12), .val (.int 116)]) at_488 rfl rfl rfl ?_
                    refine gw_iload C 492 at_490 rfl rfl ?_
                    refine gw_ifY C (pc' := 516) at_492 (teq ((by decide) : (0 : Int32) = (0 : Int32))).1 (by decide) (by decide) ?_
                    refine gw_aload C 518 at_516 rfl rfl rfl ?_
                    refine gw_ifnonnullN C 521 at_518 rfl ?_
                    refine gw_iconst C 522 (1 : Int32) at_521 rfl (by decide) ?_
                    refine gw_goto C (pc' := 526) at_522 (by decide) (by decide) ?_
                    refine gw_retN C hEL (t := .boolean) (z := (1 : Int32)) at_526 rfl (by decide) (by decide) (by decide) (by decide) ?_
                    exact rfl
              · skip
                refine gw_irem C 440 (13 : Int32) at_439 rfl (by decide) ec390 ?_
                refine gw_istore C 442 (Ls' := #[.val (.int p0), .val (.int p1), .val (.int p2), .val (.ref m), .val (.int ((XT.ushr p0 (1 : Int32)) &&& (7 : Int32))), .val (.int (p2 &&& (255 : Int32))), .unset, .unset, .val (.ref t386), .val (.int 13), .unset]) at_440 rfl rfl ?_
                refine gw_aload C 444 at_442 rfl rfl rfl ?_
                refine gw_iload C 446 at_444 rfl rfl ?_
                refine gw_caload C 447 (v := (.int 121)) at_446 rfl fx388 (by decide) rfl ?_
                refine gw_istore C 449 (Ls' := #[.val (.int p0), .val (.int p1), .val (.int p2), .val (.ref m), .val (.int ((XT.ushr p0 (1 : Int32)) &&& (7 : Int32))), .val (.int (p2 &&& (255 : Int32))), .unset, .unset, .val (.ref t386), .val (.int 13), .val (.int 121)]) at_447 rfl rfl ?_
                refine gw_aload C 451 at_449 rfl rfl rfl ?_
                refine gw_iload C 453 at_451 rfl rfl ?_
                refine gw_iload C 455 at_453 rfl rfl ?_
                refine gw_castore C 456 13 (v := (p2 &&& (255 : Int32))) (chr_and255 _).nar at_455 rfl fx388 (by decide) rfl (nble rfl) (mi 0 rfl) ?_
                intro h1379 W1380 fx1381
                have fx1382 : Arv Z h1379 t386 kC387 .char (23 : Int32) [(.int 106), (.int 97), (.int 118), (.int 97), (.int 120), (.int 46), (.int 115), (.int 101), (.int 99), (.int 117), (.int 114), (.int 105), (.int 116), (.int (p2 &&& (255 : Int32))), (.int 46), (.int 115), (.int 97), (.int 115), (.int 108), (.int 46), (.int 113), (.int 111), (.int 112)] (.int 0) := fx1381
                refine gw_new C 459 2 27 at_456 rfl rfl rfl (hq hw 3 rfl) (hq hw 4 rfl) (hq hw 5 rfl) (by decide) (by decide) ?_
                intro b1383 h1384 g1385 E1386 A1387 D1388
                have fx1389 : Fld Z h1384 b1383 "java/lang/String" "coder" "B" (.int 0) := D1388 (Or.inr (hq hw 34 rfl)) (ty := .byte) (by decide)
                have fx1390 : Fld Z h1384 b1383 "java/lang/String" "value" "[B" .null := D1388 (Or.inr (hq hw 36 rfl)) (ty := (.array .byte)) (by decide)
                refine gw_dup C 460 at_459 rfl rfl ?_
                refine gw_aload C 462 at_460 rfl rfl rfl ?_
                have fx1391 := (fx1382.ext E1386)
                refine gw_callI C (a := b1383) (argsL := [(.ref t386)]) (W := 1) at_462 rfl (hq hw 11 rfl) (hq hw 12 rfl) (hq hw 13 rfl) (by decide) pd___C_V (ct_str23 l Z a0 hw am (a := b1383) (b := t386) (kC := kC387) (c0 := (106 : Int32)) (c1 := (97 : Int32)) (c2 := (118 : Int32)) (c3 := (97 : Int32)) (c4 := (120 : Int32)) (c5 := (46 : Int32)) (c6 := (115 : Int32)) (c7 := (101 : Int32)) (c8 := (99 : Int32)) (c9 := (117 : Int32)) (c10 := (114 : Int32)) (c11 := (105 : Int32)) (c12 := (116 : Int32)) (c13 := (p2 &&& (255 : Int32))) (c14 := (46 : Int32)) (c15 := (115 : Int32)) (c16 := (97 : Int32)) (c17 := (115 : Int32)) (c18 := (108 : Int32)) (c19 := (46 : Int32)) (c20 := (113 : Int32)) (c21 := (111 : Int32)) (c22 := (112 : Int32)) A1387 fx1390 fx1389 fx1391 (by decide) (by decide) (by decide) (by decide) (by decide) (by decide) (by decide) (by decide) (by decide) (by decide) (by decide) (by decide) (by decide) (and_small _ 255 (by decide)).2 (by decide) (by decide) (by decide) (by decide) (by decide) (by decide) (by decide) (by decide) (by decide)) rfl (by decide) (Nat.le_of_eq rfl) (by decide) rfl (by decide) (by decide) (memsS (mi 0 rfl) mems0) ?_
                intro fv1392 h1393 K1394 fq1395
                obtain ⟨t1396, kB1397, rfl, fx1398, fx1399, fx1400, fx1401, fx1402⟩ := fq1395
                refine ⟨[t1396], (freshS ⟨fx1402, (fx1401).lt⟩ fresh0), ?_⟩
                show GoW l _ Z _ _ _ _ _ κ [t1396, b1383, t386] _ 465 _ [(.ref b1383)] 3 50
                refine gw_astore C 467 (Ls' := #[.val (.int p0), .val (.int p1), .val (.int p2), .val (.ref m), .val (.int ((XT.ushr p0 (1 : Int32)) &&& (7 : Int32))), .val (.int (p2 &&& (255 : Int32))), .val (.ref b1383), .unset, .val (.ref t386), .val (.int 13), .val (.int 121)]) at_465 rfl rfl rfl ?_
                refine gw_iload C 469 at_467 rfl rfl ?_
                refine gw_iload C 471 at_469 rfl rfl ?_
                by_cases hcq : (p2 &&& (255 : Int32)) = (121 : Int32)
                · skip
                  refine gw_icmpN C 474 at_471 rfl (teq hcq).2 ?_
                  refine gw_iconst C 475 (1 : Int32) at_474 rfl (by decide) ?_
                  refine gw_goto C (pc' := 479) at_475 (by decide) (by decide) ?_
                  refine gw_istore C 481 (Ls' := #[.val (.int p0), .val (.int p1), .val (.int p2), .val (.ref m), .val (.int ((XT.ushr p0 (1 : Int32)) &&& (7 : Int32))), .val (.int (p2 &&& (255 : Int32))), .val (.ref b1383), .val (.int 1), .val (.ref t386), .val (.int 13), .val (.int 121)]) at_479 rfl rfl ?_
                  refine gw_aloadN C 482 at_481 rfl rfl rfl ?_
                  refine gw_iconst C 483 (1 : Int32) at_482 rfl (by decide) ?_
                  refine gw_aload C 485 at_483 rfl rfl rfl ?_
                  refine gw_old ?_
                  intro O1403 zO1403
                  refine gw_callVW C hEL (a := m) (argsL := [(.int 1), (.ref b1383)]) (W := 0) at_485 (hq hw 37 rfl) (hq hw 38 rfl) (fun _ hZ => notFace_of_selects (args := #[]) (mvT hZ (hq hw 40 rfl))) (hq hw 40 rfl) (hq hw 39 rfl) (Exa.ext O1403 pm) (by decide) pd__ZLjava_lang_String__Ljava_lang_Object_ (ct_np23 l Z a0 hw am (m := m) (s := b1383) (t := t1396) (kt := kB1397) (x0 := (lo8 106)) (x1 := (lo8 97)) (x2 := (lo8 118)) (x3 := (lo8 97)) (x4 := (lo8 120)) (x5 := (lo8 46)) (x6 := (lo8 115)) (x7 := (lo8 101)) (x8 := (lo8 99)) (x9 := (lo8 117)) (x10 := (lo8 114)) (x11 := (lo8 105)) (x12 := (lo8 116)) (x13 := (lo8 (p2 &&& (255 : Int32)))) (x14 := (lo8 46)) (x15 := (lo8 115)) (x16 := (lo8 97)) (x17 := (lo8 115)) (x18 := (lo8 108)) (x19 := (lo8 46)) (x20 := (lo8 113)) (x21 := (lo8 111)) (x22 := (lo8 112)) fx1398 fx1399 fx1400 fx1401) rfl (by decide) (Nat.le_of_eq rfl) (by decide) rfl (by decide) (by decide) (memsS (mi 1 rfl) mems0) ?_
                  intro fv1404 h1405 K1406 fq1407
                  rcases fq1407 with ⟨a1408, u1409, ku1410, rfl, fx1411, fx1412, fx1413, fx1414, fx1415⟩ | ⟨rfl, fx1416⟩
                  · skip
                    show GoW l _ Z _ _ _ _ _ κ _ _ 488 _ [(.ref a1408)] 7 166
                    refine gw_astore C 490 (Ls' := #[.val (.int p0), .val (.int p1), .val (.int p2), .val (.ref m), .val (.int ((XT.ushr p0 (1 : Int32)) &&& (7 : Int32))), .val (.int (p2 &&& (255 : Int32))), .val (.ref b1383), .val (.int 1), .val (.ref a1408), .val (.int 13), .val (.int 121)]) at_488 rfl rfl rfl ?_
                    refine gw_iload C 492 at_490 rfl rfl ?_
                    refine gw_ifN C 495 at_492 rfl (feq ((by decide) : ¬ ((1 : Int32) = (0 : Int32)))).1 ?_
                    refine gw_aload C 497 at_495 rfl rfl rfl ?_
                    refine gw_ifnullN C 500 at_497 rfl ?_
                    refine gw_ldcS C hEL 502 9 186 (n := 16) (vs := [(.int 97), (.int 117), (.int 116), (.int 104)]) (zn := (4 : Int32)) at_500 rfl rfl rfl (hq hw 56 rfl) (wS hw) (List.mem_of_getElem? (i := 2) rfl) (by decide) (by decide) rfl (by decide) (by decide) (by decide) (by decide) ?_
                    intro sa1417 sb1418 k1419 h1420 E1421 fx1422 fx1423 fx1424 fx1425 fn1426
                    have fe1427 : t1396 ≠ sa1417 := (fn1426 _ (List.mem_of_getElem? (i := 0) rfl)).1
                    have fe1428 : t1396 ≠ sb1418 := (fn1426 _ (List.mem_of_getElem? (i := 0) rfl)).2
                    have fe1429 : b1383 ≠ sa1417 := (fn1426 _ (List.mem_of_getElem? (i := 1) rfl)).1
                    have fe1430 : b1383 ≠ sb1418 := (fn1426 _ (List.mem_of_getElem? (i := 1) rfl)).2
                    have fe1431 : t386 ≠ sa1417 := (fn1426 _ (List.mem_of_getElem? (i := 2) rfl)).1
                    have fe1432 : t386 ≠ sb1418 := (fn1426 _ (List.mem_of_getElem? (i := 2) rfl)).2
                    refine gw_aload C 504 at_502 rfl rfl rfl ?_
                    have fx1433 := (Exa.ext E1421 fx1411)
                    have fx1434 := (Fld.ext E1421 fx1412)
                    have fx1435 := (Fld.ext E1421 fx1413)
                    have fx1436 := (fx1414.ext E1421)
                    refine gw_callV C (a := sa1417) (argsL := [(.ref a1408)]) (W := 0) at_504 (hq hw 57 rfl) (hq hw 46 rfl) (fun _ hZ => notFace_of_selects (args := #[]) (mvT hZ (hq hw 48 rfl))) (hq hw 48 rfl) (hq hw 47 rfl) fx1422 (by decide) pd__Ljava_lang_Object__Z (ct_eq4 l Z a0 hw am (a := sa1417) (b := a1408) (t := sb1418) (u := u1409) (kt := k1419) (ku := ku1410) (x0 := (97 : Int32)) (x1 := (117 : Int32)) (x2 := (116 : Int32)) (x3 := (104 : Int32)) (y0 := (97 : Int32)) (y1 := (117 : Int32)) (y2 := (116 : Int32)) (y3 := (104 : Int32)) fx1422 fx1423 fx1424 fx1425 fx1433 fx1434 fx1435 fx1436 rfl rfl rfl rfl) rfl (by decide) (Nat.le_of_eq rfl) (by decide) rfl (by decide) (by decide) mems0 ?_
                    intro fv1437 h1438 K1439 fq1440
                    obtain ⟨rfl, rfl⟩ := fq1440
                    refine ⟨[], fresh0, ?_⟩
                    show GoW l _ Z _ _ _ _ _ κ _ _ 507 _ [(.int 1)] 9 186
                    refine gw_ifN C 510 at_507 rfl (feq ((by decide) : ¬ ((1 : Int32) = (0 : Int32)))).1 ?_
                    refine gw_iconst C 511 (1 : Int32) at_510 rfl (by decide) ?_
                    refine gw_goto C (pc' := 515) at_511 (by decide) (by decide) ?_
                    refine gw_retN C hEL (t := .boolean) (z := (1 : Int32)) at_515 rfl (by decide) (by decide) (by decide) (by decide) ?_
                    exact rfl
                  · skip
                    exact (fx1416 (by rw [hcq]; decide)).elim
                · skip
                  refine gw_icmpY C (pc' := 478) at_471 (feq hcq).2 (by decide) (by decide) ?_
                  refine gw_iconst C 479 (0 : Int32) at_478 rfl (by decide) ?_
                  refine gw_istore C 481 (Ls' := #[.val (.int p0), .val (.int p1), .val (.int p2), .val (.ref m), .val (.int ((XT.ushr p0 (1 : Int32)) &&& (7 : Int32))), .val (.int (p2 &&& (255 : Int32))), .val (.ref b1383), .val (.int 0), .val (.ref t386), .val (.int 13), .val (.int 121)]) at_479 rfl rfl ?_
                  refine gw_aloadN C 482 at_481 rfl rfl rfl ?_
                  refine gw_iconst C 483 (1 : Int32) at_482 rfl (by decide) ?_
                  refine gw_aload C 485 at_483 rfl rfl rfl ?_
                  refine gw_old ?_
                  intro O1441 zO1441
                  refine gw_callVW C hEL (a := m) (argsL := [(.int 1), (.ref b1383)]) (W := 0) at_485 (hq hw 37 rfl) (hq hw 38 rfl) (fun _ hZ => notFace_of_selects (args := #[]) (mvT hZ (hq hw 40 rfl))) (hq hw 40 rfl) (hq hw 39 rfl) (Exa.ext O1441 pm) (by decide) pd__ZLjava_lang_String__Ljava_lang_Object_ (ct_np23 l Z a0 hw am (m := m) (s := b1383) (t := t1396) (kt := kB1397) (x0 := (lo8 106)) (x1 := (lo8 97)) (x2 := (lo8 118)) (x3 := (lo8 97)) (x4 := (lo8 120)) (x5 := (lo8 46)) (x6 := (lo8 115)) (x7 := (lo8 101)) (x8 := (lo8 99)) (x9 := (lo8 117)) (x10 := (lo8 114)) (x11 := (lo8 105)) (x12 := (lo8 116)) (x13 := (lo8 (p2 &&& (255 : Int32)))) (x14 := (lo8 46)) (x15 := (lo8 115)) (x16 := (lo8 97)) (x17 := (lo8 115)) (x18 := (lo8 108)) (x19 := (lo8 46)) (x20 := (lo8 113)) (x21 := (lo8 111)) (x22 := (lo8 112)) fx1398 fx1399 fx1400 fx1401) rfl (by decide) (Nat.le_of_eq rfl) (by decide) rfl (by decide) (by decide) (memsS (mi 1 rfl) mems0) ?_
                  intro fv1442 h1443 K1444 fq1445
                  rcases fq1445 with ⟨a1446, u1447, ku1448, rfl, fx1449, fx1450, fx1451, fx1452, fx1453⟩ | ⟨rfl, fx1454⟩
                  · skip
                    exact (hcq ((lo8_mask (chr_and255 p2).1 (and_small _ 255 (by decide)).2).symm.trans (by rw [← fx1453.2.2.2.2.2.2.2.2.2.2.2.2.2.1]; decide))).elim
                  · skip
                    show GoW l _ Z _ _ _ _ _ κ _ _ 488 _ [.null] 7 166
                    refine gw_astore C 490 (Ls' := #[.val (.int p0), .val (.int p1), .val (.int p2), .val (.ref m), .val (.int ((XT.ushr p0 (1 : Int32)) &&& (7 : Int32))), .val (.int (p2 &&& (255 : Int32))), .val (.ref b1383), .val (.int 0), .val .null, .val (.int 13), .val (.int 121)]) at_488 rfl rfl rfl ?_
                    refine gw_iload C 492 at_490 rfl rfl ?_
                    refine gw_ifY C (pc' := 516) at_492 (teq ((by decide) : (0 : Int32) = (0 : Int32))).1 (by decide) (by decide) ?_
                    refine gw_aload C 518 at_516 rfl rfl rfl ?_
                    refine gw_ifnonnullN C 521 at_518 rfl ?_
                    refine gw_iconst C 522 (1 : Int32) at_521 rfl (by decide) ?_
                    refine gw_goto C (pc' := 526) at_522 (by decide) (by decide) ?_
                    refine gw_retN C hEL (t := .boolean) (z := (1 : Int32)) at_526 rfl (by decide) (by decide) (by decide) (by decide) ?_
                    exact rfl
              · skip
                refine gw_irem C 440 (14 : Int32) at_439 rfl (by decide) ec390 ?_
                refine gw_istore C 442 (Ls' := #[.val (.int p0), .val (.int p1), .val (.int p2), .val (.ref m), .val (.int ((XT.ushr p0 (1 : Int32)) &&& (7 : Int32))), .val (.int (p2 &&& (255 : Int32))), .unset, .unset, .val (.ref t386), .val (.int 14), .unset]) at_440 rfl rfl ?_
                refine gw_aload C 444 at_442 rfl rfl rfl ?_
                refine gw_iload C 446 at_444 rfl rfl ?_
                refine gw_caload C 447 (v := (.int 46)) at_446 rfl fx388 (by decide) rfl ?_
                refine gw_istore C 449 (Ls' := #[.val (.int p0), .val (.int p1), .val (.int p2), .val (.ref m), .val (.int ((XT.ushr p0 (1 : Int32)) &&& (7 : Int32))), .val (.int (p2 &&& (255 : Int32))), .unset, .unset, .val (.ref t386), .val (.int 14), .val (.int 46)]) at_447 rfl rfl ?_
                refine gw_aload C 451 at_449 rfl rfl rfl ?_
                refine gw_iload C 453 at_451 rfl rfl ?_
                refine gw_iload C 455 at_453 rfl rfl ?_
                refine gw_castore C 456 14 (v := (p2 &&& (255 : Int32))) (chr_and255 _).nar at_455 rfl fx388 (by decide) rfl (nble rfl) (mi 0 rfl) ?_
                intro h1455 W1456 fx1457
                have fx1458 : Arv Z h1455 t386 kC387 .char (23 : Int32) [(.int 106), (.int 97), (.int 118), (.int 97), (.int 120), (.int 46), (.int 115), (.int 101), (.int 99), (.int 117), (.int 114), (.int 105), (.int 116), (.int 121), (.int (p2 &&& (255 : Int32))), (.int 115), (.int 97), (.int 115), (.int 108), (.int 46), (.int 113), (.int 111), (.int 112)] (.int 0) := fx1457
                refine gw_new C 459 2 27 at_456 rfl rfl rfl (hq hw 3 rfl) (hq hw 4 rfl) (hq hw 5 rfl) (by decide) (by decide) ?_
                intro b1459 h1460 g1461 E1462 A1463 D1464
                have fx1465 : Fld Z h1460 b1459 "java/lang/String" "coder" "B" (.int 0) := D1464 (Or.inr (hq hw 34 rfl)) (ty := .byte) (by decide)
                have fx1466 : Fld Z h1460 b1459 "java/lang/String" "value" "[B" .null := D1464 (Or.inr (hq hw 36 rfl)) (ty := (.array .byte)) (by decide)
                refine gw_dup C 460 at_459 rfl rfl ?_
                refine gw_aload C 462 at_460 rfl rfl rfl ?_
                have fx1467 := (fx1458.ext E1462)
                refine gw_callI C (a := b1459) (argsL := [(.ref t386)]) (W := 1) at_462 rfl (hq hw 11 rfl) (hq hw 12 rfl) (hq hw 13 rfl) (by decide) pd___C_V (ct_str23 l Z a0 hw am (a := b1459) (b := t386) (kC := kC387) (c0 := (106 : Int32)) (c1 := (97 : Int32)) (c2 := (118 : Int32)) (c3 := (97 : Int32)) (c4 := (120 : Int32)) (c5 := (46 : Int32)) (c6 := (115 : Int32)) (c7 := (101 : Int32)) (c8 := (99 : Int32)) (c9 := (117 : Int32)) (c10 := (114 : Int32)) (c11 := (105 : Int32)) (c12 := (116 : Int32)) (c13 := (121 : Int32)) (c14 := (p2 &&& (255 : Int32))) (c15 := (115 : Int32)) (c16 := (97 : Int32)) (c17 := (115 : Int32)) (c18 := (108 : Int32)) (c19 := (46 : Int32)) (c20 := (113 : Int32)) (c21 := (111 : Int32)) (c22 := (112 : Int32)) A1463 fx1466 fx1465 fx1467 (by decide) (by decide) (by decide) (by decide) (by decide) (by decide) (by decide) (by decide) (by decide) (by decide) (by decide) (by decide) (by decide) (by decide) (and_small _ 255 (by decide)).2 (by decide) (by decide) (by decide) (by decide) (by decide) (by decide) (by decide) (by decide)) rfl (by decide) (Nat.le_of_eq rfl) (by decide) rfl (by decide) (by decide) (memsS (mi 0 rfl) mems0) ?_
                intro fv1468 h1469 K1470 fq1471
                obtain ⟨t1472, kB1473, rfl, fx1474, fx1475, fx1476, fx1477, fx1478⟩ := fq1471
                refine ⟨[t1472], (freshS ⟨fx1478, (fx1477).lt⟩ fresh0), ?_⟩
                show GoW l _ Z _ _ _ _ _ κ [t1472, b1459, t386] _ 465 _ [(.ref b1459)] 3 50
                refine gw_astore C 467 (Ls' := #[.val (.int p0), .val (.int p1), .val (.int p2), .val (.ref m), .val (.int ((XT.ushr p0 (1 : Int32)) &&& (7 : Int32))), .val (.int (p2 &&& (255 : Int32))), .val (.ref b1459), .unset, .val (.ref t386), .val (.int 14), .val (.int 46)]) at_465 rfl rfl rfl ?_
                refine gw_iload C 469 at_467 rfl rfl ?_
                refine gw_iload C 471 at_469 rfl rfl ?_
                by_cases hcq : (p2 &&& (255 : Int32)) = (46 : Int32)
                · skip
                  refine gw_icmpN C 474 at_471 rfl (teq hcq).2 ?_
                  refine gw_iconst C 475 (1 : Int32) at_474 rfl (by decide) ?_
                  refine gw_goto C (pc' := 479) at_475 (by decide) (by decide) ?_
                  refine gw_istore C 481 (Ls' := #[.val (.int p0), .val (.int p1), .val (.int p2), .val (.ref m), .val (.int ((XT.ushr p0 (1 : Int32)) &&& (7 : Int32))), .val (.int (p2 &&& (255 : Int32))), .val (.ref b1459), .val (.int 1), .val (.ref t386), .val (.int 14), .val (.int 46)]) at_479 rfl rfl ?_
                  refine gw_aloadN C 482 at_481 rfl rfl rfl ?_
                  refine gw_iconst C 483 (1 : Int32) at_482 rfl (by decide) ?_
                  refine gw_aload C 485 at_483 rfl rfl rfl ?_
                  refine gw_old ?_
                  intro O1479 zO1479
                  refine gw_callVW C hEL (a := m) (argsL := [(.int 1), (.ref b1459)]) (W := 0) at_485 (hq hw 37 rfl) (hq hw 38 rfl) (fun _ hZ => notFace_of_selects (args := #[]) (mvT hZ (hq hw 40 rfl))) (hq hw 40 rfl) (hq hw 39 rfl) (Exa.ext O1479 pm) (by decide) pd__ZLjava_lang_String__Ljava_lang_Object_ (ct_np23 l Z a0 hw am (m := m) (s := b1459) (t := t1472) (kt := kB1473) (x0 := (lo8 106)) (x1 := (lo8 97)) (x2 := (lo8 118)) (x3 := (lo8 97)) (x4 := (lo8 120)) (x5 := (lo8 46)) (x6 := (lo8 115)) (x7 := (lo8 101)) (x8 := (lo8 99)) (x9 := (lo8 117)) (x10 := (lo8 114)) (x11 := (lo8 105)) (x12 := (lo8 116)) (x13 := (lo8 121)) (x14 := (lo8 (p2 &&& (255 : Int32)))) (x15 := (lo8 115)) (x16 := (lo8 97)) (x17 := (lo8 115)) (x18 := (lo8 108)) (x19 := (lo8 46)) (x20 := (lo8 113)) (x21 := (lo8 111)) (x22 := (lo8 112)) fx1474 fx1475 fx1476 fx1477) rfl (by decide) (Nat.le_of_eq rfl) (by decide) rfl (by decide) (by decide) (memsS (mi 1 rfl) mems0) ?_
                  intro fv1480 h1481 K1482 fq1483
                  rcases fq1483 with ⟨a1484, u1485, ku1486, rfl, fx1487, fx1488, fx1489, fx1490, fx1491⟩ | ⟨rfl, fx1492⟩
                  · skip
                    show GoW l _ Z _ _ _ _ _ κ _ _ 488 _ [(.ref a1484)] 7 166
                    refine gw_astore C 490 (Ls' := #[.val (.int p0), .val (.int p1), .val (.int p2), .val (.ref m), .val (.int ((XT.ushr p0 (1 : Int32)) &&& (7 : Int32))), .val (.int (p2 &&& (255 : Int32))), .val (.ref b1459), .val (.int 1), .val (.ref a1484), .val (.int 14), .val (.int 46)]) at_488 rfl rfl rfl ?_
                    refine gw_iload C 492 at_490 rfl rfl ?_
                    refine gw_ifN C 495 at_492 rfl (feq ((by decide) : ¬ ((1 : Int32) = (0 : Int32)))).1 ?_
                    refine gw_aload C 497 at_495 rfl rfl rfl ?_
                    refine gw_ifnullN C 500 at_497 rfl ?_
                    refine gw_ldcS C hEL 502 9 186 (n := 16) (vs := [(.int 97), (.int 117), (.int 116), (.int 104)]) (zn := (4 : Int32)) at_500 rfl rfl rfl (hq hw 56 rfl) (wS hw) (List.mem_of_getElem? (i := 2) rfl) (by decide) (by decide) rfl (by decide) (by decide) (by decide) (by decide) ?_
                    intro sa1493 sb1494 k1495 h1496 E1497 fx1498 fx1499 fx1500 fx1501 fn1502
                    have fe1503 : t1472 ≠ sa1493 := (fn1502 _ (List.mem_of_getElem? (i := 0) rfl)).1
                    have fe1504 : t1472 ≠ sb1494 := (fn1502 _ (List.mem_of_getElem? (i := 0) rfl)).2
                    have fe1505 : b1459 ≠ sa1493 := (fn1502 _ (List.mem_of_getElem? (i := 1) rfl)).1
                    have fe1506 : b1459 ≠ sb1494 := (fn1502 _ (List.mem_of_getElem? (i := 1) rfl)).2
                    have fe1507 : t386 ≠ sa1493 := (fn1502 _ (List.mem_of_getElem? (i := 2) rfl)).1
                    have fe1508 : t386 ≠ sb1494 := (fn1502 _ (List.mem_of_getElem? (i := 2) rfl)).2
                    refine gw_aload C 504 at_502 rfl rfl rfl ?_
                    have fx1509 := (Exa.ext E1497 fx1487)
                    have fx1510 := (Fld.ext E1497 fx1488)
                    have fx1511 := (Fld.ext E1497 fx1489)
                    have fx1512 := (fx1490.ext E1497)
                    refine gw_callV C (a := sa1493) (argsL := [(.ref a1484)]) (W := 0) at_504 (hq hw 57 rfl) (hq hw 46 rfl) (fun _ hZ => notFace_of_selects (args := #[]) (mvT hZ (hq hw 48 rfl))) (hq hw 48 rfl) (hq hw 47 rfl) fx1498 (by decide) pd__Ljava_lang_Object__Z (ct_eq4 l Z a0 hw am (a := sa1493) (b := a1484) (t := sb1494) (u := u1485) (kt := k1495) (ku := ku1486) (x0 := (97 : Int32)) (x1 := (117 : Int32)) (x2 := (116 : Int32)) (x3 := (104 : Int32)) (y0 := (97 : Int32)) (y1 := (117 : Int32)) (y2 := (116 : Int32)) (y3 := (104 : Int32)) fx1498 fx1499 fx1500 fx1501 fx1509 fx1510 fx1511 fx1512 rfl rfl rfl rfl) rfl (by decide) (Nat.le_of_eq rfl) (by decide) rfl (by decide) (by decide) mems0 ?_
                    intro fv1513 h1514 K1515 fq1516
                    obtain ⟨rfl, rfl⟩ := fq1516
                    refine ⟨[], fresh0, ?_⟩
                    show GoW l _ Z _ _ _ _ _ κ _ _ 507 _ [(.int 1)] 9 186
                    refine gw_ifN C 510 at_507 rfl (feq ((by decide) : ¬ ((1 : Int32) = (0 : Int32)))).1 ?_
                    refine gw_iconst C 511 (1 : Int32) at_510 rfl (by decide) ?_
                    refine gw_goto C (pc' := 515) at_511 (by decide) (by decide) ?_
                    refine gw_retN C hEL (t := .boolean) (z := (1 : Int32)) at_515 rfl (by decide) (by decide) (by decide) (by decide) ?_
                    exact rfl
                  · skip
                    exact (fx1492 (by rw [hcq]; decide)).elim
                · skip
                  refine gw_icmpY C (pc' := 478) at_471 (feq hcq).2 (by decide) (by decide) ?_
                  refine gw_iconst C 479 (0 : Int32) at_478 rfl (by decide) ?_
                  refine gw_istore C 481 (Ls' := #[.val (.int p0), .val (.int p1), .val (.int p2), .val (.ref m), .val (.int ((XT.ushr p0 (1 : Int32)) &&& (7 : Int32))), .val (.int (p2 &&& (255 : Int32))), .val (.ref b1459), .val (.int 0), .val (.ref t386), .val (.int 14), .val (.int 46)]) at_479 rfl rfl ?_
                  refine gw_aloadN C 482 at_481 rfl rfl rfl ?_
                  refine gw_iconst C 483 (1 : Int32) at_482 rfl (by decide) ?_
                  refine gw_aload C 485 at_483 rfl rfl rfl ?_
                  refine gw_old ?_
                  intro O1517 zO1517
                  refine gw_callVW C hEL (a := m) (argsL := [(.int 1), (.ref b1459)]) (W := 0) at_485 (hq hw 37 rfl) (hq hw 38 rfl) (fun _ hZ => notFace_of_selects (args := #[]) (mvT hZ (hq hw 40 rfl))) (hq hw 40 rfl) (hq hw 39 rfl) (Exa.ext O1517 pm) (by decide) pd__ZLjava_lang_String__Ljava_lang_Object_ (ct_np23 l Z a0 hw am (m := m) (s := b1459) (t := t1472) (kt := kB1473) (x0 := (lo8 106)) (x1 := (lo8 97)) (x2 := (lo8 118)) (x3 := (lo8 97)) (x4 := (lo8 120)) (x5 := (lo8 46)) (x6 := (lo8 115)) (x7 := (lo8 101)) (x8 := (lo8 99)) (x9 := (lo8 117)) (x10 := (lo8 114)) (x11 := (lo8 105)) (x12 := (lo8 116)) (x13 := (lo8 121)) (x14 := (lo8 (p2 &&& (255 : Int32)))) (x15 := (lo8 115)) (x16 := (lo8 97)) (x17 := (lo8 115)) (x18 := (lo8 108)) (x19 := (lo8 46)) (x20 := (lo8 113)) (x21 := (lo8 111)) (x22 := (lo8 112)) fx1474 fx1475 fx1476 fx1477) rfl (by decide) (Nat.le_of_eq rfl) (by decide) rfl (by decide) (by decide) (memsS (mi 1 rfl) mems0) ?_
                  intro fv1518 h1519 K1520 fq1521
                  rcases fq1521 with ⟨a1522, u1523, ku1524, rfl, fx1525, fx1526, fx1527, fx1528, fx1529⟩ | ⟨rfl, fx1530⟩
                  · skip
                    exact (hcq ((lo8_mask (chr_and255 p2).1 (and_small _ 255 (by decide)).2).symm.trans (by rw [← fx1529.2.2.2.2.2.2.2.2.2.2.2.2.2.2.1]; decide))).elim
                  · skip
                    show GoW l _ Z _ _ _ _ _ κ _ _ 488 _ [.null] 7 166
                    refine gw_astore C 490 (Ls' := #[.val (.int p0), .val (.int p1), .val (.int p2), .val (.ref m), .val (.int ((XT.ushr p0 (1 : Int32)) &&& (7 : Int32))), .val (.int (p2 &&& (255 : Int32))), .val (.ref b1459), .val (.int 0), .val .null, .val (.int 14), .val (.int 46)]) at_488 rfl rfl rfl ?_
                    refine gw_iload C 492 at_490 rfl rfl ?_
                    refine gw_ifY C (pc' := 516) at_492 (teq ((by decide) : (0 : Int32) = (0 : Int32))).1 (by decide) (by decide) ?_
                    refine gw_aload C 518 at_516 rfl rfl rfl ?_
                    refine gw_ifnonnullN C 521 at_518 rfl ?_
                    refine gw_iconst C 522 (1 : Int32) at_521 rfl (by decide) ?_
                    refine gw_goto C (pc' := 526) at_522 (by decide) (by decide) ?_
                    refine gw_retN C hEL (t := .boolean) (z := (1 : Int32)) at_526 rfl (by decide) (by decide) (by decide) (by decide) ?_
                    exact rfl
              · skip
                refine gw_irem C 440 (15 : Int32) at_439 rfl (by decide) ec390 ?_
                refine gw_istore C 442 (Ls' := #[.val (.int p0), .val (.int p1), .val (.int p2), .val (.ref m), .val (.int ((XT.ushr p0 (1 : Int32)) &&& (7 : Int32))), .val (.int (p2 &&& (255 : Int32))), .unset, .unset, .val (.ref t386), .val (.int 15), .unset]) at_440 rfl rfl ?_
                refine gw_aload C 444 at_442 rfl rfl rfl ?_
                refine gw_iload C 446 at_444 rfl rfl ?_
                refine gw_caload C 447 (v := (.int 115)) at_446 rfl fx388 (by decide) rfl ?_
                refine gw_istore C 449 (Ls' := #[.val (.int p0), .val (.int p1), .val (.int p2), .val (.ref m), .val (.int ((XT.ushr p0 (1 : Int32)) &&& (7 : Int32))), .val (.int (p2 &&& (255 : Int32))), .unset, .unset, .val (.ref t386), .val (.int 15), .val (.int 115)]) at_447 rfl rfl ?_
                refine gw_aload C 451 at_449 rfl rfl rfl ?_
                refine gw_iload C 453 at_451 rfl rfl ?_
                refine gw_iload C 455 at_453 rfl rfl ?_
                refine gw_castore C 456 15 (v := (p2 &&& (255 : Int32))) (chr_and255 _).nar at_455 rfl fx388 (by decide) rfl (nble rfl) (mi 0 rfl) ?_
                intro h1531 W1532 fx1533
                have fx1534 : Arv Z h1531 t386 kC387 .char (23 : Int32) [(.int 106), (.int 97), (.int 118), (.int 97), (.int 120), (.int 46), (.int 115), (.int 101), (.int 99), (.int 117), (.int 114), (.int 105), (.int 116), (.int 121), (.int 46), (.int (p2 &&& (255 : Int32))), (.int 97), (.int 115), (.int 108), (.int 46), (.int 113), (.int 111), (.int 112)] (.int 0) := fx1533
                refine gw_new C 459 2 27 at_456 rfl rfl rfl (hq hw 3 rfl) (hq hw 4 rfl) (hq hw 5 rfl) (by decide) (by decide) ?_
                intro b1535 h1536 g1537 E1538 A1539 D1540
                have fx1541 : Fld Z h1536 b1535 "java/lang/String" "coder" "B" (.int 0) := D1540 (Or.inr (hq hw 34 rfl)) (ty := .byte) (by decide)
                have fx1542 : Fld Z h1536 b1535 "java/lang/String" "value" "[B" .null := D1540 (Or.inr (hq hw 36 rfl)) (ty := (.array .byte)) (by decide)
                refine gw_dup C 460 at_459 rfl rfl ?_
                refine gw_aload C 462 at_460 rfl rfl rfl ?_
                have fx1543 := (fx1534.ext E1538)
                refine gw_callI C (a := b1535) (argsL := [(.ref t386)]) (W := 1) at_462 rfl (hq hw 11 rfl) (hq hw 12 rfl) (hq hw 13 rfl) (by decide) pd___C_V (ct_str23 l Z a0 hw am (a := b1535) (b := t386) (kC := kC387) (c0 := (106 : Int32)) (c1 := (97 : Int32)) (c2 := (118 : Int32)) (c3 := (97 : Int32)) (c4 := (120 : Int32)) (c5 := (46 : Int32)) (c6 := (115 : Int32)) (c7 := (101 : Int32)) (c8 := (99 : Int32)) (c9 := (117 : Int32)) (c10 := (114 : Int32)) (c11 := (105 : Int32)) (c12 := (116 : Int32)) (c13 := (121 : Int32)) (c14 := (46 : Int32)) (c15 := (p2 &&& (255 : Int32))) (c16 := (97 : Int32)) (c17 := (115 : Int32)) (c18 := (108 : Int32)) (c19 := (46 : Int32)) (c20 := (113 : Int32)) (c21 := (111 : Int32)) (c22 := (112 : Int32)) A1539 fx1542 fx1541 fx1543 (by decide) (by decide) (by decide) (by decide) (by decide) (by decide) (by decide) (by decide) (by decide) (by decide) (by decide) (by decide) (by decide) (by decide) (by decide) (and_small _ 255 (by decide)).2 (by decide) (by decide) (by decide) (by decide) (by decide) (by decide) (by decide)) rfl (by decide) (Nat.le_of_eq rfl) (by decide) rfl (by decide) (by decide) (memsS (mi 0 rfl) mems0) ?_
                intro fv1544 h1545 K1546 fq1547
                obtain ⟨t1548, kB1549, rfl, fx1550, fx1551, fx1552, fx1553, fx1554⟩ := fq1547
                refine ⟨[t1548], (freshS ⟨fx1554, (fx1553).lt⟩ fresh0), ?_⟩
                show GoW l _ Z _ _ _ _ _ κ [t1548, b1535, t386] _ 465 _ [(.ref b1535)] 3 50
                refine gw_astore C 467 (Ls' := #[.val (.int p0), .val (.int p1), .val (.int p2), .val (.ref m), .val (.int ((XT.ushr p0 (1 : Int32)) &&& (7 : Int32))), .val (.int (p2 &&& (255 : Int32))), .val (.ref b1535), .unset, .val (.ref t386), .val (.int 15), .val (.int 115)]) at_465 rfl rfl rfl ?_
                refine gw_iload C 469 at_467 rfl rfl ?_
                refine gw_iload C 471 at_469 rfl rfl ?_
                by_cases hcq : (p2 &&& (255 : Int32)) = (115 : Int32)
                · skip
                  refine gw_icmpN C 474 at_471 rfl (teq hcq).2 ?_
                  refine gw_iconst C 475 (1 : Int32) at_474 rfl (by decide) ?_
                  refine gw_goto C (pc' := 479) at_475 (by decide) (by decide) ?_
                  refine gw_istore C 481 (Ls' := #[.val (.int p0), .val (.int p1), .val (.int p2), .val (.ref m), .val (.int ((XT.ushr p0 (1 : Int32)) &&& (7 : Int32))), .val (.int (p2 &&& (255 : Int32))), .val (.ref b1535), .val (.int 1), .val (.ref t386), .val (.int 15), .val (.int 115)]) at_479 rfl rfl ?_
                  refine gw_aloadN C 482 at_481 rfl rfl rfl ?_
                  refine gw_iconst C 483 (1 : Int32) at_482 rfl (by decide) ?_
                  refine gw_aload C 485 at_483 rfl rfl rfl ?_
                  refine gw_old ?_
                  intro O1555 zO1555
                  refine gw_callVW C hEL (a := m) (argsL := [(.int 1), (.ref b1535)]) (W := 0) at_485 (hq hw 37 rfl) (hq hw 38 rfl) (fun _ hZ => notFace_of_selects (args := #[]) (mvT hZ (hq hw 40 rfl))) (hq hw 40 rfl) (hq hw 39 rfl) (Exa.ext O1555 pm) (by decide) pd__ZLjava_lang_String__Ljava_lang_Object_ (ct_np23 l Z a0 hw am (m := m) (s := b1535) (t := t1548) (kt := kB1549) (x0 := (lo8 106)) (x1 := (lo8 97)) (x2 := (lo8 118)) (x3 := (lo8 97)) (x4 := (lo8 120)) (x5 := (lo8 46)) (x6 := (lo8 115)) (x7 := (lo8 101)) (x8 := (lo8 99)) (x9 := (lo8 117)) (x10 := (lo8 114)) (x11 := (lo8 105)) (x12 := (lo8 116)) (x13 := (lo8 121)) (x14 := (lo8 46)) (x15 := (lo8 (p2 &&& (255 : Int32)))) (x16 := (lo8 97)) (x17 := (lo8 115)) (x18 := (lo8 108)) (x19 := (lo8 46)) (x20 := (lo8 113)) (x21 := (lo8 111)) (x22 := (lo8 112)) fx1550 fx1551 fx1552 fx1553) rfl (by decide) (Nat.le_of_eq rfl) (by decide) rfl (by decide) (by decide) (memsS (mi 1 rfl) mems0) ?_
                  intro fv1556 h1557 K1558 fq1559
                  rcases fq1559 with ⟨a1560, u1561, ku1562, rfl, fx1563, fx1564, fx1565, fx1566, fx1567⟩ | ⟨rfl, fx1568⟩
                  · skip
                    show GoW l _ Z _ _ _ _ _ κ _ _ 488 _ [(.ref a1560)] 7 166
                    refine gw_astore C 490 (Ls' := #[.val (.int p0), .val (.int p1), .val (.int p2), .val (.ref m), .val (.int ((XT.ushr p0 (1 : Int32)) &&& (7 : Int32))), .val (.int (p2 &&& (255 : Int32))), .val (.ref b1535), .val (.int 1), .val (.ref a1560), .val (.int 15), .val (.int 115)]) at_488 rfl rfl rfl ?_
                    refine gw_iload C 492 at_490 rfl rfl ?_
                    refine gw_ifN C 495 at_492 rfl (feq ((by decide) : ¬ ((1 : Int32) = (0 : Int32)))).1 ?_
                    refine gw_aload C 497 at_495 rfl rfl rfl ?_
                    refine gw_ifnullN C 500 at_497 rfl ?_
                    refine gw_ldcS C hEL 502 9 186 (n := 16) (vs := [(.int 97), (.int 117), (.int 116), (.int 104)]) (zn := (4 : Int32)) at_500 rfl rfl rfl (hq hw 56 rfl) (wS hw) (List.mem_of_getElem? (i := 2) rfl) (by decide) (by decide) rfl (by decide) (by decide) (by decide) (by decide) ?_
                    intro sa1569 sb1570 k1571 h1572 E1573 fx1574 fx1575 fx1576 fx1577 fn1578
                    have fe1579 : t1548 ≠ sa1569 := (fn1578 _ (List.mem_of_getElem? (i := 0) rfl)).1
                    have fe1580 : t1548 ≠ sb1570 := (fn1578 _ (List.mem_of_getElem? (i := 0) rfl)).2
                    have fe1581 : b1535 ≠ sa1569 := (fn1578 _ (List.mem_of_getElem? (i := 1) rfl)).1
                    have fe1582 : b1535 ≠ sb1570 := (fn1578 _ (List.mem_of_getElem? (i := 1) rfl)).2
                    have fe1583 : t386 ≠ sa1569 := (fn1578 _ (List.mem_of_getElem? (i := 2) rfl)).1
                    have fe1584 : t386 ≠ sb1570 := (fn1578 _ (List.mem_of_getElem? (i := 2) rfl)).2
                    refine gw_aload C 504 at_502 rfl rfl rfl ?_
                    have fx1585 := (Exa.ext E1573 fx1563)
                    have fx1586 := (Fld.ext E1573 fx1564)
                    have fx1587 := (Fld.ext E1573 fx1565)
                    have fx1588 := (fx1566.ext E1573)
                    refine gw_callV C (a := sa1569) (argsL := [(.ref a1560)]) (W := 0) at_504 (hq hw 57 rfl) (hq hw 46 rfl) (fun _ hZ => notFace_of_selects (args := #[]) (mvT hZ (hq hw 48 rfl))) (hq hw 48 rfl) (hq hw 47 rfl) fx1574 (by decide) pd__Ljava_lang_Object__Z (ct_eq4 l Z a0 hw am (a := sa1569) (b := a1560) (t := sb1570) (u := u1561) (kt := k1571) (ku := ku1562) (x0 := (97 : Int32)) (x1 := (117 : Int32)) (x2 := (116 : Int32)) (x3 := (104 : Int32)) (y0 := (97 : Int32)) (y1 := (117 : Int32)) (y2 := (116 : Int32)) (y3 := (104 : Int32)) fx1574 fx1575 fx1576 fx1577 fx1585 fx1586 fx1587 fx1588 rfl rfl rfl rfl) rfl (by decide) (Nat.le_of_eq rfl) (by decide) rfl (by decide) (by decide) mems0 ?_
                    intro fv1589 h1590 K1591 fq1592
                    obtain ⟨rfl, rfl⟩ := fq1592
                    refine ⟨[], fresh0, ?_⟩
                    show GoW l _ Z _ _ _ _ _ κ _ _ 507 _ [(.int 1)] 9 186
                    refine gw_ifN C 510 at_507 rfl (feq ((by decide) : ¬ ((1 : Int32) = (0 : Int32)))).1 ?_
                    refine gw_iconst C 511 (1 : Int32) at_510 rfl (by decide) ?_
                    refine gw_goto C (pc' := 515) at_511 (by decide) (by decide) ?_
                    refine gw_retN C hEL (t := .boolean) (z := (1 : Int32)) at_515 rfl (by decide) (by decide) (by decide) (by decide) ?_
                    exact rfl
                  · skip
                    exact (fx1568 (by rw [hcq]; decide)).elim
                · skip
                  refine gw_icmpY C (pc' := 478) at_471 (feq hcq).2 (by decide) (by decide) ?_
                  refine gw_iconst C 479 (0 : Int32) at_478 rfl (by decide) ?_
                  refine gw_istore C 481 (Ls' := #[.val (.int p0), .val (.int p1), .val (.int p2), .val (.ref m), .val (.int ((XT.ushr p0 (1 : Int32)) &&& (7 : Int32))), .val (.int (p2 &&& (255 : Int32))), .val (.ref b1535), .val (.int 0), .val (.ref t386), .val (.int 15), .val (.int 115)]) at_479 rfl rfl ?_
                  refine gw_aloadN C 482 at_481 rfl rfl rfl ?_
                  refine gw_iconst C 483 (1 : Int32) at_482 rfl (by decide) ?_
                  refine gw_aload C 485 at_483 rfl rfl rfl ?_
                  refine gw_old ?_
                  intro O1593 zO1593
                  refine gw_callVW C hEL (a := m) (argsL := [(.int 1), (.ref b1535)]) (W := 0) at_485 (hq hw 37 rfl) (hq hw 38 rfl) (fun _ hZ => notFace_of_selects (args := #[]) (mvT hZ (hq hw 40 rfl))) (hq hw 40 rfl) (hq hw 39 rfl) (Exa.ext O1593 pm) (by decide) pd__ZLjava_lang_String__Ljava_lang_Object_ (ct_np23 l Z a0 hw am (m := m) (s := b1535) (t := t1548) (kt := kB1549) (x0 := (lo8 106)) (x1 := (lo8 97)) (x2 := (lo8 118)) (x3 := (lo8 97)) (x4 := (lo8 120)) (x5 := (lo8 46)) (x6 := (lo8 115)) (x7 := (lo8 101)) (x8 := (lo8 99)) (x9 := (lo8 117)) (x10 := (lo8 114)) (x11 := (lo8 105)) (x12 := (lo8 116)) (x13 := (lo8 121)) (x14 := (lo8 46)) (x15 := (lo8 (p2 &&& (255 : Int32)))) (x16 := (lo8 97)) (x17 := (lo8 115)) (x18 := (lo8 108)) (x19 := (lo8 46)) (x20 := (lo8 113)) (x21 := (lo8 111)) (x22 := (lo8 112)) fx1550 fx1551 fx1552 fx1553) rfl (by decide) (Nat.le_of_eq rfl) (by decide) rfl (by decide) (by decide) (memsS (mi 1 rfl) mems0) ?_
                  intro fv1594 h1595 K1596 fq1597
                  rcases fq1597 with ⟨a1598, u1599, ku1600, rfl, fx1601, fx1602, fx1603, fx1604, fx1605⟩ | ⟨rfl, fx1606⟩
                  · skip
                    exact (hcq ((lo8_mask (chr_and255 p2).1 (and_small _ 255 (by decide)).2).symm.trans (by rw [← fx1605.2.2.2.2.2.2.2.2.2.2.2.2.2.2.2.1]; decide))).elim
                  · skip
                    show GoW l _ Z _ _ _ _ _ κ _ _ 488 _ [.null] 7 166
                    refine gw_astore C 490 (Ls' := #[.val (.int p0), .val (.int p1), .val (.int p2), .val (.ref m), .val (.int ((XT.ushr p0 (1 : Int32)) &&& (7 : Int32))), .val (.int (p2 &&& (255 : Int32))), .val (.ref b1535), .val (.int 0), .val .null, .val (.int 15), .val (.int 115)]) at_488 rfl rfl rfl ?_
                    refine gw_iload C 492 at_490 rfl rfl ?_
                    refine gw_ifY C (pc' := 516) at_492 (teq ((by decide) : (0 : Int32) = (0 : Int32))).1 (by decide) (by decide) ?_
                    refine gw_aload C 518 at_516 rfl rfl rfl ?_
                    refine gw_ifnonnullN C 521 at_518 rfl ?_
                    refine gw_iconst C 522 (1 : Int32) at_521 rfl (by decide) ?_
                    refine gw_goto C (pc' := 526) at_522 (by decide) (by decide) ?_
                    refine gw_retN C hEL (t := .boolean) (z := (1 : Int32)) at_526 rfl (by decide) (by decide) (by decide) (by decide) ?_
                    exact rfl
              · skip
                refine gw_irem C 440 (16 : Int32) at_439 rfl (by decide) ec390 ?_
                refine gw_istore C 442 (Ls' := #[.val (.int p0), .val (.int p1), .val (.int p2), .val (.ref m), .val (.int ((XT.ushr p0 (1 : Int32)) &&& (7 : Int32))), .val (.int (p2 &&& (255 : Int32))), .unset, .unset, .val (.ref t386), .val (.int 16), .unset]) at_440 rfl rfl ?_
                refine gw_aload C 444 at_442 rfl rfl rfl ?_
                refine gw_iload C 446 at_444 rfl rfl ?_
                refine gw_caload C 447 (v := (.int 97)) at_446 rfl fx388 (by decide) rfl ?_
                refine gw_istore C 449 (Ls' := #[.val (.int p0), .val (.int p1), .val (.int p2), .val (.ref m), .val (.int ((XT.ushr p0 (1 : Int32)) &&& (7 : Int32))), .val (.int (p2 &&& (255 : Int32))), .unset, .unset, .val (.ref t386), .val (.int 16), .val (.int 97)]) at_447 rfl rfl ?_
                refine gw_aload C 451 at_449 rfl rfl rfl ?_
                refine gw_iload C 453 at_451 rfl rfl ?_
                refine gw_iload C 455 at_453 rfl rfl ?_
                refine gw_castore C 456 16 (v := (p2 &&& (255 : Int32))) (chr_and255 _).nar at_455 rfl fx388 (by decide) rfl (nble rfl) (mi 0 rfl) ?_
                intro h1607 W1608 fx1609
                have fx1610 : Arv Z h1607 t386 kC387 .char (23 : Int32) [(.int 106), (.int 97), (.int 118), (.int 97), (.int 120), (.int 46), (.int 115), (.int 101), (.int 99), (.int 117), (.int 114), (.int 105), (.int 116), (.int 121), (.int 46), (.int 115), (.int (p2 &&& (255 : Int32))), (.int 115), (.int 108), (.int 46), (.int 113), (.int 111), (.int 112)] (.int 0) := fx1609
                refine gw_new C 459 2 27 at_456 rfl rfl rfl (hq hw 3 rfl) (hq hw 4 rfl) (hq hw 5 rfl) (by decide) (by decide) ?_
                intro b1611 h1612 g1613 E1614 A1615 D1616
                have fx1617 : Fld Z h1612 b1611 "java/lang/String" "coder" "B" (.int 0) := D1616 (Or.inr (hq hw 34 rfl)) (ty := .byte) (by decide)
                have fx1618 : Fld Z h1612 b1611 "java/lang/String" "value" "[B" .null := D1616 (Or.inr (hq hw 36 rfl)) (ty := (.array .byte)) (by decide)
                refine gw_dup C 460 at_459 rfl rfl ?_
                refine gw_aload C 462 at_460 rfl rfl rfl ?_
                have fx1619 := (fx1610.ext E1614)
                refine gw_callI C (a := b1611) (argsL := [(.ref t386)]) (W := 1) at_462 rfl (hq hw 11 rfl) (hq hw 12 rfl) (hq hw 13 rfl) (by decide) pd___C_V (ct_str23 l Z a0 hw am (a := b1611) (b := t386) (kC := kC387) (c0 := (106 : Int32)) (c1 := (97 : Int32)) (c2 := (118 : Int32)) (c3 := (97 : Int32)) (c4 := (120 : Int32)) (c5 := (46 : Int32)) (c6 := (115 : Int32)) (c7 := (101 : Int32)) (c8 := (99 : Int32)) (c9 := (117 : Int32)) (c10 := (114 : Int32)) (c11 := (105 : Int32)) (c12 := (116 : Int32)) (c13 := (121 : Int32)) (c14 := (46 : Int32)) (c15 := (115 : Int32)) (c16 := (p2 &&& (255 : Int32))) (c17 := (115 : Int32)) (c18 := (108 : Int32)) (c19 := (46 : Int32)) (c20 := (113 : Int32)) (c21 := (111 : Int32)) (c22 := (112 : Int32)) A1615 fx1618 fx1617 fx1619 (by decide) (by decide) (by decide) (by decide) (by decide) (by decide) (by decide) (by decide) (by decide) (by decide) (by decide) (by decide) (by decide) (by decide) (by decide) (by decide) (and_small _ 255 (by decide)).2 (by decide) (by decide) (by decide) (by decide) (by decide) (by decide)) rfl (by decide) (Nat.le_of_eq rfl) (by decide) rfl (by decide) (by decide) (memsS (mi 0 rfl) mems0) ?_
                intro fv1620 h1621 K1622 fq1623
                obtain ⟨t1624, kB1625, rfl, fx1626, fx1627, fx1628, fx1629, fx1630⟩ := fq1623
                refine ⟨[t1624], (freshS ⟨fx1630, (fx1629).lt⟩ fresh0), ?_⟩
                show GoW l _ Z _ _ _ _ _ κ [t1624, b1611, t386] _ 465 _ [(.ref b1611)] 3 50
                refine gw_astore C 467 (Ls' := #[.val (.int p0), .val (.int p1), .val (.int p2), .val (.ref m), .val (.int ((XT.ushr p0 (1 : Int32)) &&& (7 : Int32))), .val (.int (p2 &&& (255 : Int32))), .val (.ref b1611), .unset, .val (.ref t386), .val (.int 16), .val (.int 97)]) at_465 rfl rfl rfl ?_
                refine gw_iload C 469 at_467 rfl rfl ?_
                refine gw_iload C 471 at_469 rfl rfl ?_
                by_cases hcq : (p2 &&& (255 : Int32)) = (97 : Int32)
                · skip
                  refine gw_icmpN C 474 at_471 rfl (teq hcq).2 ?_
                  refine gw_iconst C 475 (1 : Int32) at_474 rfl (by decide) ?_
                  refine gw_goto C (pc' := 479) at_475 (by decide) (by decide) ?_
                  refine gw_istore C 481 (Ls' := #[.val (.int p0), .val (.int p1), .val (.int p2), .val (.ref m), .val (.int ((XT.ushr p0 (1 : Int32)) &&& (7 : Int32))), .val (.int (p2 &&& (255 : Int32))), .val (.ref b1611), .val (.int 1), .val (.ref t386), .val (.int 16), .val (.int 97)]) at_479 rfl rfl ?_
                  refine gw_aloadN C 482 at_481 rfl rfl rfl ?_
                  refine gw_iconst C 483 (1 : Int32) at_482 rfl (by decide) ?_
                  refine gw_aload C 485 at_483 rfl rfl rfl ?_
                  refine gw_old ?_
                  intro O1631 zO1631
                  refine gw_callVW C hEL (a := m) (argsL := [(.int 1), (.ref b1611)]) (W := 0) at_485 (hq hw 37 rfl) (hq hw 38 rfl) (fun _ hZ => notFace_of_selects (args := #[]) (mvT hZ (hq hw 40 rfl))) (hq hw 40 rfl) (hq hw 39 rfl) (Exa.ext O1631 pm) (by decide) pd__ZLjava_lang_String__Ljava_lang_Object_ (ct_np23 l Z a0 hw am (m := m) (s := b1611) (t := t1624) (kt := kB1625) (x0 := (lo8 106)) (x1 := (lo8 97)) (x2 := (lo8 118)) (x3 := (lo8 97)) (x4 := (lo8 120)) (x5 := (lo8 46)) (x6 := (lo8 115)) (x7 := (lo8 101)) (x8 := (lo8 99)) (x9 := (lo8 117)) (x10 := (lo8 114)) (x11 := (lo8 105)) (x12 := (lo8 116)) (x13 := (lo8 121)) (x14 := (lo8 46)) (x15 := (lo8 115)) (x16 := (lo8 (p2 &&& (255 : Int32)))) (x17 := (lo8 115)) (x18 := (lo8 108)) (x19 := (lo8 46)) (x20 := (lo8 113)) (x21 := (lo8 111)) (x22 := (lo8 112)) fx1626 fx1627 fx1628 fx1629) rfl (by decide) (Nat.le_of_eq rfl) (by decide) rfl (by decide) (by decide) (memsS (mi 1 rfl) mems0) ?_
                  intro fv1632 h1633 K1634 fq1635
                  rcases fq1635 with ⟨a1636, u1637, ku1638, rfl, fx1639, fx1640, fx1641, fx1642, fx1643⟩ | ⟨rfl, fx1644⟩
                  · skip
                    show GoW l _ Z _ _ _ _ _ κ _ _ 488 _ [(.ref a1636)] 7 166
                    refine gw_astore C 490 (Ls' := #[.val (.int p0), .val (.int p1), .val (.int p2), .val (.ref m), .val (.int ((XT.ushr p0 (1 : Int32)) &&& (7 : Int32))), .val (.int (p2 &&& (255 : Int32))), .val (.ref b1611), .val (.int 1), .val (.ref a1636), .val (.int 16), .val (.int 97)]) at_488 rfl rfl rfl ?_
                    refine gw_iload C 492 at_490 rfl rfl ?_
                    refine gw_ifN C 495 at_492 rfl (feq ((by decide) : ¬ ((1 : Int32) = (0 : Int32)))).1 ?_
                    refine gw_aload C 497 at_495 rfl rfl rfl ?_
                    refine gw_ifnullN C 500 at_497 rfl ?_
                    refine gw_ldcS C hEL 502 9 186 (n := 16) (vs := [(.int 97), (.int 117), (.int 116), (.int 104)]) (zn := (4 : Int32)) at_500 rfl rfl rfl (hq hw 56 rfl) (wS hw) (List.mem_of_getElem? (i := 2) rfl) (by decide) (by decide) rfl (by decide) (by decide) (by decide) (by decide) ?_
                    intro sa1645 sb1646 k1647 h1648 E1649 fx1650 fx1651 fx1652 fx1653 fn1654
                    have fe1655 : t1624 ≠ sa1645 := (fn1654 _ (List.mem_of_getElem? (i := 0) rfl)).1
                    have fe1656 : t1624 ≠ sb1646 := (fn1654 _ (List.mem_of_getElem? (i := 0) rfl)).2
                    have fe1657 : b1611 ≠ sa1645 := (fn1654 _ (List.mem_of_getElem? (i := 1) rfl)).1
                    have fe1658 : b1611 ≠ sb1646 := (fn1654 _ (List.mem_of_getElem? (i := 1) rfl)).2
                    have fe1659 : t386 ≠ sa1645 := (fn1654 _ (List.mem_of_getElem? (i := 2) rfl)).1
                    have fe1660 : t386 ≠ sb1646 := (fn1654 _ (List.mem_of_getElem? (i := 2) rfl)).2
                    refine gw_aload C 504 at_502 rfl rfl rfl ?_
                    have fx1661 := (Exa.ext E1649 fx1639)
                    have fx1662 := (Fld.ext E1649 fx1640)
                    have fx1663 := (Fld.ext E1649 fx1641)
                    have fx1664 := (fx1642.ext E1649)
                    refine gw_callV C (a := sa1645) (argsL := [(.ref a1636)]) (W := 0) at_504 (hq hw 57 rfl) (hq hw 46 rfl) (fun _ hZ => notFace_of_selects (args := #[]) (mvT hZ (hq hw 48 rfl))) (hq hw 48 rfl) (hq hw 47 rfl) fx1650 (by decide) pd__Ljava_lang_Object__Z (ct_eq4 l Z a0 hw am (a := sa1645) (b := a1636) (t := sb1646) (u := u1637) (kt := k1647) (ku := ku1638) (x0 := (97 : Int32)) (x1 := (117 : Int32)) (x2 := (116 : Int32)) (x3 := (104 : Int32)) (y0 := (97 : Int32)) (y1 := (117 : Int32)) (y2 := (116 : Int32)) (y3 := (104 : Int32)) fx1650 fx1651 fx1652 fx1653 fx1661 fx1662 fx1663 fx1664 rfl rfl rfl rfl) rfl (by decide) (Nat.le_of_eq rfl) (by decide) rfl (by decide) (by decide) mems0 ?_
                    intro fv1665 h1666 K1667 fq1668
                    obtain ⟨rfl, rfl⟩ := fq1668
                    refine ⟨[], fresh0, ?_⟩
                    show GoW l _ Z _ _ _ _ _ κ _ _ 507 _ [(.int 1)] 9 186
                    refine gw_ifN C 510 at_507 rfl (feq ((by decide) : ¬ ((1 : Int32) = (0 : Int32)))).1 ?_
                    refine gw_iconst C 511 (1 : Int32) at_510 rfl (by decide) ?_
                    refine gw_goto C (pc' := 515) at_511 (by decide) (by decide) ?_
                    refine gw_retN C hEL (t := .boolean) (z := (1 : Int32)) at_515 rfl (by decide) (by decide) (by decide) (by decide) ?_
                    exact rfl
                  · skip
                    exact (fx1644 (by rw [hcq]; decide)).elim
                · skip
                  refine gw_icmpY C (pc' := 478) at_471 (feq hcq).2 (by decide) (by decide) ?_
                  refine gw_iconst C 479 (0 : Int32) at_478 rfl (by decide) ?_
                  refine gw_istore C 481 (Ls' := #[.val (.int p0), .val (.int p1), .val (.int p2), .val (.ref m), .val (.int ((XT.ushr p0 (1 : Int32)) &&& (7 : Int32))), .val (.int (p2 &&& (255 : Int32))), .val (.ref b1611), .val (.int 0), .val (.ref t386), .val (.int 16), .val (.int 97)]) at_479 rfl rfl ?_
                  refine gw_aloadN C 482 at_481 rfl rfl rfl ?_
                  refine gw_iconst C 483 (1 : Int32) at_482 rfl (by decide) ?_
                  refine gw_aload C 485 at_483 rfl rfl rfl ?_
                  refine gw_old ?_
                  intro O1669 zO1669
                  refine gw_callVW C hEL (a := m) (argsL := [(.int 1), (.ref b1611)]) (W := 0) at_485 (hq hw 37 rfl) (hq hw 38 rfl) (fun _ hZ => notFace_of_selects (args := #[]) (mvT hZ (hq hw 40 rfl))) (hq hw 40 rfl) (hq hw 39 rfl) (Exa.ext O1669 pm) (by decide) pd__ZLjava_lang_String__Ljava_lang_Object_ (ct_np23 l Z a0 hw am (m := m) (s := b1611) (t := t1624) (kt := kB1625) (x0 := (lo8 106)) (x1 := (lo8 97)) (x2 := (lo8 118)) (x3 := (lo8 97)) (x4 := (lo8 120)) (x5 := (lo8 46)) (x6 := (lo8 115)) (x7 := (lo8 101)) (x8 := (lo8 99)) (x9 := (lo8 117)) (x10 := (lo8 114)) (x11 := (lo8 105)) (x12 := (lo8 116)) (x13 := (lo8 121)) (x14 := (lo8 46)) (x15 := (lo8 115)) (x16 := (lo8 (p2 &&& (255 : Int32)))) (x17 := (lo8 115)) (x18 := (lo8 108)) (x19 := (lo8 46)) (x20 := (lo8 113)) (x21 := (lo8 111)) (x22 := (lo8 112)) fx1626 fx1627 fx1628 fx1629) rfl (by decide) (Nat.le_of_eq rfl) (by decide) rfl (by decide) (by decide) (memsS (mi 1 rfl) mems0) ?_
                  intro fv1670 h1671 K1672 fq1673
                  rcases fq1673 with ⟨a1674, u1675, ku1676, rfl, fx1677, fx1678, fx1679, fx1680, fx1681⟩ | ⟨rfl, fx1682⟩
                  · skip
                    exact (hcq ((lo8_mask (chr_and255 p2).1 (and_small _ 255 (by decide)).2).symm.trans (by rw [← fx1681.2.2.2.2.2.2.2.2.2.2.2.2.2.2.2.2.1]; decide))).elim
                  · skip
                    show GoW l _ Z _ _ _ _ _ κ _ _ 488 _ [.null] 7 166
                    refine gw_astore C 490 (Ls' := #[.val (.int p0), .val (.int p1), .val (.int p2), .val (.ref m), .val (.int ((XT.ushr p0 (1 : Int32)) &&& (7 : Int32))), .val (.int (p2 &&& (255 : Int32))), .val (.ref b1611), .val (.int 0), .val .null, .val (.int 16), .val (.int 97)]) at_488 rfl rfl rfl ?_
                    refine gw_iload C 492 at_490 rfl rfl ?_
                    refine gw_ifY C (pc' := 516) at_492 (teq ((by decide) : (0 : Int32) = (0 : Int32))).1 (by decide) (by decide) ?_
                    refine gw_aload C 518 at_516 rfl rfl rfl ?_
                    refine gw_ifnonnullN C 521 at_518 rfl ?_
                    refine gw_iconst C 522 (1 : Int32) at_521 rfl (by decide) ?_
                    refine gw_goto C (pc' := 526) at_522 (by decide) (by decide) ?_
                    refine gw_retN C hEL (t := .boolean) (z := (1 : Int32)) at_526 rfl (by decide) (by decide) (by decide) (by decide) ?_
                    exact rfl
              · skip
                refine gw_irem C 440 (17 : Int32) at_439 rfl (by decide) ec390 ?_
                refine gw_istore C 442 (Ls' := #[.val (.int p0), .val (.int p1), .val (.int p2), .val (.ref m), .val (.int ((XT.ushr p0 (1 : Int32)) &&& (7 : Int32))), .val (.int (p2 &&& (255 : Int32))), .unset, .unset, .val (.ref t386), .val (.int 17), .unset]) at_440 rfl rfl ?_
                refine gw_aload C 444 at_442 rfl rfl rfl ?_
                refine gw_iload C 446 at_444 rfl rfl ?_
                refine gw_caload C 447 (v := (.int 115)) at_446 rfl fx388 (by decide) rfl ?_
                refine gw_istore C 449 (Ls' := #[.val (.int p0), .val (.int p1), .val (.int p2), .val (.ref m), .val (.int ((XT.ushr p0 (1 : Int32)) &&& (7 : Int32))), .val (.int (p2 &&& (255 : Int32))), .unset, .unset, .val (.ref t386), .val (.int 17), .val (.int 115)]) at_447 rfl rfl ?_
                refine gw_aload C 451 at_449 rfl rfl rfl ?_
                refine gw_iload C 453 at_451 rfl rfl ?_
                refine gw_iload C 455 at_453 rfl rfl ?_
                refine gw_castore C 456 17 (v := (p2 &&& (255 : Int32))) (chr_and255 _).nar at_455 rfl fx388 (by decide) rfl (nble rfl) (mi 0 rfl) ?_
                intro h1683 W1684 fx1685
                have fx1686 : Arv Z h1683 t386 kC387 .char (23 : Int32) [(.int 106), (.int 97), (.int 118), (.int 97), (.int 120), (.int 46), (.int 115), (.int 101), (.int 99), (.int 117), (.int 114), (.int 105), (.int 116), (.int 121), (.int 46), (.int 115), (.int 97), (.int (p2 &&& (255 : Int32))), (.int 108), (.int 46), (.int 113), (.int 111), (.int 112)] (.int 0) := fx1685
                refine gw_new C 459 2 27 at_456 rfl rfl rfl (hq hw 3 rfl) (hq hw 4 rfl) (hq hw 5 rfl) (by decide) (by decide) ?_
                intro b1687 h1688 g1689 E1690 A1691 D1692
                have fx1693 : Fld Z h1688 b1687 "java/lang/String" "coder" "B" (.int 0) := D1692 (Or.inr (hq hw 34 rfl)) (ty := .byte) (by decide)
                have fx1694 : Fld Z h1688 b1687 "java/lang/String" "value" "[B" .null := D1692 (Or.inr (hq hw 36 rfl)) (ty := (.array .byte)) (by decide)
                refine gw_dup C 460 at_459 rfl rfl ?_
                refine gw_aload C 462 at_460 rfl rfl rfl ?_
                have fx1695 := (fx1686.ext E1690)
                refine gw_callI C (a := b1687) (argsL := [(.ref t386)]) (W := 1) at_462 rfl (hq hw 11 rfl) (hq hw 12 rfl) (hq hw 13 rfl) (by decide) pd___C_V (ct_str23 l Z a0 hw am (a := b1687) (b := t386) (kC := kC387) (c0 := (106 : Int32)) (c1 := (97 : Int32)) (c2 := (118 : Int32)) (c3 := (97 : Int32)) (c4 := (120 : Int32)) (c5 := (46 : Int32)) (c6 := (115 : Int32)) (c7 := (101 : Int32)) (c8 := (99 : Int32)) (c9 := (117 : Int32)) (c10 := (114 : Int32)) (c11 := (105 : Int32)) (c12 := (116 : Int32)) (c13 := (121 : Int32)) (c14 := (46 : Int32)) (c15 := (115 : Int32)) (c16 := (97 : Int32)) (c17 := (p2 &&& (255 : Int32))) (c18 := (108 : Int32)) (c19 := (46 : Int32)) (c20 := (113 : Int32)) (c21 := (111 : Int32)) (c22 := (112 : Int32)) A1691 fx1694 fx1693 fx1695 (by decide) (by decide) (by decide) (by decide) (by decide) (by decide) (by decide) (by decide) (by decide) (by decide) (by decide) (by decide) (by decide) (by decide) (by decide) (by decide) (by decide) (and_small _ 255 (by decide)).2 (by decide) (by decide) (by decide) (by decide) (by decide)) rfl (by decide) (Nat.le_of_eq rfl) (by decide) rfl (by decide) (by decide) (memsS (mi 0 rfl) mems0) ?_
                intro fv1696 h1697 K1698 fq1699
                obtain ⟨t1700, kB1701, rfl, fx1702, fx1703, fx1704, fx1705, fx1706⟩ := fq1699
                refine ⟨[t1700], (freshS ⟨fx1706, (fx1705).lt⟩ fresh0), ?_⟩
                show GoW l _ Z _ _ _ _ _ κ [t1700, b1687, t386] _ 465 _ [(.ref b1687)] 3 50
                refine gw_astore C 467 (Ls' := #[.val (.int p0), .val (.int p1), .val (.int p2), .val (.ref m), .val (.int ((XT.ushr p0 (1 : Int32)) &&& (7 : Int32))), .val (.int (p2 &&& (255 : Int32))), .val (.ref b1687), .unset, .val (.ref t386), .val (.int 17), .val (.int 115)]) at_465 rfl rfl rfl ?_
                refine gw_iload C 469 at_467 rfl rfl ?_
                refine gw_iload C 471 at_469 rfl rfl ?_
                by_cases hcq : (p2 &&& (255 : Int32)) = (115 : Int32)
                · skip
                  refine gw_icmpN C 474 at_471 rfl (teq hcq).2 ?_
                  refine gw_iconst C 475 (1 : Int32) at_474 rfl (by decide) ?_
                  refine gw_goto C (pc' := 479) at_475 (by decide) (by decide) ?_
                  refine gw_istore C 481 (Ls' := #[.val (.int p0), .val (.int p1), .val (.int p2), .val (.ref m), .val (.int ((XT.ushr p0 (1 : Int32)) &&& (7 : Int32))), .val (.int (p2 &&& (255 : Int32))), .val (.ref b1687), .val (.int 1), .val (.ref t386), .val (.int 17), .val (.int 115)]) at_479 rfl rfl ?_
                  refine gw_aloadN C 482 at_481 rfl rfl rfl ?_
                  refine gw_iconst C 483 (1 : Int32) at_482 rfl (by decide) ?_
                  refine gw_aload C 485 at_483 rfl rfl rfl ?_
                  refine gw_old ?_
                  intro O1707 zO1707
                  refine gw_callVW C hEL (a := m) (argsL := [(.int 1), (.ref b1687)]) (W := 0) at_485 (hq hw 37 rfl) (hq hw 38 rfl) (fun _ hZ => notFace_of_selects (args := #[]) (mvT hZ (hq hw 40 rfl))) (hq hw 40 rfl) (hq hw 39 rfl) (Exa.ext O1707 pm) (by decide) pd__ZLjava_lang_String__Ljava_lang_Object_ (ct_np23 l Z a0 hw am (m := m) (s := b1687) (t := t1700) (kt := kB1701) (x0 := (lo8 106)) (x1 := (lo8 97)) (x2 := (lo8 118)) (x3 := (lo8 97)) (x4 := (lo8 120)) (x5 := (lo8 46)) (x6 := (lo8 115)) (x7 := (lo8 101)) (x8 := (lo8 99)) (x9 := (lo8 117)) (x10 := (lo8 114)) (x11 := (lo8 105)) (x12 := (lo8 116)) (x13 := (lo8 121)) (x14 := (lo8 46)) (x15 := (lo8 115)) (x16 := (lo8 97)) (x17 := (lo8 (p2 &&& (255 : Int32)))) (x18 := (lo8 108)) (x19 := (lo8 46)) (x20 := (lo8 113)) (x21 := (lo8 111)) (x22 := (lo8 112)) fx1702 fx1703 fx1704 fx1705) rfl (by decide) (Nat.le_of_eq rfl) (by decide) rfl (by decide) (by decide) (memsS (mi 1 rfl) mems0) ?_
                  intro fv1708 h1709 K1710 fq1711
                  rcases fq1711 with ⟨a1712, u1713, ku1714, rfl, fx1715, fx1716, fx1717, fx1718, fx1719⟩ | ⟨rfl, fx1720⟩
                  · skip
                    show GoW l _ Z _ _ _ _ _ κ _ _ 488 _ [(.ref a1712)] 7 166
                    refine gw_astore C 490 (Ls' := #[.val (.int p0), .val (.int p1), .val (.int p2), .val (.ref m), .val (.int ((XT.ushr p0 (1 : Int32)) &&& (7 : Int32))), .val (.int (p2 &&& (255 : Int32))), .val (.ref b1687), .val (.int 1), .val (.ref a1712), .val (.int 17), .val (.int 115)]) at_488 rfl rfl rfl ?_
                    refine gw_iload C 492 at_490 rfl rfl ?_
                    refine gw_ifN C 495 at_492 rfl (feq ((by decide) : ¬ ((1 : Int32) = (0 : Int32)))).1 ?_
                    refine gw_aload C 497 at_495 rfl rfl rfl ?_
                    refine gw_ifnullN C 500 at_497 rfl ?_
                    refine gw_ldcS C hEL 502 9 186 (n := 16) (vs := [(.int 97), (.int 117), (.int 116), (.int 104)]) (zn := (4 : Int32)) at_500 rfl rfl rfl (hq hw 56 rfl) (wS hw) (List.mem_of_getElem? (i := 2) rfl) (by decide) (by decide) rfl (by decide) (by decide) (by decide) (by decide) ?_
                    intro sa1721 sb1722 k1723 h1724 E1725 fx1726 fx1727 fx1728 fx1729 fn1730
                    have fe1731 : t1700 ≠ sa1721 := (fn1730 _ (List.mem_of_getElem? (i := 0) rfl)).1
                    have fe1732 : t1700 ≠ sb1722 := (fn1730 _ (List.mem_of_getElem? (i := 0) rfl)).2
                    have fe1733 : b1687 ≠ sa1721 := (fn1730 _ (List.mem_of_getElem? (i := 1) rfl)).1
                    have fe1734 : b1687 ≠ sb1722 := (fn1730 _ (List.mem_of_getElem? (i := 1) rfl)).2
                    have fe1735 : t386 ≠ sa1721 := (fn1730 _ (List.mem_of_getElem? (i := 2) rfl)).1
                    have fe1736 : t386 ≠ sb1722 := (fn1730 _ (List.mem_of_getElem? (i := 2) rfl)).2
                    refine gw_aload C 504 at_502 rfl rfl rfl ?_
                    have fx1737 := (Exa.ext E1725 fx1715)
                    have fx1738 := (Fld.ext E1725 fx1716)
                    have fx1739 := (Fld.ext E1725 fx1717)
                    have fx1740 := (fx1718.ext E1725)
                    refine gw_callV C (a := sa1721) (argsL := [(.ref a1712)]) (W := 0) at_504 (hq hw 57 rfl) (hq hw 46 rfl) (fun _ hZ => notFace_of_selects (args := #[]) (mvT hZ (hq hw 48 rfl))) (hq hw 48 rfl) (hq hw 47 rfl) fx1726 (by decide) pd__Ljava_lang_Object__Z (ct_eq4 l Z a0 hw am (a := sa1721) (b := a1712) (t := sb1722) (u := u1713) (kt := k1723) (ku := ku1714) (x0 := (97 : Int32)) (x1 := (117 : Int32)) (x2 := (116 : Int32)) (x3 := (104 : Int32)) (y0 := (97 : Int32)) (y1 := (117 : Int32)) (y2 := (116 : Int32)) (y3 := (104 : Int32)) fx1726 fx1727 fx1728 fx1729 fx1737 fx1738 fx1739 fx1740 rfl rfl rfl rfl) rfl (by decide) (Nat.le_of_eq rfl) (by decide) rfl (by decide) (by decide) mems0 ?_
                    intro fv1741 h1742 K1743 fq1744
                    obtain ⟨rfl, rfl⟩ := fq1744
                    refine ⟨[], fresh0, ?_⟩
                    show GoW l _ Z _ _ _ _ _ κ _ _ 507 _ [(.int 1)] 9 186
                    refine gw_ifN C 510 at_507 rfl (feq ((by decide) : ¬ ((1 : Int32) = (0 : Int32)))).1 ?_
                    refine gw_iconst C 511 (1 : Int32) at_510 rfl (by decide) ?_
                    refine gw_goto C (pc' := 515) at_511 (by decide) (by decide) ?_
                    refine gw_retN C hEL (t := .boolean) (z := (1 : Int32)) at_515 rfl (by decide) (by decide) (by decide) (by decide) ?_
                    exact rfl
                  · skip
                    exact (fx1720 (by rw [hcq]; decide)).elim
                · skip
                  refine gw_icmpY C (pc' := 478) at_471 (feq hcq).2 (by decide) (by decide) ?_
                  refine gw_iconst C 479 (0 : Int32) at_478 rfl (by decide) ?_
                  refine gw_istore C 481 (Ls' := #[.val (.int p0), .val (.int p1), .val (.int p2), .val (.ref m), .val (.int ((XT.ushr p0 (1 : Int32)) &&& (7 : Int32))), .val (.int (p2 &&& (255 : Int32))), .val (.ref b1687), .val (.int 0), .val (.ref t386), .val (.int 17), .val (.int 115)]) at_479 rfl rfl ?_
                  refine gw_aloadN C 482 at_481 rfl rfl rfl ?_
                  refine gw_iconst C 483 (1 : Int32) at_482 rfl (by decide) ?_
                  refine gw_aload C 485 at_483 rfl rfl rfl ?_
                  refine gw_old ?_
                  intro O1745 zO1745
                  refine gw_callVW C hEL (a := m) (argsL := [(.int 1), (.ref b1687)]) (W := 0) at_485 (hq hw 37 rfl) (hq hw 38 rfl) (fun _ hZ => notFace_of_selects (args := #[]) (mvT hZ (hq hw 40 rfl))) (hq hw 40 rfl) (hq hw 39 rfl) (Exa.ext O1745 pm) (by decide) pd__ZLjava_lang_String__Ljava_lang_Object_ (ct_np23 l Z a0 hw am (m := m) (s := b1687) (t := t1700) (kt := kB1701) (x0 := (lo8 106)) (x1 := (lo8 97)) (x2 := (lo8 118)) (x3 := (lo8 97)) (x4 := (lo8 120)) (x5 := (lo8 46)) (x6 := (lo8 115)) (x7 := (lo8 101)) (x8 := (lo8 99)) (x9 := (lo8 117)) (x10 := (lo8 114)) (x11 := (lo8 105)) (x12 := (lo8 116)) (x13 := (lo8 121)) (x14 := (lo8 46)) (x15 := (lo8 115)) (x16 := (lo8 97)) (x17 := (lo8 (p2 &&& (255 : Int32)))) (x18 := (lo8 108)) (x19 := (lo8 46)) (x20 := (lo8 113)) (x21 := (lo8 111)) (x22 := (lo8 112)) fx1702 fx1703 fx1704 fx1705) rfl (by decide) (Nat.le_of_eq rfl) (by decide) rfl (by decide) (by decide) (memsS (mi 1 rfl) mems0) ?_
                  intro fv1746 h1747 K1748 fq1749
                  rcases fq1749 with ⟨a1750, u1751, ku1752, rfl, fx1753, fx1754, fx1755, fx1756, fx1757⟩ | ⟨rfl, fx1758⟩
                  · skip
                    exact (hcq ((lo8_mask (chr_and255 p2).1 (and_small _ 255 (by decide)).2).symm.trans (by rw [← fx1757.2.2.2.2.2.2.2.2.2.2.2.2.2.2.2.2.2.1]; decide))).elim
                  · skip
                    show GoW l _ Z _ _ _ _ _ κ _ _ 488 _ [.null] 7 166
                    refine gw_astore C 490 (Ls' := #[.val (.int p0), .val (.int p1), .val (.int p2), .val (.ref m), .val (.int ((XT.ushr p0 (1 : Int32)) &&& (7 : Int32))), .val (.int (p2 &&& (255 : Int32))), .val (.ref b1687), .val (.int 0), .val .null, .val (.int 17), .val (.int 115)]) at_488 rfl rfl rfl ?_
                    refine gw_iload C 492 at_490 rfl rfl ?_
                    refine gw_ifY C (pc' := 516) at_492 (teq ((by decide) : (0 : Int32) = (0 : Int32))).1 (by decide) (by decide) ?_
                    refine gw_aload C 518 at_516 rfl rfl rfl ?_
                    refine gw_ifnonnullN C 521 at_518 rfl ?_
                    refine gw_iconst C 522 (1 : Int32) at_521 rfl (by decide) ?_
                    refine gw_goto C (pc' := 526) at_522 (by decide) (by decide) ?_
                    refine gw_retN C hEL (t := .boolean) (z := (1 : Int32)) at_526 rfl (by decide) (by decide) (by decide) (by decide) ?_
                    exact rfl
              · skip
                refine gw_irem C 440 (18 : Int32) at_439 rfl (by decide) ec390 ?_
                refine gw_istore C 442 (Ls' := #[.val (.int p0), .val (.int p1), .val (.int p2), .val (.ref m), .val (.int ((XT.ushr p0 (1 : Int32)) &&& (7 : Int32))), .val (.int (p2 &&& (255 : Int32))), .unset, .unset, .val (.ref t386), .val (.int 18), .unset]) at_440 rfl rfl ?_
                refine gw_aload C 444 at_442 rfl rfl rfl ?_
                refine gw_iload C 446 at_444 rfl rfl ?_
                refine gw_caload C 447 (v := (.int 108)) at_446 rfl fx388 (by decide) rfl ?_
                refine gw_istore C 449 (Ls' := #[.val (.int p0), .val (.int p1), .val (.int p2), .val (.ref m), .val (.int ((XT.ushr p0 (1 : Int32)) &&& (7 : Int32))), .val (.int (p2 &&& (255 : Int32))), .unset, .unset, .val (.ref t386), .val (.int 18), .val (.int 108)]) at_447 rfl rfl ?_
                refine gw_aload C 451 at_449 rfl rfl rfl ?_
                refine gw_iload C 453 at_451 rfl rfl ?_
                refine gw_iload C 455 at_453 rfl rfl ?_
                refine gw_castore C 456 18 (v := (p2 &&& (255 : Int32))) (chr_and255 _).nar at_455 rfl fx388 (by decide) rfl (nble rfl) (mi 0 rfl) ?_
                intro h1759 W1760 fx1761
                have fx1762 : Arv Z h1759 t386 kC387 .char (23 : Int32) [(.int 106), (.int 97), (.int 118), (.int 97), (.int 120), (.int 46), (.int 115), (.int 101), (.int 99), (.int 117), (.int 114), (.int 105), (.int 116), (.int 121), (.int 46), (.int 115), (.int 97), (.int 115), (.int (p2 &&& (255 : Int32))), (.int 46), (.int 113), (.int 111), (.int 112)] (.int 0) := fx1761
                refine gw_new C 459 2 27 at_456 rfl rfl rfl (hq hw 3 rfl) (hq hw 4 rfl) (hq hw 5 rfl) (by decide) (by decide) ?_
                intro b1763 h1764 g1765 E1766 A1767 D1768
                have fx1769 : Fld Z h1764 b1763 "java/lang/String" "coder" "B" (.int 0) := D1768 (Or.inr (hq hw 34 rfl)) (ty := .byte) (by decide)
                have fx1770 : Fld Z h1764 b1763 "java/lang/String" "value" "[B" .null := D1768 (Or.inr (hq hw 36 rfl)) (ty := (.array .byte)) (by decide)
                refine gw_dup C 460 at_459 rfl rfl ?_
                refine gw_aload C 462 at_460 rfl rfl rfl ?_
                have fx1771 := (fx1762.ext E1766)
                refine gw_callI C (a := b1763) (argsL := [(.ref t386)]) (W := 1) at_462 rfl (hq hw 11 rfl) (hq hw 12 rfl) (hq hw 13 rfl) (by decide) pd___C_V (ct_str23 l Z a0 hw am (a := b1763) (b := t386) (kC := kC387) (c0 := (106 : Int32)) (c1 := (97 : Int32)) (c2 := (118 : Int32)) (c3 := (97 : Int32)) (c4 := (120 : Int32)) (c5 := (46 : Int32)) (c6 := (115 : Int32)) (c7 := (101 : Int32)) (c8 := (99 : Int32)) (c9 := (117 : Int32)) (c10 := (114 : Int32)) (c11 := (105 : Int32)) (c12 := (116 : Int32)) (c13 := (121 : Int32)) (c14 := (46 : Int32)) (c15 := (115 : Int32)) (c16 := (97 : Int32)) (c17 := (115 : Int32)) (c18 := (p2 &&& (255 : Int32))) (c19 := (46 : Int32)) (c20 := (113 : Int32)) (c21 := (111 : Int32)) (c22 := (112 : Int32)) A1767 fx1770 fx1769 fx1771 (by decide) (by decide) (by decide) (by decide) (by decide) (by decide) (by decide) (by decide) (by decide) (by decide) (by decide) (by decide) (by decide) (by decide) (by decide) (by decide) (by decide) (by decide) (and_small _ 255 (by decide)).2 (by decide) (by decide) (by decide) (by decide)) rfl (by decide) (Nat.le_of_eq rfl) (by decide) rfl (by decide) (by decide) (memsS (mi 0 rfl) mems0) ?_
                intro fv1772 h1773 K1774 fq1775
                obtain ⟨t1776, kB1777, rfl, fx1778, fx1779, fx1780, fx1781, fx1782⟩ := fq1775
                refine ⟨[t1776], (freshS ⟨fx1782, (fx1781).lt⟩ fresh0), ?_⟩
                show GoW l _ Z _ _ _ _ _ κ [t1776, b1763, t386] _ 465 _ [(.ref b1763)] 3 50
                refine gw_astore C 467 (Ls' := #[.val (.int p0), .val (.int p1), .val (.int p2), .val (.ref m), .val (.int ((XT.ushr p0 (1 : Int32)) &&& (7 : Int32))), .val (.int (p2 &&& (255 : Int32))), .val (.ref b1763), .unset, .val (.ref t386), .val (.int 18), .val (.int 108)]) at_465 rfl rfl rfl ?_
                refine gw_iload C 469 at_467 rfl rfl ?_
                refine gw_iload C 471 at_469 rfl rfl ?_
                by_cases hcq : (p2 &&& (255 : Int32)) = (108 : Int32)
                · skip
                  refine gw_icmpN C 474 at_471 rfl (teq hcq).2 ?_
                  refine gw_iconst C 475 (1 : Int32) at_474 rfl (by decide) ?_
                  refine gw_goto C (pc' := 479) at_475 (by decide) (by decide) ?_
                  refine gw_istore C 481 (Ls' := #[.val (.int p0), .val (.int p1), .val (.int p2), .val (.ref m), .val (.int ((XT.ushr p0 (1 : Int32)) &&& (7 : Int32))), .val (.int (p2 &&& (255 : Int32))), .val (.ref b1763), .val (.int 1), .val (.ref t386), .val (.int 18), .val (.int 108)]) at_479 rfl rfl ?_
                  refine gw_aloadN C 482 at_481 rfl rfl rfl ?_
                  refine gw_iconst C 483 (1 : Int32) at_482 rfl (by decide) ?_
                  refine gw_aload C 485 at_483 rfl rfl rfl ?_
                  refine gw_old ?_
                  intro O1783 zO1783
                  refine gw_callVW C hEL (a := m) (argsL := [(.int 1), (.ref b1763)]) (W := 0) at_485 (hq hw 37 rfl) (hq hw 38 rfl) (fun _ hZ => notFace_of_selects (args := #[]) (mvT hZ (hq hw 40 rfl))) (hq hw 40 rfl) (hq hw 39 rfl) (Exa.ext O1783 pm) (by decide) pd__ZLjava_lang_String__Ljava_lang_Object_ (ct_np23 l Z a0 hw am (m := m) (s := b1763) (t := t1776) (kt := kB1777) (x0 := (lo8 106)) (x1 := (lo8 97)) (x2 := (lo8 118)) (x3 := (lo8 97)) (x4 := (lo8 120)) (x5 := (lo8 46)) (x6 := (lo8 115)) (x7 := (lo8 101)) (x8 := (lo8 99)) (x9 := (lo8 117)) (x10 := (lo8 114)) (x11 := (lo8 105)) (x12 := (lo8 116)) (x13 := (lo8 121)) (x14 := (lo8 46)) (x15 := (lo8 115)) (x16 := (lo8 97)) (x17 := (lo8 115)) (x18 := (lo8 (p2 &&& (255 : Int32)))) (x19 := (lo8 46)) (x20 := (lo8 113)) (x21 := (lo8 111)) (x22 := (lo8 112)) fx1778 fx1779 fx1780 fx1781) rfl (by decide) (Nat.le_of_eq rfl) (by decide) rfl (by decide) (by decide) (memsS (mi 1 rfl) mems0) ?_
                  intro fv1784 h1785 K1786 fq1787
                  rcases fq1787 with ⟨a1788, u1789, ku1790, rfl, fx1791, fx1792, fx1793, fx1794, fx1795⟩ | ⟨rfl, fx1796⟩
                  · skip
                    show GoW l _ Z _ _ _ _ _ κ _ _ 488 _ [(.ref a1788)] 7 166
                    refine gw_astore C 490 (Ls' := #[.val (.int p0), .val (.int p1), .val (.int p2), .val (.ref m), .val (.int ((XT.ushr p0 (1 : Int32)) &&& (7 : Int32))), .val (.int (p2 &&& (255 : Int32))), .val (.ref b1763), .val (.int 1), .val (.ref a1788), .val (.int 18), .val (.int 108)]) at_488 rfl rfl rfl ?_
                    refine gw_iload C 492 at_490 rfl rfl ?_
                    refine gw_ifN C 495 at_492 rfl (feq ((by decide) : ¬ ((1 : Int32) = (0 : Int32)))).1 ?_
                    refine gw_aload C 497 at_495 rfl rfl rfl ?_
                    refine gw_ifnullN C 500 at_497 rfl ?_
                    refine gw_ldcS C hEL 502 9 186 (n := 16) (vs := [(.int 97), (.int 117), (.int 116), (.int 104)]) (zn := (4 : Int32)) at_500 rfl rfl rfl (hq hw 56 rfl) (wS hw) (List.mem_of_getElem? (i := 2) rfl) (by decide) (by decide) rfl (by decide) (by decide) (by decide) (by decide) ?_
                    intro sa1797 sb1798 k1799 h1800 E1801 fx1802 fx1803 fx1804 fx1805 fn1806
                    have fe1807 : t1776 ≠ sa1797 := (fn1806 _ (List.mem_of_getElem? (i := 0) rfl)).1
                    have fe1808 : t1776 ≠ sb1798 := (fn1806 _ (List.mem_of_getElem? (i := 0) rfl)).2
                    have fe1809 : b1763 ≠ sa1797 := (fn1806 _ (List.mem_of_getElem? (i := 1) rfl)).1
                    have fe1810 : b1763 ≠ sb1798 := (fn1806 _ (List.mem_of_getElem? (i := 1) rfl)).2
                    have fe1811 : t386 ≠ sa1797 := (fn1806 _ (List.mem_of_getElem? (i := 2) rfl)).1
                    have fe1812 : t386 ≠ sb1798 := (fn1806 _ (List.mem_of_getElem? (i := 2) rfl)).2
                    refine gw_aload C 504 at_502 rfl rfl rfl ?_
                    have fx1813 := (Exa.ext E1801 fx1791)
                    have fx1814 := (Fld.ext E1801 fx1792)
                    have fx1815 := (Fld.ext E1801 fx1793)
                    have fx1816 := (fx1794.ext E1801)
                    refine gw_callV C (a := sa1797) (argsL := [(.ref a1788)]) (W := 0) at_504 (hq hw 57 rfl) (hq hw 46 rfl) (fun _ hZ => notFace_of_selects (args := #[]) (mvT hZ (hq hw 48 rfl))) (hq hw 48 rfl) (hq hw 47 rfl) fx1802 (by decide) pd__Ljava_lang_Object__Z (ct_eq4 l Z a0 hw am (a := sa1797) (b := a1788) (t := sb1798) (u := u1789) (kt := k1799) (ku := ku1790) (x0 := (97 : Int32)) (x1 := (117 : Int32)) (x2 := (116 : Int32)) (x3 := (104 : Int32)) (y0 := (97 : Int32)) (y1 := (117 : Int32)) (y2 := (116 : Int32)) (y3 := (104 : Int32)) fx1802 fx1803 fx1804 fx1805 fx1813 fx1814 fx1815 fx1816 rfl rfl rfl rfl) rfl (by decide) (Nat.le_of_eq rfl) (by decide) rfl (by decide) (by decide) mems0 ?_
                    intro fv1817 h1818 K1819 fq1820
                    obtain ⟨rfl, rfl⟩ := fq1820
                    refine ⟨[], fresh0, ?_⟩
                    show GoW l _ Z _ _ _ _ _ κ _ _ 507 _ [(.int 1)] 9 186
                    refine gw_ifN C 510 at_507 rfl (feq ((by decide) : ¬ ((1 : Int32) = (0 : Int32)))).1 ?_
                    refine gw_iconst C 511 (1 : Int32) at_510 rfl (by decide) ?_
                    refine gw_goto C (pc' := 515) at_511 (by decide) (by decide) ?_
                    refine gw_retN C hEL (t := .boolean) (z := (1 : Int32)) at_515 rfl (by decide) (by decide) (by decide) (by decide) ?_
                    exact rfl
                  · skip
                    exact (fx1796 (by rw [hcq]; decide)).elim
                · skip
                  refine gw_icmpY C (pc' := 478) at_471 (feq hcq).2 (by decide) (by decide) ?_
                  refine gw_iconst C 479 (0 : Int32) at_478 rfl (by decide) ?_
                  refine gw_istore C 481 (Ls' := #[.val (.int p0), .val (.int p1), .val (.int p2), .val (.ref m), .val (.int ((XT.ushr p0 (1 : Int32)) &&& (7 : Int32))), .val (.int (p2 &&& (255 : Int32))), .val (.ref b1763), .val (.int 0), .val (.ref t386), .val (.int 18), .val (.int 108)]) at_479 rfl rfl ?_
                  refine gw_aloadN C 482 at_481 rfl rfl rfl ?_
                  refine gw_iconst C 483 (1 : Int32) at_482 rfl (by decide) ?_
                  refine gw_aload C 485 at_483 rfl rfl rfl ?_
                  refine gw_old ?_
                  intro O1821 zO1821
                  refine gw_callVW C hEL (a := m) (argsL := [(.int 1), (.ref b1763)]) (W := 0) at_485 (hq hw 37 rfl) (hq hw 38 rfl) (fun _ hZ => notFace_of_selects (args := #[]) (mvT hZ (hq hw 40 rfl))) (hq hw 40 rfl) (hq hw 39 rfl) (Exa.ext O1821 pm) (by decide) pd__ZLjava_lang_String__Ljava_lang_Object_ (ct_np23 l Z a0 hw am (m := m) (s := b1763) (t := t1776) (kt := kB1777) (x0 := (lo8 106)) (x1 := (lo8 97)) (x2 := (lo8 118)) (x3 := (lo8 97)) (x4 := (lo8 120)) (x5 := (lo8 46)) (x6 := (lo8 115)) (x7 := (lo8 101)) (x8 := (lo8 99)) (x9 := (lo8 117)) (x10 := (lo8 114)) (x11 := (lo8 105)) (x12 := (lo8 116)) (x13 := (lo8 121)) (x14 := (lo8 46)) (x15 := (lo8 115)) (x16 := (lo8 97)) (x17 := (lo8 115)) (x18 := (lo8 (p2 &&& (255 : Int32)))) (x19 := (lo8 46)) (x20 := (lo8 113)) (x21 := (lo8 111)) (x22 := (lo8 112)) fx1778 fx1779 fx1780 fx1781) rfl (by decide) (Nat.le_of_eq rfl) (by decide) rfl (by decide) (by decide) (memsS (mi 1 rfl) mems0) ?_
                  intro fv1822 h1823 K1824 fq1825
                  rcases fq1825 with ⟨a1826, u1827, ku1828, rfl, fx1829, fx1830, fx1831, fx1832, fx1833⟩ | ⟨rfl, fx1834⟩
                  · skip
                    exact (hcq ((lo8_mask (chr_and255 p2).1 (and_small _ 255 (by decide)).2).symm.trans (by rw [← fx1833.2.2.2.2.2.2.2.2.2.2.2.2.2.2.2.2.2.2.1]; decide))).elim
                  · skip
                    show GoW l _ Z _ _ _ _ _ κ _ _ 488 _ [.null] 7 166
                    refine gw_astore C 490 (Ls' := #[.val (.int p0), .val (.int p1), .val (.int p2), .val (.ref m), .val (.int ((XT.ushr p0 (1 : Int32)) &&& (7 : Int32))), .val (.int (p2 &&& (255 : Int32))), .val (.ref b1763), .val (.int 0), .val .null, .val (.int 18), .val (.int 108)]) at_488 rfl rfl rfl ?_
                    refine gw_iload C 492 at_490 rfl rfl ?_
                    refine gw_ifY C (pc' := 516) at_492 (teq ((by decide) : (0 : Int32) = (0 : Int32))).1 (by decide) (by decide) ?_
                    refine gw_aload C 518 at_516 rfl rfl rfl ?_
                    refine gw_ifnonnullN C 521 at_518 rfl ?_
                    refine gw_iconst C 522 (1 : Int32) at_521 rfl (by decide) ?_
                    refine gw_goto C (pc' := 526) at_522 (by decide) (by decide) ?_
                    refine gw_retN C hEL (t := .boolean) (z := (1 : Int32)) at_526 rfl (by decide) (by decide) (by decide) (by decide) ?_
                    exact rfl
              · skip
                refine gw_irem C 440 (19 : Int32) at_439 rfl (by decide) ec390 ?_
                refine gw_istore C 442 (Ls' := #[.val (.int p0), .val (.int p1), .val (.int p2), .val (.ref m), .val (.int ((XT.ushr p0 (1 : Int32)) &&& (7 : Int32))), .val (.int (p2 &&& (255 : Int32))), .unset, .unset, .val (.ref t386), .val (.int 19), .unset]) at_440 rfl rfl ?_
                refine gw_aload C 444 at_442 rfl rfl rfl ?_
                refine gw_iload C 446 at_444 rfl rfl ?_
                refine gw_caload C 447 (v := (.int 46)) at_446 rfl fx388 (by decide) rfl ?_
                refine gw_istore C 449 (Ls' := #[.val (.int p0), .val (.int p1), .val (.int p2), .val (.ref m), .val (.int ((XT.ushr p0 (1 : Int32)) &&& (7 : Int32))), .val (.int (p2 &&& (255 : Int32))), .unset, .unset, .val (.ref t386), .val (.int 19), .val (.int 46)]) at_447 rfl rfl ?_
                refine gw_aload C 451 at_449 rfl rfl rfl ?_
                refine gw_iload C 453 at_451 rfl rfl ?_
                refine gw_iload C 455 at_453 rfl rfl ?_
                refine gw_castore C 456 19 (v := (p2 &&& (255 : Int32))) (chr_and255 _).nar at_455 rfl fx388 (by decide) rfl (nble rfl) (mi 0 rfl) ?_
                intro h1835 W1836 fx1837
                have fx1838 : Arv Z h1835 t386 kC387 .char (23 : Int32) [(.int 106), (.int 97), (.int 118), (.int 97), (.int 120), (.int 46), (.int 115), (.int 101), (.int 99), (.int 117), (.int 114), (.int 105), (.int 116), (.int 121), (.int 46), (.int 115), (.int 97), (.int 115), (.int 108), (.int (p2 &&& (255 : Int32))), (.int 113), (.int 111), (.int 112)] (.int 0) := fx1837
                refine gw_new C 459 2 27 at_456 rfl rfl rfl (hq hw 3 rfl) (hq hw 4 rfl) (hq hw 5 rfl) (by decide) (by decide) ?_
                intro b1839 h1840 g1841 E1842 A1843 D1844
                have fx1845 : Fld Z h1840 b1839 "java/lang/String" "coder" "B" (.int 0) := D1844 (Or.inr (hq hw 34 rfl)) (ty := .byte) (by decide)
                have fx1846 : Fld Z h1840 b1839 "java/lang/String" "value" "[B" .null := D1844 (Or.inr (hq hw 36 rfl)) (ty := (.array .byte)) (by decide)
                refine gw_dup C 460 at_459 rfl rfl ?_
                refine gw_aload C 462 at_460 rfl rfl rfl ?_
                have fx1847 := (fx1838.ext E1842)
                refine gw_callI C (a := b1839) (argsL := [(.ref t386)]) (W := 1) at_462 rfl (hq hw 11 rfl) (hq hw 12 rfl) (hq hw 13 rfl) (by decide) pd___C_V (ct_str23 l Z a0 hw am (a := b1839) (b := t386) (kC := kC387) (c0 := (106 : Int32)) (c1 := (97 : Int32)) (c2 := (118 : Int32)) (c3 := (97 : Int32)) (c4 := (120 : Int32)) (c5 := (46 : Int32)) (c6 := (115 : Int32)) (c7 := (101 : Int32)) (c8 := (99 : Int32)) (c9 := (117 : Int32)) (c10 := (114 : Int32)) (c11 := (105 : Int32)) (c12 := (116 : Int32)) (c13 := (121 : Int32)) (c14 := (46 : Int32)) (c15 := (115 : Int32)) (c16 := (97 : Int32)) (c17 := (115 : Int32)) (c18 := (108 : Int32)) (c19 := (p2 &&& (255 : Int32))) (c20 := (113 : Int32)) (c21 := (111 : Int32)) (c22 := (112 : Int32)) A1843 fx1846 fx1845 fx1847 (by decide) (by decide) (by decide) (by decide) (by decide) (by decide) (by decide) (by decide) (by decide) (by decide) (by decide) (by decide) (by decide) (by decide) (by decide) (by decide) (by decide) (by decide) (by decide) (and_small _ 255 (by decide)).2 (by decide) (by decide) (by decide)) rfl (by decide) (Nat.le_of_eq rfl) (by decide) rfl (by decide) (by decide) (memsS (mi 0 rfl) mems0) ?_
                intro fv1848 h1849 K1850 fq1851
                obtain ⟨t1852, kB1853, rfl, fx1854, fx1855, fx1856, fx1857, fx1858⟩ := fq1851
                refine ⟨[t1852], (freshS ⟨fx1858, (fx1857).lt⟩ fresh0), ?_⟩
                show GoW l _ Z _ _ _ _ _ κ [t1852, b1839, t386] _ 465 _ [(.ref b1839)] 3 50
                refine gw_astore C 467 (Ls' := #[.val (.int p0), .val (.int p1), .val (.int p2), .val (.ref m), .val (.int ((XT.ushr p0 (1 : Int32)) &&& (7 : Int32))), .val (.int (p2 &&& (255 : Int32))), .val (.ref b1839), .unset, .val (.ref t386), .val (.int 19), .val (.int 46)]) at_465 rfl rfl rfl ?_
                refine gw_iload C 469 at_467 rfl rfl ?_
                refine gw_iload C 471 at_469 rfl rfl ?_
                by_cases hcq : (p2 &&& (255 : Int32)) = (46 : Int32)
                · skip
                  refine gw_icmpN C 474 at_471 rfl (teq hcq).2 ?_
                  refine gw_iconst C 475 (1 : Int32) at_474 rfl (by decide) ?_
                  refine gw_goto C (pc' := 479) at_475 (by decide) (by decide) ?_
                  refine gw_istore C 481 (Ls' := #[.val (.int p0), .val (.int p1), .val (.int p2), .val (.ref m), .val (.int ((XT.ushr p0 (1 : Int32)) &&& (7 : Int32))), .val (.int (p2 &&& (255 : Int32))), .val (.ref b1839), .val (.int 1), .val (.ref t386), .val (.int 19), .val (.int 46)]) at_479 rfl rfl ?_
                  refine gw_aloadN C 482 at_481 rfl rfl rfl ?_
                  refine gw_iconst C 483 (1 : Int32) at_482 rfl (by decide) ?_
                  refine gw_aload C 485 at_483 rfl rfl rfl ?_
                  refine gw_old ?_
                  intro O1859 zO1859
                  refine gw_callVW C hEL (a := m) (argsL := [(.int 1), (.ref b1839)]) (W := 0) at_485 (hq hw 37 rfl) (hq hw 38 rfl) (fun _ hZ => notFace_of_selects (args := #[]) (mvT hZ (hq hw 40 rfl))) (hq hw 40 rfl) (hq hw 39 rfl) (Exa.ext O1859 pm) (by decide) pd__ZLjava_lang_String__Ljava_lang_Object_ (ct_np23 l Z a0 hw am (m := m) (s := b1839) (t := t1852) (kt := kB1853) (x0 := (lo8 106)) (x1 := (lo8 97)) (x2 := (lo8 118)) (x3 := (lo8 97)) (x4 := (lo8 120)) (x5 := (lo8 46)) (x6 := (lo8 115)) (x7 := (lo8 101)) (x8 := (lo8 99)) (x9 := (lo8 117)) (x10 := (lo8 114)) (x11 := (lo8 105)) (x12 := (lo8 116)) (x13 := (lo8 121)) (x14 := (lo8 46)) (x15 := (lo8 115)) (x16 := (lo8 97)) (x17 := (lo8 115)) (x18 := (lo8 108)) (x19 := (lo8 (p2 &&& (255 : Int32)))) (x20 := (lo8 113)) (x21 := (lo8 111)) (x22 := (lo8 112)) fx1854 fx1855 fx1856 fx1857) rfl (by decide) (Nat.le_of_eq rfl) (by decide) rfl (by decide) (by decide) (memsS (mi 1 rfl) mems0) ?_
                  intro fv1860 h1861 K1862 fq1863
                  rcases fq1863 with ⟨a1864, u1865, ku1866, rfl, fx1867, fx1868, fx1869, fx1870, fx1871⟩ | ⟨rfl, fx1872⟩
                  · skip
                    show GoW l _ Z _ _ _ _ _ κ _ _ 488 _ [(.ref a1864)] 7 166
                    refine gw_astore C 490 (Ls' := #[.val (.int p0), .val (.int p1), .val (.int p2), .val (.ref m), .val (.int ((XT.ushr p0 (1 : Int32)) &&& (7 : Int32))), .val (.int (p2 &&& (255 : Int32))), .val (.ref b1839), .val (.int 1), .val (.ref a1864), .val (.int 19), .val (.int 46)]) at_488 rfl rfl rfl ?_
                    refine gw_iload C 492 at_490 rfl rfl ?_
                    refine gw_ifN C 495 at_492 rfl (feq ((by decide) : ¬ ((1 : Int32) = (0 : Int32)))).1 ?_
                    refine gw_aload C 497 at_495 rfl rfl rfl ?_
                    refine gw_ifnullN C 500 at_497 rfl ?_
                    refine gw_ldcS C hEL 502 9 186 (n := 16) (vs := [(.int 97), (.int 117), (.int 116), (.int 104)]) (zn := (4 : Int32)) at_500 rfl rfl rfl (hq hw 56 rfl) (wS hw) (List.mem_of_getElem? (i := 2) rfl) (by decide) (by decide) rfl (by decide) (by decide) (by decide) (by decide) ?_
                    intro sa1873 sb1874 k1875 h1876 E1877 fx1878 fx1879 fx1880 fx1881 fn1882
                    have fe1883 : t1852 ≠ sa1873 := (fn1882 _ (List.mem_of_getElem? (i := 0) rfl)).1
                    have fe1884 : t1852 ≠ sb1874 := (fn1882 _ (List.mem_of_getElem? (i := 0) rfl)).2
                    have fe1885 : b1839 ≠ sa1873 := (fn1882 _ (List.mem_of_getElem? (i := 1) rfl)).1
                    have fe1886 : b1839 ≠ sb1874 := (fn1882 _ (List.mem_of_getElem? (i := 1) rfl)).2
                    have fe1887 : t386 ≠ sa1873 := (fn1882 _ (List.mem_of_getElem? (i := 2) rfl)).1
                    have fe1888 : t386 ≠ sb1874 := (fn1882 _ (List.mem_of_getElem? (i := 2) rfl)).2
                    refine gw_aload C 504 at_502 rfl rfl rfl ?_
                    have fx1889 := (Exa.ext E1877 fx1867)
                    have fx1890 := (Fld.ext E1877 fx1868)
                    have fx1891 := (Fld.ext E1877 fx1869)
                    have fx1892 := (fx1870.ext E1877)
                    refine gw_callV C (a := sa1873) (argsL := [(.ref a1864)]) (W := 0) at_504 (hq hw 57 rfl) (hq hw 46 rfl) (fun _ hZ => notFace_of_selects (args := #[]) (mvT hZ (hq hw 48 rfl))) (hq hw 48 rfl) (hq hw 47 rfl) fx1878 (by decide) pd__Ljava_lang_Object__Z (ct_eq4 l Z a0 hw am (a := sa1873) (b := a1864) (t := sb1874) (u := u1865) (kt := k1875) (ku := ku1866) (x0 := (97 : Int32)) (x1 := (117 : Int32)) (x2 := (116 : Int32)) (x3 := (104 : Int32)) (y0 := (97 : Int32)) (y1 := (117 : Int32)) (y2 := (116 : Int32)) (y3 := (104 : Int32)) fx1878 fx1879 fx1880 fx1881 fx1889 fx1890 fx1891 fx1892 rfl rfl rfl rfl) rfl (by decide) (Nat.le_of_eq rfl) (by decide) rfl (by decide) (by decide) mems0 ?_
                    intro fv1893 h1894 K1895 fq1896
                    obtain ⟨rfl, rfl⟩ := fq1896
                    refine ⟨[], fresh0, ?_⟩
                    show GoW l _ Z _ _ _ _ _ κ _ _ 507 _ [(.int 1)] 9 186
                    refine gw_ifN C 510 at_507 rfl (feq ((by decide) : ¬ ((1 : Int32) = (0 : Int32)))).1 ?_
                    refine gw_iconst C 511 (1 : Int32) at_510 rfl (by decide) ?_
                    refine gw_goto C (pc' := 515) at_511 (by decide) (by decide) ?_
                    refine gw_retN C hEL (t := .boolean) (z := (1 : Int32)) at_515 rfl (by decide) (by decide) (by decide) (by decide) ?_
                    exact rfl
                  · skip
                    exact (fx1872 (by rw [hcq]; decide)).elim
                · skip
                  refine gw_icmpY C (pc' := 478) at_471 (feq hcq).2 (by decide) (by decide) ?_
                  refine gw_iconst C 479 (0 : Int32) at_478 rfl (by decide) ?_
                  refine gw_istore C 481 (Ls' := #[.val (.int p0), .val (.int p1), .val (.int p2), .val (.ref m), .val (.int ((XT.ushr p0 (1 : Int32)) &&& (7 : Int32))), .val (.int (p2 &&& (255 : Int32))), .val (.ref b1839), .val (.int 0), .val (.ref t386), .val (.int 19), .val (.int 46)]) at_479 rfl rfl ?_
                  refine gw_aloadN C 482 at_481 rfl rfl rfl ?_
                  refine gw_iconst C 483 (1 : Int32) at_482 rfl (by decide) ?_
                  refine gw_aload C 485 at_483 rfl rfl rfl ?_
                  refine gw_old ?_
                  intro O1897 zO1897
                  refine gw_callVW C hEL (a := m) (argsL := [(.int 1), (.ref b1839)]) (W := 0) at_485 (hq hw 37 rfl) (hq hw 38 rfl) (fun _ hZ => notFace_of_selects (args := #[]) (mvT hZ (hq hw 40 rfl))) (hq hw 40 rfl) (hq hw 39 rfl) (Exa.ext O1897 pm) (by decide) pd__ZLjava_lang_String__Ljava_lang_Object_ (ct_np23 l Z a0 hw am (m := m) (s := b1839) (t := t1852) (kt := kB1853) (x0 := (lo8 106)) (x1 := (lo8 97)) (x2 := (lo8 118)) (x3 := (lo8 97)) (x4 := (lo8 120)) (x5 := (lo8 46)) (x6 := (lo8 115)) (x7 := (lo8 101)) (x8 := (lo8 99)) (x9 := (lo8 117)) (x10 := (lo8 114)) (x11 := (lo8 105)) (x12 := (lo8 116)) (x13 := (lo8 121)) (x14 := (lo8 46)) (x15 := (lo8 115)) (x16 := (lo8 97)) (x17 := (lo8 115)) (x18 := (lo8 108)) (x19 := (lo8 (p2 &&& (255 : Int32)))) (x20 := (lo8 113)) (x21 := (lo8 111)) (x22 := (lo8 112)) fx1854 fx1855 fx1856 fx1857) rfl (by decide) (Nat.le_of_eq rfl) (by decide) rfl (by decide) (by decide) (memsS (mi 1 rfl) mems0) ?_
                  intro fv1898 h1899 K1900 fq1901
                  rcases fq1901 with ⟨a1902, u1903, ku1904, rfl, fx1905, fx1906, fx1907, fx1908, fx1909⟩ | ⟨rfl, fx1910⟩
                  · skip
                    exact (hcq ((lo8_mask (chr_and255 p2).1 (and_small _ 255 (by decide)).2).symm.trans (by rw [← fx1909.2.2.2.2.2.2.2.2.2.2.2.2.2.2.2.2.2.2.2.1]; decide))).elim
                  · skip
                    show GoW l _ Z _ _ _ _ _ κ _ _ 488 _ [.null] 7 166
                    refine gw_astore C 490 (Ls' := #[.val (.int p0), .val (.int p1), .val (.int p2), .val (.ref m), .val (.int ((XT.ushr p0 (1 : Int32)) &&& (7 : Int32))), .val (.int (p2 &&& (255 : Int32))), .val (.ref b1839), .val (.int 0), .val .null, .val (.int 19), .val (.int 46)]) at_488 rfl rfl rfl ?_
                    refine gw_iload C 492 at_490 rfl rfl ?_
                    refine gw_ifY C (pc' := 516) at_492 (teq ((by decide) : (0 : Int32) = (0 : Int32))).1 (by decide) (by decide) ?_
                    refine gw_aload C 518 at_516 rfl rfl rfl ?_
                    refine gw_ifnonnullN C 521 at_518 rfl ?_
                    refine gw_iconst C 522 (1 : Int32) at_521 rfl (by decide) ?_
                    refine gw_goto C (pc' := 526) at_522 (by decide) (by decide) ?_
                    refine gw_retN C hEL (t := .boolean) (z := (1 : Int32)) at_526 rfl (by decide) (by decide) (by decide) (by decide) ?_
                    exact rfl
              · skip
                refine gw_irem C 440 (20 : Int32) at_439 rfl (by decide) ec390 ?_
                refine gw_istore C 442 (Ls' := #[.val (.int p0), .val (.int p1), .val (.int p2), .val (.ref m), .val (.int ((XT.ushr p0 (1 : Int32)) &&& (7 : Int32))), .val (.int (p2 &&& (255 : Int32))), .unset, .unset, .val (.ref t386), .val (.int 20), .unset]) at_440 rfl rfl ?_
                refine gw_aload C 444 at_442 rfl rfl rfl ?_
                refine gw_iload C 446 at_444 rfl rfl ?_
                refine gw_caload C 447 (v := (.int 113)) at_446 rfl fx388 (by decide) rfl ?_
                refine gw_istore C 449 (Ls' := #[.val (.int p0), .val (.int p1), .val (.int p2), .val (.ref m), .val (.int ((XT.ushr p0 (1 : Int32)) &&& (7 : Int32))), .val (.int (p2 &&& (255 : Int32))), .unset, .unset, .val (.ref t386), .val (.int 20), .val (.int 113)]) at_447 rfl rfl ?_
                refine gw_aload C 451 at_449 rfl rfl rfl ?_
                refine gw_iload C 453 at_451 rfl rfl ?_
                refine gw_iload C 455 at_453 rfl rfl ?_
                refine gw_castore C 456 20 (v := (p2 &&& (255 : Int32))) (chr_and255 _).nar at_455 rfl fx388 (by decide) rfl (nble rfl) (mi 0 rfl) ?_
                intro h1911 W1912 fx1913
                have fx1914 : Arv Z h1911 t386 kC387 .char (23 : Int32) [(.int 106), (.int 97), (.int 118), (.int 97), (.int 120), (.int 46), (.int 115), (.int 101), (.int 99), (.int 117), (.int 114), (.int 105), (.int 116), (.int 121), (.int 46), (.int 115), (.int 97), (.int 115), (.int 108), (.int 46), (.int (p2 &&& (255 : Int32))), (.int 111), (.int 112)] (.int 0) := fx1913
                refine gw_new C 459 2 27 at_456 rfl rfl rfl (hq hw 3 rfl) (hq hw 4 rfl) (hq hw 5 rfl) (by decide) (by decide) ?_
                intro b1915 h1916 g1917 E1918 A1919 D1920
                have fx1921 : Fld Z h1916 b1915 "java/lang/String" "coder" "B" (.int 0) := D1920 (Or.inr (hq hw 34 rfl)) (ty := .byte) (by decide)
                have fx1922 : Fld Z h1916 b1915 "java/lang/String" "value" "[B" .null := D1920 (Or.inr (hq hw 36 rfl)) (ty := (.array .byte)) (by decide)
                refine gw_dup C 460 at_459 rfl rfl ?_
                refine gw_aload C 462 at_460 rfl rfl rfl ?_
                have fx1923 := (fx1914.ext E1918)
                refine gw_callI C (a := b1915) (argsL := [(.ref t386)]) (W := 1) at_462 rfl (hq hw 11 rfl) (hq hw 12 rfl) (hq hw 13 rfl) (by decide) pd___C_V (ct_str23 l Z a0 hw am (a := b1915) (b := t386) (kC := kC387) (c0 := (106 : Int32)) (c1 := (97 : Int32)) (c2 := (118 : Int32)) (c3 := (97 : Int32)) (c4 := (120 : Int32)) (c5 := (46 : Int32)) (c6 := (115 : Int32)) (c7 := (101 : Int32)) (c8 := (99 : Int32)) (c9 := (117 : Int32)) (c10 := (114 : Int32)) (c11 := (105 : Int32)) (c12 := (116 : Int32)) (c13 := (121 : Int32)) (c14 := (46 : Int32)) (c15 := (115 : Int32)) (c16 := (97 : Int32)) (c17 := (115 : Int32)) (c18 := (108 : Int32)) (c19 := (46 : Int32)) (c20 := (p2 &&& (255 : Int32))) (c21 := (111 : Int32)) (c22 := (112 : Int32)) A1919 fx1922 fx1921 fx1923 (by decide) (by decide) (by decide) (by decide) (by decide) (by decide) (by decide) (by decide) (by decide) (by decide) (by decide) (by decide) (by decide) (by decide) (by decide) (by decide) (by decide) (by decide) (by decide) (by decide) (and_small _ 255 (by decide)).2 (by decide) (by decide)) rfl (by decide) (Nat.le_of_eq rfl) (by decide) rfl (by decide) (by decide) (memsS (mi 0 rfl) mems0) ?_
                intro fv1924 h1925 K1926 fq1927
                obtain ⟨t1928, kB1929, rfl, fx1930, fx1931, fx1932, fx1933, fx1934⟩ := fq1927
                refine ⟨[t1928], (freshS ⟨fx1934, (fx1933).lt⟩ fresh0), ?_⟩
                show GoW l _ Z _ _ _ _ _ κ [t1928, b1915, t386] _ 465 _ [(.ref b1915)] 3 50
                refine gw_astore C 467 (Ls' := #[.val (.int p0), .val (.int p1), .val (.int p2), .val (.ref m), .val (.int ((XT.ushr p0 (1 : Int32)) &&& (7 : Int32))), .val (.int (p2 &&& (255 : Int32))), .val (.ref b1915), .unset, .val (.ref t386), .val (.int 20), .val (.int 113)]) at_465 rfl rfl rfl ?_
                refine gw_iload C 469 at_467 rfl rfl ?_
                refine gw_iload C 471 at_469 rfl rfl ?_
                by_cases hcq : (p2 &&& (255 : Int32)) = (113 : Int32)
                · skip
                  refine gw_icmpN C 474 at_471 rfl (teq hcq).2 ?_
                  refine gw_iconst C 475 (1 : Int32) at_474 rfl (by decide) ?_
                  refine gw_goto C (pc' := 479) at_475 (by decide) (by decide) ?_
                  refine gw_istore C 481 (Ls' := #[.val (.int p0), .val (.int p1), .val (.int p2), .val (.ref m), .val (.int ((XT.ushr p0 (1 : Int32)) &&& (7 : Int32))), .val (.int (p2 &&& (255 : Int32))), .val (.ref b1915), .val (.int 1), .val (.ref t386), .val (.int 20), .val (.int 113)]) at_479 rfl rfl ?_
                  refine gw_aloadN C 482 at_481 rfl rfl rfl ?_
                  refine gw_iconst C 483 (1 : Int32) at_482 rfl (by decide) ?_
                  refine gw_aload C 485 at_483 rfl rfl rfl ?_
                  refine gw_old ?_
                  intro O1935 zO1935
                  refine gw_callVW C hEL (a := m) (argsL := [(.int 1), (.ref b1915)]) (W := 0) at_485 (hq hw 37 rfl) (hq hw 38 rfl) (fun _ hZ => notFace_of_selects (args := #[]) (mvT hZ (hq hw 40 rfl))) (hq hw 40 rfl) (hq hw 39 rfl) (Exa.ext O1935 pm) (by decide) pd__ZLjava_lang_String__Ljava_lang_Object_ (ct_np23 l Z a0 hw am (m := m) (s := b1915) (t := t1928) (kt := kB1929) (x0 := (lo8 106)) (x1 := (lo8 97)) (x2 := (lo8 118)) (x3 := (lo8 97)) (x4 := (lo8 120)) (x5 := (lo8 46)) (x6 := (lo8 115)) (x7 := (lo8 101)) (x8 := (lo8 99)) (x9 := (lo8 117)) (x10 := (lo8 114)) (x11 := (lo8 105)) (x12 := (lo8 116)) (x13 := (lo8 121)) (x14 := (lo8 46)) (x15 := (lo8 115)) (x16 := (lo8 97)) (x17 := (lo8 115)) (x18 := (lo8 108)) (x19 := (lo8 46)) (x20 := (lo8 (p2 &&& (255 : Int32)))) (x21 := (lo8 111)) (x22 := (lo8 112)) fx1930 fx1931 fx1932 fx1933) rfl (by decide) (Nat.le_of_eq rfl) (by decide) rfl (by decide) (by decide) (memsS (mi 1 rfl) mems0) ?_
                  intro fv1936 h1937 K1938 fq1939
                  rcases fq1939 with ⟨a1940, u1941, ku1942, rfl, fx1943, fx1944, fx1945, fx1946, fx1947⟩ | ⟨rfl, fx1948⟩
                  · skip
                    show GoW l _ Z _ _ _ _ _ κ _ _ 488 _ [(.ref a1940)] 7 166
                    refine gw_astore C 490 (Ls' := #[.val (.int p0), .val (.int p1), .val (.int p2), .val (.ref m), .val (.int ((XT.ushr p0 (1 : Int32)) &&& (7 : Int32))), .val (.int (p2 &&& (255 : Int32))), .val (.ref b1915), .val (.int 1), .val (.ref a1940), .val (.int 20), .val (.int 113)]) at_488 rfl rfl rfl ?_
                    refine gw_iload C 492 at_490 rfl rfl ?_
                    refine gw_ifN C 495 at_492 rfl (feq ((by decide) : ¬ ((1 : Int32) = (0 : Int32)))).1 ?_
                    refine gw_aload C 497 at_495 rfl rfl rfl ?_
                    refine gw_ifnullN C 500 at_497 rfl ?_
                    refine gw_ldcS C hEL 502 9 186 (n := 16) (vs := [(.int 97), (.int 117), (.int 116), (.int 104)]) (zn := (4 : Int32)) at_500 rfl rfl rfl (hq hw 56 rfl) (wS hw) (List.mem_of_getElem? (i := 2) rfl) (by decide) (by decide) rfl (by decide) (by decide) (by decide) (by decide) ?_
                    intro sa1949 sb1950 k1951 h1952 E1953 fx1954 fx1955 fx1956 fx1957 fn1958
                    have fe1959 : t1928 ≠ sa1949 := (fn1958 _ (List.mem_of_getElem? (i := 0) rfl)).1
                    have fe1960 : t1928 ≠ sb1950 := (fn1958 _ (List.mem_of_getElem? (i := 0) rfl)).2
                    have fe1961 : b1915 ≠ sa1949 := (fn1958 _ (List.mem_of_getElem? (i := 1) rfl)).1
                    have fe1962 : b1915 ≠ sb1950 := (fn1958 _ (List.mem_of_getElem? (i := 1) rfl)).2
                    have fe1963 : t386 ≠ sa1949 := (fn1958 _ (List.mem_of_getElem? (i := 2) rfl)).1
                    have fe1964 : t386 ≠ sb1950 := (fn1958 _ (List.mem_of_getElem? (i := 2) rfl)).2
                    refine gw_aload C 504 at_502 rfl rfl rfl ?_
                    have fx1965 := (Exa.ext E1953 fx1943)
                    have fx1966 := (Fld.ext E1953 fx1944)
                    have fx1967 := (Fld.ext E1953 fx1945)
                    have fx1968 := (fx1946.ext E1953)
                    refine gw_callV C (a := sa1949) (argsL := [(.ref a1940)]) (W := 0) at_504 (hq hw 57 rfl) (hq hw 46 rfl) (fun _ hZ => notFace_of_selects (args := #[]) (mvT hZ (hq hw 48 rfl))) (hq hw 48 rfl) (hq hw 47 rfl) fx1954 (by decide) pd__Ljava_lang_Object__Z (ct_eq4 l Z a0 hw am (a := sa1949) (b := a1940) (t := sb1950) (u := u1941) (kt := k1951) (ku := ku1942) (x0 := (97 : Int32)) (x1 := (117 : Int32)) (x2 := (116 : Int32)) (x3 := (104 : Int32)) (y0 := (97 : Int32)) (y1 := (117 : Int32)) (y2 := (116 : Int32)) (y3 := (104 : Int32)) fx1954 fx1955 fx1956 fx1957 fx1965 fx1966 fx1967 fx1968 rfl rfl rfl rfl) rfl (by decide) (Nat.le_of_eq rfl) (by decide) rfl (by decide) (by decide) mems0 ?_
                    intro fv1969 h1970 K1971 fq1972
                    obtain ⟨rfl, rfl⟩ := fq1972
                    refine ⟨[], fresh0, ?_⟩
                    show GoW l _ Z _ _ _ _ _ κ _ _ 507 _ [(.int 1)] 9 186
                    refine gw_ifN C 510 at_507 rfl (feq ((by decide) : ¬ ((1 : Int32) = (0 : Int32)))).1 ?_
                    refine gw_iconst C 511 (1 : Int32) at_510 rfl (by decide) ?_
                    refine gw_goto C (pc' := 515) at_511 (by decide) (by decide) ?_
                    refine gw_retN C hEL (t := .boolean) (z := (1 : Int32)) at_515 rfl (by decide) (by decide) (by decide) (by decide) ?_
                    exact rfl
                  · skip
                    exact (fx1948 (by rw [hcq]; decide)).elim
                · skip
                  refine gw_icmpY C (pc' := 478) at_471 (feq hcq).2 (by decide) (by decide) ?_
                  refine gw_iconst C 479 (0 : Int32) at_478 rfl (by decide) ?_
                  refine gw_istore C 481 (Ls' := #[.val (.int p0), .val (.int p1), .val (.int p2), .val (.ref m), .val (.int ((XT.ushr p0 (1 : Int32)) &&& (7 : Int32))), .val (.int (p2 &&& (255 : Int32))), .val (.ref b1915), .val (.int 0), .val (.ref t386), .val (.int 20), .val (.int 113)]) at_479 rfl rfl ?_
                  refine gw_aloadN C 482 at_481 rfl rfl rfl ?_
                  refine gw_iconst C 483 (1 : Int32) at_482 rfl (by decide) ?_
                  refine gw_aload C 485 at_483 rfl rfl rfl ?_
                  refine gw_old ?_
                  intro O1973 zO1973
                  refine gw_callVW C hEL (a := m) (argsL := [(.int 1), (.ref b1915)]) (W := 0) at_485 (hq hw 37 rfl) (hq hw 38 rfl) (fun _ hZ => notFace_of_selects (args := #[]) (mvT hZ (hq hw 40 rfl))) (hq hw 40 rfl) (hq hw 39 rfl) (Exa.ext O1973 pm) (by decide) pd__ZLjava_lang_String__Ljava_lang_Object_ (ct_np23 l Z a0 hw am (m := m) (s := b1915) (t := t1928) (kt := kB1929) (x0 := (lo8 106)) (x1 := (lo8 97)) (x2 := (lo8 118)) (x3 := (lo8 97)) (x4 := (lo8 120)) (x5 := (lo8 46)) (x6 := (lo8 115)) (x7 := (lo8 101)) (x8 := (lo8 99)) (x9 := (lo8 117)) (x10 := (lo8 114)) (x11 := (lo8 105)) (x12 := (lo8 116)) (x13 := (lo8 121)) (x14 := (lo8 46)) (x15 := (lo8 115)) (x16 := (lo8 97)) (x17 := (lo8 115)) (x18 := (lo8 108)) (x19 := (lo8 46)) (x20 := (lo8 (p2 &&& (255 : Int32)))) (x21 := (lo8 111)) (x22 := (lo8 112)) fx1930 fx1931 fx1932 fx1933) rfl (by decide) (Nat.le_of_eq rfl) (by decide) rfl (by decide) (by decide) (memsS (mi 1 rfl) mems0) ?_
                  intro fv1974 h1975 K1976 fq1977
                  rcases fq1977 with ⟨a1978, u1979, ku1980, rfl, fx1981, fx1982, fx1983, fx1984, fx1985⟩ | ⟨rfl, fx1986⟩
                  · skip
                    exact (hcq ((lo8_mask (chr_and255 p2).1 (and_small _ 255 (by decide)).2).symm.trans (by rw [← fx1985.2.2.2.2.2.2.2.2.2.2.2.2.2.2.2.2.2.2.2.2.1]; decide))).elim
                  · skip
                    show GoW l _ Z _ _ _ _ _ κ _ _ 488 _ [.null] 7 166
                    refine gw_astore C 490 (Ls' := #[.val (.int p0), .val (.int p1), .val (.int p2), .val (.ref m), .val (.int ((XT.ushr p0 (1 : Int32)) &&& (7 : Int32))), .val (.int (p2 &&& (255 : Int32))), .val (.ref b1915), .val (.int 0), .val .null, .val (.int 20), .val (.int 113)]) at_488 rfl rfl rfl ?_
                    refine gw_iload C 492 at_490 rfl rfl ?_
                    refine gw_ifY C (pc' := 516) at_492 (teq ((by decide) : (0 : Int32) = (0 : Int32))).1 (by decide) (by decide) ?_
                    refine gw_aload C 518 at_516 rfl rfl rfl ?_
                    refine gw_ifnonnullN C 521 at_518 rfl ?_
                    refine gw_iconst C 522 (1 : Int32) at_521 rfl (by decide) ?_
                    refine gw_goto C (pc' := 526) at_522 (by decide) (by decide) ?_
                    refine gw_retN C hEL (t := .boolean) (z := (1 : Int32)) at_526 rfl (by decide) (by decide) (by decide) (by decide) ?_
                    exact rfl
              · skip
                refine gw_irem C 440 (21 : Int32) at_439 rfl (by decide) ec390 ?_
                refine gw_istore C 442 (Ls' := #[.val (.int p0), .val (.int p1), .val (.int p2), .val (.ref m), .val (.int ((XT.ushr p0 (1 : Int32)) &&& (7 : Int32))), .val (.int (p2 &&& (255 : Int32))), .unset, .unset, .val (.ref t386), .val (.int 21), .unset]) at_440 rfl rfl ?_
                refine gw_aload C 444 at_442 rfl rfl rfl ?_
                refine gw_iload C 446 at_444 rfl rfl ?_
                refine gw_caload C 447 (v := (.int 111)) at_446 rfl fx388 (by decide) rfl ?_
                refine gw_istore C 449 (Ls' := #[.val (.int p0), .val (.int p1), .val (.int p2), .val (.ref m), .val (.int ((XT.ushr p0 (1 : Int32)) &&& (7 : Int32))), .val (.int (p2 &&& (255 : Int32))), .unset, .unset, .val (.ref t386), .val (.int 21), .val (.int 111)]) at_447 rfl rfl ?_
                refine gw_aload C 451 at_449 rfl rfl rfl ?_
                refine gw_iload C 453 at_451 rfl rfl ?_
                refine gw_iload C 455 at_453 rfl rfl ?_
                refine gw_castore C 456 21 (v := (p2 &&& (255 : Int32))) (chr_and255 _).nar at_455 rfl fx388 (by decide) rfl (nble rfl) (mi 0 rfl) ?_
                intro h1987 W1988 fx1989
                have fx1990 : Arv Z h1987 t386 kC387 .char (23 : Int32) [(.int 106), (.int 97), (.int 118), (.int 97), (.int 120), (.int 46), (.int 115), (.int 101), (.int 99), (.int 117), (.int 114), (.int 105), (.int 116), (.int 121), (.int 46), (.int 115), (.int 97), (.int 115), (.int 108), (.int 46), (.int 113), (.int (p2 &&& (255 : Int32))), (.int 112)] (.int 0) := fx1989
                refine gw_new C 459 2 27 at_456 rfl rfl rfl (hq hw 3 rfl) (hq hw 4 rfl) (hq hw 5 rfl) (by decide) (by decide) ?_
                intro b1991 h1992 g1993 E1994 A1995 D1996
                have fx1997 : Fld Z h1992 b1991 "java/lang/String" "coder" "B" (.int 0) := D1996 (Or.inr (hq hw 34 rfl)) (ty := .byte) (by decide)
                have fx1998 : Fld Z h1992 b1991 "java/lang/String" "value" "[B" .null := D1996 (Or.inr (hq hw 36 rfl)) (ty := (.array .byte)) (by decide)
                refine gw_dup C 460 at_459 rfl rfl ?_
                refine gw_aload C 462 at_460 rfl rfl rfl ?_
                have fx1999 := (fx1990.ext E1994)
                refine gw_callI C (a := b1991) (argsL := [(.ref t386)]) (W := 1) at_462 rfl (hq hw 11 rfl) (hq hw 12 rfl) (hq hw 13 rfl) (by decide) pd___C_V (ct_str23 l Z a0 hw am (a := b1991) (b := t386) (kC := kC387) (c0 := (106 : Int32)) (c1 := (97 : Int32)) (c2 := (118 : Int32)) (c3 := (97 : Int32)) (c4 := (120 : Int32)) (c5 := (46 : Int32)) (c6 := (115 : Int32)) (c7 := (101 : Int32)) (c8 := (99 : Int32)) (c9 := (117 : Int32)) (c10 := (114 : Int32)) (c11 := (105 : Int32)) (c12 := (116 : Int32)) (c13 := (121 : Int32)) (c14 := (46 : Int32)) (c15 := (115 : Int32)) (c16 := (97 : Int32)) (c17 := (115 : Int32)) (c18 := (108 : Int32)) (c19 := (46 : Int32)) (c20 := (113 : Int32)) (c21 := (p2 &&& (255 : Int32))) (c22 := (112 : Int32)) A1995 fx1998 fx1997 fx1999 (by decide) (by decide) (by decide) (by decide) (by decide) (by decide) (by decide) (by decide) (by decide) (by decide) (by decide) (by decide) (by decide) (by decide) (by decide) (by decide) (by decide) (by decide) (by decide) (by decide) (by decide) (and_small _ 255 (by decide)).2 (by decide)) rfl (by decide) (Nat.le_of_eq rfl) (by decide) rfl (by decide) (by decide) (memsS (mi 0 rfl) mems0) ?_
                intro fv2000 h2001 K2002 fq2003
                obtain ⟨t2004, kB2005, rfl, fx2006, fx2007, fx2008, fx2009, fx2010⟩ := fq2003
                refine ⟨[t2004], (freshS ⟨fx2010, (fx2009).lt⟩ fresh0), ?_⟩
                show GoW l _ Z _ _ _ _ _ κ [t2004, b1991, t386] _ 465 _ [(.ref b1991)] 3 50
                refine gw_astore C 467 (Ls' := #[.val (.int p0), .val (.int p1), .val (.int p2), .val (.ref m), .val (.int ((XT.ushr p0 (1 : Int32)) &&& (7 : Int32))), .val (.int (p2 &&& (255 : Int32))), .val (.ref b1991), .unset, .val (.ref t386), .val (.int 21), .val (.int 111)]) at_465 rfl rfl rfl ?_
                refine gw_iload C 469 at_467 rfl rfl ?_
                refine gw_iload C 471 at_469 rfl rfl ?_
                by_cases hcq : (p2 &&& (255 : Int32)) = (111 : Int32)
                · skip
                  refine gw_icmpN C 474 at_471 rfl (teq hcq).2 ?_
                  refine gw_iconst C 475 (1 : Int32) at_474 rfl (by decide) ?_
                  refine gw_goto C (pc' := 479) at_475 (by decide) (by decide) ?_
                  refine gw_istore C 481 (Ls' := #[.val (.int p0), .val (.int p1), .val (.int p2), .val (.ref m), .val (.int ((XT.ushr p0 (1 : Int32)) &&& (7 : Int32))), .val (.int (p2 &&& (255 : Int32))), .val (.ref b1991), .val (.int 1), .val (.ref t386), .val (.int 21), .val (.int 111)]) at_479 rfl rfl ?_
                  refine gw_aloadN C 482 at_481 rfl rfl rfl ?_
                  refine gw_iconst C 483 (1 : Int32) at_482 rfl (by decide) ?_
                  refine gw_aload C 485 at_483 rfl rfl rfl ?_
                  refine gw_old ?_
                  intro O2011 zO2011
                  refine gw_callVW C hEL (a := m) (argsL := [(.int 1), (.ref b1991)]) (W := 0) at_485 (hq hw 37 rfl) (hq hw 38 rfl) (fun _ hZ => notFace_of_selects (args := #[]) (mvT hZ (hq hw 40 rfl))) (hq hw 40 rfl) (hq hw 39 rfl) (Exa.ext O2011 pm) (by decide) pd__ZLjava_lang_String__Ljava_lang_Object_ (ct_np23 l Z a0 hw am (m := m) (s := b1991) (t := t2004) (kt := kB2005) (x0 := (lo8 106)) (x1 := (lo8 97)) (x2 := (lo8 118)) (x3 := (lo8 97)) (x4 := (lo8 120)) (x5 := (lo8 46)) (x6 := (lo8 115)) (x7 := (lo8 101)) (x8 := (lo8 99)) (x9 := (lo8 117)) (x10 := (lo8 114)) (x11 := (lo8 105)) (x12 := (lo8 116)) (x13 := (lo8 121)) (x14 := (lo8 46)) (x15 := (lo8 115)) (x16 := (lo8 97)) (x17 := (lo8 115)) (x18 := (lo8 108)) (x19 := (lo8 46)) (x20 := (lo8 113)) (x21 := (lo8 (p2 &&& (255 : Int32)))) (x22 := (lo8 112)) fx2006 fx2007 fx2008 fx2009) rfl (by decide) (Nat.le_of_eq rfl) (by decide) rfl (by decide) (by decide) (memsS (mi 1 rfl) mems0) ?_
                  intro fv2012 h2013 K2014 fq2015
                  rcases fq2015 with ⟨a2016, u2017, ku2018, rfl, fx2019, fx2020, fx2021, fx2022, fx2023⟩ | ⟨rfl, fx2024⟩
                  · skip
                    show GoW l _ Z _ _ _ _ _ κ _ _ 488 _ [(.ref a2016)] 7 166
                    refine gw_astore C 490 (Ls' := #[.val (.int p0), .val (.int p1), .val (.int p2), .val (.ref m), .val (.int ((XT.ushr p0 (1 : Int32)) &&& (7 : Int32))), .val (.int (p2 &&& (255 : Int32))), .val (.ref b1991), .val (.int 1), .val (.ref a2016), .val (.int 21), .val (.int 111)]) at_488 rfl rfl rfl ?_
                    refine gw_iload C 492 at_490 rfl rfl ?_
                    refine gw_ifN C 495 at_492 rfl (feq ((by decide) : ¬ ((1 : Int32) = (0 : Int32)))).1 ?_
                    refine gw_aload C 497 at_495 rfl rfl rfl ?_
                    refine gw_ifnullN C 500 at_497 rfl ?_
                    refine gw_ldcS C hEL 502 9 186 (n := 16) (vs := [(.int 97), (.int 117), (.int 116), (.int 104)]) (zn := (4 : Int32)) at_500 rfl rfl rfl (hq hw 56 rfl) (wS hw) (List.mem_of_getElem? (i := 2) rfl) (by decide) (by decide) rfl (by decide) (by decide) (by decide) (by decide) ?_
                    intro sa2025 sb2026 k2027 h2028 E2029 fx2030 fx2031 fx2032 fx2033 fn2034
                    have fe2035 : t2004 ≠ sa2025 := (fn2034 _ (List.mem_of_getElem? (i := 0) rfl)).1
                    have fe2036 : t2004 ≠ sb2026 := (fn2034 _ (List.mem_of_getElem? (i := 0) rfl)).2
                    have fe2037 : b1991 ≠ sa2025 := (fn2034 _ (List.mem_of_getElem? (i := 1) rfl)).1
                    have fe2038 : b1991 ≠ sb2026 := (fn2034 _ (List.mem_of_getElem? (i := 1) rfl)).2
                    have fe2039 : t386 ≠ sa2025 := (fn2034 _ (List.mem_of_getElem? (i := 2) rfl)).1
                    have fe2040 : t386 ≠ sb2026 := (fn2034 _ (List.mem_of_getElem? (i := 2) rfl)).2
                    refine gw_aload C 504 at_502 rfl rfl rfl ?_
                    have fx2041 := (Exa.ext E2029 fx2019)
                    have fx2042 := (Fld.ext E2029 fx2020)
                    have fx2043 := (Fld.ext E2029 fx2021)
                    have fx2044 := (fx2022.ext E2029)
                    refine gw_callV C (a := sa2025) (argsL := [(.ref a2016)]) (W := 0) at_504 (hq hw 57 rfl) (hq hw 46 rfl) (fun _ hZ => notFace_of_selects (args := #[]) (mvT hZ (hq hw 48 rfl))) (hq hw 48 rfl) (hq hw 47 rfl) fx2030 (by decide) pd__Ljava_lang_Object__Z (ct_eq4 l Z a0 hw am (a := sa2025) (b := a2016) (t := sb2026) (u := u2017) (kt := k2027) (ku := ku2018) (x0 := (97 : Int32)) (x1 := (117 : Int32)) (x2 := (116 : Int32)) (x3 := (104 : Int32)) (y0 := (97 : Int32)) (y1 := (117 : Int32)) (y2 := (116 : Int32)) (y3 := (104 : Int32)) fx2030 fx2031 fx2032 fx2033 fx2041 fx2042 fx2043 fx2044 rfl rfl rfl rfl) rfl (by decide) (Nat.le_of_eq rfl) (by decide) rfl (by decide) (by decide) mems0 ?_
                    intro fv2045 h2046 K2047 fq2048
                    obtain ⟨rfl, rfl⟩ := fq2048
                    refine ⟨[], fresh0, ?_⟩
                    show GoW l _ Z _ _ _ _ _ κ _ _ 507 _ [(.int 1)] 9 186
                    refine gw_ifN C 510 at_507 rfl (feq ((by decide) : ¬ ((1 : Int32) = (0 : Int32)))).1 ?_
                    refine gw_iconst C 511 (1 : Int32) at_510 rfl (by decide) ?_
                    refine gw_goto C (pc' := 515) at_511 (by decide) (by decide) ?_
                    refine gw_retN C hEL (t := .boolean) (z := (1 : Int32)) at_515 rfl (by decide) (by decide) (by decide) (by decide) ?_
                    exact rfl
                  · skip
                    exact (fx2024 (by rw [hcq]; decide)).elim
                · skip
                  refine gw_icmpY C (pc' := 478) at_471 (feq hcq).2 (by decide) (by decide) ?_
                  refine gw_iconst C 479 (0 : Int32) at_478 rfl (by decide) ?_
                  refine gw_istore C 481 (Ls' := #[.val (.int p0), .val (.int p1), .val (.int p2), .val (.ref m), .val (.int ((XT.ushr p0 (1 : Int32)) &&& (7 : Int32))), .val (.int (p2 &&& (255 : Int32))), .val (.ref b1991), .val (.int 0), .val (.ref t386), .val (.int 21), .val (.int 111)]) at_479 rfl rfl ?_
                  refine gw_aloadN C 482 at_481 rfl rfl rfl ?_
                  refine gw_iconst C 483 (1 : Int32) at_482 rfl (by decide) ?_
                  refine gw_aload C 485 at_483 rfl rfl rfl ?_
                  refine gw_old ?_
                  intro O2049 zO2049
                  refine gw_callVW C hEL (a := m) (argsL := [(.int 1), (.ref b1991)]) (W := 0) at_485 (hq hw 37 rfl) (hq hw 38 rfl) (fun _ hZ => notFace_of_selects (args := #[]) (mvT hZ (hq hw 40 rfl))) (hq hw 40 rfl) (hq hw 39 rfl) (Exa.ext O2049 pm) (by decide) pd__ZLjava_lang_String__Ljava_lang_Object_ (ct_np23 l Z a0 hw am (m := m) (s := b1991) (t := t2004) (kt := kB2005) (x0 := (lo8 106)) (x1 := (lo8 97)) (x2 := (lo8 118)) (x3 := (lo8 97)) (x4 := (lo8 120)) (x5 := (lo8 46)) (x6 := (lo8 115)) (x7 := (lo8 101)) (x8 := (lo8 99)) (x9 := (lo8 117)) (x10 := (lo8 114)) (x11 := (lo8 105)) (x12 := (lo8 116)) (x13 := (lo8 121)) (x14 := (lo8 46)) (x15 := (lo8 115)) (x16 := (lo8 97)) (x17 := (lo8 115)) (x18 := (lo8 108)) (x19 := (lo8 46)) (x20 := (lo8 113)) (x21 := (lo8 (p2 &&& (255 : Int32)))) (x22 := (lo8 112)) fx2006 fx2007 fx2008 fx2009) rfl (by decide) (Nat.le_of_eq rfl) (by decide) rfl (by decide) (by decide) (memsS (mi 1 rfl) mems0) ?_
                  intro fv2050 h2051 K2052 fq2053
                  rcases fq2053 with ⟨a2054, u2055, ku2056, rfl, fx2057, fx2058, fx2059, fx2060, fx2061⟩ | ⟨rfl, fx2062⟩
                  · skip
                    exact (hcq ((lo8_mask (chr_and255 p2).1 (and_small _ 255 (by decide)).2).symm.trans (by rw [← fx2061.2.2.2.2.2.2.2.2.2.2.2.2.2.2.2.2.2.2.2.2.2.1]; decide))).elim
                  · skip
                    show GoW l _ Z _ _ _ _ _ κ _ _ 488 _ [.null] 7 166
                    refine gw_astore C 490 (Ls' := #[.val (.int p0), .val (.int p1), .val (.int p2), .val (.ref m), .val (.int ((XT.ushr p0 (1 : Int32)) &&& (7 : Int32))), .val (.int (p2 &&& (255 : Int32))), .val (.ref b1991), .val (.int 0), .val .null, .val (.int 21), .val (.int 111)]) at_488 rfl rfl rfl ?_
                    refine gw_iload C 492 at_490 rfl rfl ?_
                    refine gw_ifY C (pc' := 516) at_492 (teq ((by decide) : (0 : Int32) = (0 : Int32))).1 (by decide) (by decide) ?_
                    refine gw_aload C 518 at_516 rfl rfl rfl ?_
                    refine gw_ifnonnullN C 521 at_518 rfl ?_
                    refine gw_iconst C 522 (1 : Int32) at_521 rfl (by decide) ?_
                    refine gw_goto C (pc' := 526) at_522 (by decide) (by decide) ?_
                    refine gw_retN C hEL (t := .boolean) (z := (1 : Int32)) at_526 rfl (by decide) (by decide) (by decide) (by decide) ?_
                    exact rfl
              · skip
                refine gw_irem C 440 (22 : Int32) at_439 rfl (by decide) ec390 ?_
                refine gw_istore C 442 (Ls' := #[.val (.int p0), .val (.int p1), .val (.int p2), .val (.ref m), .val (.int ((XT.ushr p0 (1 : Int32)) &&& (7 : Int32))), .val (.int (p2 &&& (255 : Int32))), .unset, .unset, .val (.ref t386), .val (.int 22), .unset]) at_440 rfl rfl ?_
                refine gw_aload C 444 at_442 rfl rfl rfl ?_
                refine gw_iload C 446 at_444 rfl rfl ?_
                refine gw_caload C 447 (v := (.int 112)) at_446 rfl fx388 (by decide) rfl ?_
                refine gw_istore C 449 (Ls' := #[.val (.int p0), .val (.int p1), .val (.int p2), .val (.ref m), .val (.int ((XT.ushr p0 (1 : Int32)) &&& (7 : Int32))), .val (.int (p2 &&& (255 : Int32))), .unset, .unset, .val (.ref t386), .val (.int 22), .val (.int 112)]) at_447 rfl rfl ?_
                refine gw_aload C 451 at_449 rfl rfl rfl ?_
                refine gw_iload C 453 at_451 rfl rfl ?_
                refine gw_iload C 455 at_453 rfl rfl ?_
                refine gw_castore C 456 22 (v := (p2 &&& (255 : Int32))) (chr_and255 _).nar at_455 rfl fx388 (by decide) rfl (nble rfl) (mi 0 rfl) ?_
                intro h2063 W2064 fx2065
                have fx2066 : Arv Z h2063 t386 kC387 .char (23 : Int32) [(.int 106), (.int 97), (.int 118), (.int 97), (.int 120), (.int 46), (.int 115), (.int 101), (.int 99), (.int 117), (.int 114), (.int 105), (.int 116), (.int 121), (.int 46), (.int 115), (.int 97), (.int 115), (.int 108), (.int 46), (.int 113), (.int 111), (.int (p2 &&& (255 : Int32)))] (.int 0) := fx2065
                refine gw_new C 459 2 27 at_456 rfl rfl rfl (hq hw 3 rfl) (hq hw 4 rfl) (hq hw 5 rfl) (by decide) (by decide) ?_
                intro b2067 h2068 g2069 E2070 A2071 D2072
                have fx2073 : Fld Z h2068 b2067 "java/lang/String" "coder" "B" (.int 0) := D2072 (Or.inr (hq hw 34 rfl)) (ty := .byte) (by decide)
                have fx2074 : Fld Z h2068 b2067 "java/lang/String" "value" "[B" .null := D2072 (Or.inr (hq hw 36 rfl)) (ty := (.array .byte)) (by decide)
                refine gw_dup C 460 at_459 rfl rfl ?_
                refine gw_aload C 462 at_460 rfl rfl rfl ?_
                have fx2075 := (fx2066.ext E2070)
                refine gw_callI C (a := b2067) (argsL := [(.ref t386)]) (W := 1) at_462 rfl (hq hw 11 rfl) (hq hw 12 rfl) (hq hw 13 rfl) (by decide) pd___C_V (ct_str23 l Z a0 hw am (a := b2067) (b := t386) (kC := kC387) (c0 := (106 : Int32)) (c1 := (97 : Int32)) (c2 := (118 : Int32)) (c3 := (97 : Int32)) (c4 := (120 : Int32)) (c5 := (46 : Int32)) (c6 := (115 : Int32)) (c7 := (101 : Int32)) (c8 := (99 : Int32)) (c9 := (117 : Int32)) (c10 := (114 : Int32)) (c11 := (105 : Int32)) (c12 := (116 : Int32)) (c13 := (121 : Int32)) (c14 := (46 : Int32)) (c15 := (115 : Int32)) (c16 := (97 : Int32)) (c17 := (115 : Int32)) (c18 := (108 : Int32)) (c19 := (46 : Int32)) (c20 := (113 : Int32)) (c21 := (111 : Int32)) (c22 := (p2 &&& (255 : Int32))) A2071 fx2074 fx2073 fx2075 (by decide) (by decide) (by decide) (by decide) (by decide) (by decide) (by decide) (by decide) (by decide) (by decide) (by decide) (by decide) (by decide) (by decide) (by decide) (by decide) (by decide) (by decide) (by decide) (by decide) (by decide) (by decide) (and_small _ 255 (by decide)).2) rfl (by decide) (Nat.le_of_eq rfl) (by decide) rfl (by decide) (by decide) (memsS (mi 0 rfl) mems0) ?_
                intro fv2076 h2077 K2078 fq2079
                obtain ⟨t2080, kB2081, rfl, fx2082, fx2083, fx2084, fx2085, fx2086⟩ := fq2079
                refine ⟨[t2080], (freshS ⟨fx2086, (fx2085).lt⟩ fresh0), ?_⟩
                show GoW l _ Z _ _ _ _ _ κ [t2080, b2067, t386] _ 465 _ [(.ref b2067)] 3 50
                refine gw_astore C 467 (Ls' := #[.val (.int p0), .val (.int p1), .val (.int p2), .val (.ref m), .val (.int ((XT.ushr p0 (1 : Int32)) &&& (7 : Int32))), .val (.int (p2 &&& (255 : Int32))), .val (.ref b2067), .unset, .val (.ref t386), .val (.int 22), .val (.int 112)]) at_465 rfl rfl rfl ?_
                refine gw_iload C 469 at_467 rfl rfl ?_
                refine gw_iload C 471 at_469 rfl rfl ?_
                by_cases hcq : (p2 &&& (255 : Int32)) = (112 : Int32)
                · skip
                  refine gw_icmpN C 474 at_471 rfl (teq hcq).2 ?_
                  refine gw_iconst C 475 (1 : Int32) at_474 rfl (by decide) ?_
                  refine gw_goto C (pc' := 479) at_475 (by decide) (by decide) ?_
                  refine gw_istore C 481 (Ls' := #[.val (.int p0), .val (.int p1), .val (.int p2), .val (.ref m), .val (.int ((XT.ushr p0 (1 : Int32)) &&& (7 : Int32))), .val (.int (p2 &&& (255 : Int32))), .val (.ref b2067), .val (.int 1), .val (.ref t386), .val (.int 22), .val (.int 112)]) at_479 rfl rfl ?_
                  refine gw_aloadN C 482 at_481 rfl rfl rfl ?_
                  refine gw_iconst C 483 (1 : Int32) at_482 rfl (by decide) ?_
                  refine gw_aload C 485 at_483 rfl rfl rfl ?_
                  refine gw_old ?_
                  intro O2087 zO2087
                  refine gw_callVW C hEL (a := m) (argsL := [(.int 1), (.ref b2067)]) (W := 0) at_485 (hq hw 37 rfl) (hq hw 38 rfl) (fun _ hZ => notFace_of_selects (args := #[]) (mvT hZ (hq hw 40 rfl))) (hq hw 40 rfl) (hq hw 39 rfl) (Exa.ext O2087 pm) (by decide) pd__ZLjava_lang_String__Ljava_lang_Object_ (ct_np23 l Z a0 hw am (m := m) (s := b2067) (t := t2080) (kt := kB2081) (x0 := (lo8 106)) (x1 := (lo8 97)) (x2 := (lo8 118)) (x3 := (lo8 97)) (x4 := (lo8 120)) (x5 := (lo8 46)) (x6 := (lo8 115)) (x7 := (lo8 101)) (x8 := (lo8 99)) (x9 := (lo8 117)) (x10 := (lo8 114)) (x11 := (lo8 105)) (x12 := (lo8 116)) (x13 := (lo8 121)) (x14 := (lo8 46)) (x15 := (lo8 115)) (x16 := (lo8 97)) (x17 := (lo8 115)) (x18 := (lo8 108)) (x19 := (lo8 46)) (x20 := (lo8 113)) (x21 := (lo8 111)) (x22 := (lo8 (p2 &&& (255 : Int32)))) fx2082 fx2083 fx2084 fx2085) rfl (by decide) (Nat.le_of_eq rfl) (by decide) rfl (by decide) (by decide) (memsS (mi 1 rfl) mems0) ?_
                  intro fv2088 h2089 K2090 fq2091
                  rcases fq2091 with ⟨a2092, u2093, ku2094, rfl, fx2095, fx2096, fx2097, fx2098, fx2099⟩ | ⟨rfl, fx2100⟩
                  · skip
                    show GoW l _ Z _ _ _ _ _ κ _ _ 488 _ [(.ref a2092)] 7 166
                    refine gw_astore C 490 (Ls' := #[.val (.int p0), .val (.int p1), .val (.int p2), .val (.ref m), .val (.int ((XT.ushr p0 (1 : Int32)) &&& (7 : Int32))), .val (.int (p2 &&& (255 : Int32))), .val (.ref b2067), .val (.int 1), .val (.ref a2092), .val (.int 22), .val (.int 112)]) at_488 rfl rfl rfl ?_
                    refine gw_iload C 492 at_490 rfl rfl ?_
                    refine gw_ifN C 495 at_492 rfl (feq ((by decide) : ¬ ((1 : Int32) = (0 : Int32)))).1 ?_
                    refine gw_aload C 497 at_495 rfl rfl rfl ?_
                    refine gw_ifnullN C 500 at_497 rfl ?_
                    refine gw_ldcS C hEL 502 9 186 (n := 16) (vs := [(.int 97), (.int 117), (.int 116), (.int 104)]) (zn := (4 : Int32)) at_500 rfl rfl rfl (hq hw 56 rfl) (wS hw) (List.mem_of_getElem? (i := 2) rfl) (by decide) (by decide) rfl (by decide) (by decide) (by decide) (by decide) ?_
                    intro sa2101 sb2102 k2103 h2104 E2105 fx2106 fx2107 fx2108 fx2109 fn2110
                    have fe2111 : t2080 ≠ sa2101 := (fn2110 _ (List.mem_of_getElem? (i := 0) rfl)).1
                    have fe2112 : t2080 ≠ sb2102 := (fn2110 _ (List.mem_of_getElem? (i := 0) rfl)).2
                    have fe2113 : b2067 ≠ sa2101 := (fn2110 _ (List.mem_of_getElem? (i := 1) rfl)).1
                    have fe2114 : b2067 ≠ sb2102 := (fn2110 _ (List.mem_of_getElem? (i := 1) rfl)).2
                    have fe2115 : t386 ≠ sa2101 := (fn2110 _ (List.mem_of_getElem? (i := 2) rfl)).1
                    have fe2116 : t386 ≠ sb2102 := (fn2110 _ (List.mem_of_getElem? (i := 2) rfl)).2
                    refine gw_aload C 504 at_502 rfl rfl rfl ?_
                    have fx2117 := (Exa.ext E2105 fx2095)
                    have fx2118 := (Fld.ext E2105 fx2096)
                    have fx2119 := (Fld.ext E2105 fx2097)
                    have fx2120 := (fx2098.ext E2105)
                    refine gw_callV C (a := sa2101) (argsL := [(.ref a2092)]) (W := 0) at_504 (hq hw 57 rfl) (hq hw 46 rfl) (fun _ hZ => notFace_of_selects (args := #[]) (mvT hZ (hq hw 48 rfl))) (hq hw 48 rfl) (hq hw 47 rfl) fx2106 (by decide) pd__Ljava_lang_Object__Z (ct_eq4 l Z a0 hw am (a := sa2101) (b := a2092) (t := sb2102) (u := u2093) (kt := k2103) (ku := ku2094) (x0 := (97 : Int32)) (x1 := (117 : Int32)) (x2 := (116 : Int32)) (x3 := (104 : Int32)) (y0 := (97 : Int32)) (y1 := (117 : Int32)) (y2 := (116 : Int32)) (y3 := (104 : Int32)) fx2106 fx2107 fx2108 fx2109 fx2117 fx2118 fx2119 fx2120 rfl rfl rfl rfl) rfl (by decide) (Nat.le_of_eq rfl) (by decide) rfl (by decide) (by decide) mems0 ?_
                    intro fv2121 h2122 K2123 fq2124
                    obtain ⟨rfl, rfl⟩ := fq2124
                    refine ⟨[], fresh0, ?_⟩
                    show GoW l _ Z _ _ _ _ _ κ _ _ 507 _ [(.int 1)] 9 186
                    refine gw_ifN C 510 at_507 rfl (feq ((by decide) : ¬ ((1 : Int32) = (0 : Int32)))).1 ?_
                    refine gw_iconst C 511 (1 : Int32) at_510 rfl (by decide) ?_
                    refine gw_goto C (pc' := 515) at_511 (by decide) (by decide) ?_
                    refine gw_retN C hEL (t := .boolean) (z := (1 : Int32)) at_515 rfl (by decide) (by decide) (by decide) (by decide) ?_
                    exact rfl
                  · skip
                    exact (fx2100 (by rw [hcq]; decide)).elim
                · skip
                  refine gw_icmpY C (pc' := 478) at_471 (feq hcq).2 (by decide) (by decide) ?_
                  refine gw_iconst C 479 (0 : Int32) at_478 rfl (by decide) ?_
                  refine gw_istore C 481 (Ls' := #[.val (.int p0), .val (.int p1), .val (.int p2), .val (.ref m), .val (.int ((XT.ushr p0 (1 : Int32)) &&& (7 : Int32))), .val (.int (p2 &&& (255 : Int32))), .val (.ref b2067), .val (.int 0), .val (.ref t386), .val (.int 22), .val (.int 112)]) at_479 rfl rfl ?_
                  refine gw_aloadN C 482 at_481 rfl rfl rfl ?_
                  refine gw_iconst C 483 (1 : Int32) at_482 rfl (by decide) ?_
                  refine gw_aload C 485 at_483 rfl rfl rfl ?_
                  refine gw_old ?_
                  intro O2125 zO2125
                  refine gw_callVW C hEL (a := m) (argsL := [(.int 1), (.ref b2067)]) (W := 0) at_485 (hq hw 37 rfl) (hq hw 38 rfl) (fun _ hZ => notFace_of_selects (args := #[]) (mvT hZ (hq hw 40 rfl))) (hq hw 40 rfl) (hq hw 39 rfl) (Exa.ext O2125 pm) (by decide) pd__ZLjava_lang_String__Ljava_lang_Object_ (ct_np23 l Z a0 hw am (m := m) (s := b2067) (t := t2080) (kt := kB2081) (x0 := (lo8 106)) (x1 := (lo8 97)) (x2 := (lo8 118)) (x3 := (lo8 97)) (x4 := (lo8 120)) (x5 := (lo8 46)) (x6 := (lo8 115)) (x7 := (lo8 101)) (x8 := (lo8 99)) (x9 := (lo8 117)) (x10 := (lo8 114)) (x11 := (lo8 105)) (x12 := (lo8 116)) (x13 := (lo8 121)) (x14 := (lo8 46)) (x15 := (lo8 115)) (x16 := (lo8 97)) (x17 := (lo8 115)) (x18 := (lo8 108)) (x19 := (lo8 46)) (x20 := (lo8 113)) (x21 := (lo8 111)) (x22 := (lo8 (p2 &&& (255 : Int32)))) fx2082 fx2083 fx2084 fx2085) rfl (by decide) (Nat.le_of_eq rfl) (by decide) rfl (by decide) (by decide) (memsS (mi 1 rfl) mems0) ?_
                  intro fv2126 h2127 K2128 fq2129
                  rcases fq2129 with ⟨a2130, u2131, ku2132, rfl, fx2133, fx2134, fx2135, fx2136, fx2137⟩ | ⟨rfl, fx2138⟩
                  · skip
                    exact (hcq ((lo8_mask (chr_and255 p2).1 (and_small _ 255 (by decide)).2).symm.trans (by rw [← fx2137.2.2.2.2.2.2.2.2.2.2.2.2.2.2.2.2.2.2.2.2.2.2]; decide))).elim
                  · skip
                    show GoW l _ Z _ _ _ _ _ κ _ _ 488 _ [.null] 7 166
                    refine gw_astore C 490 (Ls' := #[.val (.int p0), .val (.int p1), .val (.int p2), .val (.ref m), .val (.int ((XT.ushr p0 (1 : Int32)) &&& (7 : Int32))), .val (.int (p2 &&& (255 : Int32))), .val (.ref b2067), .val (.int 0), .val .null, .val (.int 22), .val (.int 112)]) at_488 rfl rfl rfl ?_
                    refine gw_iload C 492 at_490 rfl rfl ?_
                    refine gw_ifY C (pc' := 516) at_492 (teq ((by decide) : (0 : Int32) = (0 : Int32))).1 (by decide) (by decide) ?_
                    refine gw_aload C 518 at_516 rfl rfl rfl ?_
                    refine gw_ifnonnullN C 521 at_518 rfl ?_
                    refine gw_iconst C 522 (1 : Int32) at_521 rfl (by decide) ?_
                    refine gw_goto C (pc' := 526) at_522 (by decide) (by decide) ?_
                    refine gw_retN C hEL (t := .boolean) (z := (1 : Int32)) at_526 rfl (by decide) (by decide) (by decide) (by decide) ?_
                    exact rfl
theorem law0 (l : Launch) (Z : State) (a0 : Array Value) (hw : HW a0 Z) {cS : Int32} {m1 : Addr} {m2 : Addr} (am : Amb Z a0 cS m1 m2) {p0 : Int32} {p1 : Int32} {p2 : Int32} {h0 : Heap} :
    CtW l Z consts_1 x code maxLocals ret room_1 #[(.int p0), (.int p1), (.int p2)] h0 [] (fun v h' => v = some (.int 1)) := by
  have hEL := am.1
  refine CtW.mk (a0 := a0) (Ls := #[.val (.int p0), .val (.int p1), .val (.int p2), .unset, .unset, .unset, .unset, .unset, .unset, .unset, .unset]) (plainFor_of_name pn_com_example_holdfast_holdfast_sasl_MechanismNegotiatedPropertyPinLaw) (fun m => by first | (simp [entryFrame, mkF, argsToLocals, Value.category, maxLocals]; done) | rfl) ?_
  intro κ C
  show GoW l _ Z _ _ _ _ _ κ [] h0 0 #[.val (.int p0), .val (.int p1), .val (.int p2), .unset, .unset, .unset, .unset, .unset, .unset, .unset, .unset] [] 0 0
  refine gw_iloadN C 1 at_0 rfl rfl ?_
  refine gw_iconst C 2 (1 : Int32) at_1 rfl (by decide) ?_
  refine gw_iand C 3 (p0 &&& (1 : Int32)) at_2 rfl rfl ?_
  by_cases hc1 : (p0 &&& (1 : Int32)) = (0 : Int32)
  · skip
    refine gw_ifN C 6 at_3 rfl (teq hc1).2 ?_
    refine gw_getS C 9 at_6 rfl (hq hw 0 rfl) am.2.2.2.1 ?_
    refine gw_goto C (pc' := 15) at_9 (by decide) (by decide) ?_
    exact law15 l Z a0 hw am (m := m1) am.2.2.2.2.2.1 C
  · skip
    refine gw_ifY C (pc' := 12) at_3 (feq hc1).2 (by decide) (by decide) ?_
    refine gw_getS C 15 at_12 rfl (hq hw 58 rfl) am.2.2.2.2.1 ?_
    exact law15 l Z a0 hw am (m := m2) am.2.2.2.2.2.2 C
theorem comes_1 {Post : Tables → Env → Array Value → State → Outcome → State → Prop} (hpost : ∀ tb e args s v u, (limb_1_1.after args s (.returned v) u = true ∧ limb_1_2.after args s (.returned v) u = true ∧ True) → ReturnedEndW s (.returned v) u (Jvm.fieldLocs frame_1_writes args s ++ Jvm.arrayLocs frame_1_arrays args s ++ Jvm.staticLocs frame_1_statics s) 24 4288 → Post tb e args s (.returned v) u) :
    ArmFor flags0 classFile x code maxLocals ret World_1 tables_1 room_1 Calls_1 rest_1 Pre_1 Post := by
  intro l hfl _ _ p e ha hc hk s m args below hf hA hF happ hP
  obtain ⟨hcalls, hrest, hpre⟩ := hP
  obtain ⟨-, -, -, hnamed, -, -, -, hat⟩ := (Spec.applies_iff hf).mp happ
  obtain ⟨hg, hn⟩ := and_e (Cond.before_iff.mp (show (Jvm.Cond.and given_1 narrow_1).before args s = true from hpre))
  obtain ⟨g0, gr0⟩ := and_e hg
  obtain ⟨g1, gr1⟩ := and_e gr0
  obtain ⟨g2, gr2⟩ := and_e gr1
  have g3 := gr2
  obtain ⟨w0, w1, w2, rfl⟩ : ∃ w0 w1 w2 : Value, args = #[w0, w1, w2] := by
    have hs : args.size = 3 := by simpa [Cond.value, given_1] using g0
    obtain ⟨L⟩ := args
    match L, hs with
    | [w0, w1, w2], _ => exact ⟨w0, w1, w2, rfl⟩
  have hw := fun d (hd : d ∈ tables_1) => atoms_spec (ws := Jvm.Cond.code x code maxLocals ret :: tables_1) hat d (List.mem_cons_of_mem _ hd)
  have hfit : Fit s := fun {y c} hc i hi => by
    obtain ⟨ha, rfl⟩ := Array.getElem?_eq_some_iff.mp hc
    have q := List.all_eq_true.mp ((Array.all_eq_true_iff_forall_mem.mp hF) _ (Array.getElem_mem ha)) i (List.mem_range.mpr hi)
    simpa [Array.getElem?_eq_getElem hi] using q
  obtain ⟨hsets, hown0⟩ := atoms_of _ (rest_1_c_eq ▸ (show rest_1_c.before _ s = true from hrest))
  obtain ⟨i0, ei0⟩ := is_v g1
  obtain rfl : w0 = (.int i0) := Option.some.inj ei0
  obtain ⟨i1, ei1⟩ := is_v g2
  obtain rfl : w1 = (.int i1) := Option.some.inj ei1
  obtain ⟨i2, ei2⟩ := is_v g3
  obtain rfl : w2 = (.int i2) := Option.some.inj ei2
  have nCS := not_v (Cond.before_iff.mp (hsets _ (List.mem_of_getElem? (i := 2) rfl)))
  obtain ⟨cS, ecS⟩ := is_v (Cond.before_iff.mp (hsets _ (List.mem_of_getElem? (i := 1) rfl)))
  have S1 : Sta s s.heap "java/lang/String" "COMPACT_STRINGS" "Z" (.int cS) := Sta.start ecS (Or.inl (hsets _ (List.mem_of_getElem? (i := 0) rfl)))
  have c1 : ¬ (cS = (0 : Int32)) := gotF (Cond.eq_ints ecS (Term.int_eval (0))) nCS
  have hEL : EW s _ consts_1 := (EW.cons (hw _ (List.mem_of_getElem? (i := 42) rfl)) (by decide) (EW.cons (hw _ (List.mem_of_getElem? (i := 55) rfl)) (by decide) (EW.cons (hw _ (List.mem_of_getElem? (i := 56) rfl)) (by decide) (EW.cons (hw _ (List.mem_of_getElem? (i := 60) rfl)) (by decide) EW.nil))))
  have hCH : CHv s consts_1 s.vm s.heap := CHv.start hEL (fun p hp => hcalls.1 p hp) (hsets _ (List.mem_of_getElem? (i := 2) rfl)) (hq hw 26 rfl) (hq hw 4 rfl)
  obtain ⟨n1, n2⟩ := and_e hn
  obtain ⟨m1, em1⟩ := exa_v n1
  obtain ⟨m2, em2⟩ := exa_v n2
  have S6 : Sta s s.heap "com/example/holdfast/holdfast/sasl/Mechanism" "SAML20EC" "Lcom/example/holdfast/holdfast/sasl/Mechanism;" (.ref m1) := Sta.start em1 (Or.inr ⟨hw _ (List.mem_of_getElem? (i := 1) rfl), hw _ (List.mem_of_getElem? (i := 2) rfl)⟩)
  have S7 : Sta s s.heap "com/example/holdfast/holdfast/sasl/Mechanism" "SAML20" "Lcom/example/holdfast/holdfast/sasl/Mechanism;" (.ref m2) := Sta.start em2 (Or.inr ⟨hw _ (List.mem_of_getElem? (i := 1) rfl), hw _ (List.mem_of_getElem? (i := 59) rfl)⟩)
  have x1 := Exa.start em1 n1
  have x2 := Exa.start em2 n2
  obtain ⟨n, o, h1, h2, h3, _, L, rfl, ⟨-, rfl, N⟩, -, hq⟩ := law0 l s _ hw (am := ⟨hEL, S1, c1, S6, S7, x1, x2⟩) (p0 := i0) (p1 := i1) (p2 := i2) (h0 := s.heap) (ext_refl _) (fun _ q => nomatch q) tables_1 p e ha hc hk s m _ below hf ((Spec.applies_iff_loose hf).mp happ).1 ⟨rfl, State.Warmed39.refl s, rfl, hCH, fun _ q => nomatch q⟩ trivial
  exact ⟨n, _, h1, h2, h3, hpost _ _ _ _ _ _ ⟨Cond.after_iff.mpr rfl, Cond.after_iff.mpr (eq_i res_at (Term.int_eval (1)) rfl), trivial⟩ ⟨hq.1, hq.2.1, hq.2.2.1, (hq.2.2.2.sift fun y hy => Or.inr (N y hy)).mono (by decide) (by decide)⟩⟩
theorem main_1_1 : Claimed_1_1 := comes_1 fun _ _ _ _ _ _ h hF => ⟨h.1, hF⟩
theorem main_1_2 : Claimed_1_2 := comes_1 fun _ _ _ _ _ _ h hF => ⟨h.2.1, hF⟩
end Jvm.Pilot.@@N@@
namespace Jvm.Pilot.@@N@@
open Jvm Jvm.ClassFile Sem Op Lib Jvm.Free Jvm.Stand Jvm.Pilot.@@N@@.Jvm.D
/-! MADE BY PROGRAM (witnessworld.py) out of the Statement's table words and the real class files: 21 classes; the members and pool entries that the words name. The judged class is class 1, her method 2. -/
namespace start1
open Jvm.ClassFile
def u (s : String) : CpInfo := .utf8 (stringToUtf16 s)
/-- a pool by its gaps: so many unusable entries, then the entry; so many at the end -/
def gap : Nat → List CpInfo → List CpInfo
  | 0, r => r
  | n + 1, r => .unusable :: gap n r
def poolList (es : List (Nat × CpInfo)) (last : Nat) : List CpInfo := es.foldr (fun e r => gap e.1 (e.2 :: r)) (gap last [])
def pool (es : List (Nat × CpInfo)) (last : Nat) : Array CpInfo := ⟨poolList es last⟩
def fileOf (pool : Array CpInfo) (this : Nat) (attrs : Array Attribute := #[]) (ms : Array MethodInfo := #[]) (fl : Nat := 33) (sup : Nat := 0) (ifs : Array Nat := #[]) (fds : Array FieldInfo := #[]) : ClassFile where
  minorVersion := 0
  majorVersion := 65
  constantPool := pool
  accessFlags := fl
  thisClass := this
  superClass := sup
  interfaces := ifs
  fields := fds
  methods := ms
  attributes := attrs
def plain (name : String) (sup : Option ClassId) : Class where
  name := name
  kind := .ordinary
  loader := none
  accessFlags := 33
  super := sup
  interfaces := #[]
  cf := none
  fields := #[]
  methods := #[]
  instanceTypes := #[]
  staticTypes := #[]
  resolved := #[]
  callSites := []
  init := .initialized
  statics := none
  mirror := none

def pool0 : Array CpInfo := pool [(5, u "<init>"), (0, u "()V"), (1, .class_ 10), (1, u "java/lang/Object")] 113

def k0c0 : Code := { maxStack := 0, maxLocals := 1, code := object_method_1_code, exceptionTable := #[], attributes := #[] }
def k0m0 : Method := { name := "<init>", desc := "()V", sig := { parameters := [], returnType := none }, accessFlags := 1, code := some k0c0 }
/-- java/lang/Object -/
def k0 : Class := { plain "java/lang/Object" none with
  accessFlags := 33
  interfaces := #[]
  cf := some (fileOf pool0 8 #[] #[{ accessFlags := 1, nameIndex := 5, descriptorIndex := 6, attributes := #[] }] 33 0 #[] #[])
  fields := #[]
  methods := #[k0m0]
  instanceTypes := #[]
  staticTypes := #[]
  resolved := Array.replicate 124 none
  statics := none }

def pool1 : Array CpInfo := pool [(2, .class_ 4), (1, u "java/lang/Object"), (0, u "<init>"), (0, u "()V"), (0, .fieldref 8 9), (0, .class_ 10), (0, .nameAndType 11 12), (0, u "com/example/holdfast/holdfast/sasl/Mechanism"), (0, u "SAML20EC"), (0, u "Lcom/example/holdfast/holdfast/sasl/Mechanism;"), (0, .fieldref 8 14), (0, .nameAndType 15 12), (0, u "SAML20"), (0, .class_ 17), (0, u "java/lang/String"), (0, .methodref 19 20), (0, .class_ 21), (0, .nameAndType 22 23), (0, u "com/example/holdfast/holdfast/sasl/MechanismNegotiatedPropertyPinLaw"), (0, u "qop"), (0, u "()[C"), (0, .methodref 16 25), (0, .nameAndType 5 26), (0, u "([C)V"), (0, .methodref 16 28), (0, .nameAndType 29 30), (0, u "valueOf"), (0, u "(C)Ljava/lang/String;"), (0, .integer 2147483647), (0, .methodref 8 33), (0, .nameAndType 34 35), (0, u "negotiatedProperty"), (0, u "(ZLjava/lang/String;)Ljava/lang/Object;"), (0, .string 37), (0, u "auth"), (0, .methodref 16 39), (0, .nameAndType 40 41), (0, u "equals"), (0, u "(Ljava/lang/Object;)Z"), (2, u "law"), (0, u "(III)Z")] 5

def k1m0 : Method := { name := "<init>", desc := "()V", sig := { parameters := [], returnType := none }, accessFlags := 1, code := none }
def k1c1 : Code := { maxStack := 4, maxLocals := 0, code := method_2_code, exceptionTable := #[], attributes := #[] }
def k1m1 : Method := { name := "qop", desc := "()[C", sig := { parameters := [], returnType := some (.array .char) }, accessFlags := 10, code := some k1c1 }
def k1c2 : Code := { maxStack := 6, maxLocals := 11, code := code, exceptionTable := #[], attributes := #[] }
def k1m2 : Method := { name := "law", desc := "(III)Z", sig := { parameters := [.int, .int, .int], returnType := some .boolean }, accessFlags := 9, code := some k1c2 }
/-- com/example/holdfast/holdfast/sasl/MechanismNegotiatedPropertyPinLaw -/
def k1 : Class := { plain "com/example/holdfast/holdfast/sasl/MechanismNegotiatedPropertyPinLaw" (some 0) with
  accessFlags := 49
  interfaces := #[]
  cf := some (fileOf pool1 19 #[] #[{ accessFlags := 1, nameIndex := 5, descriptorIndex := 6, attributes := #[] }, { accessFlags := 10, nameIndex := 22, descriptorIndex := 23, attributes := #[] }, { accessFlags := 9, nameIndex := 44, descriptorIndex := 45, attributes := #[] }] 49 2 #[] #[])
  fields := #[]
  methods := #[k1m0, k1m1, k1m2]
  instanceTypes := #[]
  staticTypes := #[]
  resolved := Array.replicate 51 none
  statics := none }

def pool2 : Array CpInfo := pool [(1, .class_ 2), (0, u "java/lang/constant/Constable"), (0, .class_ 4), (0, u "java/lang/Object")] 6

/-- java/lang/constant/Constable -/
def k2 : Class := { plain "java/lang/constant/Constable" (some 0) with
  accessFlags := 1537
  interfaces := #[]
  cf := some (fileOf pool2 1 #[] #[] 1537 3 #[] #[])
  fields := #[]
  methods := #[]
  instanceTypes := #[]
  staticTypes := #[]
  resolved := Array.replicate 11 none
  statics := none }

def pool3 : Array CpInfo := pool [(1, .class_ 2), (0, u "java/lang/Comparable"), (0, .class_ 4), (0, u "java/lang/Object")] 7

/-- java/lang/Comparable -/
def k3 : Class := { plain "java/lang/Comparable" (some 0) with
  accessFlags := 1537
  interfaces := #[]
  cf := some (fileOf pool3 1 #[] #[] 1537 3 #[] #[])
  fields := #[]
  methods := #[]
  instanceTypes := #[]
  staticTypes := #[]
  resolved := Array.replicate 12 none
  statics := none }

def pool4 : Array CpInfo := pool [(1, .class_ 2), (0, u "java/io/Serializable"), (0, .class_ 4), (0, u "java/lang/Object")] 2

/-- java/io/Serializable -/
def k4 : Class := { plain "java/io/Serializable" (some 0) with
  accessFlags := 1537
  interfaces := #[]
  cf := some (fileOf pool4 1 #[] #[] 1537 3 #[] #[])
  fields := #[]
  methods := #[]
  instanceTypes := #[]
  staticTypes := #[]
  resolved := Array.replicate 7 none
  statics := none }

def pool5 : Array CpInfo := pool [(2, .class_ 4), (1, u "java/lang/Enum"), (0, u "name"), (0, u "Ljava/lang/String;"), (2, u "ordinal"), (0, u "I"), (1, .class_ 14), (1, u "java/lang/Object"), (4, u "hash"), (86, .class_ 108), (1, u "java/lang/Enum$EnumDesc"), (2, .class_ 112), (0, u "java/lang/constant/Constable"), (0, .class_ 114), (0, u "java/lang/Comparable"), (0, .class_ 116), (0, u "java/io/Serializable")] 87

/-- java/lang/Enum -/
def k5 : Class := { plain "java/lang/Enum" (some 0) with
  accessFlags := 1057
  interfaces := #[2, 3, 4]
  cf := some (fileOf pool5 2 #[.nestMembers #[106]] #[] 1057 12 #[111, 113, 115] #[{ accessFlags := 18, nameIndex := 5, descriptorIndex := 6, attributes := #[] }, { accessFlags := 18, nameIndex := 9, descriptorIndex := 10, attributes := #[] }, { accessFlags := 2, nameIndex := 19, descriptorIndex := 10, attributes := #[] }])
  fields := #[{ name := "name", type := (.object "java/lang/String"), accessFlags := 18, slot := 0, constantValue := 0 }, { name := "ordinal", type := .int, accessFlags := 18, slot := 1, constantValue := 0 }, { name := "hash", type := .int, accessFlags := 2, slot := 2, constantValue := 0 }]
  methods := #[]
  instanceTypes := #[(.object "java/lang/String"), .int, .int]
  staticTypes := #[]
  resolved := Array.replicate 204 none
  statics := none }

def pool6 : Array CpInfo := pool [(1, .class_ 2), (0, u "com/example/holdfast/holdfast/sasl/Mechanism"), (2, u "SAML20EC"), (0, u "Lcom/example/holdfast/holdfast/sasl/Mechanism;"), (2, u "SAML20"), (2, u "$VALUES"), (0, u "[Lcom/example/holdfast/holdfast/sasl/Mechanism;"), (6, .class_ 22), (1, u "java/lang/Enum"), (8, u "saslName"), (0, u "Ljava/lang/String;"), (2, u "policiesMet"), (0, u "Ljava/util/Set;"), (60, .string 98), (0, u "javax.security.sasl.qop"), (0, .methodref 100 101), (0, .class_ 102), (0, .nameAndType 103 104), (0, u "java/lang/String"), (0, u "equals"), (0, u "(Ljava/lang/Object;)Z"), (0, .string 106), (0, u "auth"), (2, u "POLICIES"), (0, u "Ljava/util/List;"), (70, u "negotiatedProperty"), (0, u "(ZLjava/lang/String;)Ljava/lang/Object;")] 67

def k6c0 : Code := { maxStack := 2, maxLocals := 3, code := prog_54_method_9_code, exceptionTable := #[], attributes := #[] }
def k6m0 : Method := { name := "negotiatedProperty", desc := "(ZLjava/lang/String;)Ljava/lang/Object;", sig := { parameters := [.boolean, (.object "java/lang/String")], returnType := some (.object "java/lang/Object") }, accessFlags := 0, code := some k6c0 }
/-- com/example/holdfast/holdfast/sasl/Mechanism -/
def k6 : Class := { plain "com/example/holdfast/holdfast/sasl/Mechanism" (some 5) with
  accessFlags := 16433
  interfaces := #[]
  cf := some (fileOf pool6 1 #[] #[{ accessFlags := 0, nameIndex := 181, descriptorIndex := 182, attributes := #[] }] 16433 20 #[] #[{ accessFlags := 16409, nameIndex := 5, descriptorIndex := 6, attributes := #[] }, { accessFlags := 16409, nameIndex := 9, descriptorIndex := 6, attributes := #[] }, { accessFlags := 26, nameIndex := 109, descriptorIndex := 110, attributes := #[] }, { accessFlags := 18, nameIndex := 31, descriptorIndex := 32, attributes := #[] }, { accessFlags := 18, nameIndex := 35, descriptorIndex := 36, attributes := #[] }, { accessFlags := 4122, nameIndex := 12, descriptorIndex := 13, attributes := #[] }])
  fields := #[{ name := "SAML20EC", type := (.object "com/example/holdfast/holdfast/sasl/Mechanism"), accessFlags := 16409, slot := 0, constantValue := 0 }, { name := "SAML20", type := (.object "com/example/holdfast/holdfast/sasl/Mechanism"), accessFlags := 16409, slot := 1, constantValue := 0 }, { name := "POLICIES", type := (.object "java/util/List"), accessFlags := 26, slot := 2, constantValue := 0 }, { name := "saslName", type := (.object "java/lang/String"), accessFlags := 18, slot := 3, constantValue := 0 }, { name := "policiesMet", type := (.object "java/util/Set"), accessFlags := 18, slot := 4, constantValue := 0 }, { name := "$VALUES", type := (.array (.object "com/example/holdfast/holdfast/sasl/Mechanism")), accessFlags := 4122, slot := 3, constantValue := 0 }]
  methods := #[k6m0]
  instanceTypes := #[(.object "java/lang/String"), .int, .int, (.object "java/lang/String"), (.object "java/util/Set")]
  staticTypes := #[(.object "com/example/holdfast/holdfast/sasl/Mechanism"), (.object "com/example/holdfast/holdfast/sasl/Mechanism"), (.object "java/util/List"), (.array (.object "com/example/holdfast/holdfast/sasl/Mechanism"))]
  resolved := Array.replicate 250 none
  statics := some 0 }

def pool7 : Array CpInfo := pool [(2, .class_ 4), (1, u "java/lang/CharSequence"), (42, .class_ 48), (0, u "java/lang/CharSequence$1CodePointIterator"), (10, .class_ 60), (0, u "java/lang/CharSequence$1CharIterator"), (5, .class_ 67), (0, u "java/lang/Object")] 63

/-- java/lang/CharSequence -/
def k7 : Class := { plain "java/lang/CharSequence" (some 0) with
  accessFlags := 1537
  interfaces := #[]
  cf := some (fileOf pool7 2 #[.nestMembers #[47, 59]] #[] 1537 66 #[] #[])
  fields := #[]
  methods := #[]
  instanceTypes := #[]
  staticTypes := #[]
  resolved := Array.replicate 131 none
  statics := none }

def pool8 : Array CpInfo := pool [(1, .class_ 2), (0, u "java/lang/constant/ConstantDesc"), (0, .class_ 4), (0, u "java/lang/Object")] 32

/-- java/lang/constant/ConstantDesc -/
def k8 : Class := { plain "java/lang/constant/ConstantDesc" (some 0) with
  accessFlags := 1537
  interfaces := #[]
  cf := some (fileOf pool8 1 #[] #[] 1537 3 #[] #[])
  fields := #[]
  methods := #[]
  instanceTypes := #[]
  staticTypes := #[]
  resolved := Array.replicate 37 none
  statics := none }

def pool9 : Array CpInfo := pool [(1, .methodref 2 3), (0, .class_ 4), (0, .nameAndType 5 6), (0, u "java/lang/Object"), (0, u "<init>"), (0, u "()V"), (0, .string 8), (0, u ""), (0, .fieldref 10 11), (0, .class_ 12), (0, .nameAndType 13 14), (0, u "java/lang/String"), (0, u "value"), (0, u "[B"), (0, .fieldref 10 16), (0, .nameAndType 17 18), (0, u "coder"), (0, u "B"), (2, u "hash"), (0, u "I"), (2, u "hashIsZero"), (0, u "Z"), (0, .methodref 10 28), (0, .nameAndType 5 29), (0, u "([CIILjava/lang/Void;)V"), (8, .fieldref 10 39), (0, .nameAndType 40 26), (0, u "COMPACT_STRINGS"), (1, .class_ 44), (1, u "java/lang/StringUTF16"), (0, u "compress"), (1, .methodref 42 48), (0, .nameAndType 49 50), (0, u "coderFromArrayLen"), (0, u "([BI)B"), (2, u "toBytes"), (53, .class_ 109), (1, u "java/lang/StringLatin1"), (67, .methodref 42 178), (0, .nameAndType 45 179), (0, u "([CII)[B"), (29, .methodref 10 210), (0, .nameAndType 5 211), (0, u "([BB)V"), (157, u "(C)Z"), (171, .methodref 107 542), (0, .nameAndType 543 544), (0, u "equals"), (0, u "([B[B)Z"), (28, u "(Ljava/lang/Object;)Z"), (1, .class_ 576), (0, u "java/lang/CharSequence"), (22, u "CASE_INSENSITIVE_ORDER"), (0, u "Ljava/util/Comparator;"), (181, u "valueOf"), (0, u "(C)Ljava/lang/String;"), (226, u "([C)V"), (4, .methodref 107 1016), (0, .nameAndType 1017 369), (0, u "canEncode"), (0, .methodref 107 1019), (0, .nameAndType 53 1020), (0, u "(C)[B"), (80, u "serialPersistentFields"), (0, u "[Ljava/io/ObjectStreamField;"), (0, .class_ 1104), (0, u "java/lang/String$CaseInsensitiveComparator"), (1, .class_ 1107), (0, u "java/io/Serializable"), (0, .class_ 1109), (0, u "java/lang/Comparable"), (0, .class_ 1111), (0, u "java/lang/constant/Constable"), (0, .class_ 1113), (0, u "java/lang/constant/ConstantDesc"), (2, u "serialVersionUID"), (0, u "J"), (3, u "REPL"), (0, u "C"), (2, u "LATIN1"), (1, u "UTF16")] 323

def k9m0 : Method := { name := "<init>", desc := "()V", sig := { parameters := [], returnType := none }, accessFlags := 1, code := none }
def k9c1 : Code := { maxStack := 5, maxLocals := 2, code := jdk_42_method_3_code, exceptionTable := #[], attributes := #[] }
def k9m1 : Method := { name := "<init>", desc := "([C)V", sig := { parameters := [(.array .char)], returnType := none }, accessFlags := 1, code := some k9c1 }
def k9c2 : Code := { maxStack := 2, maxLocals := 3, code := jdk_42_method_66_code, exceptionTable := #[], attributes := #[] }
def k9m2 : Method := { name := "equals", desc := "(Ljava/lang/Object;)Z", sig := { parameters := [(.object "java/lang/Object")], returnType := some .boolean }, accessFlags := 1, code := some k9c2 }
def k9c3 : Code := { maxStack := 4, maxLocals := 1, code := jdk_42_method_139_code, exceptionTable := #[], attributes := #[] }
def k9m3 : Method := { name := "valueOf", desc := "(C)Ljava/lang/String;", sig := { parameters := [.char], returnType := some (.object "java/lang/String") }, accessFlags := 9, code := some k9c3 }
def k9c4 : Code := { maxStack := 4, maxLocals := 6, code := jdk_42_method_149_code, exceptionTable := #[], attributes := #[] }
def k9m4 : Method := { name := "<init>", desc := "([CIILjava/lang/Void;)V", sig := { parameters := [(.array .char), .int, .int, (.object "java/lang/Void")], returnType := none }, accessFlags := 2, code := some k9c4 }
def k9c5 : Code := { maxStack := 2, maxLocals := 3, code := jdk_42_method_151_code, exceptionTable := #[], attributes := #[] }
def k9m5 : Method := { name := "<init>", desc := "([BB)V", sig := { parameters := [(.array .byte), .byte], returnType := none }, accessFlags := 0, code := some k9c5 }
/-- java/lang/String -/
def k9 : Class := { plain "java/lang/String" (some 0) with
  accessFlags := 49
  interfaces := #[4, 3, 7, 2, 8]
  cf := some (fileOf pool9 10 #[.nestMembers #[1103]] #[{ accessFlags := 1, nameIndex := 5, descriptorIndex := 6, attributes := #[] }, { accessFlags := 1, nameIndex := 5, descriptorIndex := 1010, attributes := #[] }, { accessFlags := 1, nameIndex := 543, descriptorIndex := 573, attributes := #[] }, { accessFlags := 9, nameIndex := 782, descriptorIndex := 783, attributes := #[] }, { accessFlags := 2, nameIndex := 5, descriptorIndex := 29, attributes := #[] }, { accessFlags := 0, nameIndex := 5, descriptorIndex := 211, attributes := #[] }] 49 2 #[1106, 1108, 575, 1110, 1112] #[{ accessFlags := 18, nameIndex := 13, descriptorIndex := 14, attributes := #[] }, { accessFlags := 18, nameIndex := 17, descriptorIndex := 18, attributes := #[] }, { accessFlags := 2, nameIndex := 21, descriptorIndex := 22, attributes := #[] }, { accessFlags := 2, nameIndex := 25, descriptorIndex := 26, attributes := #[] }, { accessFlags := 26, nameIndex := 1116, descriptorIndex := 1117, attributes := #[] }, { accessFlags := 24, nameIndex := 40, descriptorIndex := 26, attributes := #[] }, { accessFlags := 26, nameIndex := 1101, descriptorIndex := 1102, attributes := #[] }, { accessFlags := 26, nameIndex := 1121, descriptorIndex := 1122, attributes := #[] }, { accessFlags := 25, nameIndex := 599, descriptorIndex := 600, attributes := #[] }, { accessFlags := 24, nameIndex := 1125, descriptorIndex := 18, attributes := #[] }, { accessFlags := 24, nameIndex := 1127, descriptorIndex := 18, attributes := #[] }])
  fields := #[{ name := "value", type := (.array .byte), accessFlags := 18, slot := 0, constantValue := 0 }, { name := "coder", type := .byte, accessFlags := 18, slot := 1, constantValue := 0 }, { name := "hash", type := .int, accessFlags := 2, slot := 2, constantValue := 0 }, { name := "hashIsZero", type := .boolean, accessFlags := 2, slot := 3, constantValue := 0 }, { name := "serialVersionUID", type := .long, accessFlags := 26, slot := 0, constantValue := 0 }, { name := "COMPACT_STRINGS", type := .boolean, accessFlags := 24, slot := 1, constantValue := 0 }, { name := "serialPersistentFields", type := (.array (.object "java/io/ObjectStreamField")), accessFlags := 26, slot := 2, constantValue := 0 }, { name := "REPL", type := .char, accessFlags := 26, slot := 3, constantValue := 0 }, { name := "CASE_INSENSITIVE_ORDER", type := (.object "java/util/Comparator"), accessFlags := 25, slot := 4, constantValue := 0 }, { name := "LATIN1", type := .byte, accessFlags := 24, slot := 5, constantValue := 0 }, { name := "UTF16", type := .byte, accessFlags := 24, slot := 6, constantValue := 0 }]
  methods := #[k9m0, k9m1, k9m2, k9m3, k9m4, k9m5]
  instanceTypes := #[(.array .byte), .byte, .int, .boolean]
  staticTypes := #[.long, .boolean, (.array (.object "java/io/ObjectStreamField")), .char, (.object "java/util/Comparator"), .byte, .byte]
  resolved := Array.replicate 1451 none
  statics := some 1 }

def pool10 : Array CpInfo := pool [(6, .class_ 8), (1, u "java/lang/Object"), (0, u "<init>"), (0, u "()V"), (1, .class_ 14), (1, u "java/lang/StringUTF16"), (31, u "$assertionsDisabled"), (0, u "Z"), (13, u "HI_BYTE_SHIFT"), (0, u "I"), (2, u "LO_BYTE_SHIFT"), (49, .methodref 12 116), (0, .nameAndType 117 118), (0, u "compress"), (0, u "([CI[BII)I"), (3, u "([CII)[B"), (138, u "coderFromArrayLen"), (0, u "([BI)B"), (106, .class_ 371), (1, u "java/lang/StringUTF16$LinesSpliterator"), (58, u "MAX_LENGTH"), (196, .class_ 628), (0, u "java/lang/StringUTF16$CodePointsSpliterator"), (0, .class_ 630), (0, u "java/lang/StringUTF16$CharsSpliterator")] 4

def k10m0 : Method := { name := "<init>", desc := "()V", sig := { parameters := [], returnType := none }, accessFlags := 0, code := none }
def k10c1 : Code := { maxStack := 2, maxLocals := 2, code := jdk_52_method_15_code, exceptionTable := #[], attributes := #[] }
def k10m1 : Method := { name := "coderFromArrayLen", desc := "([BI)B", sig := { parameters := [(.array .byte), .int], returnType := some .byte }, accessFlags := 8, code := some k10c1 }
def k10c2 : Code := { maxStack := 5, maxLocals := 6, code := jdk_52_method_16_code, exceptionTable := #[], attributes := #[] }
def k10m2 : Method := { name := "compress", desc := "([CII)[B", sig := { parameters := [(.array .char), .int, .int], returnType := some (.array .byte) }, accessFlags := 9, code := some k10c2 }
def k10c3 : Code := { maxStack := 3, maxLocals := 7, code := jdk_52_method_21_code, exceptionTable := #[], attributes := #[] }
def k10m3 : Method := { name := "compress", desc := "([CI[BII)I", sig := { parameters := [(.array .char), .int, (.array .byte), .int, .int], returnType := some .int }, accessFlags := 9, code := some k10c3 }
/-- java/lang/StringUTF16 -/
def k10 : Class := { plain "java/lang/StringUTF16" (some 0) with
  accessFlags := 48
  interfaces := #[]
  cf := some (fileOf pool10 12 #[.nestMembers #[627, 629, 369]] #[{ accessFlags := 0, nameIndex := 9, descriptorIndex := 10, attributes := #[] }, { accessFlags := 8, nameIndex := 261, descriptorIndex := 262, attributes := #[] }, { accessFlags := 9, nameIndex := 117, descriptorIndex := 122, attributes := #[] }, { accessFlags := 9, nameIndex := 117, descriptorIndex := 118, attributes := #[] }] 48 6 #[] #[{ accessFlags := 26, nameIndex := 61, descriptorIndex := 62, attributes := #[] }, { accessFlags := 26, nameIndex := 65, descriptorIndex := 62, attributes := #[] }, { accessFlags := 24, nameIndex := 430, descriptorIndex := 62, attributes := #[] }, { accessFlags := 4120, nameIndex := 46, descriptorIndex := 47, attributes := #[] }])
  fields := #[{ name := "HI_BYTE_SHIFT", type := .int, accessFlags := 26, slot := 0, constantValue := 0 }, { name := "LO_BYTE_SHIFT", type := .int, accessFlags := 26, slot := 1, constantValue := 0 }, { name := "MAX_LENGTH", type := .int, accessFlags := 24, slot := 2, constantValue := 0 }, { name := "$assertionsDisabled", type := .boolean, accessFlags := 4120, slot := 3, constantValue := 0 }]
  methods := #[k10m0, k10m1, k10m2, k10m3]
  instanceTypes := #[]
  staticTypes := #[.int, .int, .int, .boolean]
  resolved := Array.replicate 635 none
  statics := none }

def pool11 : Array CpInfo := pool [(4, .class_ 6), (1, u "java/lang/Object"), (0, u "<init>"), (0, u "()V"), (5, .class_ 16), (1, u "java/lang/StringLatin1"), (73, u "canEncode"), (14, u "(C)Z"), (15, u "$assertionsDisabled"), (0, u "Z"), (98, .class_ 223), (1, u "java/lang/StringLatin1$LinesSpliterator"), (57, u "equals"), (0, u "([B[B)Z"), (97, u "toBytes"), (1, u "(C)[B"), (7, .class_ 391), (0, u "java/lang/StringLatin1$CharsSpliterator")] 3

def k11m0 : Method := { name := "<init>", desc := "()V", sig := { parameters := [], returnType := none }, accessFlags := 0, code := none }
def k11c1 : Code := { maxStack := 2, maxLocals := 1, code := jdk_43_method_3_code, exceptionTable := #[], attributes := #[] }
def k11m1 : Method := { name := "canEncode", desc := "(C)Z", sig := { parameters := [.char], returnType := some .boolean }, accessFlags := 9, code := some k11c1 }
def k11c2 : Code := { maxStack := 3, maxLocals := 3, code := jdk_43_method_13_code, exceptionTable := #[], attributes := #[] }
def k11m2 : Method := { name := "equals", desc := "([B[B)Z", sig := { parameters := [(.array .byte), (.array .byte)], returnType := some .boolean }, accessFlags := 9, code := some k11c2 }
def k11c3 : Code := { maxStack := 4, maxLocals := 1, code := jdk_43_method_46_code, exceptionTable := #[], attributes := #[] }
def k11m3 : Method := { name := "toBytes", desc := "(C)[B", sig := { parameters := [.char], returnType := some (.array .byte) }, accessFlags := 9, code := some k11c3 }
/-- java/lang/StringLatin1 -/
def k11 : Class := { plain "java/lang/StringLatin1" (some 0) with
  accessFlags := 48
  interfaces := #[]
  cf := some (fileOf pool11 14 #[.nestMembers #[390, 221]] #[{ accessFlags := 0, nameIndex := 7, descriptorIndex := 8, attributes := #[] }, { accessFlags := 9, nameIndex := 90, descriptorIndex := 105, attributes := #[] }, { accessFlags := 9, nameIndex := 281, descriptorIndex := 282, attributes := #[] }, { accessFlags := 9, nameIndex := 380, descriptorIndex := 382, attributes := #[] }] 48 4 #[] #[{ accessFlags := 4120, nameIndex := 121, descriptorIndex := 122, attributes := #[] }])
  fields := #[{ name := "$assertionsDisabled", type := .boolean, accessFlags := 4120, slot := 0, constantValue := 0 }]
  methods := #[k11m0, k11m1, k11m2, k11m3]
  instanceTypes := #[]
  staticTypes := #[.boolean]
  resolved := Array.replicate 395 none
  statics := none }

def pool12 : Array CpInfo := pool [(2, .class_ 4), (1, u "java/lang/Object"), (0, u "<init>"), (0, u "()V"), (17, .class_ 26), (1, u "jdk/internal/util/Preconditions"), (28, .class_ 56), (0, u "jdk/internal/util/Preconditions$4"), (57, .class_ 115), (0, u "jdk/internal/util/Preconditions$1"), (7, u "SIOOBE_FORMATTER"), (0, u "Ljava/util/function/BiFunction;"), (0, .class_ 126), (0, u "jdk/internal/util/Preconditions$2"), (3, u "AIOOBE_FORMATTER"), (0, .class_ 132), (0, u "jdk/internal/util/Preconditions$3"), (3, u "IOOBE_FORMATTER")] 57

def k12m0 : Method := { name := "<init>", desc := "()V", sig := { parameters := [], returnType := none }, accessFlags := 1, code := none }
/-- jdk/internal/util/Preconditions -/
def k12 : Class := { plain "jdk/internal/util/Preconditions" (some 0) with
  accessFlags := 33
  interfaces := #[]
  cf := some (fileOf pool12 24 #[.nestMembers #[55, 131, 125, 114]] #[{ accessFlags := 1, nameIndex := 5, descriptorIndex := 6, attributes := #[] }] 33 2 #[] #[{ accessFlags := 25, nameIndex := 123, descriptorIndex := 124, attributes := #[] }, { accessFlags := 25, nameIndex := 130, descriptorIndex := 124, attributes := #[] }, { accessFlags := 25, nameIndex := 136, descriptorIndex := 124, attributes := #[] }])
  fields := #[{ name := "SIOOBE_FORMATTER", type := (.object "java/util/function/BiFunction"), accessFlags := 25, slot := 0, constantValue := 0 }, { name := "AIOOBE_FORMATTER", type := (.object "java/util/function/BiFunction"), accessFlags := 25, slot := 1, constantValue := 0 }, { name := "IOOBE_FORMATTER", type := (.object "java/util/function/BiFunction"), accessFlags := 25, slot := 2, constantValue := 0 }]
  methods := #[k12m0]
  instanceTypes := #[]
  staticTypes := #[(.object "java/util/function/BiFunction"), (.object "java/util/function/BiFunction"), (.object "java/util/function/BiFunction")]
  resolved := Array.replicate 194 none
  statics := some 2 }

def pool13 : Array CpInfo := pool [(9, u "<init>"), (6, .class_ 18), (1, u "java/lang/Object"), (0, u "()V"), (1, .class_ 23), (1, u "jdk/internal/util/ArraysSupport"), (0, u "LOG2_ARRAY_LONG_INDEX_SCALE"), (0, u "I"), (2, u "U"), (0, u "Ljdk/internal/misc/Unsafe;"), (8, u "BIG_ENDIAN"), (0, u "Z"), (8, u "LOG2_BYTE_BIT_SIZE"), (4, u "LOG2_ARRAY_INT_INDEX_SCALE"), (54, u "JLA"), (0, u "Ljdk/internal/access/JavaLangAccess;"), (11, u "LOG2_ARRAY_BOOLEAN_INDEX_SCALE"), (9, u "LOG2_ARRAY_BYTE_INDEX_SCALE"), (5, u "LOG2_ARRAY_CHAR_INDEX_SCALE"), (5, u "LOG2_ARRAY_SHORT_INDEX_SCALE"), (18, u "LOG2_ARRAY_FLOAT_INDEX_SCALE"), (24, u "LOG2_ARRAY_DOUBLE_INDEX_SCALE"), (89, u "T_BOOLEAN"), (2, u "T_CHAR"), (1, u "T_FLOAT"), (1, u "T_DOUBLE"), (1, u "T_BYTE"), (1, u "T_SHORT"), (1, u "T_INT"), (1, u "T_LONG"), (1, u "SOFT_MAX_ARRAY_LENGTH")] 83

def k13m0 : Method := { name := "<init>", desc := "()V", sig := { parameters := [], returnType := none }, accessFlags := 2, code := none }
/-- jdk/internal/util/ArraysSupport -/
def k13 : Class := { plain "jdk/internal/util/ArraysSupport" (some 0) with
  accessFlags := 33
  interfaces := #[]
  cf := some (fileOf pool13 21 #[] #[{ accessFlags := 2, nameIndex := 9, descriptorIndex := 19, attributes := #[] }] 33 16 #[] #[{ accessFlags := 24, nameIndex := 28, descriptorIndex := 29, attributes := #[] }, { accessFlags := 26, nameIndex := 38, descriptorIndex := 39, attributes := #[] }, { accessFlags := 25, nameIndex := 121, descriptorIndex := 25, attributes := #[] }, { accessFlags := 25, nameIndex := 131, descriptorIndex := 25, attributes := #[] }, { accessFlags := 25, nameIndex := 137, descriptorIndex := 25, attributes := #[] }, { accessFlags := 25, nameIndex := 143, descriptorIndex := 25, attributes := #[] }, { accessFlags := 25, nameIndex := 53, descriptorIndex := 25, attributes := #[] }, { accessFlags := 25, nameIndex := 24, descriptorIndex := 25, attributes := #[] }, { accessFlags := 25, nameIndex := 162, descriptorIndex := 25, attributes := #[] }, { accessFlags := 25, nameIndex := 187, descriptorIndex := 25, attributes := #[] }, { accessFlags := 26, nameIndex := 48, descriptorIndex := 25, attributes := #[] }, { accessFlags := 25, nameIndex := 277, descriptorIndex := 25, attributes := #[] }, { accessFlags := 25, nameIndex := 280, descriptorIndex := 25, attributes := #[] }, { accessFlags := 25, nameIndex := 282, descriptorIndex := 25, attributes := #[] }, { accessFlags := 25, nameIndex := 284, descriptorIndex := 25, attributes := #[] }, { accessFlags := 25, nameIndex := 286, descriptorIndex := 25, attributes := #[] }, { accessFlags := 25, nameIndex := 288, descriptorIndex := 25, attributes := #[] }, { accessFlags := 25, nameIndex := 290, descriptorIndex := 25, attributes := #[] }, { accessFlags := 25, nameIndex := 292, descriptorIndex := 25, attributes := #[] }, { accessFlags := 26, nameIndex := 108, descriptorIndex := 109, attributes := #[] }, { accessFlags := 25, nameIndex := 294, descriptorIndex := 25, attributes := #[] }])
  fields := #[{ name := "U", type := (.object "jdk/internal/misc/Unsafe"), accessFlags := 24, slot := 0, constantValue := 0 }, { name := "BIG_ENDIAN", type := .boolean, accessFlags := 26, slot := 1, constantValue := 0 }, { name := "LOG2_ARRAY_BOOLEAN_INDEX_SCALE", type := .int, accessFlags := 25, slot := 2, constantValue := 0 }, { name := "LOG2_ARRAY_BYTE_INDEX_SCALE", type := .int, accessFlags := 25, slot := 3, constantValue := 0 }, { name := "LOG2_ARRAY_CHAR_INDEX_SCALE", type := .int, accessFlags := 25, slot := 4, constantValue := 0 }, { name := "LOG2_ARRAY_SHORT_INDEX_SCALE", type := .int, accessFlags := 25, slot := 5, constantValue := 0 }, { name := "LOG2_ARRAY_INT_INDEX_SCALE", type := .int, accessFlags := 25, slot := 6, constantValue := 0 }, { name := "LOG2_ARRAY_LONG_INDEX_SCALE", type := .int, accessFlags := 25, slot := 7, constantValue := 0 }, { name := "LOG2_ARRAY_FLOAT_INDEX_SCALE", type := .int, accessFlags := 25, slot := 8, constantValue := 0 }, { name := "LOG2_ARRAY_DOUBLE_INDEX_SCALE", type := .int, accessFlags := 25, slot := 9, constantValue := 0 }, { name := "LOG2_BYTE_BIT_SIZE", type := .int, accessFlags := 26, slot := 10, constantValue := 0 }, { name := "T_BOOLEAN", type := .int, accessFlags := 25, slot := 11, constantValue := 0 }, { name := "T_CHAR", type := .int, accessFlags := 25, slot := 12, constantValue := 0 }, { name := "T_FLOAT", type := .int, accessFlags := 25, slot := 13, constantValue := 0 }, { name := "T_DOUBLE", type := .int, accessFlags := 25, slot := 14, constantValue := 0 }, { name := "T_BYTE", type := .int, accessFlags := 25, slot := 15, constantValue := 0 }, { name := "T_SHORT", type := .int, accessFlags := 25, slot := 16, constantValue := 0 }, { name := "T_INT", type := .int, accessFlags := 25, slot := 17, constantValue := 0 }, { name := "T_LONG", type := .int, accessFlags := 25, slot := 18, constantValue := 0 }, { name := "JLA", type := (.object "jdk/internal/access/JavaLangAccess"), accessFlags := 26, slot := 19, constantValue := 0 }, { name := "SOFT_MAX_ARRAY_LENGTH", type := .int, accessFlags := 25, slot := 20, constantValue := 0 }]
  methods := #[k13m0]
  instanceTypes := #[]
  staticTypes := #[(.object "jdk/internal/misc/Unsafe"), .boolean, .int, .int, .int, .int, .int, .int, .int, .int, .int, .int, .int, .int, .int, .int, .int, .int, .int, (.object "jdk/internal/access/JavaLangAccess"), .int]
  resolved := Array.replicate 378 none
  statics := none }

def pool14 : Array CpInfo := pool [(1, u "java/lang/Cloneable"), (0, .class_ 1), (0, u "java/lang/Object"), (0, .class_ 3)] 3

/-- java/lang/Cloneable -/
def k14 : Class := { plain "java/lang/Cloneable" (some 0) with
  accessFlags := 1537
  interfaces := #[]
  cf := some (fileOf pool14 2 #[] #[] 1537 4 #[] #[])
  fields := #[]
  methods := #[]
  instanceTypes := #[]
  staticTypes := #[]
  resolved := Array.replicate 8 none
  statics := none }

/-- the primitive byte -/
def k15 : Class := { plain "byte" none with kind := .primitive 'B', accessFlags := 0x411 }
/-- [B -/
def k16 : Class := { plain "[B" (some 0) with kind := .array 15 .byte, interfaces := #[14, 4], accessFlags := 1041 }

/-- the primitive char -/
def k17 : Class := { plain "char" none with kind := .primitive 'C', accessFlags := 0x411 }
/-- [C -/
def k18 : Class := { plain "[C" (some 0) with kind := .array 17 .char, interfaces := #[14, 4], accessFlags := 1041 }

/-- the primitive int -/
def k19 : Class := { plain "int" none with kind := .primitive 'I', accessFlags := 0x411 }
/-- [I -/
def k20 : Class := { plain "[I" (some 0) with kind := .array 19 .int, interfaces := #[14, 4], accessFlags := 1041 }

def heap : Heap := #[{ cls := 6, slots := #[.ref 3, .ref 4, .null, .null], vm := .statics 6 },
  { cls := 9, slots := #[.long 0, .int 1, .null, .int 0, .null, .int 0, .int 0], vm := .statics 9 },
  { cls := 12, slots := #[.null, .null, .null], vm := .statics 12 },
  { cls := 6, slots := #[.null, .int 0, .int 0, .null, .null], vm := .none },
  { cls := 6, slots := #[.null, .int 1, .int 0, .null, .null], vm := .none }]
def classes : Array Class := #[k0, k1, k2, k3, k4, k5, k6, k7, k8, k9, k10, k11, k12, k13, k14, k15, k16, k17, k18, k19, k20]
def interned : List (Array UInt16 × Addr) := []
def slotsUsed : Nat := 24
def theMethod : MethodId := ⟨1, 2⟩
def args0 : Array Value := #[.int 1, .int 2, .int 3]
def aboutOver (below : List Frame) : State where
  vm := { classes := classes, interned := interned.toArray }
  heap := heap
  slotsUsed := slotsUsed
  threads := #[{ frames := .invoking theMethod args0 :: below }]
def below0 : List Frame := [.native { method := ⟨0, 0⟩, args := #[] }]
def about1 : State := aboutOver below0
def p0 : Program := .bare "" "" ""
def e0 : Env := launch0.env 0 0 0
theorem w_frames : about1.frames = Frame.invoking theMethod args0 :: below0 := rfl
set_option maxRecDepth 65536 in
theorem w_args : argsFit about1.vm theMethod args0 = true := by decide +kernel
set_option maxRecDepth 65536 in
theorem w_heap : heapFits about1 = true := by decide +kernel
set_option maxRecDepth 65536 in
theorem w_runnable : about1.curStatus? = some .runnable := by decide +kernel
set_option maxRecDepth 65536 in
theorem w_alone : about1.alone = true := by decide +kernel
set_option maxRecDepth 65536 in
theorem w_named : about1.methodNamed? x = some theMethod := by decide +kernel
set_option maxRecDepth 65536 in
theorem w_hears : about1.hears theMethod below0 = true := by decide +kernel
set_option maxRecDepth 65536 in
theorem w_ripe : about1.ripe theMethod args0 below0 = true := by decide +kernel
theorem w_running : about1.status = .running := rfl
set_option maxRecDepth 65536 in
theorem w_room : about1.hasRoom e0.platform room_1 = true :=
  launch0.hasRoom_least _ room_1 (by decide +kernel) (by decide +kernel) (by decide +kernel) (by decide +kernel) (by decide +kernel) (by decide +kernel)
theorem allAtoms_all (ts : List Jvm.Cond) (a : Array Jvm.Value) (st : Jvm.State) : (allAtoms ts).before a st = ts.all (fun c => c.before a st) := by
  induction ts with
  | nil => rfl
  | cons c t ih =>
    show (Jvm.Cond.and c (allAtoms t)).before a st = _
    rw [Jvm.Cond.before_and, ih, List.all_cons]
def words1 : List Jvm.Cond := Jvm.Cond.code x code maxLocals ret :: tables_1
/-- a 'code' word, met by the world's own term for the bytes: nothing is compared byte by byte -/
theorem code_word {y : MethodName} {bytes : ByteArray} {mx : Nat} {rt : Option FieldType} {a : Array Value} {s : State} {m : MethodId} {meth : Method} {c : Code} (h1 : s.methodNamed? y = some m) (h2 : s.vm.method? m = some meth) (h3 : meth.code = some c) (h4 : c.code = bytes)
    (h5 : (c.maxLocals == mx && c.exceptionTable.isEmpty && decide (c.maxStack ≤ mostOperands) && decide (meth.sig.returnType = rt) && !meth.locks && decide (parseMethodDescriptor y.desc = some meth.sig)) = true) : (Jvm.Cond.code y bytes mx rt).before a s = true := by
  simp only [Bool.and_eq_true, beq_iff_eq, Bool.not_eq_true', decide_eq_true_eq] at h5
  obtain ⟨⟨⟨⟨⟨g1, g2⟩, g3⟩, g4⟩, g5⟩, g6⟩ := h5
  simp [Cond.before, Cond.holds, Cond.value, h1, h2, h3, h4, g1, g2, g3, g4, g5, g6]
def isCode : Jvm.Cond → Bool
  | .code _ _ _ _ => true
  | _ => false
theorem all_split {L : List Jvm.Cond} {P : Jvm.Cond → Bool} (h1 : L.all (fun c => isCode c || P c) = true) (h2 : ∀ c ∈ L.filter isCode, P c = true) : L.all P = true := by
  refine List.all_eq_true.mpr fun c hc => ?_
  have h := List.all_eq_true.mp h1 c hc
  rcases Bool.eq_false_or_eq_true (isCode c) with hi | hi
  · exact h2 c (List.mem_filter.mpr ⟨hc, hi⟩)
  · simpa [hi] using h
set_option maxRecDepth 65536 in
theorem w_c0 : (Jvm.Cond.code x code maxLocals ret).before args0 about1 = true := code_word (m := ⟨1, 2⟩) (meth := k1m2) (c := k1c2) (by decide +kernel) rfl rfl rfl (by decide +kernel)
set_option maxRecDepth 65536 in
theorem w_c1 : (Jvm.Cond.code ({ cls := "com/example/holdfast/holdfast/sasl/MechanismNegotiatedPropertyPinLaw", name := "qop", desc := "()[C" } : Jvm.MethodName) method_2_code (0 : Nat) (Option.some (Jvm.ClassFile.FieldType.array Jvm.ClassFile.FieldType.char))).before args0 about1 = true := code_word (m := ⟨1, 1⟩) (meth := k1m1) (c := k1c1) (by decide +kernel) rfl rfl rfl (by decide +kernel)
set_option maxRecDepth 65536 in
theorem w_c2 : (Jvm.Cond.code ({ cls := "java/lang/String", name := "<init>", desc := "([C)V" } : Jvm.MethodName) jdk_42_method_3_code (2 : Nat) (Option.none : Option Jvm.ClassFile.FieldType)).before args0 about1 = true := code_word (m := ⟨9, 1⟩) (meth := k9m1) (c := k9c1) (by decide +kernel) rfl rfl rfl (by decide +kernel)
set_option maxRecDepth 65536 in
theorem w_c3 : (Jvm.Cond.code ({ cls := "java/lang/String", name := "<init>", desc := "([CIILjava/lang/Void;)V" } : Jvm.MethodName) jdk_42_method_149_code (6 : Nat) (Option.none : Option Jvm.ClassFile.FieldType)).before args0 about1 = true := code_word (m := ⟨9, 4⟩) (meth := k9m4) (c := k9c4) (by decide +kernel) rfl rfl rfl (by decide +kernel)
set_option maxRecDepth 65536 in
theorem w_c4 : (Jvm.Cond.code ({ cls := "java/lang/Object", name := "<init>", desc := "()V" } : Jvm.MethodName) object_method_1_code (1 : Nat) (Option.none : Option Jvm.ClassFile.FieldType)).before args0 about1 = true := code_word (m := ⟨0, 0⟩) (meth := k0m0) (c := k0c0) (by decide +kernel) rfl rfl rfl (by decide +kernel)
set_option maxRecDepth 65536 in
theorem w_c5 : (Jvm.Cond.code ({ cls := "java/lang/StringUTF16", name := "compress", desc := "([CII)[B" } : Jvm.MethodName) jdk_52_method_16_code (6 : Nat) (Option.some (Jvm.ClassFile.FieldType.array Jvm.ClassFile.FieldType.byte))).before args0 about1 = true := code_word (m := ⟨10, 2⟩) (meth := k10m2) (c := k10c2) (by decide +kernel) rfl rfl rfl (by decide +kernel)
set_option maxRecDepth 65536 in
theorem w_c6 : (Jvm.Cond.code ({ cls := "java/lang/StringUTF16", name := "compress", desc := "([CI[BII)I" } : Jvm.MethodName) jdk_52_method_21_code (7 : Nat) (Option.some Jvm.ClassFile.FieldType.int)).before args0 about1 = true := code_word (m := ⟨10, 3⟩) (meth := k10m3) (c := k10c3) (by decide +kernel) rfl rfl rfl (by decide +kernel)
set_option maxRecDepth 65536 in
theorem w_c7 : (Jvm.Cond.code ({ cls := "java/lang/StringUTF16", name := "coderFromArrayLen", desc := "([BI)B" } : Jvm.MethodName) jdk_52_method_15_code (2 : Nat) (Option.some Jvm.ClassFile.FieldType.byte)).before args0 about1 = true := code_word (m := ⟨10, 1⟩) (meth := k10m1) (c := k10c1) (by decide +kernel) rfl rfl rfl (by decide +kernel)
set_option maxRecDepth 65536 in
theorem w_c8 : (Jvm.Cond.code ({ cls := "com/example/holdfast/holdfast/sasl/Mechanism", name := "negotiatedProperty", desc := "(ZLjava/lang/String;)Ljava/lang/Object;" } : Jvm.MethodName) prog_54_method_9_code (3 : Nat) (Option.some (Jvm.ClassFile.FieldType.object "java/lang/Object"))).before args0 about1 = true := code_word (m := ⟨6, 0⟩) (meth := k6m0) (c := k6c0) (by decide +kernel) rfl rfl rfl (by decide +kernel)
set_option maxRecDepth 65536 in
theorem w_c9 : (Jvm.Cond.code ({ cls := "java/lang/String", name := "equals", desc := "(Ljava/lang/Object;)Z" } : Jvm.MethodName) jdk_42_method_66_code (3 : Nat) (Option.some Jvm.ClassFile.FieldType.boolean)).before args0 about1 = true := code_word (m := ⟨9, 2⟩) (meth := k9m2) (c := k9c2) (by decide +kernel) rfl rfl rfl (by decide +kernel)
set_option maxRecDepth 65536 in
theorem w_c10 : (Jvm.Cond.code ({ cls := "java/lang/StringLatin1", name := "equals", desc := "([B[B)Z" } : Jvm.MethodName) jdk_43_method_13_code (3 : Nat) (Option.some Jvm.ClassFile.FieldType.boolean)).before args0 about1 = true := code_word (m := ⟨11, 2⟩) (meth := k11m2) (c := k11c2) (by decide +kernel) rfl rfl rfl (by decide +kernel)
set_option maxRecDepth 65536 in
theorem w_c11 : (Jvm.Cond.code ({ cls := "java/lang/String", name := "valueOf", desc := "(C)Ljava/lang/String;" } : Jvm.MethodName) jdk_42_method_139_code (1 : Nat) (Option.some (Jvm.ClassFile.FieldType.object "java/lang/String"))).before args0 about1 = true := code_word (m := ⟨9, 3⟩) (meth := k9m3) (c := k9c3) (by decide +kernel) rfl rfl rfl (by decide +kernel)
set_option maxRecDepth 65536 in
theorem w_c12 : (Jvm.Cond.code ({ cls := "java/lang/StringLatin1", name := "canEncode", desc := "(C)Z" } : Jvm.MethodName) jdk_43_method_3_code (1 : Nat) (Option.some Jvm.ClassFile.FieldType.boolean)).before args0 about1 = true := code_word (m := ⟨11, 1⟩) (meth := k11m1) (c := k11c1) (by decide +kernel) rfl rfl rfl (by decide +kernel)
set_option maxRecDepth 65536 in
theorem w_c13 : (Jvm.Cond.code ({ cls := "java/lang/StringLatin1", name := "toBytes", desc := "(C)[B" } : Jvm.MethodName) jdk_43_method_46_code (1 : Nat) (Option.some (Jvm.ClassFile.FieldType.array Jvm.ClassFile.FieldType.byte))).before args0 about1 = true := code_word (m := ⟨11, 3⟩) (meth := k11m3) (c := k11c3) (by decide +kernel) rfl rfl rfl (by decide +kernel)
set_option maxRecDepth 65536 in
theorem w_c14 : (Jvm.Cond.code ({ cls := "java/lang/String", name := "<init>", desc := "([BB)V" } : Jvm.MethodName) jdk_42_method_151_code (3 : Nat) (Option.none : Option Jvm.ClassFile.FieldType)).before args0 about1 = true := code_word (m := ⟨9, 5⟩) (meth := k9m5) (c := k9c5) (by decide +kernel) rfl rfl rfl (by decide +kernel)
def codes1 : List Jvm.Cond := [Jvm.Cond.code x code maxLocals ret, Jvm.Cond.code ({ cls := "com/example/holdfast/holdfast/sasl/MechanismNegotiatedPropertyPinLaw", name := "qop", desc := "()[C" } : Jvm.MethodName) method_2_code (0 : Nat) (Option.some (Jvm.ClassFile.FieldType.array Jvm.ClassFile.FieldType.char)), Jvm.Cond.code ({ cls := "java/lang/String", name := "<init>", desc := "([C)V" } : Jvm.MethodName) jdk_42_method_3_code (2 : Nat) (Option.none : Option Jvm.ClassFile.FieldType), Jvm.Cond.code ({ cls := "java/lang/String", name := "<init>", desc := "([CIILjava/lang/Void;)V" } : Jvm.MethodName) jdk_42_method_149_code (6 : Nat) (Option.none : Option Jvm.ClassFile.FieldType), Jvm.Cond.code ({ cls := "java/lang/Object", name := "<init>", desc := "()V" } : Jvm.MethodName) object_method_1_code (1 : Nat) (Option.none : Option Jvm.ClassFile.FieldType), Jvm.Cond.code ({ cls := "java/lang/StringUTF16", name := "compress", desc := "([CII)[B" } : Jvm.MethodName) jdk_52_method_16_code (6 : Nat) (Option.some (Jvm.ClassFile.FieldType.array Jvm.ClassFile.FieldType.byte)), Jvm.Cond.code ({ cls := "java/lang/StringUTF16", name := "compress", desc := "([CI[BII)I" } : Jvm.MethodName) jdk_52_method_21_code (7 : Nat) (Option.some Jvm.ClassFile.FieldType.int), Jvm.Cond.code ({ cls := "java/lang/StringUTF16", name := "coderFromArrayLen", desc := "([BI)B" } : Jvm.MethodName) jdk_52_method_15_code (2 : Nat) (Option.some Jvm.ClassFile.FieldType.byte), Jvm.Cond.code ({ cls := "com/example/holdfast/holdfast/sasl/Mechanism", name := "negotiatedProperty", desc := "(ZLjava/lang/String;)Ljava/lang/Object;" } : Jvm.MethodName) prog_54_method_9_code (3 : Nat) (Option.some (Jvm.ClassFile.FieldType.object "java/lang/Object")), Jvm.Cond.code ({ cls := "java/lang/String", name := "equals", desc := "(Ljava/lang/Object;)Z" } : Jvm.MethodName) jdk_42_method_66_code (3 : Nat) (Option.some Jvm.ClassFile.FieldType.boolean), Jvm.Cond.code ({ cls := "java/lang/StringLatin1", name := "equals", desc := "([B[B)Z" } : Jvm.MethodName) jdk_43_method_13_code (3 : Nat) (Option.some Jvm.ClassFile.FieldType.boolean), Jvm.Cond.code ({ cls := "java/lang/String", name := "valueOf", desc := "(C)Ljava/lang/String;" } : Jvm.MethodName) jdk_42_method_139_code (1 : Nat) (Option.some (Jvm.ClassFile.FieldType.object "java/lang/String")), Jvm.Cond.code ({ cls := "java/lang/StringLatin1", name := "canEncode", desc := "(C)Z" } : Jvm.MethodName) jdk_43_method_3_code (1 : Nat) (Option.some Jvm.ClassFile.FieldType.boolean), Jvm.Cond.code ({ cls := "java/lang/StringLatin1", name := "toBytes", desc := "(C)[B" } : Jvm.MethodName) jdk_43_method_46_code (1 : Nat) (Option.some (Jvm.ClassFile.FieldType.array Jvm.ClassFile.FieldType.byte)), Jvm.Cond.code ({ cls := "java/lang/String", name := "<init>", desc := "([BB)V" } : Jvm.MethodName) jdk_42_method_151_code (3 : Nat) (Option.none : Option Jvm.ClassFile.FieldType)]
set_option maxRecDepth 65536 in
theorem codes_eq : words1.filter isCode = codes1 := rfl
theorem w_codes : ∀ c ∈ words1.filter isCode, c.before args0 about1 = true := by
  rw [codes_eq]
  intro c hc
  simp only [codes1, List.mem_cons, List.not_mem_nil, or_false] at hc
  rcases hc with rfl | rfl | rfl | rfl | rfl | rfl | rfl | rfl | rfl | rfl | rfl | rfl | rfl | rfl | rfl
  · exact w_c0
  · exact w_c1
  · exact w_c2
  · exact w_c3
  · exact w_c4
  · exact w_c5
  · exact w_c6
  · exact w_c7
  · exact w_c8
  · exact w_c9
  · exact w_c10
  · exact w_c11
  · exact w_c12
  · exact w_c13
  · exact w_c14
set_option maxRecDepth 65536 in
theorem w_t1 : (words1.take 24).all (fun c => isCode c || c.before args0 about1) = true := by decide +kernel
set_option maxRecDepth 65536 in
theorem w_t2 : ((words1.drop 24).take 24).all (fun c => isCode c || c.before args0 about1) = true := by decide +kernel
set_option maxRecDepth 65536 in
theorem w_t3 : (((words1.drop 24).drop 24).take 24).all (fun c => isCode c || c.before args0 about1) = true := by decide +kernel
set_option maxRecDepth 65536 in
theorem w_t4 : (((words1.drop 24).drop 24).drop 24).all (fun c => isCode c || c.before args0 about1) = true := by decide +kernel
theorem w_tables : (allAtoms (Jvm.Cond.code x code maxLocals ret :: tables_1)).before args0 about1 = true := by
  rw [allAtoms_all]
  show words1.all (fun c => c.before args0 about1) = true
  refine all_split ?_ w_codes
  rw [← List.take_append_drop 24 words1, List.all_append, w_t1, ← List.take_append_drop 24 (words1.drop 24), List.all_append, w_t2, ← List.take_append_drop 24 ((words1.drop 24).drop 24), List.all_append, w_t3, w_t4]
  rfl
set_option maxRecDepth 65536 in
theorem w_rest : rest_1_c.before args0 about1 = true := by decide +kernel
set_option maxRecDepth 65536 in
theorem w_case : (Jvm.Cond.and given_1 narrow_1).before args0 about1 = true := by decide +kernel
set_option maxRecDepth 65536 in
theorem w_consts : constsHeld consts_1 about1 := Jvm.Lit.constsHeldB_iff.mp (by decide +kernel)
theorem w_applies : (headSpec (Jvm.Cond.code x code maxLocals ret :: tables_1) room_1).applies x e0.platform about1 = true :=
  (Spec.applies_iff w_frames).mpr ⟨w_running, w_runnable, w_alone, w_named, w_hears, w_ripe, w_room, w_tables⟩
theorem atStart : AtStart classFile x code maxLocals ret World_1 tables_1 room_1 Calls_1 rest_1 Pre_1 launch0 p0 e0 about1 theMethod args0 below0 :=
  ⟨lists_1, trivial, launch0.admits_env _ _ _, launch0.least_env, fairChoices_fair.cas, fairChoices_fair.clock, w_frames, w_args, w_heap, w_applies, ⟨w_consts, trivial⟩, w_rest, w_case⟩
end start1
theorem witness_1 : WitnessClaimed_1 := ⟨start1.p0, start1.e0, start1.about1, start1.theMethod, start1.args0, start1.below0, start1.atStart⟩
end Jvm.Pilot.@@N@@
