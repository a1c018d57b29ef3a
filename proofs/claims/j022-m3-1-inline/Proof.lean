import JvmDerived
import JvmDerived.Pilot.@@N@@Statement
import JvmDerived.Pilot.@@N@@Code
set_option linter.unusedVariables false
set_option linter.unusedSimpArgs false
namespace Jvm.Pilot.@@N@@
open Jvm Jvm.ClassFile Sem Op Lib Jvm.Free Jvm.Stand Jvm.LawKit Jvm.RoadKit Bundle Jvm.Free.SB Jvm.Free.SBG Jvm.Pilot.@@N@@.Jvm.D
abbrev Kx : Type := Program × Env × State × MethodId × Array Value × List Frame × Method × Code
def Inv (Z : State) (ws : List Addr) (h0 : Heap) (S : List Addr) (h : Heap) : Prop :=
  Ext Z.heap h ∧ Keep h0 h ws ∧ ∀ x ∈ S, x < h.size ∧ Z.heap.size ≤ x ∧ (x ∈ ws ∨ h0.size ≤ x)
def Cx (Z : State) (a0 : Array Value) (y : MethodName) (by0 : ByteArray) (ml : Nat) (rt : Option FieldType) : Kx → Prop
  | (p, _, s, m, _, _, meth, c) => p.tables.exec = Jvm.exec ∧ c.code = by0 ∧ c.maxLocals = ml ∧ s.vm.findClass y.cls = some m.cls ∧ meth.name = y.name ∧ meth.sig.returnType = rt ∧ meth.locks = false ∧ Z.Warmed39 s.vm
theorem fr_snoc {k : Nat} {L : List Loc} (N : Fr k L) {a : Addr} {i : Nat} (q : k ≤ a) : Fr k (L ++ [⟨a, i⟩]) := fun y hy => by
  rcases List.mem_append.mp hy with hy | hy
  · exact N y hy
  · rw [List.mem_singleton.mp hy]; exact q
theorem hq {Z : State} {a0 : Array Value} {ts : List Jvm.Cond} (hw : ∀ d ∈ ts, d.before a0 Z = true) (i : Nat) {d : Jvm.Cond} (q : ts[i]? = some d) : d.before a0 Z = true := hw _ (List.mem_of_getElem? q)
theorem nltle {a b c : Nat} (h : a < b) (q : b ≤ c) : a < c := Nat.lt_of_lt_of_le h q
theorem nble {a b : Nat} (h : Nat.ble a b = true) : a ≤ b := Nat.le_of_ble_eq_true h
theorem nfS {Z : State} {a0 : Array Value} {y : MethodName} {C : String} (w : (Cond.selects C y y).before a0 Z = true) : ∀ (s : State), Z.Warmed39 s.vm → NotFace s y := fun _ hZ => notFace_of_selects (args := #[]) (mvT hZ w)
theorem mi {S : List Addr} (i : Nat) {a : Addr} (q : S[i]? = some a) : a ∈ S := List.mem_of_getElem? q
section InvLaws
variable {Z : State} {ws ws' S bs : List Addr} {h0 h h' : Heap} {a : Addr} {i : Nat} {v : Value}
theorem Inv.new (I : Inv Z ws h0 S h) (E : Ext h h') (hl : h.size < h'.size) : Inv Z ws h0 (h.size :: S) h' := by
  refine ⟨⟨Nat.le_trans I.1.1 E.1, fun a c q => E.2 a c (I.1.2 a c q)⟩, I.2.1.ext E, fun x hx => ?_⟩
  rcases List.mem_cons.mp hx with rfl | hx
  · exact ⟨hl, I.1.1, Or.inr I.2.1.1⟩
  · exact ⟨nltle (I.2.2 x hx).1 E.1, (I.2.2 x hx).2⟩
theorem Inv.ext (I : Inv Z ws h0 S h) (E : Ext h h') : Inv Z ws h0 S h' :=
  ⟨⟨Nat.le_trans I.1.1 E.1, fun a c q => E.2 a c (I.1.2 a c q)⟩, I.2.1.ext E, fun x hx => ⟨nltle (I.2.2 x hx).1 E.1, (I.2.2 x hx).2⟩⟩
theorem Inv.wr (I : Inv Z ws h0 S h) (W : Wr h h' a i v) (ha : a ∈ S) : Inv Z ws h0 S h' :=
  ⟨(Old.wr ⟨rfl, I.1⟩ W (I.2.2 a ha).2.1).2, I.2.1.wr W (I.2.2 a ha).2.2, fun x hx => ⟨W.size.symm ▸ (I.2.2 x hx).1, (I.2.2 x hx).2⟩⟩
theorem Inv.keep (I : Inv Z ws h0 S h) (K : Keep h h' ws') (hs : ∀ x ∈ ws', x ∈ S) : Inv Z ws h0 S h' :=
  ⟨(Old.keep ⟨rfl, I.1⟩ K (fun x hx => (I.2.2 x (hs x hx)).2.1)).2, I.2.1.trans K (fun x hx => (I.2.2 x (hs x hx)).2.2), fun x hx => ⟨nltle (I.2.2 x hx).1 K.1, (I.2.2 x hx).2⟩⟩
theorem Inv.add (I : Inv Z ws h0 S h) (I' : Inv Z ws h0 S h') (hb : ∀ b ∈ bs, h.size ≤ b ∧ b < h'.size) : Inv Z ws h0 (bs ++ S) h' :=
  ⟨I'.1, I'.2.1, fun x hx => (List.mem_append.mp hx).elim (fun q => ⟨(hb x q).2, Nat.le_trans I.1.1 (hb x q).1, Or.inr (Nat.le_trans I.2.1.1 (hb x q).1)⟩) (fun q => I'.2.2 x q)⟩
theorem Inv.drop (I : Inv Z ws h0 S h) {S' : List Addr} (hs : ∀ x ∈ S', x ∈ S) : Inv Z ws h0 S' h := ⟨I.1, I.2.1, fun x hx => I.2.2 x (hs x hx)⟩
end InvLaws
theorem decl_of {Z : State} {a0 : Array Value} {y : MethodName} {b : ByteArray} {ml : Nat} {rt : Option FieldType} (wi : (Cond.instanceMethod y).before a0 Z = true) (wc : (Cond.code y b ml rt).before a0 Z = true) : (Cond.declares y).before a0 Z = true := by
  obtain ⟨mk, meth, h1, h2, h3, h4⟩ := Cond.instanceMethod_spec wi
  obtain ⟨m2, c, q1, -, -, -, -, -, -, hsig⟩ := Cond.code_spec h1 wc
  cases h2.symm.trans q1
  simp [Cond.before, Cond.holds, Cond.value, h1, h2, h3, hsig]
theorem nf_cls {s : State} {a0 : Array Value} {y y' y0 : MethodName} {C : String} (w : (Cond.selects C y0 y').before a0 s = true) (hc : y'.cls = y.cls) : NotFace s y := fun r0 h0 => by
  obtain ⟨c2, r2, m2, q1, q2, q3, q4, kP, hkP, hkPi⟩ := Cond.selects_spec w
  have e1 := findClass_of_methodNamed h0
  have e2 := findClass_of_methodNamed q3
  rw [hc] at e2
  have e3 : r0.cls = m2.cls := Option.some.inj (e1.symm.trans e2)
  exact ⟨kP, by rw [e3]; exact hkP, hkPi⟩
theorem same_of {Z : State} {a0 : Array Value} {y : MethodName} (wi : (Cond.instanceMethod y).before a0 Z = true) (nf : NotFace Z y) (hx : y.cls ≠ "java/lang/invoke/MethodHandle" ∧ y.cls ≠ "java/lang/invoke/VarHandle") : (Cond.sameMethod y.cls y.cls y.name y.desc).before a0 Z = true := by
  obtain ⟨mk, meth, h1, h2, h3, h4⟩ := Cond.instanceMethod_spec wi
  have hf := State.methodFound?_of_named h1 hx
  have hc := findClass_of_methodNamed h1
  obtain ⟨k, hk, hi⟩ := nf mk h1
  have h1' : Z.methodNamed? ⟨y.cls, y.name, y.desc⟩ = some mk := h1
  simp [Cond.before, Cond.holds, Cond.value, hc, hf, h1', hk, hi]
theorem ext_refl (h : Heap) : Ext h h := ⟨Nat.le_refl _, fun _ _ q => q⟩
theorem mems0 {S : List Addr} : ∀ x ∈ ([] : List Addr), x ∈ S := fun _ q => nomatch q
theorem memsS {x : Addr} {L S : List Addr} (q : x ∈ S) (r : ∀ z ∈ L, z ∈ S) : ∀ z ∈ x :: L, z ∈ S := fun z hz => by
  rcases List.mem_cons.mp hz with rfl | hz
  · exact q
  · exact r z hz
theorem fresh0 {n n' : Nat} : ∀ b ∈ ([] : List Addr), n ≤ b ∧ b < n' := fun _ q => nomatch q
theorem freshS {n n' : Nat} {b : Addr} {L : List Addr} (q : n ≤ b ∧ b < n') (r : ∀ z ∈ L, n ≤ z ∧ z < n') : ∀ z ∈ b :: L, n ≤ z ∧ z < n' := fun z hz => by
  rcases List.mem_cons.mp hz with rfl | hz
  · exact q
  · exact r z hz
/-- the contract of a body that interns nothing -/
def Ct (l : Launch) (Z : State) (y : MethodName) (by0 : ByteArray) (ml : Nat) (rt : Option FieldType) (rm : Room) (as : Array Value) (h0 : Heap) (ws : List Addr) (Q : Option Value → Heap → Prop) : Prop :=
  Ext Z.heap h0 → (∀ x ∈ ws, x < h0.size ∧ Z.heap.size ≤ x) → ∀ tw : List Jvm.Cond, MetFree l y (head1 (Jvm.Cond.code y by0 ml rt :: tw) rm) (fun a U => a = as ∧ Z.Warmed39 U.vm ∧ U.heap = h0) (fun _ _ _ _ _ => True)
    (fun _ U o U' => ∃ v L, o = .returned v ∧ (Keep h0 U'.heap ws ∧ Q v U'.heap ∧ Fr Z.heap.size L) ∧ FrameEnd U o U' L rm.cells rm.slots)
/-- what a call of z costs and gives: fr frames, lo words, cc cells, ss slots -/
def Py (l : Launch) (Z : State) (z : MethodName) (fr lo cc ss : Nat) (as : Array Value) (h : Heap) (ws : List Addr) (Q : Option Value → Heap → Prop) : Prop :=
  Ext Z.heap h → (∀ x ∈ ws, x < h.size ∧ Z.heap.size ≤ x) → ∀ (p : Program) (e : Env) (R : Room) (below : List Frame) (s : State) (args : Array Value) (len W : Nat), Z.Warmed39 s.vm → fr ≤ R.frames → W + lo ≤ R.locals →
    Back l R p e below s args z len W (fun A a => a = as ∧ A.U.heap = h ∧ A.cells + cc ≤ R.cells ∧ A.slots + ss ≤ R.slots) (fun A _ v B => ∃ L, (Keep h B.U.heap ws ∧ Q v B.U.heap ∧ Fr Z.heap.size L) ∧ B.locs = A.locs ++ L ∧ B.cells = A.cells + cc ∧ B.slots = A.slots + ss)
theorem Ct.py {l : Launch} {Z : State} {a0 : Array Value} {y : MethodName} {by0 : ByteArray} {ml : Nat} {rt : Option FieldType} {rm : Room} {as : Array Value} {h0 : Heap} {ws : List Addr} {Q : Option Value → Heap → Prop} (hM : Ct l Z y by0 ml rt rm as h0 ws Q) (wc : (Cond.code y by0 ml rt).before a0 Z = true) (wz : (Cond.initialized y.cls).before a0 Z = true) : Py l Z y (rm.frames + 1) (ml + 11 + rm.locals) rm.cells rm.slots as h0 ws Q :=
  fun hO hws p e R below s args len W hZ hf hl => backOf (W := W) (Q := fun v hp L => Keep h0 hp ws ∧ Q v hp ∧ Fr Z.heap.size L) (hM hO hws []) hZ wc wz hf (by rw [Nat.add_assoc]; exact hl)
def Go (l : Launch) (R : Room) (Z : State) (ws : List Addr) (h0 : Heap) (Q : Option Value → Heap → Prop) (κ : Kx) (S : List Addr) (h : Heap) (pc : Nat) (Ls : Array Slot) (st : List Value) (ce sl : Nat) : Prop := match κ with
  | (p, e, s, m, args, below, meth, c) => ∀ T locs, Stand p l e R s m args below meth c T locs ce sl → Fr Z.heap.size locs → T.heap = h → Inv Z ws h0 S h →
    ∃ s₂ o, Steps p.tables e below (T.setTop (mkF m pc Ls st)) s₂ ∧ s₂.status = .running ∧ Ended s₂ below o ∧ ∃ v L, o = .returned v ∧ (Keep h0 s₂.heap ws ∧ Q v s₂.heap ∧ Fr Z.heap.size L) ∧ FrameEnd s o s₂ L R.cells R.slots
theorem Ct.mk {l : Launch} {Z : State} {a0 : Array Value} {y : MethodName} {by0 : ByteArray} {ml : Nat} {rt : Option FieldType} {rm : Room} {as : Array Value} {h0 : Heap} {ws : List Addr} {Q : Option Value → Heap → Prop} {Ls : Array Slot} (hpl : plainFor y = true) (hef : ∀ m, entryFrame m as ml = mkF m 0 Ls [])
    (k : ∀ κ, Cx Z a0 y by0 ml rt κ → Go l rm Z ws h0 Q κ ws h0 0 Ls [] 0 0) : Ct l Z y by0 ml rt rm as h0 ws Q := by
  intro hO hws tw
  refine MetFree.of_bodySF hpl hisR ?_
  intro p e s m args below meth c s₁ Bd hml0 hP hK
  obtain ⟨rfl, hZ, hh⟩ := hP
  have X0 : Stand p l e rm s m args below meth c s₁ [] 0 0 := Stand.of_body Bd
  have e0 : s₁.heap = h0 := by rw [← hh, Bd.state]; rfl
  obtain ⟨s₂, o, hs, r⟩ := k (p, e, s, m, args, below, meth, c) ⟨Bd.exec, Bd.bytes, hml0, findClass_of_methodNamed Bd.named, (name_of_methodNamed Bd.named Bd.method).1, Bd.returns, BodyLoose.notSynchronized Bd, hZ⟩ s₁ [] X0 (Fr.nil _) e0
    ⟨hO, Keep.refl _ _, fun x hx => ⟨(hws x hx).1, (hws x hx).2, Or.inl hx⟩⟩
  exact ⟨s₂, o, castTop (hef m) hs, r⟩
section StepsN
variable {Z : State} {a0 : Array Value} {y : MethodName} {by0 : ByteArray} {ml : Nat} {rt : Option FieldType} {l : Launch} {R : Room} {ws : List Addr} {h0 : Heap} {Q : Option Value → Heap → Prop} {κ : Kx} {S : List Addr} {h : Heap} {pc : Nat} {Ls : Array Slot} {st : List Value} {ce sl : Nat}
theorem od' (C : Cx Z a0 y by0 ml rt κ) (pc' : Nat) {j : Fin 4} {v : Int32} (hd : decode by0 pc = .ok (.iload_n j, 1)) (hpc : pc + 1 = pc') (hl : Ls[j.val]? = some (.val (.int v))) (k : Go l R Z ws h0 Q κ S h pc' Ls (.int v :: st) ce sl) : Go l R Z ws h0 Q κ S h pc Ls st ce sl := by
  subst hpc
  obtain ⟨p, e, s, m, args, below, meth, c⟩ := κ
  intro T locs X N eT I
  obtain ⟨hx, hby, hml, hown, hnm, hret, hlk, hZ⟩ := C
  obtain ⟨s₂, o, hs, r⟩ := k T _ X N eT I
  exact ⟨s₂, o, XS.iloadN X.here hx rfl (hb hby hd) hl hs, r⟩
theorem oa' (C : Cx Z a0 y by0 ml rt κ) (pc' : Nat) {j : Nat} {v : Int32} (hd : decode by0 pc = .ok (.iload j, 2)) (hpc : pc + 2 = pc') (hl : Ls[j]? = some (.val (.int v))) (k : Go l R Z ws h0 Q κ S h pc' Ls (.int v :: st) ce sl) : Go l R Z ws h0 Q κ S h pc Ls st ce sl := by
  subst hpc
  obtain ⟨p, e, s, m, args, below, meth, c⟩ := κ
  intro T locs X N eT I
  obtain ⟨hx, hby, hml, hown, hnm, hret, hlk, hZ⟩ := C
  obtain ⟨s₂, o, hs, r⟩ := k T _ X N eT I
  exact ⟨s₂, o, XS.iload X.here hx rfl (hb hby hd) hl hs, r⟩
theorem oc' (C : Cx Z a0 y by0 ml rt κ) (pc' : Nat) {j : Fin 4} {v : Value} (hd : decode by0 pc = .ok (.aload_n j, 1)) (hpc : pc + 1 = pc') (hl : Ls[j.val]? = some (.val v)) (hv : v.isRef = true) (k : Go l R Z ws h0 Q κ S h pc' Ls (v :: st) ce sl) : Go l R Z ws h0 Q κ S h pc Ls st ce sl := by
  subst hpc
  obtain ⟨p, e, s, m, args, below, meth, c⟩ := κ
  intro T locs X N eT I
  obtain ⟨hx, hby, hml, hown, hnm, hret, hlk, hZ⟩ := C
  obtain ⟨s₂, o, hs, r⟩ := k T _ X N eT I
  exact ⟨s₂, o, XS.aloadN X.here hx rfl (hb hby hd) hl hv hs, r⟩
theorem ob' (C : Cx Z a0 y by0 ml rt κ) (pc' : Nat) {j : Nat} {v : Value} (hd : decode by0 pc = .ok (.aload j, 2)) (hpc : pc + 2 = pc') (hl : Ls[j]? = some (.val v)) (hv : v.isRef = true) (k : Go l R Z ws h0 Q κ S h pc' Ls (v :: st) ce sl) : Go l R Z ws h0 Q κ S h pc Ls st ce sl := by
  subst hpc
  obtain ⟨p, e, s, m, args, below, meth, c⟩ := κ
  intro T locs X N eT I
  obtain ⟨hx, hby, hml, hown, hnm, hret, hlk, hZ⟩ := C
  obtain ⟨s₂, o, hs, r⟩ := k T _ X N eT I
  exact ⟨s₂, o, XS.aload X.here hx rfl (hb hby hd) hl hv hs, r⟩
theorem of' (C : Cx Z a0 y by0 ml rt κ) (pc' : Nat) {i : Int} (v : Int32) (hd : decode by0 pc = .ok (.iconst i, 1)) (hpc : pc + 1 = pc') (hv : Int32.ofInt i = v) (k : Go l R Z ws h0 Q κ S h pc' Ls (.int v :: st) ce sl) : Go l R Z ws h0 Q κ S h pc Ls st ce sl := by
  subst hpc
  obtain ⟨p, e, s, m, args, below, meth, c⟩ := κ
  intro T locs X N eT I
  obtain ⟨hx, hby, hml, hown, hnm, hret, hlk, hZ⟩ := C
  obtain ⟨s₂, o, hs, r⟩ := k T _ X N eT I
  exact ⟨s₂, o, XT.iconstV X.here hx rfl v (hb hby hd) hv hs, r⟩
theorem ox' (C : Cx Z a0 y by0 ml rt κ) (pc' : Nat) {i : Int} (v : Int32) (hd : decode by0 pc = .ok (.bipush i, 2)) (hpc : pc + 2 = pc') (hv : (Int8.ofInt i).toInt32 = v) (k : Go l R Z ws h0 Q κ S h pc' Ls (.int v :: st) ce sl) : Go l R Z ws h0 Q κ S h pc Ls st ce sl := by
  subst hpc
  obtain ⟨p, e, s, m, args, below, meth, c⟩ := κ
  intro T locs X N eT I
  obtain ⟨hx, hby, hml, hown, hnm, hret, hlk, hZ⟩ := C
  obtain ⟨s₂, o, hs, r⟩ := k T _ X N eT I
  exact ⟨s₂, o, XT.bipushV X.here hx rfl v (hb hby hd) hv hs, r⟩
theorem of1' (C : Cx Z a0 y by0 ml rt κ) (pc' : Nat) {i : Int} (v : Int32) (hd : decode by0 pc = .ok (.sipush i, 3)) (hpc : pc + 3 = pc') (hv : (Int16.ofInt i).toInt32 = v) (k : Go l R Z ws h0 Q κ S h pc' Ls (.int v :: st) ce sl) : Go l R Z ws h0 Q κ S h pc Ls st ce sl := by
  subst hpc
  obtain ⟨p, e, s, m, args, below, meth, c⟩ := κ
  intro T locs X N eT I
  obtain ⟨hx, hby, hml, hown, hnm, hret, hlk, hZ⟩ := C
  obtain ⟨s₂, o, hs, r⟩ := k T _ X N eT I
  exact ⟨s₂, o, XT.sipushV X.here hx rfl v (hb hby hd) hv hs, r⟩
theorem oo2' (C : Cx Z a0 y by0 ml rt κ) (pc' : Nat)  (hd : decode by0 pc = .ok (.aconst_null, 1)) (hpc : pc + 1 = pc')  (k : Go l R Z ws h0 Q κ S h pc' Ls (.null :: st) ce sl) : Go l R Z ws h0 Q κ S h pc Ls st ce sl := by
  subst hpc
  obtain ⟨p, e, s, m, args, below, meth, c⟩ := κ
  intro T locs X N eT I
  obtain ⟨hx, hby, hml, hown, hnm, hret, hlk, hZ⟩ := C
  obtain ⟨s₂, o, hs, r⟩ := k T _ X N eT I
  exact ⟨s₂, o, XS.aconstNull X.here hx rfl (hb hby hd) hs, r⟩
theorem ox1' (C : Cx Z a0 y by0 ml rt κ) (pc' : Nat) {x z : Int32} (v : Int32) (hd : decode by0 pc = .ok (.iadd, 1)) (hpc : pc + 1 = pc') (hv : x + z = v) (k : Go l R Z ws h0 Q κ S h pc' Ls (.int v :: st) ce sl) : Go l R Z ws h0 Q κ S h pc Ls (.int z :: .int x :: st) ce sl := by
  subst hpc
  subst hv
  obtain ⟨p, e, s, m, args, below, meth, c⟩ := κ
  intro T locs X N eT I
  obtain ⟨hx, hby, hml, hown, hnm, hret, hlk, hZ⟩ := C
  obtain ⟨s₂, o, hs, r⟩ := k T _ X N eT I
  exact ⟨s₂, o, XS.iadd X.here hx rfl (hb hby hd) rfl hs, r⟩
theorem oj1' (C : Cx Z a0 y by0 ml rt κ) (pc' : Nat) {x z : Int32} (v : Int32) (hd : decode by0 pc = .ok (.isub, 1)) (hpc : pc + 1 = pc') (hv : x - z = v) (k : Go l R Z ws h0 Q κ S h pc' Ls (.int v :: st) ce sl) : Go l R Z ws h0 Q κ S h pc Ls (.int z :: .int x :: st) ce sl := by
  subst hpc
  subst hv
  obtain ⟨p, e, s, m, args, below, meth, c⟩ := κ
  intro T locs X N eT I
  obtain ⟨hx, hby, hml, hown, hnm, hret, hlk, hZ⟩ := C
  obtain ⟨s₂, o, hs, r⟩ := k T _ X N eT I
  exact ⟨s₂, o, XS.isub X.here hx rfl (hb hby hd) rfl hs, r⟩
theorem ob3' (C : Cx Z a0 y by0 ml rt κ) (pc' : Nat) {x z : Int32} (v : Int32) (hd : decode by0 pc = .ok (.ishl, 1)) (hpc : pc + 1 = pc') (hv : x <<< (z &&& 31) = v) (k : Go l R Z ws h0 Q κ S h pc' Ls (.int v :: st) ce sl) : Go l R Z ws h0 Q κ S h pc Ls (.int z :: .int x :: st) ce sl := by
  subst hpc
  subst hv
  obtain ⟨p, e, s, m, args, below, meth, c⟩ := κ
  intro T locs X N eT I
  obtain ⟨hx, hby, hml, hown, hnm, hret, hlk, hZ⟩ := C
  obtain ⟨s₂, o, hs, r⟩ := k T _ X N eT I
  exact ⟨s₂, o, XT.ishl X.here hx rfl (hb hby hd) rfl hs, r⟩
theorem om2' (C : Cx Z a0 y by0 ml rt κ) (pc' : Nat) {x z : Int32} (v : Int32) (hd : decode by0 pc = .ok (.ishr, 1)) (hpc : pc + 1 = pc') (hv : x >>> (z &&& 31) = v) (k : Go l R Z ws h0 Q κ S h pc' Ls (.int v :: st) ce sl) : Go l R Z ws h0 Q κ S h pc Ls (.int z :: .int x :: st) ce sl := by
  subst hpc
  subst hv
  obtain ⟨p, e, s, m, args, below, meth, c⟩ := κ
  intro T locs X N eT I
  obtain ⟨hx, hby, hml, hown, hnm, hret, hlk, hZ⟩ := C
  obtain ⟨s₂, o, hs, r⟩ := k T _ X N eT I
  exact ⟨s₂, o, XT.ishr X.here hx rfl (hb hby hd) rfl hs, r⟩
theorem ot2' (C : Cx Z a0 y by0 ml rt κ) (pc' : Nat) {x z : Int32} (v : Int32) (hd : decode by0 pc = .ok (.iushr, 1)) (hpc : pc + 1 = pc') (hv : XT.ushr x z = v) (k : Go l R Z ws h0 Q κ S h pc' Ls (.int v :: st) ce sl) : Go l R Z ws h0 Q κ S h pc Ls (.int z :: .int x :: st) ce sl := by
  subst hpc
  subst hv
  obtain ⟨p, e, s, m, args, below, meth, c⟩ := κ
  intro T locs X N eT I
  obtain ⟨hx, hby, hml, hown, hnm, hret, hlk, hZ⟩ := C
  obtain ⟨s₂, o, hs, r⟩ := k T _ X N eT I
  exact ⟨s₂, o, XT.iushr X.here hx rfl (hb hby hd) rfl hs, r⟩
theorem oa1' (C : Cx Z a0 y by0 ml rt κ) (pc' : Nat) {x : Int32} (v : Int32) (hd : decode by0 pc = .ok (.i2b, 1)) (hpc : pc + 1 = pc') (hv : x.toInt8.toInt32 = v) (k : Go l R Z ws h0 Q κ S h pc' Ls (.int v :: st) ce sl) : Go l R Z ws h0 Q κ S h pc Ls (.int x :: st) ce sl := by
  subst hpc
  subst hv
  obtain ⟨p, e, s, m, args, below, meth, c⟩ := κ
  intro T locs X N eT I
  obtain ⟨hx, hby, hml, hown, hnm, hret, hlk, hZ⟩ := C
  obtain ⟨s₂, o, hs, r⟩ := k T _ X N eT I
  exact ⟨s₂, o, XT.i2b X.here hx rfl (hb hby hd) rfl hs, r⟩
theorem ou' (C : Cx Z a0 y by0 ml rt κ) (pc' : Nat) {x : Value} (hd : decode by0 pc = .ok (.dup, 1)) (hpc : pc + 1 = pc') (hc : x.category = 1) (k : Go l R Z ws h0 Q κ S h pc' Ls (x :: x :: st) ce sl) : Go l R Z ws h0 Q κ S h pc Ls (x :: st) ce sl := by
  subst hpc
  obtain ⟨p, e, s, m, args, below, meth, c⟩ := κ
  intro T locs X N eT I
  obtain ⟨hx, hby, hml, hown, hnm, hret, hlk, hZ⟩ := C
  obtain ⟨s₂, o, hs, r⟩ := k T _ X N eT I
  exact ⟨s₂, o, XS.dup X.here hx rfl (hb hby hd) rfl hc hs, r⟩
theorem ox2' (C : Cx Z a0 y by0 ml rt κ) (pc' : Nat) {x : Value} (hd : decode by0 pc = .ok (.pop, 1)) (hpc : pc + 1 = pc') (hc : x.category = 1) (k : Go l R Z ws h0 Q κ S h pc' Ls st ce sl) : Go l R Z ws h0 Q κ S h pc Ls (x :: st) ce sl := by
  subst hpc
  obtain ⟨p, e, s, m, args, below, meth, c⟩ := κ
  intro T locs X N eT I
  obtain ⟨hx, hby, hml, hown, hnm, hret, hlk, hZ⟩ := C
  obtain ⟨s₂, o, hs, r⟩ := k T _ X N eT I
  exact ⟨s₂, o, XT.pop X.here hx rfl (hb hby hd) rfl hc hs, r⟩
theorem op1' (C : Cx Z a0 y by0 ml rt κ) (pc' : Nat) {j : Fin 4} {x : Int32} {Ls' : Array Slot} (hd : decode by0 pc = .ok (.istore_n j, 1)) (hpc : pc + 1 = pc') (hl : storeLocals Ls j.val (.int x) = some Ls') (k : Go l R Z ws h0 Q κ S h pc' Ls' st ce sl) : Go l R Z ws h0 Q κ S h pc Ls (.int x :: st) ce sl := by
  subst hpc
  obtain ⟨p, e, s, m, args, below, meth, c⟩ := κ
  intro T locs X N eT I
  obtain ⟨hx, hby, hml, hown, hnm, hret, hlk, hZ⟩ := C
  obtain ⟨s₂, o, hs, r⟩ := k T _ X N eT I
  exact ⟨s₂, o, XS.istoreN X.here hx rfl (hb hby hd) rfl hl hs, r⟩
theorem ol' (C : Cx Z a0 y by0 ml rt κ) (pc' : Nat) {j : Nat} {x : Int32} {Ls' : Array Slot} (hd : decode by0 pc = .ok (.istore j, 2)) (hpc : pc + 2 = pc') (hl : storeLocals Ls j (.int x) = some Ls') (k : Go l R Z ws h0 Q κ S h pc' Ls' st ce sl) : Go l R Z ws h0 Q κ S h pc Ls (.int x :: st) ce sl := by
  subst hpc
  obtain ⟨p, e, s, m, args, below, meth, c⟩ := κ
  intro T locs X N eT I
  obtain ⟨hx, hby, hml, hown, hnm, hret, hlk, hZ⟩ := C
  obtain ⟨s₂, o, hs, r⟩ := k T _ X N eT I
  exact ⟨s₂, o, XS.istore X.here hx rfl (hb hby hd) rfl hl hs, r⟩
theorem ov1' (C : Cx Z a0 y by0 ml rt κ) (pc' : Nat) {j : Fin 4} {x : Value} {Ls' : Array Slot} (hd : decode by0 pc = .ok (.astore_n j, 1)) (hpc : pc + 1 = pc') (hv : x.isRef = true) (hl : storeLocals Ls j.val x = some Ls') (k : Go l R Z ws h0 Q κ S h pc' Ls' st ce sl) : Go l R Z ws h0 Q κ S h pc Ls (x :: st) ce sl := by
  subst hpc
  obtain ⟨p, e, s, m, args, below, meth, c⟩ := κ
  intro T locs X N eT I
  obtain ⟨hx, hby, hml, hown, hnm, hret, hlk, hZ⟩ := C
  obtain ⟨s₂, o, hs, r⟩ := k T _ X N eT I
  exact ⟨s₂, o, XS.astoreN X.here hx rfl (hb hby hd) rfl hv hl hs, r⟩
theorem ob1' (C : Cx Z a0 y by0 ml rt κ) (pc' : Nat) {j : Nat} {x : Value} {Ls' : Array Slot} (hd : decode by0 pc = .ok (.astore j, 2)) (hpc : pc + 2 = pc') (hv : x.isRef = true) (hl : storeLocals Ls j x = some Ls') (k : Go l R Z ws h0 Q κ S h pc' Ls' st ce sl) : Go l R Z ws h0 Q κ S h pc Ls (x :: st) ce sl := by
  subst hpc
  obtain ⟨p, e, s, m, args, below, meth, c⟩ := κ
  intro T locs X N eT I
  obtain ⟨hx, hby, hml, hown, hnm, hret, hlk, hZ⟩ := C
  obtain ⟨s₂, o, hs, r⟩ := k T _ X N eT I
  exact ⟨s₂, o, XS.astore X.here hx rfl (hb hby hd) rfl hv hl hs, r⟩
theorem og' (C : Cx Z a0 y by0 ml rt κ) (pc' : Nat) {j : Nat} {i : Int} {x : Int32} {Ls' : Array Slot} (v : Int32) (hd : decode by0 pc = .ok (.iinc j i, 3)) (hpc : pc + 3 = pc') (hv : Int32.ofInt i = v) (hg : Ls[j]? = some (.val (.int x))) (hl : storeLocals Ls j (.int (x + v)) = some Ls') (k : Go l R Z ws h0 Q κ S h pc' Ls' st ce sl) : Go l R Z ws h0 Q κ S h pc Ls st ce sl := by
  subst hpc
  obtain ⟨p, e, s, m, args, below, meth, c⟩ := κ
  intro T locs X N eT I
  obtain ⟨hx, hby, hml, hown, hnm, hret, hlk, hZ⟩ := C
  obtain ⟨s₂, o, hs, r⟩ := k T _ X N eT I
  exact ⟨s₂, o, XT.iincV X.here hx rfl v (hb hby hd) hv hg hl hs, r⟩
theorem ot' (C : Cx Z a0 y by0 ml rt κ) (pc' : Nat) {o : Int} {cd : ClassFile.Cond} {x : Int32} (hd : decode by0 pc = .ok (.ifCond cd o, 3)) (hpc : pc + 3 = pc') (hc : if_icmp.holds cd x 0 = false) (k : Go l R Z ws h0 Q κ S h pc' Ls st ce sl) : Go l R Z ws h0 Q κ S h pc Ls (.int x :: st) ce sl := by
  subst hpc
  obtain ⟨p, e, s, m, args, below, meth, c⟩ := κ
  intro T locs X N eT I
  obtain ⟨hx, hby, hml, hown, hnm, hret, hlk, hZ⟩ := C
  obtain ⟨s₂, o, hs, r⟩ := k T _ X N eT I
  exact ⟨s₂, o, XS.ifNo X.here hx rfl (hb hby hd) rfl ((if0 _ _).trans hc) hs, r⟩
theorem oi' (C : Cx Z a0 y by0 ml rt κ) (pc' : Nat) {o : Int} {cd : ClassFile.Cond} {x z : Int32} (hd : decode by0 pc = .ok (.if_icmp cd o, 3)) (hpc : pc + 3 = pc') (hc : if_icmp.holds cd x z = false) (k : Go l R Z ws h0 Q κ S h pc' Ls st ce sl) : Go l R Z ws h0 Q κ S h pc Ls (.int z :: .int x :: st) ce sl := by
  subst hpc
  obtain ⟨p, e, s, m, args, below, meth, c⟩ := κ
  intro T locs X N eT I
  obtain ⟨hx, hby, hml, hown, hnm, hret, hlk, hZ⟩ := C
  obtain ⟨s₂, o, hs, r⟩ := k T _ X N eT I
  exact ⟨s₂, o, XS.icmpNo X.here hx rfl (hb hby hd) rfl hc hs, r⟩
theorem og1' (C : Cx Z a0 y by0 ml rt κ) (pc' : Nat) {a : Addr} {kc : ClassId} {n j : Int32} {vs : List Value} {d v : Value} (hd : decode by0 pc = .ok (.caload, 1)) (hpc : pc + 1 = pc') (F : Arv Z h a kc .char n vs d) (hj : ¬ j < 0 ∧ j < n) (hv : vs.getD j.toNatClampNeg d = v) (k : Go l R Z ws h0 Q κ S h pc' Ls (v :: st) ce sl) : Go l R Z ws h0 Q κ S h pc Ls (.int j :: .ref a :: st) ce sl := by
  subst hpc
  obtain ⟨p, e, s, m, args, below, meth, c⟩ := κ
  intro T locs X N eT I
  obtain ⟨hx, hby, hml, hown, hnm, hret, hlk, hZ⟩ := C
  obtain ⟨s₂, o, hs, r⟩ := k T _ X N eT I
  obtain ⟨_, A, q1, S1, q3, H, G⟩ := F
  exact ⟨s₂, o, X.caload hx (j := j) (by rw [eT]; exact A.1) (State.isArrayOf_alike hZ.alike A.2.1) A.2.2 (inb_of S1 hj) (H.at (inb_of S1 hj) hv) (g := mkF m pc Ls (.int j :: .ref a :: st)) rfl rfl (hb hby hd) _ hs, r⟩
theorem op' (C : Cx Z a0 y by0 ml rt κ) (pc' : Nat) {a : Addr} {kc : ClassId} {n j : Int32} {vs : List Value} {d v : Value} (hd : decode by0 pc = .ok (.baload, 1)) (hpc : pc + 1 = pc') (F : Arv Z h a kc .byte n vs d) (hj : ¬ j < 0 ∧ j < n) (hv : vs.getD j.toNatClampNeg d = v) (k : Go l R Z ws h0 Q κ S h pc' Ls (v :: st) ce sl) : Go l R Z ws h0 Q κ S h pc Ls (.int j :: .ref a :: st) ce sl := by
  subst hpc
  obtain ⟨p, e, s, m, args, below, meth, c⟩ := κ
  intro T locs X N eT I
  obtain ⟨hx, hby, hml, hown, hnm, hret, hlk, hZ⟩ := C
  obtain ⟨s₂, o, hs, r⟩ := k T _ X N eT I
  obtain ⟨_, A, q1, S1, q3, H, G⟩ := F
  exact ⟨s₂, o, X.baloadBytes hx (j := j) (by rw [eT]; exact A.1) (State.isArrayOf_alike hZ.alike A.2.1) A.2.2 (inb_of S1 hj) (H.at (inb_of S1 hj) hv) (g := mkF m pc Ls (.int j :: .ref a :: st)) rfl rfl (hb hby hd) _ hs, r⟩
theorem oj' (C : Cx Z a0 y by0 ml rt κ) (pc' : Nat) {a : Addr} {kc : ClassId} {ty : FieldType} {n : Int32} {vs : List Value} {d : Value} (hd : decode by0 pc = .ok (.arraylength, 1)) (hpc : pc + 1 = pc') (F : Arv Z h a kc ty n vs d) (k : Go l R Z ws h0 Q κ S h pc' Ls (.int n :: st) ce sl) : Go l R Z ws h0 Q κ S h pc Ls (.ref a :: st) ce sl := by
  subst hpc
  obtain ⟨p, e, s, m, args, below, meth, c⟩ := κ
  intro T locs X N eT I
  obtain ⟨hx, hby, hml, hown, hnm, hret, hlk, hZ⟩ := C
  obtain ⟨s₂, o, hs, r⟩ := k T _ X N eT I
  obtain ⟨cl, A, q1, S1, q3, H, G⟩ := F
  rw [← len_of S1 q3] at hs
  exact ⟨s₂, o, X.arraylength hx (by rw [eT]; exact A.1) (State.isArrayOf_alike hZ.alike A.2.1) (g := mkF m pc Ls (.ref a :: st)) rfl rfl (hb hby hd) _ hs, r⟩
theorem om' (C : Cx Z a0 y by0 ml rt κ) {o : Int} {pc' : Nat} (hd : decode by0 pc = .ok (.goto o, 3))  (ho : 0 ≤ (pc : Int) + o) (hp : ((pc : Int) + o).toNat = pc') (k : Go l R Z ws h0 Q κ S h pc' Ls st ce sl) : Go l R Z ws h0 Q κ S h pc Ls st ce sl := by
  obtain ⟨p, e, s, m, args, below, meth, c⟩ := κ
  intro T locs X N eT I
  obtain ⟨hx, hby, hml, hown, hnm, hret, hlk, hZ⟩ := C
  obtain ⟨s₂, o, hs, r⟩ := k T _ X N eT I
  exact ⟨s₂, o, XS.goto X.here hx rfl (pc0 := pc) rfl (hb hby hd) ho hp hs, r⟩
theorem om1' (C : Cx Z a0 y by0 ml rt κ) {o : Int} {cd : ClassFile.Cond} {x : Int32} {pc' : Nat} (hd : decode by0 pc = .ok (.ifCond cd o, 3)) (hc : if_icmp.holds cd x 0 = true) (ho : 0 ≤ (pc : Int) + o) (hp : ((pc : Int) + o).toNat = pc') (k : Go l R Z ws h0 Q κ S h pc' Ls st ce sl) : Go l R Z ws h0 Q κ S h pc Ls (.int x :: st) ce sl := by
  obtain ⟨p, e, s, m, args, below, meth, c⟩ := κ
  intro T locs X N eT I
  obtain ⟨hx, hby, hml, hown, hnm, hret, hlk, hZ⟩ := C
  obtain ⟨s₂, o, hs, r⟩ := k T _ X N eT I
  exact ⟨s₂, o, XS.ifYes X.here hx rfl (pc0 := pc) rfl (hb hby hd) rfl ((if0 _ _).trans hc) ho hp hs, r⟩
theorem oh' (C : Cx Z a0 y by0 ml rt κ) {o : Int} {cd : ClassFile.Cond} {x z : Int32} {pc' : Nat} (hd : decode by0 pc = .ok (.if_icmp cd o, 3)) (hc : if_icmp.holds cd x z = true) (ho : 0 ≤ (pc : Int) + o) (hp : ((pc : Int) + o).toNat = pc') (k : Go l R Z ws h0 Q κ S h pc' Ls st ce sl) : Go l R Z ws h0 Q κ S h pc Ls (.int z :: .int x :: st) ce sl := by
  obtain ⟨p, e, s, m, args, below, meth, c⟩ := κ
  intro T locs X N eT I
  obtain ⟨hx, hby, hml, hown, hnm, hret, hlk, hZ⟩ := C
  obtain ⟨s₂, o, hs, r⟩ := k T _ X N eT I
  exact ⟨s₂, o, XS.icmpYes X.here hx rfl (pc0 := pc) rfl (hb hby hd) rfl hc ho hp hs, r⟩
theorem oa3' (C : Cx Z a0 y by0 ml rt κ) {o : Int} {b : Addr} {pc' : Nat} (hd : decode by0 pc = .ok (.ifnonnull o, 3))  (ho : 0 ≤ (pc : Int) + o) (hp : ((pc : Int) + o).toNat = pc') (k : Go l R Z ws h0 Q κ S h pc' Ls st ce sl) : Go l R Z ws h0 Q κ S h pc Ls (.ref b :: st) ce sl := by
  obtain ⟨p, e, s, m, args, below, meth, c⟩ := κ
  intro T locs X N eT I
  obtain ⟨hx, hby, hml, hown, hnm, hret, hlk, hZ⟩ := C
  obtain ⟨s₂, o, hs, r⟩ := k T _ X N eT I
  exact ⟨s₂, o, XT.ifnonnullYes X.here hx rfl (pc0 := pc) rfl (hb hby hd) rfl ho hp hs, r⟩
theorem oc2' (C : Cx Z a0 y by0 ml rt κ) {o : Int} {cd : ACond} {x z : Value} {b : Bool} {pc' : Nat} (hd : decode by0 pc = .ok (.if_acmp cd o, 3)) (h1 : x.isRef = true) (h2 : z.isRef = true) (hq : decide (x = z) = b) (ho : 0 ≤ (pc : Int) + o) (hp : pc' = if acV cd b = true then ((pc : Int) + o).toNat else pc + 3) (k : Go l R Z ws h0 Q κ S h pc' Ls st ce sl) : Go l R Z ws h0 Q κ S h pc Ls (z :: x :: st) ce sl := by
  obtain ⟨p, e, s, m, args, below, meth, c⟩ := κ
  intro T locs X N eT I
  obtain ⟨hx, hby, hml, hown, hnm, hret, hlk, hZ⟩ := C
  obtain ⟨s₂, o, hs, r⟩ := k T _ X N eT I
  exact ⟨s₂, o, Jvm.RoadKit.acmp (g := mkF m pc Ls (z :: x :: st)) X hx rfl h1 h2 (pc0 := pc) rfl (hb hby hd) rfl hq ho hp hs, r⟩
theorem ok' (C : Cx Z a0 y by0 ml rt κ) (pc' : Nat) {ix : Nat} {R0 O n d : String} {a : Addr} {v : Value} (hd : decode by0 pc = .ok (.getfield ix, 3)) (hpc : pc + 3 = pc') (w : (Cond.fieldLink y.cls ix R0 n d).before a0 Z = true) (via : Via Z R0 O n d) (F : Fld Z h a O n d v) (k : Go l R Z ws h0 Q κ S h pc' Ls (v :: st) ce sl) : Go l R Z ws h0 Q κ S h pc Ls (.ref a :: st) ce sl := by
  subst hpc
  obtain ⟨p, e, s, m, args, below, meth, c⟩ := κ
  intro T locs X N eT I
  obtain ⟨hx, hby, hml, hown, hnm, hret, hlk, hZ⟩ := C
  obtain ⟨T', X', e', st'⟩ := getF X hx hZ hown (host := "") (Or.inl w) via eT F (g := mkF m pc Ls (.ref a :: st)) rfl rfl (hb hby hd)
  obtain ⟨s₂, o, hs, r⟩ := k T' _ X' N e' I
  exact ⟨s₂, o, st' _ hs, r⟩
theorem oy1' (C : Cx Z a0 y by0 ml rt κ) (pc' : Nat) {ix : Nat} {O n d : String} {v : Value} (hd : decode by0 pc = .ok (.getstatic ix, 3)) (hpc : pc + 3 = pc') (w : (Cond.fieldLink y.cls ix O n d).before a0 Z = true) (F : Sta Z Z.heap O n d v) (k : Go l R Z ws h0 Q κ S h pc' Ls (v :: st) ce sl) : Go l R Z ws h0 Q κ S h pc Ls st ce sl := by
  subst hpc
  obtain ⟨p, e, s, m, args, below, meth, c⟩ := κ
  intro T locs X N eT I
  obtain ⟨hx, hby, hml, hown, hnm, hret, hlk, hZ⟩ := C
  obtain ⟨T', X', e', st'⟩ := getS2 X hx hZ hown (host := "") (Or.inl w) Via.refl eT (F.ext I.1) (g := mkF m pc Ls st) rfl (hb hby hd)
  obtain ⟨s₂, o, hs, r⟩ := k T' _ X' N e' I
  exact ⟨s₂, o, st' _ hs, r⟩
theorem oy' (C : Cx Z a0 y by0 ml rt κ) (pc' : Nat) {ix : Nat} {K : String} {a : Addr} (hd : decode by0 pc = .ok (.checkcast ix, 3)) (hpc : pc + 3 = pc') (w : (Cond.classLink y.cls ix K).before a0 Z = true) (F : Ins Z h a K true) (k : Go l R Z ws h0 Q κ S h pc' Ls (.ref a :: st) ce sl) : Go l R Z ws h0 Q κ S h pc Ls (.ref a :: st) ce sl := by
  subst hpc
  obtain ⟨p, e, s, m, args, below, meth, c⟩ := κ
  intro T locs X N eT I
  obtain ⟨hx, hby, hml, hown, hnm, hret, hlk, hZ⟩ := C
  obtain ⟨T', X', e', st'⟩ := castY X hx hZ hown w eT F (g := mkF m pc Ls (.ref a :: st)) rfl rfl (hb hby hd)
  obtain ⟨s₂, o, hs, r⟩ := k T' _ X' N e' I
  exact ⟨s₂, o, st' _ hs, r⟩
theorem or2' (C : Cx Z a0 y by0 ml rt κ) (pc' : Nat) {ix : Nat} {K : String} {a : Addr} (hd : decode by0 pc = .ok (.instanceof ix, 3)) (hpc : pc + 3 = pc') (w : (Cond.classLink y.cls ix K).before a0 Z = true) (F : Ins Z h a K true) (k : Go l R Z ws h0 Q κ S h pc' Ls (.int 1 :: st) ce sl) : Go l R Z ws h0 Q κ S h pc Ls (.ref a :: st) ce sl := by
  subst hpc
  obtain ⟨p, e, s, m, args, below, meth, c⟩ := κ
  intro T locs X N eT I
  obtain ⟨hx, hby, hml, hown, hnm, hret, hlk, hZ⟩ := C
  obtain ⟨T', X', e', st'⟩ := instY X hx hZ hown w eT F (g := mkF m pc Ls (.ref a :: st)) rfl rfl (hb hby hd)
  obtain ⟨s₂, o, hs, r⟩ := k T' _ X' N e' I
  exact ⟨s₂, o, st' _ hs, r⟩
theorem oj2' (C : Cx Z a0 y by0 ml rt κ) (pc' : Nat) {ix : Nat} {a : Addr} {W : Nat} (hd : decode by0 pc = .ok (.invokespecial ix, 3)) (hpc : pc + 3 = pc') (w1 : (Cond.methodLink y.cls ix Lib.objectInit).before a0 Z = true) (w2 : (Cond.instanceMethod Lib.objectInit).before a0 Z = true) (w3 : (Cond.code Lib.objectInit ⟨#[0xb1]⟩ 1 none).before a0 Z = true) (hls : Ls.size = ml) (hf : 1 ≤ R.frames) (hW : (st.map fun v => v.category).sum ≤ W) (hlo : W + 12 ≤ R.locals) (k : Go l R Z ws h0 Q κ S h pc' Ls st ce sl) : Go l R Z ws h0 Q κ S h pc Ls (.ref a :: st) ce sl := by
  subst hpc
  obtain ⟨p, e, s, m, args, below, meth, c⟩ := κ
  intro T locs X N eT I
  obtain ⟨hx, hby, hml, hown, hnm, hret, hlk, hZ⟩ := C
  obtain ⟨T', X', e', st'⟩ := initO X hx hZ hown w1 w2 w3 eT (g := mkF m pc Ls (.ref a :: st)) rfl (hls.trans hml.symm) rfl (hb hby hd) hf (W := W) (by show 2 * 0 + _ ≤ _; rw [Nat.mul_zero, Nat.zero_add]; exact hW) hlo
  obtain ⟨s₂, o, hs, r⟩ := k T' _ X' N e' I
  exact ⟨s₂, o, st' _ hs, r⟩
theorem oh1' (C : Cx Z a0 y by0 ml rt κ) (pc' : Nat) {ix kk : Nat} {R0 O n d Cn : String} {ty : FieldType} {a : Addr} {v old : Value} (hd : decode by0 pc = .ok (.putfield ix, 3)) (hpc : pc + 3 = pc') (w : (Cond.fieldLink y.cls ix R0 n d).before a0 Z = true) (via : Via Z R0 O n d) (F : Fld Z h a O n d old) (E : Exa Z h a Cn) (L : (Cond.lays Cn O n d).before a0 Z = true ∨ ((Cond.laysFinal Cn O n d).before a0 Z = true ∧ y.cls = O ∧ y.name = "<init>")) (wi : (Cond.instantiable Cn kk).before a0 Z = true) (hty : parseFieldDescriptor d = some ty) (hn : narrow ty v = v) (hf : fits ty v = true) (ha : a ∈ S) (k : ∀ h', Wr h h' a (RoadKit.slotOf Z O n d) v → Go l R Z ws h0 Q κ S h' pc' Ls st ce sl) : Go l R Z ws h0 Q κ S h pc Ls (v :: .ref a :: st) ce sl := by
  subst hpc
  obtain ⟨p, e, s, m, args, below, meth, c⟩ := κ
  intro T locs X N eT I
  obtain ⟨hx, hby, hml, hown, hnm, hret, hlk, hZ⟩ := C
  obtain ⟨T', h', X', e', W, st'⟩ := putF X hx hZ hown (host := "") (Or.inl w) via eT F E (L.imp id fun q => ⟨q.1, q.2.1, hnm.trans q.2.2⟩) wi hty hn hf (g := mkF m pc Ls (v :: .ref a :: st)) rfl rfl (hb hby hd)
  obtain ⟨s₂, o, hs, r⟩ := (k h' W) T' _ X' (fr_snoc N (I.2.2 _ ha).2.1) e' (I.wr W ha)
  exact ⟨s₂, o, st' _ hs, r⟩
theorem ol2' (C : Cx Z a0 y by0 ml rt κ) (pc' : Nat) {ix kk : Nat} {R0 O n d Cn : String} {ty : FieldType} {a : Addr} {v v' old : Value} (hd : decode by0 pc = .ok (.putfield ix, 3)) (hpc : pc + 3 = pc') (w : (Cond.fieldLink y.cls ix R0 n d).before a0 Z = true) (via : Via Z R0 O n d) (F : Fld Z h a O n d old) (E : Exa Z h a Cn) (L : (Cond.lays Cn O n d).before a0 Z = true ∨ ((Cond.laysFinal Cn O n d).before a0 Z = true ∧ y.cls = O ∧ y.name = "<init>")) (wi : (Cond.instantiable Cn kk).before a0 Z = true) (hty : parseFieldDescriptor d = some ty) (hn : narrow ty v = v') (hf : fits ty v' = true) (ha : a ∈ S) (k : ∀ h', Wr h h' a (RoadKit.slotOf Z O n d) v' → Go l R Z ws h0 Q κ S h' pc' Ls st ce sl) : Go l R Z ws h0 Q κ S h pc Ls (v :: .ref a :: st) ce sl := by
  subst hpc
  obtain ⟨p, e, s, m, args, below, meth, c⟩ := κ
  intro T locs X N eT I
  obtain ⟨hx, hby, hml, hown, hnm, hret, hlk, hZ⟩ := C
  obtain ⟨T', h', X', e', W, st'⟩ := putFN X hx hZ hown w via eT F E (L.imp id fun q => ⟨q.1, q.2.1, hnm.trans q.2.2⟩) wi hty hn hf (g := mkF m pc Ls (v :: .ref a :: st)) rfl rfl (hb hby hd)
  obtain ⟨s₂, o, hs, r⟩ := (k h' W) T' _ X' (fr_snoc N (I.2.2 _ ha).2.1) e' (I.wr W ha)
  exact ⟨s₂, o, st' _ hs, r⟩
theorem oc1' (C : Cx Z a0 y by0 ml rt κ) (pc' ce' sl' : Nat) {ix n : Nat} {Cn : String} (hd : decode by0 pc = .ok (.new ix, 3)) (hce : ce + 1 = ce') (hsl' : sl + n = sl') (hpc : pc + 3 = pc') (w : (Cond.classLink y.cls ix Cn).before a0 Z = true) (wi : (Cond.instantiable Cn n).before a0 Z = true) (wz : (Cond.initialized Cn).before a0 Z = true) (hc : ce + 1 ≤ R.cells) (hsl : sl + n ≤ R.slots) (k : ∀ (a : Addr) h', a = h.size → Ext h h' → Exa Z h' a Cn → (∀ {O nm d : String} {ty : FieldType}, Laid Z a0 Cn O nm d → parseFieldDescriptor d = some ty → Fld Z h' a O nm d (defaultValue ty)) → Go l R Z ws h0 Q κ (a :: S) h' pc' Ls (.ref a :: st) ce' sl') : Go l R Z ws h0 Q κ S h pc Ls st ce sl := by
  subst hpc hce hsl'
  obtain ⟨p, e, s, m, args, below, meth, c⟩ := κ
  intro T locs X N eT I
  obtain ⟨hx, hby, hml, hown, hnm, hret, hlk, hZ⟩ := C
  obtain ⟨T', h', X', e', E, A, D, -, st'⟩ := newO X hx hZ hown w wi wz eT (g := mkF m pc Ls st) rfl (hb hby hd) hc hsl
  obtain ⟨s₂, o, hs, r⟩ := (k _ h' rfl E A @D) T' _ X' N e' (I.new E A.lt)
  exact ⟨s₂, o, st' _ hs, r⟩
theorem ow1' (C : Cx Z a0 y by0 ml rt κ) (pc' ce' sl' : Nat) {aty : ArrayType} {ty : FieldType} {n : Int32} {cap : Nat} (hd : decode by0 pc = .ok (.newarray aty, 2)) (hce : ce + 1 = ce') (hsl' : sl + cap = sl') (hpc : pc + 2 = pc') (hty : newarray.typeOf aty = ty) (w : (Cond.arrayClass ty).before a0 Z = true) (hn : ¬ n < 0) (hcap : n.toNatClampNeg ≤ cap) (hbig : cap * 8 ≤ 536870912) (hc : ce + 1 ≤ R.cells) (hsl : sl + cap ≤ R.slots) (k : ∀ (a : Addr) h' kc, a = h.size → Ext h h' → Arv Z h' a kc ty n (List.replicate n.toNatClampNeg (defaultValue ty)) (defaultValue ty) → Go l R Z ws h0 Q κ (a :: S) h' pc' Ls (.ref a :: st) ce' sl') : Go l R Z ws h0 Q κ S h pc Ls (.int n :: st) ce sl := by
  subst hpc hce hsl'
  subst hty
  obtain ⟨p, e, s, m, args, below, meth, c⟩ := κ
  intro T locs X N eT I
  obtain ⟨hx, hby, hml, hown, hnm, hret, hlk, hZ⟩ := C
  obtain ⟨T', h', kc, X', e', E, A, st'⟩ := newP X hx hZ w eT (g := mkF m pc Ls (.int n :: st)) rfl (hb hby hd) rfl hn hcap hbig hc hsl
  have V := (Arv.new A hn).pad (vs' := List.replicate n.toNatClampNeg (defaultValue (newarray.typeOf aty))) (pad_rep [] (defaultValue (newarray.typeOf aty)) n.toNatClampNeg)
  obtain ⟨s₂, o, hs, r⟩ := (k _ h' kc rfl E V) T' _ X' N e' (I.new E A.lt)
  exact ⟨s₂, o, st' _ hs, r⟩
theorem od1' (C : Cx Z a0 y by0 ml rt κ) (pc' : Nat) {a : Addr} {kc : ClassId} {n j x : Int32} {vs : List Value} {d : Value} (i : Nat) {v : Int32} (hv : nar .char x = v) (hd : decode by0 pc = .ok (.castore, 1)) (hpc : pc + 1 = pc') (F : Arv Z h a kc .char n vs d) (hj : ¬ j < 0 ∧ j < n) (hi : j.toNatClampNeg = i) (hl : i < vs.length) (ha : a ∈ S) (k : ∀ h', Wr h h' a j.toNatClampNeg (.int v) → Arv Z h' a kc .char n (vs.set i (.int v)) d → Go l R Z ws h0 Q κ S h' pc' Ls st ce sl) : Go l R Z ws h0 Q κ S h pc Ls (.int x :: .int j :: .ref a :: st) ce sl := by
  subst hv hpc
  obtain ⟨p, e, s, m, args, below, meth, c⟩ := κ
  intro T locs X N eT I
  obtain ⟨hx, hby, hml, hown, hnm, hret, hlk, hZ⟩ := C
  obtain ⟨cl, A, q1, S1, q3, H, G⟩ := F
  obtain ⟨T', h', X', e', W, st'⟩ := stC X hx hZ eT A (inb_of S1 hj) (g := mkF m pc Ls (.int x :: .int j :: .ref a :: st)) rfl rfl (hb hby hd)
  have V := Arv.set A q1 S1 q3 H G (fits_nar_char _) W i hi hl
  obtain ⟨s₂, o, hs, r⟩ := (k h' W V) T' _ X' (fr_snoc N (I.2.2 _ ha).2.1) e' (I.wr W ha)
  exact ⟨s₂, o, st' _ hs, r⟩
theorem oe1' (C : Cx Z a0 y by0 ml rt κ) (pc' : Nat) {a : Addr} {kc : ClassId} {n j x : Int32} {vs : List Value} {d : Value} (i : Nat) {v : Int32} (hv : nar .byte x = v) (hd : decode by0 pc = .ok (.bastore, 1)) (hpc : pc + 1 = pc') (F : Arv Z h a kc .byte n vs d) (hj : ¬ j < 0 ∧ j < n) (hi : j.toNatClampNeg = i) (hl : i < vs.length) (ha : a ∈ S) (k : ∀ h', Wr h h' a j.toNatClampNeg (.int v) → Arv Z h' a kc .byte n (vs.set i (.int v)) d → Go l R Z ws h0 Q κ S h' pc' Ls st ce sl) : Go l R Z ws h0 Q κ S h pc Ls (.int x :: .int j :: .ref a :: st) ce sl := by
  subst hv hpc
  obtain ⟨p, e, s, m, args, below, meth, c⟩ := κ
  intro T locs X N eT I
  obtain ⟨hx, hby, hml, hown, hnm, hret, hlk, hZ⟩ := C
  obtain ⟨cl, A, q1, S1, q3, H, G⟩ := F
  obtain ⟨T', h', X', e', W, st'⟩ := stB X hx hZ eT A (inb_of S1 hj) (g := mkF m pc Ls (.int x :: .int j :: .ref a :: st)) rfl rfl (hb hby hd)
  have V := Arv.set A q1 S1 q3 H G (fits_nar_byte _) W i hi hl
  obtain ⟨s₂, o, hs, r⟩ := (k h' W V) T' _ X' (fr_snoc N (I.2.2 _ ha).2.1) e' (I.wr W ha)
  exact ⟨s₂, o, st' _ hs, r⟩
theorem oe' (C : Cx Z a0 y by0 ml rt κ) (hd : decode by0 pc = .ok (.return_, 1)) (hrt : rt = none) (hc : ce ≤ R.cells) (hsl : sl ≤ R.slots) (hq : Q none h) : Go l R Z ws h0 Q κ S h pc Ls [] ce sl := by
  obtain ⟨p, e, s, m, args, below, meth, c⟩ := κ
  intro T locs X N eT I
  obtain ⟨hx, hby, hml, hown, hnm, hret, hlk, hZ⟩ := C
  obtain ⟨fs, hr, hrun, hended, hW, hsame⟩ := X.leave (v := none) (fun _ => rfl) hlk
  have hq' : Keep h0 (T.setFrames fs).heap ws ∧ Q (none) (T.setFrames fs).heap := by
    show Keep h0 T.heap ws ∧ Q _ T.heap
    rw [eT]; exact ⟨I.2.1, hq⟩
  exact ⟨_, _, X.returnOut hx (hret.trans hrt) (hb hby hd) hr, hrun, hended, _, _, rfl, ⟨hq'.1, hq'.2, N⟩, ⟨_, rfl⟩, hW, hsame.mono hc hsl⟩
theorem oz' (C : Cx Z a0 y by0 ml rt κ) {t : FieldType} {x z : Int32} (hd : decode by0 pc = .ok (.ireturn, 1)) (hrt : rt = some t) (ht : t = .boolean ∨ t = .byte ∨ t = .char ∨ t = .short) (hz : nar t x = z) (hc : ce ≤ R.cells) (hsl : sl ≤ R.slots) (hq : Q (some (.int z)) h) : Go l R Z ws h0 Q κ S h pc Ls (.int x :: st) ce sl := by
  subst hz
  obtain ⟨p, e, s, m, args, below, meth, c⟩ := κ
  intro T locs X N eT I
  obtain ⟨hx, hby, hml, hown, hnm, hret, hlk, hZ⟩ := C
  obtain ⟨fs, hr, hrun, hended, hW, hsame⟩ := X.leave (v := some (.int (nar t x))) (fun q => by rw [hret, hrt] at q; cases q) hlk
  have hq' : Keep h0 (T.setFrames fs).heap ws ∧ Q (some (.int (nar t x))) (T.setFrames fs).heap := by
    show Keep h0 T.heap ws ∧ Q _ T.heap
    rw [eT]; exact ⟨I.2.1, hq⟩
  exact ⟨_, _, retN X hx (hret.trans hrt) ht (hb hby hd) hr, hrun, hended, _, _, rfl, ⟨hq'.1, hq'.2, N⟩, ⟨_, rfl⟩, hW, hsame.mono hc hsl⟩
theorem ol1' (C : Cx Z a0 y by0 ml rt κ) {x : Int32} (hd : decode by0 pc = .ok (.ireturn, 1)) (hrt : rt = some .int) (hc : ce ≤ R.cells) (hsl : sl ≤ R.slots) (hq : Q (some (.int x)) h) : Go l R Z ws h0 Q κ S h pc Ls (.int x :: st) ce sl := by
  obtain ⟨p, e, s, m, args, below, meth, c⟩ := κ
  intro T locs X N eT I
  obtain ⟨hx, hby, hml, hown, hnm, hret, hlk, hZ⟩ := C
  obtain ⟨fs, hr, hrun, hended, hW, hsame⟩ := X.leave (v := some (.int x)) (fun q => by rw [hret, hrt] at q; cases q) hlk
  have hq' : Keep h0 (T.setFrames fs).heap ws ∧ Q (some (.int x)) (T.setFrames fs).heap := by
    show Keep h0 T.heap ws ∧ Q _ T.heap
    rw [eT]; exact ⟨I.2.1, hq⟩
  exact ⟨_, _, retOut X hx (hret.trans hrt) rfl (Or.inl ⟨rfl, Or.inl rfl, _, rfl⟩) (hb hby hd) hr, hrun, hended, _, _, rfl, ⟨hq'.1, hq'.2, N⟩, ⟨_, rfl⟩, hW, hsame.mono hc hsl⟩
theorem ov' (C : Cx Z a0 y by0 ml rt κ) {v : Value} {t : FieldType} (hd : decode by0 pc = .ok (.areturn, 1)) (hrt : rt = some t) (ht : t.isReference = true) (hv : v.isRef = true) (hc : ce ≤ R.cells) (hsl : sl ≤ R.slots) (hq : Q (some v) h) : Go l R Z ws h0 Q κ S h pc Ls (v :: st) ce sl := by
  obtain ⟨p, e, s, m, args, below, meth, c⟩ := κ
  intro T locs X N eT I
  obtain ⟨hx, hby, hml, hown, hnm, hret, hlk, hZ⟩ := C
  obtain ⟨fs, hr, hrun, hended, hW, hsame⟩ := X.leave (v := some v) (fun q => by rw [hret, hrt] at q; cases q) hlk
  have hq' : Keep h0 (T.setFrames fs).heap ws ∧ Q (some v) (T.setFrames fs).heap := by
    show Keep h0 T.heap ws ∧ Q _ T.heap
    rw [eT]; exact ⟨I.2.1, hq⟩
  have hn : narrow t v = v := by cases t <;> first | (cases ht; done) | (cases v <;> first | rfl | cases hv)
  exact ⟨_, _, retOut X hx (hret.trans hrt) hn (Or.inr (Or.inr (Or.inr (Or.inr ⟨rfl, ht, hv⟩)))) (hb hby hd) hr, hrun, hended, _, _, rfl, ⟨hq'.1, hq'.2, N⟩, ⟨_, rfl⟩, hW, hsame.mono hc hsl⟩
theorem or' (C : Cx Z a0 y by0 ml rt κ) {z : MethodName} {fr lo cc ss : Nat} {ws' : List Addr} {Qz : Option Value → Heap → Prop} {ps : List FieldType} {rr : Option FieldType} {argsL : List Value} {ix W : Nat} (hd : decode by0 pc = .ok (.invokestatic ix, 3)) {bz : ByteArray} {mlz : Nat} {rtz : Option FieldType} (w1 : (Cond.methodLink y.cls ix z).before a0 Z = true) (w2 : (Cond.static z).before a0 Z = true) (wz : (Cond.initialized z.cls).before a0 Z = true) (wc : (Cond.code z bz mlz rtz).before a0 Z = true) (hy : z.cls ≠ "java/lang/invoke/MethodHandle" ∧ z.cls ≠ "java/lang/invoke/VarHandle") (hps : parseMethodDescriptor z.desc = some ⟨ps, rr⟩) (hM : Py l Z z fr lo cc ss argsL.toArray h ws' Qz) (hlen : argsL.length = ps.length) (hW : (st.map fun v => v.category).sum ≤ W) (hls : Ls.size = ml) (hnn : fr ≤ R.frames ∧ W + lo ≤ R.locals ∧ ce + cc ≤ R.cells ∧ sl + ss ≤ R.slots) (hws : ∀ x ∈ ws', x ∈ S) (k : ∀ v h', Keep h h' ws' → Qz v h' → ∃ bs, (∀ b ∈ bs, h.size ≤ b ∧ b < h'.size) ∧ Go l R Z ws h0 Q κ (bs ++ S) h' (pc + 3) Ls (v.toList ++ st) (ce + cc) (sl + ss)) : Go l R Z ws h0 Q κ S h pc Ls (argsL.reverse ++ st) ce sl := by
  obtain ⟨p, e, s, m, args, below, meth, c⟩ := κ
  intro T locs X N eT I
  obtain ⟨hx, hby, hml, hown, hnm, hret, hlk, hZ⟩ := C
  obtain ⟨hf, hlo, hc, hsl⟩ := hnn
  have hO := fun x hx => (⟨(I.2.2 x (hws x hx)).1, (I.2.2 x (hws x hx)).2.1⟩ : x < h.size ∧ Z.heap.size ≤ x)
  have hB := hM I.1 hO p e R below s args 3 W hZ hf hlo
  obtain ⟨v, _, ⟨T', L', k', n'⟩, -, X', ⟨Lc, hQ, l', y', z'⟩, st'⟩ := Jvm.LawKit.callS X hx hown (mvT hZ w1) (mvT hZ w2) (mvT hZ wz) (mvT hZ wc) hy hB (g := mkF m pc Ls (argsL.reverse ++ st)) rfl (hls.trans hml.symm) (argsL := argsL) (rest := st) (lenOf hps hlen) rfl (by show 2 * 0 + _ ≤ _; rw [Nat.mul_zero, Nat.zero_add]; exact hW) (hb hby hd) (fun _ _ => ⟨rfl, eT, hc, hsl⟩)
  dsimp only [Pt.U, Pt.locs, Pt.cells, Pt.slots] at X' l' y' z' st' hQ
  subst l' y' z'
  obtain ⟨K, hQ, N'⟩ := hQ
  have NN := Fr.app N N'
  obtain ⟨bs, hbs, kk⟩ := k v T'.heap K hQ
  obtain ⟨s₂, o, hs, r⟩ := kk T' _ X' NN rfl (I.add (I.keep K hws) hbs)
  exact ⟨s₂, o, st' _ hs, r⟩
theorem oq1' (C : Cx Z a0 y by0 ml rt κ) {z : MethodName} {fr lo cc ss : Nat} {ws' : List Addr} {Qz : Option Value → Heap → Prop} {ps : List FieldType} {rr : Option FieldType} {argsL : List Value} {ix W : Nat} {a : Addr} (hd : decode by0 pc = .ok (.invokespecial ix, 3)) {bz : ByteArray} {mlz : Nat} (hin : z.name = "<init>") (w1 : (Cond.methodLink y.cls ix z).before a0 Z = true) (w2 : (Cond.instanceMethod z).before a0 Z = true) (wc : (Cond.code z bz mlz none).before a0 Z = true) (hy : z.cls ≠ "java/lang/invoke/MethodHandle" ∧ z.cls ≠ "java/lang/invoke/VarHandle") (hps : parseMethodDescriptor z.desc = some ⟨ps, rr⟩) (hM : Py l Z z fr lo cc ss (.ref a :: argsL).toArray h ws' Qz) (hlen : argsL.length = ps.length) (hW : (st.map fun v => v.category).sum ≤ W) (hls : Ls.size = ml) (hnn : fr ≤ R.frames ∧ W + lo ≤ R.locals ∧ ce + cc ≤ R.cells ∧ sl + ss ≤ R.slots) (hws : ∀ x ∈ ws', x ∈ S) (k : ∀ v h', Keep h h' ws' → Qz v h' → ∃ bs, (∀ b ∈ bs, h.size ≤ b ∧ b < h'.size) ∧ Go l R Z ws h0 Q κ (bs ++ S) h' (pc + 3) Ls (v.toList ++ st) (ce + cc) (sl + ss)) : Go l R Z ws h0 Q κ S h pc Ls (argsL.reverse ++ .ref a :: st) ce sl := by
  obtain ⟨p, e, s, m, args, below, meth, c⟩ := κ
  intro T locs X N eT I
  obtain ⟨hx, hby, hml, hown, hnm, hret, hlk, hZ⟩ := C
  obtain ⟨hf, hlo, hc, hsl⟩ := hnn
  have hO := fun x hx => (⟨(I.2.2 x (hws x hx)).1, (I.2.2 x (hws x hx)).2.1⟩ : x < h.size ∧ Z.heap.size ≤ x)
  have hB := hM I.1 hO p e R below s args 3 W hZ hf hlo
  obtain ⟨v, _, ⟨T', L', k', n'⟩, -, X', ⟨Lc, hQ, l', y', z'⟩, st'⟩ := X.specialBack hx hin hown (mvT hZ w1) (mvT hZ w2) (mvT hZ wc) hy hB (g := mkF m pc Ls (argsL.reverse ++ Value.ref a :: st)) rfl (hls.trans hml.symm) (Steps.refl _) (a := a) (argsL := argsL) (rest := st) (lenOf hps hlen) rfl (by show 2 * 0 + _ ≤ _; rw [Nat.mul_zero, Nat.zero_add]; exact hW) (hb hby hd) (fun _ _ => ⟨rfl, eT, hc, hsl⟩)
  dsimp only [Pt.U, Pt.locs, Pt.cells, Pt.slots] at X' l' y' z' st' hQ
  subst l' y' z'
  obtain ⟨K, hQ, N'⟩ := hQ
  have NN := Fr.app N N'
  obtain ⟨bs, hbs, kk⟩ := k v T'.heap K hQ
  obtain ⟨s₂, o, hs, r⟩ := kk T' _ X' NN rfl (I.add (I.keep K hws) hbs)
  exact ⟨s₂, o, st'.trans hs, r⟩
theorem oo' (C : Cx Z a0 y by0 ml rt κ) {z : MethodName} {fr lo cc ss : Nat} {ws' : List Addr} {Qz : Option Value → Heap → Prop} {ps : List FieldType} {rr : Option FieldType} {argsL : List Value} {ix W : Nat} {a : Addr} (hd : decode by0 pc = .ok (.invokevirtual ix, 3)) {y1 : MethodName} {Cn : String} (w1 : (Cond.methodLink y.cls ix y1).before a0 Z = true) (w2 : (Cond.declares y1).before a0 Z = true) (nf : ∀ (s : State), Z.Warmed39 s.vm → NotFace s y1) (w3 : (Cond.selects Cn y1 z).before a0 Z = true) (w4 : (Cond.instanceMethod z).before a0 Z = true) (EX : Exa Z h a Cn) (hy : y1.cls ≠ "java/lang/invoke/MethodHandle" ∧ y1.cls ≠ "java/lang/invoke/VarHandle") (hps : parseMethodDescriptor y1.desc = some ⟨ps, rr⟩) (hM : Py l Z z fr lo cc ss (.ref a :: argsL).toArray h ws' Qz) (hlen : argsL.length = ps.length) (hW : (st.map fun v => v.category).sum ≤ W) (hls : Ls.size = ml) (hnn : fr ≤ R.frames ∧ W + lo ≤ R.locals ∧ ce + cc ≤ R.cells ∧ sl + ss ≤ R.slots) (hws : ∀ x ∈ ws', x ∈ S) (k : ∀ v h', Keep h h' ws' → Qz v h' → ∃ bs, (∀ b ∈ bs, h.size ≤ b ∧ b < h'.size) ∧ Go l R Z ws h0 Q κ (bs ++ S) h' (pc + 3) Ls (v.toList ++ st) (ce + cc) (sl + ss)) : Go l R Z ws h0 Q κ S h pc Ls (argsL.reverse ++ .ref a :: st) ce sl := by
  obtain ⟨p, e, s, m, args, below, meth, c⟩ := κ
  intro T locs X N eT I
  obtain ⟨hx, hby, hml, hown, hnm, hret, hlk, hZ⟩ := C
  obtain ⟨hf, hlo, hc, hsl⟩ := hnn
  have hO := fun x hx => (⟨(I.2.2 x (hws x hx)).1, (I.2.2 x (hws x hx)).2.1⟩ : x < h.size ∧ Z.heap.size ≤ x)
  have hB := hM I.1 hO p e R below s args 3 W hZ hf hlo
  obtain ⟨v, _, ⟨T', L', k', n'⟩, -, X', ⟨Lc, hQ, l', y', z'⟩, st'⟩ := (let ⟨cq, kq, qa, qb, qc⟩ := isOf hZ eT EX; X.virtualBack hx hown (mvT hZ w1) (mvT hZ w2) (nf _ hZ) (mvT hZ w3) (mvT hZ w4) hy hB qa qc (g := mkF m pc Ls (argsL.reverse ++ Value.ref a :: st)) rfl (hls.trans hml.symm) (Steps.refl _) (argsL := argsL) (rest := st) (lenOf hps hlen) rfl (by show 2 * 0 + _ ≤ _; rw [Nat.mul_zero, Nat.zero_add]; exact hW) (hb hby hd) (fun _ _ => ⟨rfl, eT, hc, hsl⟩))
  dsimp only [Pt.U, Pt.locs, Pt.cells, Pt.slots] at X' l' y' z' st' hQ
  subst l' y' z'
  obtain ⟨K, hQ, N'⟩ := hQ
  have NN := Fr.app N N'
  obtain ⟨bs, hbs, kk⟩ := k v T'.heap K hQ
  obtain ⟨s₂, o, hs, r⟩ := kk T' _ X' NN rfl (I.add (I.keep K hws) hbs)
  exact ⟨s₂, o, st'.trans hs, r⟩
theorem ov2' (C : Cx Z a0 y by0 ml rt κ) {z : MethodName} {fr lo cc ss : Nat} {ws' : List Addr} {Qz : Option Value → Heap → Prop} {ps : List FieldType} {rr : Option FieldType} {argsL : List Value} {ix W : Nat} {a : Addr} (hd : decode by0 pc = .ok (.invokespecial ix, 3)) {bz : ByteArray} {mlz : Nat} {rtz : Option FieldType} {Cn : String} (hn : z.name ≠ "<init>") (w1 : (Cond.methodLink y.cls ix z).before a0 Z = true) (w2 : (Cond.sameMethod z.cls z.cls z.name z.desc).before a0 Z = true) (w3 : (Cond.instanceMethod z).before a0 Z = true) (w4 : (Cond.superclass y.cls z.cls).before a0 Z = true) (wc : (Cond.code z bz mlz rtz).before a0 Z = true) (EX : Exa Z h a Cn) (hy : z.cls ≠ "java/lang/invoke/MethodHandle" ∧ z.cls ≠ "java/lang/invoke/VarHandle") (hps : parseMethodDescriptor z.desc = some ⟨ps, rr⟩) (hM : Py l Z z fr lo cc ss (.ref a :: argsL).toArray h ws' Qz) (hlen : argsL.length = ps.length) (hW : (st.map fun v => v.category).sum ≤ W) (hls : Ls.size = ml) (hnn : fr ≤ R.frames ∧ W + lo ≤ R.locals ∧ ce + cc ≤ R.cells ∧ sl + ss ≤ R.slots) (hws : ∀ x ∈ ws', x ∈ S) (k : ∀ v h', Keep h h' ws' → Qz v h' → ∃ bs, (∀ b ∈ bs, h.size ≤ b ∧ b < h'.size) ∧ Go l R Z ws h0 Q κ (bs ++ S) h' (pc + 3) Ls (v.toList ++ st) (ce + cc) (sl + ss)) : Go l R Z ws h0 Q κ S h pc Ls (argsL.reverse ++ .ref a :: st) ce sl := by
  obtain ⟨p, e, s, m, args, below, meth, c⟩ := κ
  intro T locs X N eT I
  obtain ⟨hx, hby, hml, hown, hnm, hret, hlk, hZ⟩ := C
  obtain ⟨hf, hlo, hc, hsl⟩ := hnn
  have hO := fun x hx => (⟨(I.2.2 x (hws x hx)).1, (I.2.2 x (hws x hx)).2.1⟩ : x < h.size ∧ Z.heap.size ≤ x)
  have hB := hM I.1 hO p e R below s args 3 W hZ hf hlo
  obtain ⟨v, _, ⟨T', L', k', n'⟩, -, X', ⟨Lc, hQ, l', y', z'⟩, st'⟩ := superBack X hx hZ hown w1 w2 w3 w4 hn hB eT (Ins.self EX) (g := mkF m pc Ls (argsL.reverse ++ Value.ref a :: st)) rfl (hls.trans hml.symm) wc (argsL := argsL) (rest := st) (lenOf hps hlen) rfl (by show 2 * 0 + _ ≤ _; rw [Nat.mul_zero, Nat.zero_add]; exact hW) (hb hby hd) (fun _ _ => ⟨rfl, eT, hc, hsl⟩)
  dsimp only [Pt.U, Pt.locs, Pt.cells, Pt.slots] at X' l' y' z' st' hQ
  subst l' y' z'
  obtain ⟨K, hQ, N'⟩ := hQ
  have NN := Fr.app N N'
  obtain ⟨bs, hbs, kk⟩ := k v T'.heap K hQ
  obtain ⟨s₂, o, hs, r⟩ := kk T' _ X' NN rfl (I.add (I.keep K hws) hbs)
  exact ⟨s₂, o, st'.trans hs, r⟩
theorem on2' (C : Cx Z a0 y by0 ml rt κ) (pc' : Nat) {ix W : Nat} {a b : Addr} {kc kc' : ClassId} {ty : FieldType} {z z' sp dp nn : Int32} {vs vd us vr : List Value} {dv dd : Value} (hd : decode by0 pc = .ok (.invokestatic ix, 3)) (hpc : pc + 3 = pc') (w1 : (Cond.methodLink y.cls ix Jvm.Stand.acN).before a0 Z = true) (w2 : (Cond.native Jvm.Stand.acN).before a0 Z = true) (w3 : (Cond.static Jvm.Stand.acN).before a0 Z = true) (w4 : (Cond.initialized "java/lang/System").before a0 Z = true) (A : Arv Z h a kc ty z vs dv) (B : Arv Z h b kc' ty z' vd dd) (hty : refKind ty = false) (h1 : ¬ sp < 0) (h2 : ¬ dp < 0) (h3 : ¬ nn < 0) (h4 : sp.toNatClampNeg + nn.toNatClampNeg ≤ z.toNatClampNeg) (h5 : dp.toNatClampNeg + nn.toNatClampNeg ≤ z'.toNatClampNeg) (hus : us = (List.range nn.toNatClampNeg).map fun i => vs.getD (sp.toNatClampNeg + i) dv) (hl : dp.toNatClampNeg + nn.toNatClampNeg ≤ vd.length) (hvr : vd.take dp.toNatClampNeg ++ us ++ vd.drop (dp.toNatClampNeg + nn.toNatClampNeg) = vr) (hls : Ls.size = ml) (hf : 1 ≤ R.frames) (hW : (st.map fun v => v.category).sum ≤ W) (hlo : W + (nativeFrameWords "java/lang/System" "arraycopy" 5 + 11) ≤ R.locals) (hb' : b ∈ S) (k : ∀ h', Keep h h' [b] → Arv Z h' b kc' ty z' vr dd → Go l R Z ws h0 Q κ S h' pc' Ls st ce sl) : Go l R Z ws h0 Q κ S h pc Ls (.int nn :: .int dp :: .ref b :: .int sp :: .ref a :: st) ce sl := by
  subst hvr hpc
  obtain ⟨p, e, s, m, args, below, meth, c⟩ := κ
  intro T locs X N eT I
  obtain ⟨hx, hby, hml, hown, hnm, hret, hlk, hZ⟩ := C
  obtain ⟨T', h', L', X', e', N', K, V, st'⟩ := cpA X hx hZ hown w1 w2 w3 w4 eT A B (Or.inl ⟨rfl, hty⟩) h1 h2 h3 h4 h5 hus hl N (I.2.2 _ hb').2.1 (g := mkF m pc Ls (.int nn :: .int dp :: .ref b :: .int sp :: .ref a :: st)) rfl (hls.trans hml.symm) rfl (hb hby hd) hf (W := W) (by show 2 * 0 + _ ≤ _; rw [Nat.mul_zero, Nat.zero_add]; exact hW) hlo
  have hws : ∀ x ∈ [b], x ∈ S := memsS hb' mems0
  obtain ⟨s₂, o, hs, r⟩ := k h' K V T' _ X' N' e' (I.keep K hws)
  exact ⟨s₂, o, st' _ hs, r⟩
end StepsN
def IW (Z : State) (EL : List (String × Nat)) (own : String) (s : State) (m : MethodId) (h0 : Heap) (S : List Addr) (h : Heap) (vm0 : Vm) (k0 : Nat) : Prop :=
  s.Since vm0 k0 ∧ k0 ≤ h.size ∧ Z.Warmed39 vm0 ∧ vm0.findClass own = some m.cls ∧ CHr Z EL s.vm h0 vm0 h ∧ ∀ x ∈ S, Safe Z EL vm0 h x
section IWLaws
variable {Z s : State} {EL : List (String × Nat)} {own : String} {m : MethodId} {ws' S bs : List Addr} {h0 h h' : Heap} {a : Addr} {i : Nat} {v : Value} {vm0 : Vm} {k0 : Nat}
theorem IW.ext (J : IW Z EL own s m h0 S h vm0 k0) (E : Ext h h') : IW Z EL own s m h0 S h' vm0 k0 :=
  ⟨J.1, Nat.le_trans J.2.1 E.1, J.2.2.1, J.2.2.2.1, J.2.2.2.2.1.trans (CHr.ext E J.2.2.2.2.1.1), fun x hx => Safe.ext E J.2.2.2.2.1.1 (J.2.2.2.2.2 x hx)⟩
theorem IW.new (J : IW Z EL own s m h0 S h vm0 k0) (E : Ext h h') : IW Z EL own s m h0 (h.size :: S) h' vm0 k0 :=
  ⟨J.1, Nat.le_trans J.2.1 E.1, J.2.2.1, J.2.2.2.1, J.2.2.2.2.1.trans (CHr.ext E J.2.2.2.2.1.1), fun x hx => by
    rcases List.mem_cons.mp hx with rfl | hx
    · exact Safe.ext E J.2.2.2.2.1.1 (Safe.new (Nat.le_refl _))
    · exact Safe.ext E J.2.2.2.2.1.1 (J.2.2.2.2.2 x hx)⟩
theorem IW.wr (J : IW Z EL own s m h0 S h vm0 k0) (W : Wr h h' a i v) (ha : a ∈ S) : IW Z EL own s m h0 S h' vm0 k0 :=
  ⟨J.1, Nat.le_trans J.2.1 (Nat.le_of_eq W.size.symm), J.2.2.1, J.2.2.2.1, J.2.2.2.2.1.trans (CHr.wr W (J.2.2.2.2.2 a ha) J.2.2.2.2.1.1), fun x hx => Safe.wr W (J.2.2.2.2.2 a ha) J.2.2.2.2.1.1 (J.2.2.2.2.2 x hx)⟩
theorem IW.keep (J : IW Z EL own s m h0 S h vm0 k0) (K : Keep h h' ws') (hs : ∀ x ∈ ws', x ∈ S) : IW Z EL own s m h0 S h' vm0 k0 :=
  ⟨J.1, Nat.le_trans J.2.1 K.1, J.2.2.1, J.2.2.2.1, J.2.2.2.2.1.trans (CHr.keep K (fun x hx => J.2.2.2.2.2 x (hs x hx)) J.2.2.2.2.1.1), fun x hx => Safe.keep K (fun x hx => J.2.2.2.2.2 x (hs x hx)) J.2.2.2.2.1.1 (J.2.2.2.2.2 x hx)⟩
theorem IW.add (J : IW Z EL own s m h0 S h vm0 k0) (K : Keep h h' ws') (hs : ∀ x ∈ ws', x ∈ S) (hb : ∀ b ∈ bs, h.size ≤ b ∧ b < h'.size) : IW Z EL own s m h0 (bs ++ S) h' vm0 k0 :=
  have J' := J.keep K hs
  ⟨J'.1, J'.2.1, J'.2.2.1, J'.2.2.2.1, J'.2.2.2.2.1, fun x hx => (List.mem_append.mp hx).elim (fun q => Safe.keep K (fun x hx => J.2.2.2.2.2 x (hs x hx)) J.2.2.2.2.1.1 (Safe.new (hb x q).1)) (fun q => J'.2.2.2.2.2 x q)⟩
end IWLaws
def GoW (l : Launch) (R : Room) (Z : State) (EL : List (String × Nat)) (own : String) (ws : List Addr) (h0 : Heap) (Q : Option Value → Heap → Prop) (κ : Kx) (S : List Addr) (h : Heap) (pc : Nat) (Ls : Array Slot) (st : List Value) (ce sl : Nat) : Prop := match κ with
  | (p, e, s, m, args, below, meth, c) => ∀ vm0 k0 T locs, Stand p l e R (s.setVm vm0) m args below meth c T locs ce sl → Fr Z.heap.size locs → T.heap = h → Inv Z ws h0 S h → IW Z EL own s m h0 S h vm0 k0 →
    ∃ s₂ o, Steps p.tables e below (T.setTop (mkF m pc Ls st)) s₂ ∧ s₂.status = .running ∧ Ended s₂ below o ∧ ∃ v L, o = .returned v ∧ (Keep h0 s₂.heap ws ∧ Q v s₂.heap ∧ Fr Z.heap.size L) ∧ CHr Z EL s.vm h0 s₂.vm s₂.heap ∧ ReturnedEndW s o s₂ L R.cells R.slots
/-- the contract of a body that may intern -/
def CtW (l : Launch) (Z : State) (EL : List (String × Nat)) (y : MethodName) (by0 : ByteArray) (ml : Nat) (rt : Option FieldType) (rm : Room) (as : Array Value) (h0 : Heap) (ws : List Addr) (Q : Option Value → Heap → Prop) : Prop :=
  Ext Z.heap h0 → (∀ x ∈ ws, x < h0.size ∧ Z.heap.size ≤ x) → ∀ tw : List Jvm.Cond, MetFree l y (head1 (Jvm.Cond.code y by0 ml rt :: tw) rm) (fun a U => a = as ∧ Z.Warmed39 U.vm ∧ U.heap = h0 ∧ CHv Z EL U.vm h0 ∧ ∀ x ∈ ws, Safe Z EL U.vm h0 x) (fun _ _ _ _ _ => True)
    (fun _ U o U' => ∃ v L, o = .returned v ∧ (Keep h0 U'.heap ws ∧ Q v U'.heap ∧ Fr Z.heap.size L) ∧ CHr Z EL U.vm h0 U'.vm U'.heap ∧ ReturnedEndW U o U' L rm.cells rm.slots)
theorem CtW.mk {l : Launch} {Z : State} {EL : List (String × Nat)} {a0 : Array Value} {y : MethodName} {by0 : ByteArray} {ml : Nat} {rt : Option FieldType} {rm : Room} {as : Array Value} {h0 : Heap} {ws : List Addr} {Q : Option Value → Heap → Prop} {Ls : Array Slot} (hpl : plainFor y = true) (hef : ∀ m, entryFrame m as ml = mkF m 0 Ls [])
    (k : ∀ κ, Cx Z a0 y by0 ml rt κ → GoW l rm Z EL y.cls ws h0 Q κ ws h0 0 Ls [] 0 0) : CtW l Z EL y by0 ml rt rm as h0 ws Q := by
  intro hO hws tw
  refine MetFree.of_bodySF hpl hisR ?_
  intro p e s m args below meth c s₁ Bd hml0 hP hK
  obtain ⟨rfl, hZ, hh, hCH, hSf⟩ := hP
  have X0 : Stand p l e rm s m args below meth c s₁ [] 0 0 := Stand.of_body Bd
  have e0 : s₁.heap = h0 := by rw [← hh, Bd.state]; rfl
  have hown := findClass_of_methodNamed Bd.named
  obtain ⟨s₂, o, hs, r⟩ := k (p, e, s, m, args, below, meth, c) ⟨Bd.exec, Bd.bytes, hml0, hown, (name_of_methodNamed Bd.named Bd.method).1, Bd.returns, BodyLoose.notSynchronized Bd, hZ⟩ s.vm 0 s₁ [] X0 (Fr.nil _) e0
    ⟨hO, Keep.refl _ _, fun x hx => ⟨(hws x hx).1, (hws x hx).2, Or.inl hx⟩⟩ ⟨(State.WarmedH.refl s).since 0, Nat.zero_le _, hZ, hown, CHr.refl hCH, hSf⟩
  exact ⟨s₂, o, castTop (hef m) hs, r⟩
/-- what a call of a body costs that may intern -/
def PyW (l : Launch) (Z : State) (EL : List (String × Nat)) (a0 : Array Value) (z : MethodName) (fr lo cc ss : Nat) (as : Array Value) (h : Heap) (ws : List Addr) (Q : Option Value → Heap → Prop) : Prop :=
  Ext Z.heap h → (∀ x ∈ ws, x < h.size ∧ Z.heap.size ≤ x) → EW Z a0 EL → ∀ (p : Program) (e : Env) (R : Room) (below : List Frame) (s : State) (vm0 : Vm) (args : Array Value) (len W : Nat), Z.Warmed39 vm0 → fr ≤ R.frames → W + lo ≤ R.locals → CHv Z EL vm0 h → (∀ x ∈ ws, Safe Z EL vm0 h x) →
    BackS l R p e below (s.setVm vm0) args z len W (fun A a => a = as ∧ A.U.heap = h ∧ A.cells + cc ≤ R.cells ∧ A.slots + ss ≤ R.slots)
      (fun A _ v B => ∃ L, (Keep h B.U.heap ws ∧ Q v B.U.heap ∧ Fr Z.heap.size L) ∧ B.locs = A.locs ++ L ∧ B.cells = A.cells + cc ∧ B.slots = A.slots + ss ∧ CHr Z EL vm0 h B.U.vm B.U.heap)
theorem CtW.py {l : Launch} {Z : State} {a0 : Array Value} {EL : List (String × Nat)} {h : Heap} {ws : List Addr} {y : MethodName} {by0 : ByteArray} {ml : Nat} {rt : Option FieldType} {rm : Room} {as : Array Value} {Q : Option Value → Heap → Prop}
    (hM : CtW l Z EL y by0 ml rt rm as h ws Q) (wc : (Cond.code y by0 ml rt).before a0 Z = true) (wz : (Cond.initialized y.cls).before a0 Z = true) : PyW l Z EL a0 y (rm.frames + 1) (ml + 11 + rm.locals) rm.cells rm.slots as h ws Q :=
  fun hO hws hEL p e R below s vm0 args len W hZ hf hl H hSf =>
  BackS.of_freeW (bytes := by0) (maxL := ml) (ret := rt) (E := fun _ first o t L k n => k = rm.cells ∧ n = rm.slots ∧ (∃ v, o = .returned v ∧ (Keep h t.heap ws ∧ Q v t.heap ∧ Fr Z.heap.size L)) ∧ CHr Z EL first.vm h t.vm t.heap) (hM hO hws []) hf (by rw [Nat.add_assoc]; exact hl)
    (fun m meth c A a Y hp => by
      have hU : Z.Warmed39 A.U.vm := wtrans (s := s.setVm vm0) hZ Y.warmed
      refine ⟨?_, mv hU wc, mv hU wz, hp.2.2.1, hp.2.2.2⟩
      show (Cond.and _ .tt).before a A.U = true
      rw [Cond.before_and, mv hU wc]; rfl)
    (fun m meth c A a g mk Y hp => by
      have q := CHv.at Y hZ hEL H
      exact ⟨hp.1, wtrans (s := s.setVm vm0) hZ Y.warmed, hp.2.1, q.1, fun x hx => q.safe (hws x hx).1 (hSf x hx)⟩)
    (fun _ _ _ _ _ _ _ _ _ => trivial)
    (fun _ _ _ _ q => by obtain ⟨v, L, h1, h2, h3, h4⟩ := q; exact ⟨L, _, _, h4, rfl, rfl, ⟨v, h1, h2⟩, h3⟩)
    (fun m meth c A a g mk v t L k n Y hp _ _ q => by
      obtain ⟨e1, e2, ⟨v', e3, e4⟩, e5⟩ := q
      cases e3; subst e1 e2
      exact ⟨L, e4, rfl, rfl, rfl, (CHv.at Y hZ hEL H).trans e5⟩)
section StepsW
variable {Z : State} {a0 : Array Value} {y : MethodName} {by0 : ByteArray} {ml : Nat} {rt : Option FieldType} {l : Launch} {R : Room} {ws : List Addr} {h0 : Heap} {Q : Option Value → Heap → Prop} {κ : Kx} {S : List Addr} {h : Heap} {pc : Nat} {Ls : Array Slot} {st : List Value} {ce sl : Nat} {EL : List (String × Nat)}
theorem ww' (C : Cx Z a0 y by0 ml rt κ) (pc' : Nat) {j : Fin 4} {v : Int32} (hd : decode by0 pc = .ok (.iload_n j, 1)) (hpc : pc + 1 = pc') (hl : Ls[j.val]? = some (.val (.int v))) (k : GoW l R Z EL y.cls ws h0 Q κ S h pc' Ls (.int v :: st) ce sl) : GoW l R Z EL y.cls ws h0 Q κ S h pc Ls st ce sl := by
  subst hpc
  obtain ⟨p, e, s, m, args, below, meth, c⟩ := κ
  intro vm0 k0 T locs X N eT I J
  obtain ⟨hx, hby, hml, -, hnm, hret, hlk, -⟩ := C
  have hZ : Z.Warmed39 (s.setVm vm0).vm := J.2.2.1
  have hown : (s.setVm vm0).vm.findClass y.cls = some m.cls := J.2.2.2.1
  obtain ⟨s₂, o, hs, r⟩ := k vm0 k0 T _ X N eT I J
  exact ⟨s₂, o, XS.iloadN X.here hx rfl (hb hby hd) hl hs, r⟩
theorem wn' (C : Cx Z a0 y by0 ml rt κ) (pc' : Nat) {j : Nat} {v : Int32} (hd : decode by0 pc = .ok (.iload j, 2)) (hpc : pc + 2 = pc') (hl : Ls[j]? = some (.val (.int v))) (k : GoW l R Z EL y.cls ws h0 Q κ S h pc' Ls (.int v :: st) ce sl) : GoW l R Z EL y.cls ws h0 Q κ S h pc Ls st ce sl := by
  subst hpc
  obtain ⟨p, e, s, m, args, below, meth, c⟩ := κ
  intro vm0 k0 T locs X N eT I J
  obtain ⟨hx, hby, hml, -, hnm, hret, hlk, -⟩ := C
  have hZ : Z.Warmed39 (s.setVm vm0).vm := J.2.2.1
  have hown : (s.setVm vm0).vm.findClass y.cls = some m.cls := J.2.2.2.1
  obtain ⟨s₂, o, hs, r⟩ := k vm0 k0 T _ X N eT I J
  exact ⟨s₂, o, XS.iload X.here hx rfl (hb hby hd) hl hs, r⟩
theorem wk1' (C : Cx Z a0 y by0 ml rt κ) (pc' : Nat) {j : Fin 4} {v : Value} (hd : decode by0 pc = .ok (.aload_n j, 1)) (hpc : pc + 1 = pc') (hl : Ls[j.val]? = some (.val v)) (hv : v.isRef = true) (k : GoW l R Z EL y.cls ws h0 Q κ S h pc' Ls (v :: st) ce sl) : GoW l R Z EL y.cls ws h0 Q κ S h pc Ls st ce sl := by
  subst hpc
  obtain ⟨p, e, s, m, args, below, meth, c⟩ := κ
  intro vm0 k0 T locs X N eT I J
  obtain ⟨hx, hby, hml, -, hnm, hret, hlk, -⟩ := C
  have hZ : Z.Warmed39 (s.setVm vm0).vm := J.2.2.1
  have hown : (s.setVm vm0).vm.findClass y.cls = some m.cls := J.2.2.2.1
  obtain ⟨s₂, o, hs, r⟩ := k vm0 k0 T _ X N eT I J
  exact ⟨s₂, o, XS.aloadN X.here hx rfl (hb hby hd) hl hv hs, r⟩
theorem wq' (C : Cx Z a0 y by0 ml rt κ) (pc' : Nat) {j : Nat} {v : Value} (hd : decode by0 pc = .ok (.aload j, 2)) (hpc : pc + 2 = pc') (hl : Ls[j]? = some (.val v)) (hv : v.isRef = true) (k : GoW l R Z EL y.cls ws h0 Q κ S h pc' Ls (v :: st) ce sl) : GoW l R Z EL y.cls ws h0 Q κ S h pc Ls st ce sl := by
  subst hpc
  obtain ⟨p, e, s, m, args, below, meth, c⟩ := κ
  intro vm0 k0 T locs X N eT I J
  obtain ⟨hx, hby, hml, -, hnm, hret, hlk, -⟩ := C
  have hZ : Z.Warmed39 (s.setVm vm0).vm := J.2.2.1
  have hown : (s.setVm vm0).vm.findClass y.cls = some m.cls := J.2.2.2.1
  obtain ⟨s₂, o, hs, r⟩ := k vm0 k0 T _ X N eT I J
  exact ⟨s₂, o, XS.aload X.here hx rfl (hb hby hd) hl hv hs, r⟩
theorem wr1' (C : Cx Z a0 y by0 ml rt κ) (pc' : Nat) {i : Int} (v : Int32) (hd : decode by0 pc = .ok (.iconst i, 1)) (hpc : pc + 1 = pc') (hv : Int32.ofInt i = v) (k : GoW l R Z EL y.cls ws h0 Q κ S h pc' Ls (.int v :: st) ce sl) : GoW l R Z EL y.cls ws h0 Q κ S h pc Ls st ce sl := by
  subst hpc
  obtain ⟨p, e, s, m, args, below, meth, c⟩ := κ
  intro vm0 k0 T locs X N eT I J
  obtain ⟨hx, hby, hml, -, hnm, hret, hlk, -⟩ := C
  have hZ : Z.Warmed39 (s.setVm vm0).vm := J.2.2.1
  have hown : (s.setVm vm0).vm.findClass y.cls = some m.cls := J.2.2.2.1
  obtain ⟨s₂, o, hs, r⟩ := k vm0 k0 T _ X N eT I J
  exact ⟨s₂, o, XT.iconstV X.here hx rfl v (hb hby hd) hv hs, r⟩
theorem wf2' (C : Cx Z a0 y by0 ml rt κ) (pc' : Nat) {i : Int} (v : Int32) (hd : decode by0 pc = .ok (.bipush i, 2)) (hpc : pc + 2 = pc') (hv : (Int8.ofInt i).toInt32 = v) (k : GoW l R Z EL y.cls ws h0 Q κ S h pc' Ls (.int v :: st) ce sl) : GoW l R Z EL y.cls ws h0 Q κ S h pc Ls st ce sl := by
  subst hpc
  obtain ⟨p, e, s, m, args, below, meth, c⟩ := κ
  intro vm0 k0 T locs X N eT I J
  obtain ⟨hx, hby, hml, -, hnm, hret, hlk, -⟩ := C
  have hZ : Z.Warmed39 (s.setVm vm0).vm := J.2.2.1
  have hown : (s.setVm vm0).vm.findClass y.cls = some m.cls := J.2.2.2.1
  obtain ⟨s₂, o, hs, r⟩ := k vm0 k0 T _ X N eT I J
  exact ⟨s₂, o, XT.bipushV X.here hx rfl v (hb hby hd) hv hs, r⟩
theorem wu1' (C : Cx Z a0 y by0 ml rt κ) (pc' : Nat) {i : Int} (v : Int32) (hd : decode by0 pc = .ok (.sipush i, 3)) (hpc : pc + 3 = pc') (hv : (Int16.ofInt i).toInt32 = v) (k : GoW l R Z EL y.cls ws h0 Q κ S h pc' Ls (.int v :: st) ce sl) : GoW l R Z EL y.cls ws h0 Q κ S h pc Ls st ce sl := by
  subst hpc
  obtain ⟨p, e, s, m, args, below, meth, c⟩ := κ
  intro vm0 k0 T locs X N eT I J
  obtain ⟨hx, hby, hml, -, hnm, hret, hlk, -⟩ := C
  have hZ : Z.Warmed39 (s.setVm vm0).vm := J.2.2.1
  have hown : (s.setVm vm0).vm.findClass y.cls = some m.cls := J.2.2.2.1
  obtain ⟨s₂, o, hs, r⟩ := k vm0 k0 T _ X N eT I J
  exact ⟨s₂, o, XT.sipushV X.here hx rfl v (hb hby hd) hv hs, r⟩
theorem wl3' (C : Cx Z a0 y by0 ml rt κ) (pc' : Nat)  (hd : decode by0 pc = .ok (.aconst_null, 1)) (hpc : pc + 1 = pc')  (k : GoW l R Z EL y.cls ws h0 Q κ S h pc' Ls (.null :: st) ce sl) : GoW l R Z EL y.cls ws h0 Q κ S h pc Ls st ce sl := by
  subst hpc
  obtain ⟨p, e, s, m, args, below, meth, c⟩ := κ
  intro vm0 k0 T locs X N eT I J
  obtain ⟨hx, hby, hml, -, hnm, hret, hlk, -⟩ := C
  have hZ : Z.Warmed39 (s.setVm vm0).vm := J.2.2.1
  have hown : (s.setVm vm0).vm.findClass y.cls = some m.cls := J.2.2.2.1
  obtain ⟨s₂, o, hs, r⟩ := k vm0 k0 T _ X N eT I J
  exact ⟨s₂, o, XS.aconstNull X.here hx rfl (hb hby hd) hs, r⟩
theorem wk3' (C : Cx Z a0 y by0 ml rt κ) (pc' : Nat) {x z : Int32} (v : Int32) (hd : decode by0 pc = .ok (.isub, 1)) (hpc : pc + 1 = pc') (hv : x - z = v) (k : GoW l R Z EL y.cls ws h0 Q κ S h pc' Ls (.int v :: st) ce sl) : GoW l R Z EL y.cls ws h0 Q κ S h pc Ls (.int z :: .int x :: st) ce sl := by
  subst hpc
  subst hv
  obtain ⟨p, e, s, m, args, below, meth, c⟩ := κ
  intro vm0 k0 T locs X N eT I J
  obtain ⟨hx, hby, hml, -, hnm, hret, hlk, -⟩ := C
  have hZ : Z.Warmed39 (s.setVm vm0).vm := J.2.2.1
  have hown : (s.setVm vm0).vm.findClass y.cls = some m.cls := J.2.2.2.1
  obtain ⟨s₂, o, hs, r⟩ := k vm0 k0 T _ X N eT I J
  exact ⟨s₂, o, XS.isub X.here hx rfl (hb hby hd) rfl hs, r⟩
theorem wn1' (C : Cx Z a0 y by0 ml rt κ) (pc' : Nat) {x z : Int32} (v : Int32) (hd : decode by0 pc = .ok (.iand, 1)) (hpc : pc + 1 = pc') (hv : x &&& z = v) (k : GoW l R Z EL y.cls ws h0 Q κ S h pc' Ls (.int v :: st) ce sl) : GoW l R Z EL y.cls ws h0 Q κ S h pc Ls (.int z :: .int x :: st) ce sl := by
  subst hpc
  subst hv
  obtain ⟨p, e, s, m, args, below, meth, c⟩ := κ
  intro vm0 k0 T locs X N eT I J
  obtain ⟨hx, hby, hml, -, hnm, hret, hlk, -⟩ := C
  have hZ : Z.Warmed39 (s.setVm vm0).vm := J.2.2.1
  have hown : (s.setVm vm0).vm.findClass y.cls = some m.cls := J.2.2.2.1
  obtain ⟨s₂, o, hs, r⟩ := k vm0 k0 T _ X N eT I J
  exact ⟨s₂, o, XS.iand X.here hx rfl (hb hby hd) rfl hs, r⟩
theorem wd2' (C : Cx Z a0 y by0 ml rt κ) (pc' : Nat) {x z : Int32} (v : Int32) (hd : decode by0 pc = .ok (.iushr, 1)) (hpc : pc + 1 = pc') (hv : XT.ushr x z = v) (k : GoW l R Z EL y.cls ws h0 Q κ S h pc' Ls (.int v :: st) ce sl) : GoW l R Z EL y.cls ws h0 Q κ S h pc Ls (.int z :: .int x :: st) ce sl := by
  subst hpc
  subst hv
  obtain ⟨p, e, s, m, args, below, meth, c⟩ := κ
  intro vm0 k0 T locs X N eT I J
  obtain ⟨hx, hby, hml, -, hnm, hret, hlk, -⟩ := C
  have hZ : Z.Warmed39 (s.setVm vm0).vm := J.2.2.1
  have hown : (s.setVm vm0).vm.findClass y.cls = some m.cls := J.2.2.2.1
  obtain ⟨s₂, o, hs, r⟩ := k vm0 k0 T _ X N eT I J
  exact ⟨s₂, o, XT.iushr X.here hx rfl (hb hby hd) rfl hs, r⟩
theorem wt1' (C : Cx Z a0 y by0 ml rt κ) (pc' : Nat) {x : Int32} (v : Int32) (hd : decode by0 pc = .ok (.i2c, 1)) (hpc : pc + 1 = pc') (hv : x.toUInt32.toUInt16.toUInt32.toInt32 = v) (k : GoW l R Z EL y.cls ws h0 Q κ S h pc' Ls (.int v :: st) ce sl) : GoW l R Z EL y.cls ws h0 Q κ S h pc Ls (.int x :: st) ce sl := by
  subst hpc
  subst hv
  obtain ⟨p, e, s, m, args, below, meth, c⟩ := κ
  intro vm0 k0 T locs X N eT I J
  obtain ⟨hx, hby, hml, -, hnm, hret, hlk, -⟩ := C
  have hZ : Z.Warmed39 (s.setVm vm0).vm := J.2.2.1
  have hown : (s.setVm vm0).vm.findClass y.cls = some m.cls := J.2.2.2.1
  obtain ⟨s₂, o, hs, r⟩ := k vm0 k0 T _ X N eT I J
  exact ⟨s₂, o, XT.i2c X.here hx rfl (hb hby hd) rfl hs, r⟩
theorem wa2' (C : Cx Z a0 y by0 ml rt κ) (pc' : Nat) {x : Value} (hd : decode by0 pc = .ok (.dup, 1)) (hpc : pc + 1 = pc') (hc : x.category = 1) (k : GoW l R Z EL y.cls ws h0 Q κ S h pc' Ls (x :: x :: st) ce sl) : GoW l R Z EL y.cls ws h0 Q κ S h pc Ls (x :: st) ce sl := by
  subst hpc
  obtain ⟨p, e, s, m, args, below, meth, c⟩ := κ
  intro vm0 k0 T locs X N eT I J
  obtain ⟨hx, hby, hml, -, hnm, hret, hlk, -⟩ := C
  have hZ : Z.Warmed39 (s.setVm vm0).vm := J.2.2.1
  have hown : (s.setVm vm0).vm.findClass y.cls = some m.cls := J.2.2.2.1
  obtain ⟨s₂, o, hs, r⟩ := k vm0 k0 T _ X N eT I J
  exact ⟨s₂, o, XS.dup X.here hx rfl (hb hby hd) rfl hc hs, r⟩
theorem wg3' (C : Cx Z a0 y by0 ml rt κ) (pc' : Nat) {j : Fin 4} {x : Int32} {Ls' : Array Slot} (hd : decode by0 pc = .ok (.istore_n j, 1)) (hpc : pc + 1 = pc') (hl : storeLocals Ls j.val (.int x) = some Ls') (k : GoW l R Z EL y.cls ws h0 Q κ S h pc' Ls' st ce sl) : GoW l R Z EL y.cls ws h0 Q κ S h pc Ls (.int x :: st) ce sl := by
  subst hpc
  obtain ⟨p, e, s, m, args, below, meth, c⟩ := κ
  intro vm0 k0 T locs X N eT I J
  obtain ⟨hx, hby, hml, -, hnm, hret, hlk, -⟩ := C
  have hZ : Z.Warmed39 (s.setVm vm0).vm := J.2.2.1
  have hown : (s.setVm vm0).vm.findClass y.cls = some m.cls := J.2.2.2.1
  obtain ⟨s₂, o, hs, r⟩ := k vm0 k0 T _ X N eT I J
  exact ⟨s₂, o, XS.istoreN X.here hx rfl (hb hby hd) rfl hl hs, r⟩
theorem wi1' (C : Cx Z a0 y by0 ml rt κ) (pc' : Nat) {j : Nat} {x : Int32} {Ls' : Array Slot} (hd : decode by0 pc = .ok (.istore j, 2)) (hpc : pc + 2 = pc') (hl : storeLocals Ls j (.int x) = some Ls') (k : GoW l R Z EL y.cls ws h0 Q κ S h pc' Ls' st ce sl) : GoW l R Z EL y.cls ws h0 Q κ S h pc Ls (.int x :: st) ce sl := by
  subst hpc
  obtain ⟨p, e, s, m, args, below, meth, c⟩ := κ
  intro vm0 k0 T locs X N eT I J
  obtain ⟨hx, hby, hml, -, hnm, hret, hlk, -⟩ := C
  have hZ : Z.Warmed39 (s.setVm vm0).vm := J.2.2.1
  have hown : (s.setVm vm0).vm.findClass y.cls = some m.cls := J.2.2.2.1
  obtain ⟨s₂, o, hs, r⟩ := k vm0 k0 T _ X N eT I J
  exact ⟨s₂, o, XS.istore X.here hx rfl (hb hby hd) rfl hl hs, r⟩
theorem we2' (C : Cx Z a0 y by0 ml rt κ) (pc' : Nat) {j : Nat} {x : Value} {Ls' : Array Slot} (hd : decode by0 pc = .ok (.astore j, 2)) (hpc : pc + 2 = pc') (hv : x.isRef = true) (hl : storeLocals Ls j x = some Ls') (k : GoW l R Z EL y.cls ws h0 Q κ S h pc' Ls' st ce sl) : GoW l R Z EL y.cls ws h0 Q κ S h pc Ls (x :: st) ce sl := by
  subst hpc
  obtain ⟨p, e, s, m, args, below, meth, c⟩ := κ
  intro vm0 k0 T locs X N eT I J
  obtain ⟨hx, hby, hml, -, hnm, hret, hlk, -⟩ := C
  have hZ : Z.Warmed39 (s.setVm vm0).vm := J.2.2.1
  have hown : (s.setVm vm0).vm.findClass y.cls = some m.cls := J.2.2.2.1
  obtain ⟨s₂, o, hs, r⟩ := k vm0 k0 T _ X N eT I J
  exact ⟨s₂, o, XS.astore X.here hx rfl (hb hby hd) rfl hv hl hs, r⟩
theorem ws1' (C : Cx Z a0 y by0 ml rt κ) (pc' : Nat) {o : Int} {cd : ClassFile.Cond} {x : Int32} (hd : decode by0 pc = .ok (.ifCond cd o, 3)) (hpc : pc + 3 = pc') (hc : if_icmp.holds cd x 0 = false) (k : GoW l R Z EL y.cls ws h0 Q κ S h pc' Ls st ce sl) : GoW l R Z EL y.cls ws h0 Q κ S h pc Ls (.int x :: st) ce sl := by
  subst hpc
  obtain ⟨p, e, s, m, args, below, meth, c⟩ := κ
  intro vm0 k0 T locs X N eT I J
  obtain ⟨hx, hby, hml, -, hnm, hret, hlk, -⟩ := C
  have hZ : Z.Warmed39 (s.setVm vm0).vm := J.2.2.1
  have hown : (s.setVm vm0).vm.findClass y.cls = some m.cls := J.2.2.2.1
  obtain ⟨s₂, o, hs, r⟩ := k vm0 k0 T _ X N eT I J
  exact ⟨s₂, o, XS.ifNo X.here hx rfl (hb hby hd) rfl ((if0 _ _).trans hc) hs, r⟩
theorem wf3' (C : Cx Z a0 y by0 ml rt κ) (pc' : Nat) {o : Int} {cd : ClassFile.Cond} {x z : Int32} (hd : decode by0 pc = .ok (.if_icmp cd o, 3)) (hpc : pc + 3 = pc') (hc : if_icmp.holds cd x z = false) (k : GoW l R Z EL y.cls ws h0 Q κ S h pc' Ls st ce sl) : GoW l R Z EL y.cls ws h0 Q κ S h pc Ls (.int z :: .int x :: st) ce sl := by
  subst hpc
  obtain ⟨p, e, s, m, args, below, meth, c⟩ := κ
  intro vm0 k0 T locs X N eT I J
  obtain ⟨hx, hby, hml, -, hnm, hret, hlk, -⟩ := C
  have hZ : Z.Warmed39 (s.setVm vm0).vm := J.2.2.1
  have hown : (s.setVm vm0).vm.findClass y.cls = some m.cls := J.2.2.2.1
  obtain ⟨s₂, o, hs, r⟩ := k vm0 k0 T _ X N eT I J
  exact ⟨s₂, o, XS.icmpNo X.here hx rfl (hb hby hd) rfl hc hs, r⟩
theorem wh3' (C : Cx Z a0 y by0 ml rt κ) (pc' : Nat) {a : Addr} {kc : ClassId} {ty : FieldType} {n : Int32} {vs : List Value} {d : Value} (hd : decode by0 pc = .ok (.arraylength, 1)) (hpc : pc + 1 = pc') (F : Arv Z h a kc ty n vs d) (k : GoW l R Z EL y.cls ws h0 Q κ S h pc' Ls (.int n :: st) ce sl) : GoW l R Z EL y.cls ws h0 Q κ S h pc Ls (.ref a :: st) ce sl := by
  subst hpc
  obtain ⟨p, e, s, m, args, below, meth, c⟩ := κ
  intro vm0 k0 T locs X N eT I J
  obtain ⟨hx, hby, hml, -, hnm, hret, hlk, -⟩ := C
  have hZ : Z.Warmed39 (s.setVm vm0).vm := J.2.2.1
  have hown : (s.setVm vm0).vm.findClass y.cls = some m.cls := J.2.2.2.1
  obtain ⟨s₂, o, hs, r⟩ := k vm0 k0 T _ X N eT I J
  obtain ⟨cl, A, q1, S1, q3, H, G⟩ := F
  rw [← len_of S1 q3] at hs
  exact ⟨s₂, o, X.arraylength hx (by rw [eT]; exact A.1) (State.isArrayOf_alike hZ.alike A.2.1) (g := mkF m pc Ls (.ref a :: st)) rfl rfl (hb hby hd) _ hs, r⟩
theorem wy2' (C : Cx Z a0 y by0 ml rt κ) {o : Int} {pc' : Nat} (hd : decode by0 pc = .ok (.goto o, 3))  (ho : 0 ≤ (pc : Int) + o) (hp : ((pc : Int) + o).toNat = pc') (k : GoW l R Z EL y.cls ws h0 Q κ S h pc' Ls st ce sl) : GoW l R Z EL y.cls ws h0 Q κ S h pc Ls st ce sl := by
  obtain ⟨p, e, s, m, args, below, meth, c⟩ := κ
  intro vm0 k0 T locs X N eT I J
  obtain ⟨hx, hby, hml, -, hnm, hret, hlk, -⟩ := C
  have hZ : Z.Warmed39 (s.setVm vm0).vm := J.2.2.1
  have hown : (s.setVm vm0).vm.findClass y.cls = some m.cls := J.2.2.2.1
  obtain ⟨s₂, o, hs, r⟩ := k vm0 k0 T _ X N eT I J
  exact ⟨s₂, o, XS.goto X.here hx rfl (pc0 := pc) rfl (hb hby hd) ho hp hs, r⟩
theorem ww2' (C : Cx Z a0 y by0 ml rt κ) {o : Int} {cd : ClassFile.Cond} {x : Int32} {pc' : Nat} (hd : decode by0 pc = .ok (.ifCond cd o, 3)) (hc : if_icmp.holds cd x 0 = true) (ho : 0 ≤ (pc : Int) + o) (hp : ((pc : Int) + o).toNat = pc') (k : GoW l R Z EL y.cls ws h0 Q κ S h pc' Ls st ce sl) : GoW l R Z EL y.cls ws h0 Q κ S h pc Ls (.int x :: st) ce sl := by
  obtain ⟨p, e, s, m, args, below, meth, c⟩ := κ
  intro vm0 k0 T locs X N eT I J
  obtain ⟨hx, hby, hml, -, hnm, hret, hlk, -⟩ := C
  have hZ : Z.Warmed39 (s.setVm vm0).vm := J.2.2.1
  have hown : (s.setVm vm0).vm.findClass y.cls = some m.cls := J.2.2.2.1
  obtain ⟨s₂, o, hs, r⟩ := k vm0 k0 T _ X N eT I J
  exact ⟨s₂, o, XS.ifYes X.here hx rfl (pc0 := pc) rfl (hb hby hd) rfl ((if0 _ _).trans hc) ho hp hs, r⟩
theorem we3' (C : Cx Z a0 y by0 ml rt κ) {o : Int} {cd : ClassFile.Cond} {x z : Int32} {pc' : Nat} (hd : decode by0 pc = .ok (.if_icmp cd o, 3)) (hc : if_icmp.holds cd x z = true) (ho : 0 ≤ (pc : Int) + o) (hp : ((pc : Int) + o).toNat = pc') (k : GoW l R Z EL y.cls ws h0 Q κ S h pc' Ls st ce sl) : GoW l R Z EL y.cls ws h0 Q κ S h pc Ls (.int z :: .int x :: st) ce sl := by
  obtain ⟨p, e, s, m, args, below, meth, c⟩ := κ
  intro vm0 k0 T locs X N eT I J
  obtain ⟨hx, hby, hml, -, hnm, hret, hlk, -⟩ := C
  have hZ : Z.Warmed39 (s.setVm vm0).vm := J.2.2.1
  have hown : (s.setVm vm0).vm.findClass y.cls = some m.cls := J.2.2.2.1
  obtain ⟨s₂, o, hs, r⟩ := k vm0 k0 T _ X N eT I J
  exact ⟨s₂, o, XS.icmpYes X.here hx rfl (pc0 := pc) rfl (hb hby hd) rfl hc ho hp hs, r⟩
theorem wp2' (C : Cx Z a0 y by0 ml rt κ) (pc' : Nat) {ix : Nat} {R0 O n d : String} {a : Addr} {v : Value} (hd : decode by0 pc = .ok (.getfield ix, 3)) (hpc : pc + 3 = pc') (w : (Cond.fieldLink y.cls ix R0 n d).before a0 Z = true) (via : Via Z R0 O n d) (F : Fld Z h a O n d v) (k : GoW l R Z EL y.cls ws h0 Q κ S h pc' Ls (v :: st) ce sl) : GoW l R Z EL y.cls ws h0 Q κ S h pc Ls (.ref a :: st) ce sl := by
  subst hpc
  obtain ⟨p, e, s, m, args, below, meth, c⟩ := κ
  intro vm0 k0 T locs X N eT I J
  obtain ⟨hx, hby, hml, -, hnm, hret, hlk, -⟩ := C
  have hZ : Z.Warmed39 (s.setVm vm0).vm := J.2.2.1
  have hown : (s.setVm vm0).vm.findClass y.cls = some m.cls := J.2.2.2.1
  obtain ⟨T', X', e', st'⟩ := getF X hx hZ hown (host := "") (Or.inl w) via eT F (g := mkF m pc Ls (.ref a :: st)) rfl rfl (hb hby hd)
  obtain ⟨s₂, o, hs, r⟩ := k vm0 k0 T' _ X' N e' I J
  exact ⟨s₂, o, st' _ hs, r⟩
theorem wj3' (C : Cx Z a0 y by0 ml rt κ) (pc' : Nat) {ix : Nat} {a : Addr} {W : Nat} (hd : decode by0 pc = .ok (.invokespecial ix, 3)) (hpc : pc + 3 = pc') (w1 : (Cond.methodLink y.cls ix Lib.objectInit).before a0 Z = true) (w2 : (Cond.instanceMethod Lib.objectInit).before a0 Z = true) (w3 : (Cond.code Lib.objectInit ⟨#[0xb1]⟩ 1 none).before a0 Z = true) (hls : Ls.size = ml) (hf : 1 ≤ R.frames) (hW : (st.map fun v => v.category).sum ≤ W) (hlo : W + 12 ≤ R.locals) (k : GoW l R Z EL y.cls ws h0 Q κ S h pc' Ls st ce sl) : GoW l R Z EL y.cls ws h0 Q κ S h pc Ls (.ref a :: st) ce sl := by
  subst hpc
  obtain ⟨p, e, s, m, args, below, meth, c⟩ := κ
  intro vm0 k0 T locs X N eT I J
  obtain ⟨hx, hby, hml, -, hnm, hret, hlk, -⟩ := C
  have hZ : Z.Warmed39 (s.setVm vm0).vm := J.2.2.1
  have hown : (s.setVm vm0).vm.findClass y.cls = some m.cls := J.2.2.2.1
  obtain ⟨T', X', e', st'⟩ := initO X hx hZ hown w1 w2 w3 eT (g := mkF m pc Ls (.ref a :: st)) rfl (hls.trans hml.symm) rfl (hb hby hd) hf (W := W) (by show 2 * 0 + _ ≤ _; rw [Nat.mul_zero, Nat.zero_add]; exact hW) hlo
  obtain ⟨s₂, o, hs, r⟩ := k vm0 k0 T' _ X' N e' I J
  exact ⟨s₂, o, st' _ hs, r⟩
theorem wd3' (C : Cx Z a0 y by0 ml rt κ) (pc' : Nat) {ix kk : Nat} {R0 O n d Cn : String} {ty : FieldType} {a : Addr} {v old : Value} (hd : decode by0 pc = .ok (.putfield ix, 3)) (hpc : pc + 3 = pc') (w : (Cond.fieldLink y.cls ix R0 n d).before a0 Z = true) (via : Via Z R0 O n d) (F : Fld Z h a O n d old) (E : Exa Z h a Cn) (L : (Cond.lays Cn O n d).before a0 Z = true ∨ ((Cond.laysFinal Cn O n d).before a0 Z = true ∧ y.cls = O ∧ y.name = "<init>")) (wi : (Cond.instantiable Cn kk).before a0 Z = true) (hty : parseFieldDescriptor d = some ty) (hn : narrow ty v = v) (hf : fits ty v = true) (ha : a ∈ S) (k : ∀ h', Wr h h' a (RoadKit.slotOf Z O n d) v → GoW l R Z EL y.cls ws h0 Q κ S h' pc' Ls st ce sl) : GoW l R Z EL y.cls ws h0 Q κ S h pc Ls (v :: .ref a :: st) ce sl := by
  subst hpc
  obtain ⟨p, e, s, m, args, below, meth, c⟩ := κ
  intro vm0 k0 T locs X N eT I J
  obtain ⟨hx, hby, hml, -, hnm, hret, hlk, -⟩ := C
  have hZ : Z.Warmed39 (s.setVm vm0).vm := J.2.2.1
  have hown : (s.setVm vm0).vm.findClass y.cls = some m.cls := J.2.2.2.1
  obtain ⟨T', h', X', e', W, st'⟩ := putF X hx hZ hown (host := "") (Or.inl w) via eT F E (L.imp id fun q => ⟨q.1, q.2.1, hnm.trans q.2.2⟩) wi hty hn hf (g := mkF m pc Ls (v :: .ref a :: st)) rfl rfl (hb hby hd)
  obtain ⟨s₂, o, hs, r⟩ := (k h' W) vm0 k0 T' _ X' (fr_snoc N (I.2.2 _ ha).2.1) e' (I.wr W ha) (J.wr W ha)
  exact ⟨s₂, o, st' _ hs, r⟩
theorem wi3' (C : Cx Z a0 y by0 ml rt κ) (pc' : Nat) {ix kk : Nat} {R0 O n d Cn : String} {ty : FieldType} {a : Addr} {v v' old : Value} (hd : decode by0 pc = .ok (.putfield ix, 3)) (hpc : pc + 3 = pc') (w : (Cond.fieldLink y.cls ix R0 n d).before a0 Z = true) (via : Via Z R0 O n d) (F : Fld Z h a O n d old) (E : Exa Z h a Cn) (L : (Cond.lays Cn O n d).before a0 Z = true ∨ ((Cond.laysFinal Cn O n d).before a0 Z = true ∧ y.cls = O ∧ y.name = "<init>")) (wi : (Cond.instantiable Cn kk).before a0 Z = true) (hty : parseFieldDescriptor d = some ty) (hn : narrow ty v = v') (hf : fits ty v' = true) (ha : a ∈ S) (k : ∀ h', Wr h h' a (RoadKit.slotOf Z O n d) v' → GoW l R Z EL y.cls ws h0 Q κ S h' pc' Ls st ce sl) : GoW l R Z EL y.cls ws h0 Q κ S h pc Ls (v :: .ref a :: st) ce sl := by
  subst hpc
  obtain ⟨p, e, s, m, args, below, meth, c⟩ := κ
  intro vm0 k0 T locs X N eT I J
  obtain ⟨hx, hby, hml, -, hnm, hret, hlk, -⟩ := C
  have hZ : Z.Warmed39 (s.setVm vm0).vm := J.2.2.1
  have hown : (s.setVm vm0).vm.findClass y.cls = some m.cls := J.2.2.2.1
  obtain ⟨T', h', X', e', W, st'⟩ := putFN X hx hZ hown w via eT F E (L.imp id fun q => ⟨q.1, q.2.1, hnm.trans q.2.2⟩) wi hty hn hf (g := mkF m pc Ls (v :: .ref a :: st)) rfl rfl (hb hby hd)
  obtain ⟨s₂, o, hs, r⟩ := (k h' W) vm0 k0 T' _ X' (fr_snoc N (I.2.2 _ ha).2.1) e' (I.wr W ha) (J.wr W ha)
  exact ⟨s₂, o, st' _ hs, r⟩
theorem wb2' (C : Cx Z a0 y by0 ml rt κ) (pc' ce' sl' : Nat) {ix n : Nat} {Cn : String} (hd : decode by0 pc = .ok (.new ix, 3)) (hce : ce + 1 = ce') (hsl' : sl + n = sl') (hpc : pc + 3 = pc') (w : (Cond.classLink y.cls ix Cn).before a0 Z = true) (wi : (Cond.instantiable Cn n).before a0 Z = true) (wz : (Cond.initialized Cn).before a0 Z = true) (hc : ce + 1 ≤ R.cells) (hsl : sl + n ≤ R.slots) (k : ∀ (a : Addr) h', a = h.size → Ext h h' → Exa Z h' a Cn → (∀ {O nm d : String} {ty : FieldType}, Laid Z a0 Cn O nm d → parseFieldDescriptor d = some ty → Fld Z h' a O nm d (defaultValue ty)) → GoW l R Z EL y.cls ws h0 Q κ (a :: S) h' pc' Ls (.ref a :: st) ce' sl') : GoW l R Z EL y.cls ws h0 Q κ S h pc Ls st ce sl := by
  subst hpc hce hsl'
  obtain ⟨p, e, s, m, args, below, meth, c⟩ := κ
  intro vm0 k0 T locs X N eT I J
  obtain ⟨hx, hby, hml, -, hnm, hret, hlk, -⟩ := C
  have hZ : Z.Warmed39 (s.setVm vm0).vm := J.2.2.1
  have hown : (s.setVm vm0).vm.findClass y.cls = some m.cls := J.2.2.2.1
  obtain ⟨T', h', X', e', E, A, D, -, st'⟩ := newO X hx hZ hown w wi wz eT (g := mkF m pc Ls st) rfl (hb hby hd) hc hsl
  obtain ⟨s₂, o, hs, r⟩ := (k _ h' rfl E A @D) vm0 k0 T' _ X' N e' (I.new E A.lt) (J.new E)
  exact ⟨s₂, o, st' _ hs, r⟩
theorem wz2' (C : Cx Z a0 y by0 ml rt κ) (pc' ce' sl' : Nat) {aty : ArrayType} {ty : FieldType} {n : Int32} {cap : Nat} (hd : decode by0 pc = .ok (.newarray aty, 2)) (hce : ce + 1 = ce') (hsl' : sl + cap = sl') (hpc : pc + 2 = pc') (hty : newarray.typeOf aty = ty) (w : (Cond.arrayClass ty).before a0 Z = true) (hn : ¬ n < 0) (hcap : n.toNatClampNeg ≤ cap) (hbig : cap * 8 ≤ 536870912) (hc : ce + 1 ≤ R.cells) (hsl : sl + cap ≤ R.slots) (k : ∀ (a : Addr) h' kc, a = h.size → Ext h h' → Arv Z h' a kc ty n (List.replicate n.toNatClampNeg (defaultValue ty)) (defaultValue ty) → GoW l R Z EL y.cls ws h0 Q κ (a :: S) h' pc' Ls (.ref a :: st) ce' sl') : GoW l R Z EL y.cls ws h0 Q κ S h pc Ls (.int n :: st) ce sl := by
  subst hpc hce hsl'
  subst hty
  obtain ⟨p, e, s, m, args, below, meth, c⟩ := κ
  intro vm0 k0 T locs X N eT I J
  obtain ⟨hx, hby, hml, -, hnm, hret, hlk, -⟩ := C
  have hZ : Z.Warmed39 (s.setVm vm0).vm := J.2.2.1
  have hown : (s.setVm vm0).vm.findClass y.cls = some m.cls := J.2.2.2.1
  obtain ⟨T', h', kc, X', e', E, A, st'⟩ := newP X hx hZ w eT (g := mkF m pc Ls (.int n :: st)) rfl (hb hby hd) rfl hn hcap hbig hc hsl
  have V := (Arv.new A hn).pad (vs' := List.replicate n.toNatClampNeg (defaultValue (newarray.typeOf aty))) (pad_rep [] (defaultValue (newarray.typeOf aty)) n.toNatClampNeg)
  obtain ⟨s₂, o, hs, r⟩ := (k _ h' kc rfl E V) vm0 k0 T' _ X' N e' (I.new E A.lt) (J.new E)
  exact ⟨s₂, o, st' _ hs, r⟩
theorem wu2' (C : Cx Z a0 y by0 ml rt κ) (pc' : Nat) {a : Addr} {kc : ClassId} {n j x : Int32} {vs : List Value} {d : Value} (i : Nat) {v : Int32} (hv : nar .char x = v) (hd : decode by0 pc = .ok (.castore, 1)) (hpc : pc + 1 = pc') (F : Arv Z h a kc .char n vs d) (hj : ¬ j < 0 ∧ j < n) (hi : j.toNatClampNeg = i) (hl : i < vs.length) (ha : a ∈ S) (k : ∀ h', Wr h h' a j.toNatClampNeg (.int v) → Arv Z h' a kc .char n (vs.set i (.int v)) d → GoW l R Z EL y.cls ws h0 Q κ S h' pc' Ls st ce sl) : GoW l R Z EL y.cls ws h0 Q κ S h pc Ls (.int x :: .int j :: .ref a :: st) ce sl := by
  subst hv hpc
  obtain ⟨p, e, s, m, args, below, meth, c⟩ := κ
  intro vm0 k0 T locs X N eT I J
  obtain ⟨hx, hby, hml, -, hnm, hret, hlk, -⟩ := C
  have hZ : Z.Warmed39 (s.setVm vm0).vm := J.2.2.1
  have hown : (s.setVm vm0).vm.findClass y.cls = some m.cls := J.2.2.2.1
  obtain ⟨cl, A, q1, S1, q3, H, G⟩ := F
  obtain ⟨T', h', X', e', W, st'⟩ := stC X hx hZ eT A (inb_of S1 hj) (g := mkF m pc Ls (.int x :: .int j :: .ref a :: st)) rfl rfl (hb hby hd)
  have V := Arv.set A q1 S1 q3 H G (fits_nar_char _) W i hi hl
  obtain ⟨s₂, o, hs, r⟩ := (k h' W V) vm0 k0 T' _ X' (fr_snoc N (I.2.2 _ ha).2.1) e' (I.wr W ha) (J.wr W ha)
  exact ⟨s₂, o, st' _ hs, r⟩
theorem wo1' (C : Cx Z a0 y by0 ml rt κ) (hEL : EW Z a0 EL) (hd : decode by0 pc = .ok (.return_, 1)) (hrt : rt = none) (hc : ce ≤ R.cells) (hsl : sl ≤ R.slots) (hq : Q none h) : GoW l R Z EL y.cls ws h0 Q κ S h pc Ls [] ce sl := by
  obtain ⟨p, e, s, m, args, below, meth, c⟩ := κ
  intro vm0 k0 T locs X N eT I J
  obtain ⟨hx, hby, hml, -, hnm, hret, hlk, -⟩ := C
  have hZ : Z.Warmed39 (s.setVm vm0).vm := J.2.2.1
  have hown : (s.setVm vm0).vm.findClass y.cls = some m.cls := J.2.2.2.1
  obtain ⟨fs, hr, hrun, hended, hEnd⟩ := X.leaveW J.1 (by rw [eT]; exact J.2.1) (v := none) (fun _ => rfl) hlk
  have hq' : Keep h0 (T.setFrames fs).heap ws ∧ Q (none) (T.setFrames fs).heap := by
    show Keep h0 T.heap ws ∧ Q _ T.heap
    rw [eT]; exact ⟨I.2.1, hq⟩
  have hch : CHr Z EL s.vm h0 (T.setFrames fs).vm (T.setFrames fs).heap := by
    show CHr Z EL s.vm h0 T.vm T.heap
    rw [eT]; exact J.2.2.2.2.1.trans (CHv.at X J.2.2.1 hEL J.2.2.2.2.1.1)
  exact ⟨_, _, X.returnOut hx (hret.trans hrt) (hb hby hd) hr, hrun, hended, _, _, rfl, ⟨hq'.1, hq'.2, N⟩, hch, hEnd.1, hEnd.2.1, hEnd.2.2.1, hEnd.2.2.2.mono hc hsl⟩
theorem ws2' (C : Cx Z a0 y by0 ml rt κ) (hEL : EW Z a0 EL) {t : FieldType} {x z : Int32} (hd : decode by0 pc = .ok (.ireturn, 1)) (hrt : rt = some t) (ht : t = .boolean ∨ t = .byte ∨ t = .char ∨ t = .short) (hz : nar t x = z) (hc : ce ≤ R.cells) (hsl : sl ≤ R.slots) (hq : Q (some (.int z)) h) : GoW l R Z EL y.cls ws h0 Q κ S h pc Ls (.int x :: st) ce sl := by
  subst hz
  obtain ⟨p, e, s, m, args, below, meth, c⟩ := κ
  intro vm0 k0 T locs X N eT I J
  obtain ⟨hx, hby, hml, -, hnm, hret, hlk, -⟩ := C
  have hZ : Z.Warmed39 (s.setVm vm0).vm := J.2.2.1
  have hown : (s.setVm vm0).vm.findClass y.cls = some m.cls := J.2.2.2.1
  obtain ⟨fs, hr, hrun, hended, hEnd⟩ := X.leaveW J.1 (by rw [eT]; exact J.2.1) (v := some (.int (nar t x))) (fun q => by rw [hret, hrt] at q; cases q) hlk
  have hq' : Keep h0 (T.setFrames fs).heap ws ∧ Q (some (.int (nar t x))) (T.setFrames fs).heap := by
    show Keep h0 T.heap ws ∧ Q _ T.heap
    rw [eT]; exact ⟨I.2.1, hq⟩
  have hch : CHr Z EL s.vm h0 (T.setFrames fs).vm (T.setFrames fs).heap := by
    show CHr Z EL s.vm h0 T.vm T.heap
    rw [eT]; exact J.2.2.2.2.1.trans (CHv.at X J.2.2.1 hEL J.2.2.2.2.1.1)
  exact ⟨_, _, retN X hx (hret.trans hrt) ht (hb hby hd) hr, hrun, hended, _, _, rfl, ⟨hq'.1, hq'.2, N⟩, hch, hEnd.1, hEnd.2.1, hEnd.2.2.1, hEnd.2.2.2.mono hc hsl⟩
theorem wg2' (C : Cx Z a0 y by0 ml rt κ) (hEL : EW Z a0 EL) {v : Value} {t : FieldType} (hd : decode by0 pc = .ok (.areturn, 1)) (hrt : rt = some t) (ht : t.isReference = true) (hv : v.isRef = true) (hc : ce ≤ R.cells) (hsl : sl ≤ R.slots) (hq : Q (some v) h) : GoW l R Z EL y.cls ws h0 Q κ S h pc Ls (v :: st) ce sl := by
  obtain ⟨p, e, s, m, args, below, meth, c⟩ := κ
  intro vm0 k0 T locs X N eT I J
  obtain ⟨hx, hby, hml, -, hnm, hret, hlk, -⟩ := C
  have hZ : Z.Warmed39 (s.setVm vm0).vm := J.2.2.1
  have hown : (s.setVm vm0).vm.findClass y.cls = some m.cls := J.2.2.2.1
  obtain ⟨fs, hr, hrun, hended, hEnd⟩ := X.leaveW J.1 (by rw [eT]; exact J.2.1) (v := some v) (fun q => by rw [hret, hrt] at q; cases q) hlk
  have hq' : Keep h0 (T.setFrames fs).heap ws ∧ Q (some v) (T.setFrames fs).heap := by
    show Keep h0 T.heap ws ∧ Q _ T.heap
    rw [eT]; exact ⟨I.2.1, hq⟩
  have hch : CHr Z EL s.vm h0 (T.setFrames fs).vm (T.setFrames fs).heap := by
    show CHr Z EL s.vm h0 T.vm T.heap
    rw [eT]; exact J.2.2.2.2.1.trans (CHv.at X J.2.2.1 hEL J.2.2.2.2.1.1)
  have hn : narrow t v = v := by cases t <;> first | (cases ht; done) | (cases v <;> first | rfl | cases hv)
  exact ⟨_, _, retOut X hx (hret.trans hrt) hn (Or.inr (Or.inr (Or.inr (Or.inr ⟨rfl, ht, hv⟩)))) (hb hby hd) hr, hrun, hended, _, _, rfl, ⟨hq'.1, hq'.2, N⟩, hch, hEnd.1, hEnd.2.1, hEnd.2.2.1, hEnd.2.2.2.mono hc hsl⟩
theorem wz1' (C : Cx Z a0 y by0 ml rt κ) {z : MethodName} {fr lo cc ss : Nat} {ws' : List Addr} {Qz : Option Value → Heap → Prop} {ps : List FieldType} {rr : Option FieldType} {argsL : List Value} {ix W : Nat} (hd : decode by0 pc = .ok (.invokestatic ix, 3)) {bz : ByteArray} {mlz : Nat} {rtz : Option FieldType} (w1 : (Cond.methodLink y.cls ix z).before a0 Z = true) (w2 : (Cond.static z).before a0 Z = true) (wz : (Cond.initialized z.cls).before a0 Z = true) (wc : (Cond.code z bz mlz rtz).before a0 Z = true) (hy : z.cls ≠ "java/lang/invoke/MethodHandle" ∧ z.cls ≠ "java/lang/invoke/VarHandle") (hps : parseMethodDescriptor z.desc = some ⟨ps, rr⟩) (hM : Py l Z z fr lo cc ss argsL.toArray h ws' Qz) (hlen : argsL.length = ps.length) (hW : (st.map fun v => v.category).sum ≤ W) (hls : Ls.size = ml) (hnn : fr ≤ R.frames ∧ W + lo ≤ R.locals ∧ ce + cc ≤ R.cells ∧ sl + ss ≤ R.slots) (hws : ∀ x ∈ ws', x ∈ S) (k : ∀ v h', Keep h h' ws' → Qz v h' → ∃ bs, (∀ b ∈ bs, h.size ≤ b ∧ b < h'.size) ∧ GoW l R Z EL y.cls ws h0 Q κ (bs ++ S) h' (pc + 3) Ls (v.toList ++ st) (ce + cc) (sl + ss)) : GoW l R Z EL y.cls ws h0 Q κ S h pc Ls (argsL.reverse ++ st) ce sl := by
  obtain ⟨p, e, s, m, args, below, meth, c⟩ := κ
  intro vm0 k0 T locs X N eT I J
  obtain ⟨hx, hby, hml, -, hnm, hret, hlk, -⟩ := C
  have hZ : Z.Warmed39 (s.setVm vm0).vm := J.2.2.1
  have hown : (s.setVm vm0).vm.findClass y.cls = some m.cls := J.2.2.2.1
  obtain ⟨hf, hlo, hc, hsl⟩ := hnn
  have hO := fun x hx => (⟨(I.2.2 x (hws x hx)).1, (I.2.2 x (hws x hx)).2.1⟩ : x < h.size ∧ Z.heap.size ≤ x)
  have hB := hM I.1 hO p e R below (s.setVm vm0) args 3 W hZ hf hlo
  obtain ⟨v, _, ⟨T', L', k', n'⟩, -, X', ⟨Lc, hQ, l', y', z'⟩, st'⟩ := Jvm.LawKit.callS X hx hown (mvT hZ w1) (mvT hZ w2) (mvT hZ wz) (mvT hZ wc) hy hB (g := mkF m pc Ls (argsL.reverse ++ st)) rfl (hls.trans hml.symm) (argsL := argsL) (rest := st) (lenOf hps hlen) rfl (by show 2 * 0 + _ ≤ _; rw [Nat.mul_zero, Nat.zero_add]; exact hW) (hb hby hd) (fun _ _ => ⟨rfl, eT, hc, hsl⟩)
  dsimp only [Pt.U, Pt.locs, Pt.cells, Pt.slots] at X' l' y' z' st' hQ
  subst l' y' z'
  obtain ⟨K, hQ, N'⟩ := hQ
  have NN := Fr.app N N'
  obtain ⟨bs, hbs, kk⟩ := k v T'.heap K hQ
  obtain ⟨s₂, o, hs, r⟩ := kk vm0 k0 T' _ X' NN rfl (I.add (I.keep K hws) hbs) (J.add K hws hbs)
  exact ⟨s₂, o, st' _ hs, r⟩
theorem wh2' (C : Cx Z a0 y by0 ml rt κ) {z : MethodName} {fr lo cc ss : Nat} {ws' : List Addr} {Qz : Option Value → Heap → Prop} {ps : List FieldType} {rr : Option FieldType} {argsL : List Value} {ix W : Nat} {a : Addr} (hd : decode by0 pc = .ok (.invokespecial ix, 3)) {bz : ByteArray} {mlz : Nat} (hin : z.name = "<init>") (w1 : (Cond.methodLink y.cls ix z).before a0 Z = true) (w2 : (Cond.instanceMethod z).before a0 Z = true) (wc : (Cond.code z bz mlz none).before a0 Z = true) (hy : z.cls ≠ "java/lang/invoke/MethodHandle" ∧ z.cls ≠ "java/lang/invoke/VarHandle") (hps : parseMethodDescriptor z.desc = some ⟨ps, rr⟩) (hM : Py l Z z fr lo cc ss (.ref a :: argsL).toArray h ws' Qz) (hlen : argsL.length = ps.length) (hW : (st.map fun v => v.category).sum ≤ W) (hls : Ls.size = ml) (hnn : fr ≤ R.frames ∧ W + lo ≤ R.locals ∧ ce + cc ≤ R.cells ∧ sl + ss ≤ R.slots) (hws : ∀ x ∈ ws', x ∈ S) (k : ∀ v h', Keep h h' ws' → Qz v h' → ∃ bs, (∀ b ∈ bs, h.size ≤ b ∧ b < h'.size) ∧ GoW l R Z EL y.cls ws h0 Q κ (bs ++ S) h' (pc + 3) Ls (v.toList ++ st) (ce + cc) (sl + ss)) : GoW l R Z EL y.cls ws h0 Q κ S h pc Ls (argsL.reverse ++ .ref a :: st) ce sl := by
  obtain ⟨p, e, s, m, args, below, meth, c⟩ := κ
  intro vm0 k0 T locs X N eT I J
  obtain ⟨hx, hby, hml, -, hnm, hret, hlk, -⟩ := C
  have hZ : Z.Warmed39 (s.setVm vm0).vm := J.2.2.1
  have hown : (s.setVm vm0).vm.findClass y.cls = some m.cls := J.2.2.2.1
  obtain ⟨hf, hlo, hc, hsl⟩ := hnn
  have hO := fun x hx => (⟨(I.2.2 x (hws x hx)).1, (I.2.2 x (hws x hx)).2.1⟩ : x < h.size ∧ Z.heap.size ≤ x)
  have hB := hM I.1 hO p e R below (s.setVm vm0) args 3 W hZ hf hlo
  obtain ⟨v, _, ⟨T', L', k', n'⟩, -, X', ⟨Lc, hQ, l', y', z'⟩, st'⟩ := X.specialBack hx hin hown (mvT hZ w1) (mvT hZ w2) (mvT hZ wc) hy hB (g := mkF m pc Ls (argsL.reverse ++ Value.ref a :: st)) rfl (hls.trans hml.symm) (Steps.refl _) (a := a) (argsL := argsL) (rest := st) (lenOf hps hlen) rfl (by show 2 * 0 + _ ≤ _; rw [Nat.mul_zero, Nat.zero_add]; exact hW) (hb hby hd) (fun _ _ => ⟨rfl, eT, hc, hsl⟩)
  dsimp only [Pt.U, Pt.locs, Pt.cells, Pt.slots] at X' l' y' z' st' hQ
  subst l' y' z'
  obtain ⟨K, hQ, N'⟩ := hQ
  have NN := Fr.app N N'
  obtain ⟨bs, hbs, kk⟩ := k v T'.heap K hQ
  obtain ⟨s₂, o, hs, r⟩ := kk vm0 k0 T' _ X' NN rfl (I.add (I.keep K hws) hbs) (J.add K hws hbs)
  exact ⟨s₂, o, st'.trans hs, r⟩
theorem ws' (C : Cx Z a0 y by0 ml rt κ) {z : MethodName} {fr lo cc ss : Nat} {ws' : List Addr} {Qz : Option Value → Heap → Prop} {ps : List FieldType} {rr : Option FieldType} {argsL : List Value} {ix W : Nat} {a : Addr} (hd : decode by0 pc = .ok (.invokevirtual ix, 3)) {y1 : MethodName} {Cn : String} (w1 : (Cond.methodLink y.cls ix y1).before a0 Z = true) (w2 : (Cond.declares y1).before a0 Z = true) (nf : ∀ (s : State), Z.Warmed39 s.vm → NotFace s y1) (w3 : (Cond.selects Cn y1 z).before a0 Z = true) (w4 : (Cond.instanceMethod z).before a0 Z = true) (EX : Exa Z h a Cn) (hy : y1.cls ≠ "java/lang/invoke/MethodHandle" ∧ y1.cls ≠ "java/lang/invoke/VarHandle") (hps : parseMethodDescriptor y1.desc = some ⟨ps, rr⟩) (hM : Py l Z z fr lo cc ss (.ref a :: argsL).toArray h ws' Qz) (hlen : argsL.length = ps.length) (hW : (st.map fun v => v.category).sum ≤ W) (hls : Ls.size = ml) (hnn : fr ≤ R.frames ∧ W + lo ≤ R.locals ∧ ce + cc ≤ R.cells ∧ sl + ss ≤ R.slots) (hws : ∀ x ∈ ws', x ∈ S) (k : ∀ v h', Keep h h' ws' → Qz v h' → ∃ bs, (∀ b ∈ bs, h.size ≤ b ∧ b < h'.size) ∧ GoW l R Z EL y.cls ws h0 Q κ (bs ++ S) h' (pc + 3) Ls (v.toList ++ st) (ce + cc) (sl + ss)) : GoW l R Z EL y.cls ws h0 Q κ S h pc Ls (argsL.reverse ++ .ref a :: st) ce sl := by
  obtain ⟨p, e, s, m, args, below, meth, c⟩ := κ
  intro vm0 k0 T locs X N eT I J
  obtain ⟨hx, hby, hml, -, hnm, hret, hlk, -⟩ := C
  have hZ : Z.Warmed39 (s.setVm vm0).vm := J.2.2.1
  have hown : (s.setVm vm0).vm.findClass y.cls = some m.cls := J.2.2.2.1
  obtain ⟨hf, hlo, hc, hsl⟩ := hnn
  have hO := fun x hx => (⟨(I.2.2 x (hws x hx)).1, (I.2.2 x (hws x hx)).2.1⟩ : x < h.size ∧ Z.heap.size ≤ x)
  have hB := hM I.1 hO p e R below (s.setVm vm0) args 3 W hZ hf hlo
  obtain ⟨v, _, ⟨T', L', k', n'⟩, -, X', ⟨Lc, hQ, l', y', z'⟩, st'⟩ := (let ⟨cq, kq, qa, qb, qc⟩ := isOf hZ eT EX; X.virtualBack hx hown (mvT hZ w1) (mvT hZ w2) (nf _ hZ) (mvT hZ w3) (mvT hZ w4) hy hB qa qc (g := mkF m pc Ls (argsL.reverse ++ Value.ref a :: st)) rfl (hls.trans hml.symm) (Steps.refl _) (argsL := argsL) (rest := st) (lenOf hps hlen) rfl (by show 2 * 0 + _ ≤ _; rw [Nat.mul_zero, Nat.zero_add]; exact hW) (hb hby hd) (fun _ _ => ⟨rfl, eT, hc, hsl⟩))
  dsimp only [Pt.U, Pt.locs, Pt.cells, Pt.slots] at X' l' y' z' st' hQ
  subst l' y' z'
  obtain ⟨K, hQ, N'⟩ := hQ
  have NN := Fr.app N N'
  obtain ⟨bs, hbs, kk⟩ := k v T'.heap K hQ
  obtain ⟨s₂, o, hs, r⟩ := kk vm0 k0 T' _ X' NN rfl (I.add (I.keep K hws) hbs) (J.add K hws hbs)
  exact ⟨s₂, o, st'.trans hs, r⟩
theorem wq2' (C : Cx Z a0 y by0 ml rt κ) (hEL : EW Z a0 EL) {z : MethodName} {fr lo cc ss : Nat} {ws' : List Addr} {Qz : Option Value → Heap → Prop} {ps : List FieldType} {rr : Option FieldType} {argsL : List Value} {ix W : Nat} (hd : decode by0 pc = .ok (.invokestatic ix, 3)) {bz : ByteArray} {mlz : Nat} {rtz : Option FieldType} (w1 : (Cond.methodLink y.cls ix z).before a0 Z = true) (w2 : (Cond.static z).before a0 Z = true) (wz : (Cond.initialized z.cls).before a0 Z = true) (wc : (Cond.code z bz mlz rtz).before a0 Z = true) (hy : z.cls ≠ "java/lang/invoke/MethodHandle" ∧ z.cls ≠ "java/lang/invoke/VarHandle") (hps : parseMethodDescriptor z.desc = some ⟨ps, rr⟩) (hM : PyW l Z EL a0 z fr lo cc ss argsL.toArray h ws' Qz) (hlen : argsL.length = ps.length) (hW : (st.map fun v => v.category).sum ≤ W) (hls : Ls.size = ml) (hnn : fr ≤ R.frames ∧ W + lo ≤ R.locals ∧ ce + cc ≤ R.cells ∧ sl + ss ≤ R.slots) (hws : ∀ x ∈ ws', x ∈ S) (k : ∀ v h', Keep h h' ws' → Qz v h' → GoW l R Z EL y.cls ws h0 Q κ S h' (pc + 3) Ls (v.toList ++ st) (ce + cc) (sl + ss)) : GoW l R Z EL y.cls ws h0 Q κ S h pc Ls (argsL.reverse ++ st) ce sl := by
  obtain ⟨p, e, s, m, args, below, meth, c⟩ := κ
  intro vm0 k0 T locs X N eT I J
  obtain ⟨hx, hby, hml, -, hnm, hret, hlk, -⟩ := C
  have hZ : Z.Warmed39 (s.setVm vm0).vm := J.2.2.1
  have hown : (s.setVm vm0).vm.findClass y.cls = some m.cls := J.2.2.2.1
  obtain ⟨hf, hlo, hc, hsl⟩ := hnn
  have hO := fun x hx => (⟨(I.2.2 x (hws x hx)).1, (I.2.2 x (hws x hx)).2.1⟩ : x < h.size ∧ Z.heap.size ≤ x)
  have hB := hM I.1 hO hEL p e R below s vm0 args 3 W J.2.2.1 hf hlo J.2.2.2.2.1.1 (fun x hx => J.2.2.2.2.2 x (hws x hx))
  obtain ⟨v, _, ⟨T', L', k', n'⟩, -, X', hS', hg', ⟨Lc, hQ, l', y', z', hch'⟩, st'⟩ := callSS X hx hown (mvT hZ w1) (mvT hZ w2) (mvT hZ wz) (mvT hZ wc) hy hB (g := mkF m pc Ls (argsL.reverse ++ st)) rfl (hls.trans hml.symm) (argsL := argsL) (rest := st) (lenOf hps hlen) rfl (by show 2 * 0 + _ ≤ _; rw [Nat.mul_zero, Nat.zero_add]; exact hW) (hb hby hd) (fun _ _ => ⟨rfl, eT, hc, hsl⟩)
  dsimp only [Pt.U, Pt.locs, Pt.cells, Pt.slots] at X' l' y' z' st' hQ hS' hg' hch'
  subst l' y' z'
  obtain ⟨K, hQ, N'⟩ := hQ
  have NN := Fr.app N N'
  obtain ⟨X2, hS2, hZ2, hown2⟩ := rebS J.1 (by rw [eT]; exact J.2.1 : k0 ≤ T.heap.size) X' hS' hg' hZ hown
  obtain ⟨s₂, o, hs, r⟩ := k v T'.heap K hQ _ _ T' _ X2 NN rfl (I.keep K hws) ⟨hS2, Nat.le_refl _, hZ2, hown2, J.2.2.2.2.1.trans hch', fun x hx => hch'.safe (I.2.2 x hx).1 (J.2.2.2.2.2 x hx)⟩
  exact ⟨s₂, o, st'.trans hs, r⟩
theorem wc3' (C : Cx Z a0 y by0 ml rt κ) (hEL : EW Z a0 EL) {z : MethodName} {fr lo cc ss : Nat} {ws' : List Addr} {Qz : Option Value → Heap → Prop} {ps : List FieldType} {rr : Option FieldType} {argsL : List Value} {ix W : Nat} {a : Addr} (hd : decode by0 pc = .ok (.invokespecial ix, 3)) {bz : ByteArray} {mlz : Nat} (hin : z.name = "<init>") (w1 : (Cond.methodLink y.cls ix z).before a0 Z = true) (w2 : (Cond.instanceMethod z).before a0 Z = true) (wc : (Cond.code z bz mlz none).before a0 Z = true) (hy : z.cls ≠ "java/lang/invoke/MethodHandle" ∧ z.cls ≠ "java/lang/invoke/VarHandle") (hps : parseMethodDescriptor z.desc = some ⟨ps, rr⟩) (hM : PyW l Z EL a0 z fr lo cc ss (.ref a :: argsL).toArray h ws' Qz) (hlen : argsL.length = ps.length) (hW : (st.map fun v => v.category).sum ≤ W) (hls : Ls.size = ml) (hnn : fr ≤ R.frames ∧ W + lo ≤ R.locals ∧ ce + cc ≤ R.cells ∧ sl + ss ≤ R.slots) (hws : ∀ x ∈ ws', x ∈ S) (k : ∀ v h', Keep h h' ws' → Qz v h' → GoW l R Z EL y.cls ws h0 Q κ S h' (pc + 3) Ls (v.toList ++ st) (ce + cc) (sl + ss)) : GoW l R Z EL y.cls ws h0 Q κ S h pc Ls (argsL.reverse ++ .ref a :: st) ce sl := by
  obtain ⟨p, e, s, m, args, below, meth, c⟩ := κ
  intro vm0 k0 T locs X N eT I J
  obtain ⟨hx, hby, hml, -, hnm, hret, hlk, -⟩ := C
  have hZ : Z.Warmed39 (s.setVm vm0).vm := J.2.2.1
  have hown : (s.setVm vm0).vm.findClass y.cls = some m.cls := J.2.2.2.1
  obtain ⟨hf, hlo, hc, hsl⟩ := hnn
  have hO := fun x hx => (⟨(I.2.2 x (hws x hx)).1, (I.2.2 x (hws x hx)).2.1⟩ : x < h.size ∧ Z.heap.size ≤ x)
  have hB := hM I.1 hO hEL p e R below s vm0 args 3 W J.2.2.1 hf hlo J.2.2.2.2.1.1 (fun x hx => J.2.2.2.2.2 x (hws x hx))
  obtain ⟨v, _, ⟨T', L', k', n'⟩, -, X', hS', hg', ⟨Lc, hQ, l', y', z', hch'⟩, st'⟩ := X.specialBackS hx hin hown (mvT hZ w1) (mvT hZ w2) (mvT hZ wc) hy hB (g := mkF m pc Ls (argsL.reverse ++ Value.ref a :: st)) rfl (hls.trans hml.symm) (Steps.refl _) (a := a) (argsL := argsL) (rest := st) (lenOf hps hlen) rfl (by show 2 * 0 + _ ≤ _; rw [Nat.mul_zero, Nat.zero_add]; exact hW) (hb hby hd) (fun _ _ => ⟨rfl, eT, hc, hsl⟩)
  dsimp only [Pt.U, Pt.locs, Pt.cells, Pt.slots] at X' l' y' z' st' hQ hS' hg' hch'
  subst l' y' z'
  obtain ⟨K, hQ, N'⟩ := hQ
  have NN := Fr.app N N'
  obtain ⟨X2, hS2, hZ2, hown2⟩ := rebS J.1 (by rw [eT]; exact J.2.1 : k0 ≤ T.heap.size) X' hS' hg' hZ hown
  obtain ⟨s₂, o, hs, r⟩ := k v T'.heap K hQ _ _ T' _ X2 NN rfl (I.keep K hws) ⟨hS2, Nat.le_refl _, hZ2, hown2, J.2.2.2.2.1.trans hch', fun x hx => hch'.safe (I.2.2 x hx).1 (J.2.2.2.2.2 x hx)⟩
  exact ⟨s₂, o, st'.trans hs, r⟩
theorem wk2' (C : Cx Z a0 y by0 ml rt κ) (hEL : EW Z a0 EL) {z : MethodName} {fr lo cc ss : Nat} {ws' : List Addr} {Qz : Option Value → Heap → Prop} {ps : List FieldType} {rr : Option FieldType} {argsL : List Value} {ix W : Nat} {a : Addr} (hd : decode by0 pc = .ok (.invokevirtual ix, 3)) {y1 : MethodName} {Cn : String} (w1 : (Cond.methodLink y.cls ix y1).before a0 Z = true) (w2 : (Cond.declares y1).before a0 Z = true) (nf : ∀ (s : State), Z.Warmed39 s.vm → NotFace s y1) (w3 : (Cond.selects Cn y1 z).before a0 Z = true) (w4 : (Cond.instanceMethod z).before a0 Z = true) (EX : Exa Z h a Cn) (hy : y1.cls ≠ "java/lang/invoke/MethodHandle" ∧ y1.cls ≠ "java/lang/invoke/VarHandle") (hps : parseMethodDescriptor y1.desc = some ⟨ps, rr⟩) (hM : PyW l Z EL a0 z fr lo cc ss (.ref a :: argsL).toArray h ws' Qz) (hlen : argsL.length = ps.length) (hW : (st.map fun v => v.category).sum ≤ W) (hls : Ls.size = ml) (hnn : fr ≤ R.frames ∧ W + lo ≤ R.locals ∧ ce + cc ≤ R.cells ∧ sl + ss ≤ R.slots) (hws : ∀ x ∈ ws', x ∈ S) (k : ∀ v h', Keep h h' ws' → Qz v h' → GoW l R Z EL y.cls ws h0 Q κ S h' (pc + 3) Ls (v.toList ++ st) (ce + cc) (sl + ss)) : GoW l R Z EL y.cls ws h0 Q κ S h pc Ls (argsL.reverse ++ .ref a :: st) ce sl := by
  obtain ⟨p, e, s, m, args, below, meth, c⟩ := κ
  intro vm0 k0 T locs X N eT I J
  obtain ⟨hx, hby, hml, -, hnm, hret, hlk, -⟩ := C
  have hZ : Z.Warmed39 (s.setVm vm0).vm := J.2.2.1
  have hown : (s.setVm vm0).vm.findClass y.cls = some m.cls := J.2.2.2.1
  obtain ⟨hf, hlo, hc, hsl⟩ := hnn
  have hO := fun x hx => (⟨(I.2.2 x (hws x hx)).1, (I.2.2 x (hws x hx)).2.1⟩ : x < h.size ∧ Z.heap.size ≤ x)
  have hB := hM I.1 hO hEL p e R below s vm0 args 3 W J.2.2.1 hf hlo J.2.2.2.2.1.1 (fun x hx => J.2.2.2.2.2 x (hws x hx))
  obtain ⟨v, _, ⟨T', L', k', n'⟩, -, X', hS', hg', ⟨Lc, hQ, l', y', z', hch'⟩, st'⟩ := (let ⟨cq, kq, qa, qb, qc⟩ := isOf hZ eT EX; X.virtualBackS hx hown (mvT hZ w1) (mvT hZ w2) (nf _ hZ) (mvT hZ w3) (mvT hZ w4) hy hB qa qc (g := mkF m pc Ls (argsL.reverse ++ Value.ref a :: st)) rfl (hls.trans hml.symm) (Steps.refl _) (argsL := argsL) (rest := st) (lenOf hps hlen) rfl (by show 2 * 0 + _ ≤ _; rw [Nat.mul_zero, Nat.zero_add]; exact hW) (hb hby hd) (fun _ _ => ⟨rfl, eT, hc, hsl⟩))
  dsimp only [Pt.U, Pt.locs, Pt.cells, Pt.slots] at X' l' y' z' st' hQ hS' hg' hch'
  subst l' y' z'
  obtain ⟨K, hQ, N'⟩ := hQ
  have NN := Fr.app N N'
  obtain ⟨X2, hS2, hZ2, hown2⟩ := rebS J.1 (by rw [eT]; exact J.2.1 : k0 ≤ T.heap.size) X' hS' hg' hZ hown
  obtain ⟨s₂, o, hs, r⟩ := k v T'.heap K hQ _ _ T' _ X2 NN rfl (I.keep K hws) ⟨hS2, Nat.le_refl _, hZ2, hown2, J.2.2.2.2.1.trans hch', fun x hx => hch'.safe (I.2.2 x hx).1 (J.2.2.2.2.2 x hx)⟩
  exact ⟨s₂, o, st'.trans hs, r⟩
theorem wi2' (C : Cx Z a0 y by0 ml rt κ) (hEL : EW Z a0 EL) (pc' ce' sl' : Nat) {ix n : Nat} {text : String} {vs : List Value} {zn : Int32} (hd : decode by0 pc = .ok (.ldc ix, 2)) (hce : ce + 2 = ce') (hsl' : sl + (n + 4) = sl') (hpc : pc + 2 = pc') (w : (Cond.stringLink y.cls ix text).before a0 Z = true) (wS : ∀ a ∈ Bundle.stringAtoms, a.before a0 Z = true) (hmem : (y.cls, ix) ∈ EL) (ht : (∀ c ∈ text.toList, c.toNat < 256) ∧ text.toList.map (fun c => Value.int (Jvm.Lit.byteI c.toNat.toUInt16)) = vs) (hz : ¬ zn < 0) (hl : zn.toNatClampNeg = vs.length) (hn : 4 * text.toList.length ≤ n) (hbig : n ≤ 536870912) (hc : ce + 2 ≤ R.cells) (hsl : sl + (n + 4) ≤ R.slots) (k : ∀ (a b : Addr) kc h', Ext h h' → Exa Z h' a "java/lang/String" → Fld Z h' a "java/lang/String" "coder" "B" (.int 0) → Fld Z h' a "java/lang/String" "value" "[B" (.ref b) → Arv Z h' b kc .byte zn vs (.int 0) → (∀ x ∈ S, x ≠ a ∧ x ≠ b) → GoW l R Z EL y.cls ws h0 Q κ S h' pc' Ls (.ref a :: st) ce' sl') : GoW l R Z EL y.cls ws h0 Q κ S h pc Ls st ce sl := by
  subst hpc hce hsl'
  obtain ⟨p, e, s, m, args, below, meth, c⟩ := κ
  intro vm0 k0 T locs X N eT I J
  obtain ⟨hx, hby, hml, -, hnm, hret, hlk, -⟩ := C
  have hZ : Z.Warmed39 (s.setVm vm0).vm := J.2.2.1
  have hown : (s.setVm vm0).vm.findClass y.cls = some m.cls := J.2.2.2.1
  obtain ⟨a, T', h', k1, b, kc, X', e', E, hS', hk', hZ', hown', q1, q2, q3, q4, -, -, hch', -, hsf, st'⟩ := ldcCH X hx J.2.2.1 J.2.2.2.1 w wS eT J.1 J.2.1 hEL hmem J.2.2.2.2.1.1 ht hz hl (g := mkF m pc Ls st) rfl (hb hby hd) hn hbig hc hsl
  have hs2 : ∀ x ∈ S, Safe Z EL T'.vm h' x := fun x hx => hch'.safe (I.2.2 x hx).1 (J.2.2.2.2.2 x hx)
  obtain ⟨s₂, o, hs, r⟩ := k a b kc h' E q1 q2 q3 q4 (fun x hx => hsf x (hs2 x hx)) _ _ T' _ X' N e' (I.ext E) ⟨hS', hk', hZ', hown', J.2.2.2.2.1.trans hch', hs2⟩
  exact ⟨s₂, o, st' _ hs, r⟩
end StepsW

theorem sto_arv {Z : State} {h : Heap} {a b : Addr} {kc : ClassId} {ty : FieldType} {n : Int32} {vs : List Value} {d : Value} {C : String} (F : Arv Z h a kc ty n vs d) (O : Ovr Z kc C) (I : Ins Z h b C true) : Sto Z h a (.ref b) := by
  obtain ⟨c, A, q, -⟩ := F
  exact Sto.ofV A q O I
theorem and_small (x m : Int32) (hm : 0 ≤ m.toInt) : ¬ (x &&& m) < 0 ∧ ¬ m < (x &&& m) := by
  have h := c_and x m hm
  constructor
  · rw [Int32.lt_iff_toInt_lt]; have e : (0 : Int32).toInt = 0 := rfl; omega
  · rw [Int32.lt_iff_toInt_lt]; omega
/-- a char: 0 to 65535 -/
def Chr (c : Int32) : Prop := ¬ c < 0 ∧ ¬ (65535 : Int32) < c
theorem Chr.nar {c : Int32} (h : Chr c) : nar .char c = c := by
  have e := c_i2c c
  have r := h
  unfold Chr at r
  rw [Int32.lt_iff_toInt_lt, Int32.lt_iff_toInt_lt] at r
  have e0 : (0 : Int32).toInt = 0 := rfl
  have e1 : (65535 : Int32).toInt = 65535 := rfl
  have q := rng32 c
  show c.toUInt32.toUInt16.toUInt32.toInt32 = c
  rw [← Int32.toInt_inj]
  omega
theorem Chr.i2c {c : Int32} (h : Chr c) : c.toUInt32.toUInt16.toUInt32.toInt32 = c := h.nar
theorem Chr.lat {c : Int32} (h0 : ¬ c < 0) (h1 : ¬ (255 : Int32) < c) : Chr c := ⟨h0, fun q => h1 (by rw [Int32.lt_iff_toInt_lt] at q ⊢; have e1 : (65535 : Int32).toInt = 65535 := rfl; have e2 : (255 : Int32).toInt = 255 := rfl; omega)⟩
theorem chr_and255 (x : Int32) : Chr (x &&& 255) := Chr.lat (and_small x 255 (by decide)).1 (and_small x 255 (by decide)).2
def lo8 (c : Int32) : Int32 := c.toInt8.toInt32
def hi8 (c : Int32) : Int32 := (c >>> ((8 : Int32) &&& 31)).toInt8.toInt32
theorem nar_byte (c : Int32) : nar .byte (c.toInt8.toInt32) = c.toInt8.toInt32 := by show c.toInt8.toInt32.toInt8.toInt32 = _; simp
theorem nar_lo8 (c : Int32) : nar .byte (lo8 c) = lo8 c := nar_byte c
theorem nar_hi8 (c : Int32) : nar .byte (hi8 c) = hi8 c := nar_byte _
theorem shr_0 (c : Int32) : c >>> ((0 : Int32) &&& 31) = c := by
  have h := c_ishr c 0 0 (by decide)
  rw [← Int32.toInt_inj, h]; simp
theorem lo8_and (c : Int32) : (lo8 c &&& 255).toInt = c.toInt % 256 := by
  have h := c_mask (lo8 c) 255 8 (by decide) (by decide)
  have q := c_i2b c
  have e : (lo8 c).toInt = c.toInt8.toInt32.toInt := rfl
  rw [h, e]
  have e2 : ((2 ^ 8 : Nat) : Int) = 256 := rfl
  rw [e2]; omega
theorem hi8_and {c : Int32} (hc : Chr c) : (hi8 c &&& 255).toInt = c.toInt / 256 := by
  have h := c_mask (hi8 c) 255 8 (by decide) (by decide)
  have q := c_i2b (c >>> ((8 : Int32) &&& 31))
  have s := c_ishr c 8 8 (by decide)
  have e : (hi8 c).toInt = (c >>> ((8 : Int32) &&& 31)).toInt8.toInt32.toInt := rfl
  obtain ⟨r1, r2⟩ := hc
  rw [Int32.lt_iff_toInt_lt] at r1 r2
  have e0 : (0 : Int32).toInt = 0 := rfl
  have e1 : (65535 : Int32).toInt = 65535 := rfl
  have e2 : ((2 ^ 8 : Nat) : Int) = 256 := rfl
  rw [h, e, e2]
  rw [e2] at s
  omega
theorem lo8_mask {c : Int32} (h0 : ¬ c < 0) (h1 : ¬ (255 : Int32) < c) : lo8 c &&& 255 = c := by
  have h := lo8_and c
  rw [Int32.lt_iff_toInt_lt] at h0 h1
  have e0 : (0 : Int32).toInt = 0 := rfl
  have e1 : (255 : Int32).toInt = 255 := rfl
  rw [← Int32.toInt_inj, h]; omega
theorem get16 {c : Int32} (hc : Chr c) : (((lo8 c &&& 255) <<< ((0 : Int32) &&& 31)) ||| ((hi8 c &&& 255) <<< ((8 : Int32) &&& 31))).toUInt32.toUInt16.toUInt32.toInt32 = c := by
  have a1 := lo8_and c
  have a2 := hi8_and hc
  have s1 := c_ishl (lo8 c &&& 255) 0 0 (by decide)
  have s2 := c_ishl (hi8 c &&& 255) 8 8 (by decide)
  have e8 : ((2 ^ 8 : Nat) : Int) = 256 := rfl
  have e00 : ((2 ^ 0 : Nat) : Int) = 1 := rfl
  rw [e00] at s1
  rw [e8] at s2
  have o := c_or' ((lo8 c &&& 255) <<< ((0 : Int32) &&& 31)) ((hi8 c &&& 255) <<< ((8 : Int32) &&& 31)) 8 (by decide) 256 rfl
  have z := c_i2c (((lo8 c &&& 255) <<< ((0 : Int32) &&& 31)) ||| ((hi8 c &&& 255) <<< ((8 : Int32) &&& 31)))
  obtain ⟨r1, r2⟩ := hc
  rw [Int32.lt_iff_toInt_lt] at r1 r2
  have e0 : (0 : Int32).toInt = 0 := rfl
  have e1 : (65535 : Int32).toInt = 65535 := rfl
  have t1 := rng32 ((lo8 c &&& 255) <<< ((0 : Int32) &&& 31))
  have t2 := rng32 ((hi8 c &&& 255) <<< ((8 : Int32) &&& 31))
  have t3 := rng32 (((lo8 c &&& 255) <<< ((0 : Int32) &&& 31)) ||| ((hi8 c &&& 255) <<< ((8 : Int32) &&& 31)))
  rw [← Int32.toInt_inj]
  have o' := o (by omega) (by omega) (by omega)
  omega
theorem wS {Z : State} {a0 : Array Value} (hw : ∀ d ∈ tables_1, d.before a0 Z = true) : ∀ a ∈ Bundle.stringAtoms, a.before a0 Z = true := fun d hd => hw d ((by decide +kernel : ∀ d ∈ Bundle.stringAtoms, d ∈ tables_1) d hd)
theorem and3 (x : Int32) : (x &&& (3 : Int32)) = 0 ∨ (x &&& (3 : Int32)) = 1 ∨ (x &&& (3 : Int32)) = 2 ∨ (x &&& (3 : Int32)) = 3 := by
  have h := c_and x (3 : Int32) (by decide)
  simp only [← Int32.toInt_inj]
  have e0 : (0 : Int32).toInt = 0 := rfl
  have e1 : (1 : Int32).toInt = 1 := rfl
  have e2 : (2 : Int32).toInt = 2 := rfl
  have e3 : (3 : Int32).toInt = 3 := rfl
  omega

def Amb (Z : State) (a0 : Array Value) (cS : Int32) (fm : Value) : Prop := EW Z a0 consts_1 ∧ Sta Z Z.heap "java/lang/String" "COMPACT_STRINGS" "Z" (.int cS) ∧ ¬ (cS = 0) ∧ Sta Z Z.heap "jdk/internal/util/Preconditions" "SIOOBE_FORMATTER" "Ljava/util/function/BiFunction;" fm ∧ fm.isRef = true
abbrev zc0 := jdk_29_method_69_code
abbrev zc1 := jdk_30_method_1_code
abbrev zc2 := jdk_41_method_12_code
abbrev zc3 := jdk_42_method_147_code
abbrev zc4 := jdk_42_method_149_code
abbrev zc5 := jdk_42_method_150_code
abbrev zc6 := jdk_42_method_151_code
abbrev zc7 := jdk_42_method_152_code
abbrev zc8 := jdk_42_method_154_code
abbrev zc9 := jdk_42_method_158_code
abbrev zc10 := jdk_42_method_3_code
abbrev zc11 := jdk_42_method_53_code
abbrev zc12 := jdk_42_method_54_code
abbrev zc13 := jdk_42_method_66_code
abbrev zc14 := jdk_42_method_75_code
abbrev zc15 := jdk_42_method_76_code
abbrev zc16 := jdk_42_method_91_code
abbrev zc17 := jdk_42_method_92_code
abbrev zc18 := jdk_43_method_13_code
abbrev zc19 := jdk_43_method_47_code
abbrev zc20 := jdk_48_method_14_code
abbrev zc21 := jdk_52_method_15_code
abbrev zc22 := jdk_52_method_16_code
abbrev zc23 := jdk_52_method_21_code
abbrev zc24 := jdk_65_method_131_code
abbrev zc25 := jdk_65_method_132_code
abbrev zc26 := jdk_65_method_133_code
abbrev zc27 := jdk_67_method_1_code
abbrev zc28 := jdk_67_method_42_code
abbrev zc29 := jdk_67_method_7_code
abbrev zc30 := jdk_67_method_93_code
abbrev zc31 := jdk_68_method_22_code
abbrev zc32 := jdk_68_method_2_code
abbrev zc33 := jdk_68_method_64_code
abbrev zc34 := jdk_68_method_68_code
abbrev zc35 := jdk_68_method_6_code
abbrev zc36 := jdk_68_method_71_code
abbrev zc37 := jdk_68_method_73_code
abbrev zc38 := jdk_68_method_9_code
abbrev zc39 := method_3_code
abbrev zc40 := method_4_code
abbrev zc41 := prog_29_method_10_code
abbrev zc42 := prog_29_method_11_code
abbrev zc43 := prog_29_method_12_code
abbrev zc44 := prog_29_method_1_code
abbrev zc45 := prog_29_method_2_code
abbrev zc46 := prog_29_method_4_code
abbrev zc47 := prog_29_method_5_code
abbrev HW (a0 : Array Value) (Z : State) : Prop := ∀ d ∈ tables_1, d.before a0 Z = true
set_option maxRecDepth 65536
set_option maxHeartbeats 40000000
theorem d6_0 : decode zc23 0 = .ok (.iconst 0, 1) := by decide +kernel
theorem d6_1 : decode zc23 1 = .ok (.istore 5, 2) := by decide +kernel
theorem d6_3 : decode zc23 3 = .ok (.iload 5, 2) := by decide +kernel
theorem d6_5 : decode zc23 5 = .ok (.iload 4, 2) := by decide +kernel
theorem d6_7 : decode zc23 7 = .ok (.if_icmp .ge 37, 3) := by decide +kernel
theorem d6_10 : decode zc23 10 = .ok (.aload_n 0, 1) := by decide +kernel
theorem d6_11 : decode zc23 11 = .ok (.iload_n 1, 1) := by decide +kernel
theorem d6_12 : decode zc23 12 = .ok (.caload, 1) := by decide +kernel
theorem d6_13 : decode zc23 13 = .ok (.istore 6, 2) := by decide +kernel
theorem d6_15 : decode zc23 15 = .ok (.iload 6, 2) := by decide +kernel
theorem d6_17 : decode zc23 17 = .ok (.sipush 255, 3) := by decide +kernel
theorem d6_20 : decode zc23 20 = .ok (.if_icmp .le 6, 3) := by decide +kernel
theorem d6_26 : decode zc23 26 = .ok (.aload_n 2, 1) := by decide +kernel
theorem d6_27 : decode zc23 27 = .ok (.iload_n 3, 1) := by decide +kernel
theorem d6_28 : decode zc23 28 = .ok (.iload 6, 2) := by decide +kernel
theorem d6_30 : decode zc23 30 = .ok (.i2b, 1) := by decide +kernel
theorem d6_31 : decode zc23 31 = .ok (.bastore, 1) := by decide +kernel
theorem d6_32 : decode zc23 32 = .ok (.iinc 1 1, 3) := by decide +kernel
theorem d6_35 : decode zc23 35 = .ok (.iinc 3 1, 3) := by decide +kernel
theorem d6_38 : decode zc23 38 = .ok (.iinc 5 1, 3) := by decide +kernel
theorem d6_41 : decode zc23 41 = .ok (.goto (-38), 3) := by decide +kernel
theorem d6_44 : decode zc23 44 = .ok (.iload 4, 2) := by decide +kernel
theorem d6_46 : decode zc23 46 = .ok (.ireturn, 1) := by decide +kernel
theorem pn_java_lang_StringUTF16 : plainName "java/lang/StringUTF16" = true := by first | (simp [plainName, overriddenIn]; done) | decide +kernel
theorem d5_0 : decode zc22 0 = .ok (.iload_n 2, 1) := by decide +kernel
theorem d5_1 : decode zc22 1 = .ok (.newarray .byte, 2) := by decide +kernel
theorem d5_3 : decode zc22 3 = .ok (.astore_n 3, 1) := by decide +kernel
theorem d5_4 : decode zc22 4 = .ok (.aload_n 0, 1) := by decide +kernel
theorem d5_5 : decode zc22 5 = .ok (.iload_n 1, 1) := by decide +kernel
theorem d5_6 : decode zc22 6 = .ok (.aload_n 3, 1) := by decide +kernel
theorem d5_7 : decode zc22 7 = .ok (.iconst 0, 1) := by decide +kernel
theorem d5_8 : decode zc22 8 = .ok (.iload_n 2, 1) := by decide +kernel
theorem d5_9 : decode zc22 9 = .ok (.invokestatic 115, 3) := by decide +kernel
theorem pd___CI_BII_I : parseMethodDescriptor "([CI[BII)I" = some ⟨[(.array .char), .int, (.array .byte), .int, .int], some .int⟩ := by decide +kernel
theorem d5_12 : decode zc22 12 = .ok (.istore 4, 2) := by decide +kernel
theorem d5_14 : decode zc22 14 = .ok (.iload 4, 2) := by decide +kernel
theorem d5_16 : decode zc22 16 = .ok (.iload_n 2, 1) := by decide +kernel
theorem d5_17 : decode zc22 17 = .ok (.if_icmp .eq 40, 3) := by decide +kernel
theorem d5_57 : decode zc22 57 = .ok (.aload_n 3, 1) := by decide +kernel
theorem d5_58 : decode zc22 58 = .ok (.areturn, 1) := by decide +kernel
theorem d7_0 : decode zc21 0 = .ok (.iload_n 1, 1) := by decide +kernel
theorem d7_1 : decode zc21 1 = .ok (.aload_n 0, 1) := by decide +kernel
theorem d7_2 : decode zc21 2 = .ok (.arraylength, 1) := by decide +kernel
theorem d7_3 : decode zc21 3 = .ok (.isub, 1) := by decide +kernel
theorem d7_4 : decode zc21 4 = .ok (.bipush 31, 2) := by decide +kernel
theorem d7_6 : decode zc21 6 = .ok (.iushr, 1) := by decide +kernel
theorem d7_7 : decode zc21 7 = .ok (.i2b, 1) := by decide +kernel
theorem d7_8 : decode zc21 8 = .ok (.ireturn, 1) := by decide +kernel
theorem d3_0 : decode zc4 0 = .ok (.aload_n 0, 1) := by decide +kernel
theorem d3_1 : decode zc4 1 = .ok (.invokespecial 1, 3) := by decide +kernel
theorem d3_4 : decode zc4 4 = .ok (.iload_n 3, 1) := by decide +kernel
theorem d3_5 : decode zc4 5 = .ok (.ifCond .ne 22, 3) := by decide +kernel
theorem d3_27 : decode zc4 27 = .ok (.getstatic 38, 3) := by decide +kernel
theorem d3_30 : decode zc4 30 = .ok (.ifCond .eq 28, 3) := by decide +kernel
theorem d3_33 : decode zc4 33 = .ok (.aload_n 1, 1) := by decide +kernel
theorem d3_34 : decode zc4 34 = .ok (.iload_n 2, 1) := by decide +kernel
theorem d3_35 : decode zc4 35 = .ok (.iload_n 3, 1) := by decide +kernel
theorem d3_36 : decode zc4 36 = .ok (.invokestatic 177, 3) := by decide +kernel
theorem pd___CII__B : parseMethodDescriptor "([CII)[B" = some ⟨[(.array .char), .int, .int], some (.array .byte)⟩ := by decide +kernel
theorem d3_39 : decode zc4 39 = .ok (.astore 5, 2) := by decide +kernel
theorem d3_41 : decode zc4 41 = .ok (.aload_n 0, 1) := by decide +kernel
theorem d3_42 : decode zc4 42 = .ok (.aload 5, 2) := by decide +kernel
theorem d3_44 : decode zc4 44 = .ok (.iload_n 3, 1) := by decide +kernel
theorem d3_45 : decode zc4 45 = .ok (.invokestatic 47, 3) := by decide +kernel
theorem pd___BI_B : parseMethodDescriptor "([BI)B" = some ⟨[(.array .byte), .int], some .byte⟩ := by decide +kernel
theorem d3_48 : decode zc4 48 = .ok (.putfield 15, 3) := by decide +kernel
theorem d3_51 : decode zc4 51 = .ok (.aload_n 0, 1) := by decide +kernel
theorem d3_52 : decode zc4 52 = .ok (.aload 5, 2) := by decide +kernel
theorem d3_54 : decode zc4 54 = .ok (.putfield 9, 3) := by decide +kernel
theorem d3_57 : decode zc4 57 = .ok (.return_, 1) := by decide +kernel
theorem pn_java_lang_String : plainName "java/lang/String" = true := by first | (simp [plainName, overriddenIn]; done) | decide +kernel
theorem d2_0 : decode zc10 0 = .ok (.aload_n 0, 1) := by decide +kernel
theorem d2_1 : decode zc10 1 = .ok (.aload_n 1, 1) := by decide +kernel
theorem d2_2 : decode zc10 2 = .ok (.iconst 0, 1) := by decide +kernel
theorem d2_3 : decode zc10 3 = .ok (.aload_n 1, 1) := by decide +kernel
theorem d2_4 : decode zc10 4 = .ok (.arraylength, 1) := by decide +kernel
theorem d2_5 : decode zc10 5 = .ok (.aconst_null, 1) := by decide +kernel
theorem d2_6 : decode zc10 6 = .ok (.invokespecial 27, 3) := by decide +kernel
theorem pd___CIILjava_lang_Void__V : parseMethodDescriptor "([CIILjava/lang/Void;)V" = some ⟨[(.array .char), .int, .int, (.object "java/lang/Void")], none⟩ := by decide +kernel
theorem d2_9 : decode zc10 9 = .ok (.return_, 1) := by decide +kernel
theorem d3_8 : decode zc4 8 = .ok (.aload_n 0, 1) := by decide +kernel
theorem d3_9 : decode zc4 9 = .ok (.ldc 7, 2) := by decide +kernel
theorem d3_11 : decode zc4 11 = .ok (.getfield 9, 3) := by decide +kernel
theorem d3_14 : decode zc4 14 = .ok (.putfield 9, 3) := by decide +kernel
theorem d3_17 : decode zc4 17 = .ok (.aload_n 0, 1) := by decide +kernel
theorem d3_18 : decode zc4 18 = .ok (.ldc 7, 2) := by decide +kernel
theorem d3_20 : decode zc4 20 = .ok (.getfield 15, 3) := by decide +kernel
theorem d3_23 : decode zc4 23 = .ok (.putfield 15, 3) := by decide +kernel
theorem d3_26 : decode zc4 26 = .ok (.return_, 1) := by decide +kernel
theorem d1_0 : decode zc39 0 = .ok (.iload_n 0, 1) := by decide +kernel
theorem d1_1 : decode zc39 1 = .ok (.ifCond .ne 14, 3) := by decide +kernel
theorem d1_4 : decode zc39 4 = .ok (.new 27, 3) := by decide +kernel
theorem d1_7 : decode zc39 7 = .ok (.dup, 1) := by decide +kernel
theorem d1_8 : decode zc39 8 = .ok (.iconst 0, 1) := by decide +kernel
theorem d1_9 : decode zc39 9 = .ok (.newarray .char, 2) := by decide +kernel
theorem d1_11 : decode zc39 11 = .ok (.invokespecial 46, 3) := by decide +kernel
theorem pd___C_V : parseMethodDescriptor "([C)V" = some ⟨[(.array .char)], none⟩ := by decide +kernel
theorem d1_14 : decode zc39 14 = .ok (.areturn, 1) := by decide +kernel
theorem d1_15 : decode zc39 15 = .ok (.iload_n 0, 1) := by decide +kernel
theorem d1_16 : decode zc39 16 = .ok (.iconst 1, 1) := by decide +kernel
theorem d1_17 : decode zc39 17 = .ok (.if_icmp .ne 18, 3) := by decide +kernel
theorem d1_20 : decode zc39 20 = .ok (.new 27, 3) := by decide +kernel
theorem d1_23 : decode zc39 23 = .ok (.dup, 1) := by decide +kernel
theorem d1_24 : decode zc39 24 = .ok (.iconst 1, 1) := by decide +kernel
theorem d1_25 : decode zc39 25 = .ok (.newarray .char, 2) := by decide +kernel
theorem d1_27 : decode zc39 27 = .ok (.dup, 1) := by decide +kernel
theorem d1_28 : decode zc39 28 = .ok (.iconst 0, 1) := by decide +kernel
theorem d1_29 : decode zc39 29 = .ok (.iload_n 1, 1) := by decide +kernel
theorem d1_30 : decode zc39 30 = .ok (.castore, 1) := by decide +kernel
theorem d1_31 : decode zc39 31 = .ok (.invokespecial 46, 3) := by decide +kernel
theorem d1_34 : decode zc39 34 = .ok (.areturn, 1) := by decide +kernel
theorem d1_35 : decode zc39 35 = .ok (.iload_n 0, 1) := by decide +kernel
theorem d1_36 : decode zc39 36 = .ok (.iconst 2, 1) := by decide +kernel
theorem d1_37 : decode zc39 37 = .ok (.if_icmp .ne 22, 3) := by decide +kernel
theorem d1_40 : decode zc39 40 = .ok (.new 27, 3) := by decide +kernel
theorem d1_43 : decode zc39 43 = .ok (.dup, 1) := by decide +kernel
theorem d1_44 : decode zc39 44 = .ok (.iconst 2, 1) := by decide +kernel
theorem d1_45 : decode zc39 45 = .ok (.newarray .char, 2) := by decide +kernel
theorem d1_47 : decode zc39 47 = .ok (.dup, 1) := by decide +kernel
theorem d1_48 : decode zc39 48 = .ok (.iconst 0, 1) := by decide +kernel
theorem d1_49 : decode zc39 49 = .ok (.iload_n 1, 1) := by decide +kernel
theorem d1_50 : decode zc39 50 = .ok (.castore, 1) := by decide +kernel
theorem d1_51 : decode zc39 51 = .ok (.dup, 1) := by decide +kernel
theorem d1_52 : decode zc39 52 = .ok (.iconst 1, 1) := by decide +kernel
theorem d1_53 : decode zc39 53 = .ok (.iload_n 2, 1) := by decide +kernel
theorem d1_54 : decode zc39 54 = .ok (.castore, 1) := by decide +kernel
theorem d1_55 : decode zc39 55 = .ok (.invokespecial 46, 3) := by decide +kernel
theorem d1_58 : decode zc39 58 = .ok (.areturn, 1) := by decide +kernel
theorem d1_59 : decode zc39 59 = .ok (.new 27, 3) := by decide +kernel
theorem d1_62 : decode zc39 62 = .ok (.dup, 1) := by decide +kernel
theorem d1_63 : decode zc39 63 = .ok (.iconst 3, 1) := by decide +kernel
theorem d1_64 : decode zc39 64 = .ok (.newarray .char, 2) := by decide +kernel
theorem d1_66 : decode zc39 66 = .ok (.dup, 1) := by decide +kernel
theorem d1_67 : decode zc39 67 = .ok (.iconst 0, 1) := by decide +kernel
theorem d1_68 : decode zc39 68 = .ok (.iload_n 1, 1) := by decide +kernel
theorem d1_69 : decode zc39 69 = .ok (.castore, 1) := by decide +kernel
theorem d1_70 : decode zc39 70 = .ok (.dup, 1) := by decide +kernel
theorem d1_71 : decode zc39 71 = .ok (.iconst 1, 1) := by decide +kernel
theorem d1_72 : decode zc39 72 = .ok (.iload_n 2, 1) := by decide +kernel
theorem d1_73 : decode zc39 73 = .ok (.castore, 1) := by decide +kernel
theorem d1_74 : decode zc39 74 = .ok (.dup, 1) := by decide +kernel
theorem d1_75 : decode zc39 75 = .ok (.iconst 2, 1) := by decide +kernel
theorem d1_76 : decode zc39 76 = .ok (.iload_n 3, 1) := by decide +kernel
theorem d1_77 : decode zc39 77 = .ok (.castore, 1) := by decide +kernel
theorem d1_78 : decode zc39 78 = .ok (.invokespecial 46, 3) := by decide +kernel
theorem d1_81 : decode zc39 81 = .ok (.areturn, 1) := by decide +kernel
theorem pn_com_example_evenlot_evenlot_SourceStockPinLaw : plainName "com/example/evenlot/evenlot/SourceStockPinLaw" = true := by first | (simp [plainName, overriddenIn]; done) | decide +kernel
theorem d8_0 : decode zc40 0 = .ok (.iload_n 0, 1) := by decide +kernel
theorem d8_1 : decode zc40 1 = .ok (.ifCond .ne 45, 3) := by decide +kernel
theorem d8_4 : decode zc40 4 = .ok (.new 27, 3) := by decide +kernel
theorem d8_7 : decode zc40 7 = .ok (.dup, 1) := by decide +kernel
theorem d8_8 : decode zc40 8 = .ok (.bipush 6, 2) := by decide +kernel
theorem d8_10 : decode zc40 10 = .ok (.newarray .char, 2) := by decide +kernel
theorem d8_12 : decode zc40 12 = .ok (.dup, 1) := by decide +kernel
theorem d8_13 : decode zc40 13 = .ok (.iconst 0, 1) := by decide +kernel
theorem d8_14 : decode zc40 14 = .ok (.bipush 115, 2) := by decide +kernel
theorem d8_16 : decode zc40 16 = .ok (.castore, 1) := by decide +kernel
theorem d8_17 : decode zc40 17 = .ok (.dup, 1) := by decide +kernel
theorem d8_18 : decode zc40 18 = .ok (.iconst 1, 1) := by decide +kernel
theorem d8_19 : decode zc40 19 = .ok (.bipush 116, 2) := by decide +kernel
theorem d8_21 : decode zc40 21 = .ok (.castore, 1) := by decide +kernel
theorem d8_22 : decode zc40 22 = .ok (.dup, 1) := by decide +kernel
theorem d8_23 : decode zc40 23 = .ok (.iconst 2, 1) := by decide +kernel
theorem d8_24 : decode zc40 24 = .ok (.bipush 111, 2) := by decide +kernel
theorem d8_26 : decode zc40 26 = .ok (.castore, 1) := by decide +kernel
theorem d8_27 : decode zc40 27 = .ok (.dup, 1) := by decide +kernel
theorem d8_28 : decode zc40 28 = .ok (.iconst 3, 1) := by decide +kernel
theorem d8_29 : decode zc40 29 = .ok (.bipush 99, 2) := by decide +kernel
theorem d8_31 : decode zc40 31 = .ok (.castore, 1) := by decide +kernel
theorem d8_32 : decode zc40 32 = .ok (.dup, 1) := by decide +kernel
theorem d8_33 : decode zc40 33 = .ok (.iconst 4, 1) := by decide +kernel
theorem d8_34 : decode zc40 34 = .ok (.bipush 107, 2) := by decide +kernel
theorem d8_36 : decode zc40 36 = .ok (.castore, 1) := by decide +kernel
theorem d8_37 : decode zc40 37 = .ok (.dup, 1) := by decide +kernel
theorem d8_38 : decode zc40 38 = .ok (.iconst 5, 1) := by decide +kernel
theorem d8_39 : decode zc40 39 = .ok (.bipush 47, 2) := by decide +kernel
theorem d8_41 : decode zc40 41 = .ok (.castore, 1) := by decide +kernel
theorem d8_42 : decode zc40 42 = .ok (.invokespecial 46, 3) := by decide +kernel
theorem d8_45 : decode zc40 45 = .ok (.areturn, 1) := by decide +kernel
theorem d8_46 : decode zc40 46 = .ok (.iload_n 0, 1) := by decide +kernel
theorem d8_47 : decode zc40 47 = .ok (.iconst 1, 1) := by decide +kernel
theorem d8_48 : decode zc40 48 = .ok (.if_icmp .ne 50, 3) := by decide +kernel
theorem d8_51 : decode zc40 51 = .ok (.new 27, 3) := by decide +kernel
theorem d8_54 : decode zc40 54 = .ok (.dup, 1) := by decide +kernel
theorem d8_55 : decode zc40 55 = .ok (.bipush 7, 2) := by decide +kernel
theorem d8_57 : decode zc40 57 = .ok (.newarray .char, 2) := by decide +kernel
theorem d8_59 : decode zc40 59 = .ok (.dup, 1) := by decide +kernel
theorem d8_60 : decode zc40 60 = .ok (.iconst 0, 1) := by decide +kernel
theorem d8_61 : decode zc40 61 = .ok (.bipush 115, 2) := by decide +kernel
theorem d8_63 : decode zc40 63 = .ok (.castore, 1) := by decide +kernel
theorem d8_64 : decode zc40 64 = .ok (.dup, 1) := by decide +kernel
theorem d8_65 : decode zc40 65 = .ok (.iconst 1, 1) := by decide +kernel
theorem d8_66 : decode zc40 66 = .ok (.bipush 116, 2) := by decide +kernel
theorem d8_68 : decode zc40 68 = .ok (.castore, 1) := by decide +kernel
theorem d8_69 : decode zc40 69 = .ok (.dup, 1) := by decide +kernel
theorem d8_70 : decode zc40 70 = .ok (.iconst 2, 1) := by decide +kernel
theorem d8_71 : decode zc40 71 = .ok (.bipush 111, 2) := by decide +kernel
theorem d8_73 : decode zc40 73 = .ok (.castore, 1) := by decide +kernel
theorem d8_74 : decode zc40 74 = .ok (.dup, 1) := by decide +kernel
theorem d8_75 : decode zc40 75 = .ok (.iconst 3, 1) := by decide +kernel
theorem d8_76 : decode zc40 76 = .ok (.bipush 99, 2) := by decide +kernel
theorem d8_78 : decode zc40 78 = .ok (.castore, 1) := by decide +kernel
theorem d8_79 : decode zc40 79 = .ok (.dup, 1) := by decide +kernel
theorem d8_80 : decode zc40 80 = .ok (.iconst 4, 1) := by decide +kernel
theorem d8_81 : decode zc40 81 = .ok (.bipush 107, 2) := by decide +kernel
theorem d8_83 : decode zc40 83 = .ok (.castore, 1) := by decide +kernel
theorem d8_84 : decode zc40 84 = .ok (.dup, 1) := by decide +kernel
theorem d8_85 : decode zc40 85 = .ok (.iconst 5, 1) := by decide +kernel
theorem d8_86 : decode zc40 86 = .ok (.bipush 47, 2) := by decide +kernel
theorem d8_88 : decode zc40 88 = .ok (.castore, 1) := by decide +kernel
theorem d8_89 : decode zc40 89 = .ok (.dup, 1) := by decide +kernel
theorem d8_90 : decode zc40 90 = .ok (.bipush 6, 2) := by decide +kernel
theorem d8_92 : decode zc40 92 = .ok (.iload_n 1, 1) := by decide +kernel
theorem d8_93 : decode zc40 93 = .ok (.castore, 1) := by decide +kernel
theorem d8_94 : decode zc40 94 = .ok (.invokespecial 46, 3) := by decide +kernel
theorem d8_97 : decode zc40 97 = .ok (.areturn, 1) := by decide +kernel
theorem d8_98 : decode zc40 98 = .ok (.iload_n 0, 1) := by decide +kernel
theorem d8_99 : decode zc40 99 = .ok (.iconst 2, 1) := by decide +kernel
theorem d8_100 : decode zc40 100 = .ok (.if_icmp .ne 55, 3) := by decide +kernel
theorem d8_103 : decode zc40 103 = .ok (.new 27, 3) := by decide +kernel
theorem d8_106 : decode zc40 106 = .ok (.dup, 1) := by decide +kernel
theorem d8_107 : decode zc40 107 = .ok (.bipush 8, 2) := by decide +kernel
theorem d8_109 : decode zc40 109 = .ok (.newarray .char, 2) := by decide +kernel
theorem d8_111 : decode zc40 111 = .ok (.dup, 1) := by decide +kernel
theorem d8_112 : decode zc40 112 = .ok (.iconst 0, 1) := by decide +kernel
theorem d8_113 : decode zc40 113 = .ok (.bipush 115, 2) := by decide +kernel
theorem d8_115 : decode zc40 115 = .ok (.castore, 1) := by decide +kernel
theorem d8_116 : decode zc40 116 = .ok (.dup, 1) := by decide +kernel
theorem d8_117 : decode zc40 117 = .ok (.iconst 1, 1) := by decide +kernel
theorem d8_118 : decode zc40 118 = .ok (.bipush 116, 2) := by decide +kernel
theorem d8_120 : decode zc40 120 = .ok (.castore, 1) := by decide +kernel
theorem d8_121 : decode zc40 121 = .ok (.dup, 1) := by decide +kernel
theorem d8_122 : decode zc40 122 = .ok (.iconst 2, 1) := by decide +kernel
theorem d8_123 : decode zc40 123 = .ok (.bipush 111, 2) := by decide +kernel
theorem d8_125 : decode zc40 125 = .ok (.castore, 1) := by decide +kernel
theorem d8_126 : decode zc40 126 = .ok (.dup, 1) := by decide +kernel
theorem d8_127 : decode zc40 127 = .ok (.iconst 3, 1) := by decide +kernel
theorem d8_128 : decode zc40 128 = .ok (.bipush 99, 2) := by decide +kernel
theorem d8_130 : decode zc40 130 = .ok (.castore, 1) := by decide +kernel
theorem d8_131 : decode zc40 131 = .ok (.dup, 1) := by decide +kernel
theorem d8_132 : decode zc40 132 = .ok (.iconst 4, 1) := by decide +kernel
theorem d8_133 : decode zc40 133 = .ok (.bipush 107, 2) := by decide +kernel
theorem d8_135 : decode zc40 135 = .ok (.castore, 1) := by decide +kernel
theorem d8_136 : decode zc40 136 = .ok (.dup, 1) := by decide +kernel
theorem d8_137 : decode zc40 137 = .ok (.iconst 5, 1) := by decide +kernel
theorem d8_138 : decode zc40 138 = .ok (.bipush 47, 2) := by decide +kernel
theorem d8_140 : decode zc40 140 = .ok (.castore, 1) := by decide +kernel
theorem d8_141 : decode zc40 141 = .ok (.dup, 1) := by decide +kernel
theorem d8_142 : decode zc40 142 = .ok (.bipush 6, 2) := by decide +kernel
theorem d8_144 : decode zc40 144 = .ok (.iload_n 1, 1) := by decide +kernel
theorem d8_145 : decode zc40 145 = .ok (.castore, 1) := by decide +kernel
theorem d8_146 : decode zc40 146 = .ok (.dup, 1) := by decide +kernel
theorem d8_147 : decode zc40 147 = .ok (.bipush 7, 2) := by decide +kernel
theorem d8_149 : decode zc40 149 = .ok (.iload_n 2, 1) := by decide +kernel
theorem d8_150 : decode zc40 150 = .ok (.castore, 1) := by decide +kernel
theorem d8_151 : decode zc40 151 = .ok (.invokespecial 46, 3) := by decide +kernel
theorem d8_154 : decode zc40 154 = .ok (.areturn, 1) := by decide +kernel
theorem d8_155 : decode zc40 155 = .ok (.new 27, 3) := by decide +kernel
theorem d8_158 : decode zc40 158 = .ok (.dup, 1) := by decide +kernel
theorem d8_159 : decode zc40 159 = .ok (.bipush 9, 2) := by decide +kernel
theorem d8_161 : decode zc40 161 = .ok (.newarray .char, 2) := by decide +kernel
theorem d8_163 : decode zc40 163 = .ok (.dup, 1) := by decide +kernel
theorem d8_164 : decode zc40 164 = .ok (.iconst 0, 1) := by decide +kernel
theorem d8_165 : decode zc40 165 = .ok (.bipush 115, 2) := by decide +kernel
theorem d8_167 : decode zc40 167 = .ok (.castore, 1) := by decide +kernel
theorem d8_168 : decode zc40 168 = .ok (.dup, 1) := by decide +kernel
theorem d8_169 : decode zc40 169 = .ok (.iconst 1, 1) := by decide +kernel
theorem d8_170 : decode zc40 170 = .ok (.bipush 116, 2) := by decide +kernel
theorem d8_172 : decode zc40 172 = .ok (.castore, 1) := by decide +kernel
theorem d8_173 : decode zc40 173 = .ok (.dup, 1) := by decide +kernel
theorem d8_174 : decode zc40 174 = .ok (.iconst 2, 1) := by decide +kernel
theorem d8_175 : decode zc40 175 = .ok (.bipush 111, 2) := by decide +kernel
theorem d8_177 : decode zc40 177 = .ok (.castore, 1) := by decide +kernel
theorem d8_178 : decode zc40 178 = .ok (.dup, 1) := by decide +kernel
theorem d8_179 : decode zc40 179 = .ok (.iconst 3, 1) := by decide +kernel
theorem d8_180 : decode zc40 180 = .ok (.bipush 99, 2) := by decide +kernel
theorem d8_182 : decode zc40 182 = .ok (.castore, 1) := by decide +kernel
theorem d8_183 : decode zc40 183 = .ok (.dup, 1) := by decide +kernel
theorem d8_184 : decode zc40 184 = .ok (.iconst 4, 1) := by decide +kernel
theorem d8_185 : decode zc40 185 = .ok (.bipush 107, 2) := by decide +kernel
theorem d8_187 : decode zc40 187 = .ok (.castore, 1) := by decide +kernel
theorem d8_188 : decode zc40 188 = .ok (.dup, 1) := by decide +kernel
theorem d8_189 : decode zc40 189 = .ok (.iconst 5, 1) := by decide +kernel
theorem d8_190 : decode zc40 190 = .ok (.bipush 47, 2) := by decide +kernel
theorem d8_192 : decode zc40 192 = .ok (.castore, 1) := by decide +kernel
theorem d8_193 : decode zc40 193 = .ok (.dup, 1) := by decide +kernel
theorem d8_194 : decode zc40 194 = .ok (.bipush 6, 2) := by decide +kernel
theorem d8_196 : decode zc40 196 = .ok (.iload_n 1, 1) := by decide +kernel
theorem d8_197 : decode zc40 197 = .ok (.castore, 1) := by decide +kernel
theorem d8_198 : decode zc40 198 = .ok (.dup, 1) := by decide +kernel
theorem d8_199 : decode zc40 199 = .ok (.bipush 7, 2) := by decide +kernel
theorem d8_201 : decode zc40 201 = .ok (.iload_n 2, 1) := by decide +kernel
theorem d8_202 : decode zc40 202 = .ok (.castore, 1) := by decide +kernel
theorem d8_203 : decode zc40 203 = .ok (.dup, 1) := by decide +kernel
theorem d8_204 : decode zc40 204 = .ok (.bipush 8, 2) := by decide +kernel
theorem d8_206 : decode zc40 206 = .ok (.iload_n 3, 1) := by decide +kernel
theorem d8_207 : decode zc40 207 = .ok (.castore, 1) := by decide +kernel
theorem d8_208 : decode zc40 208 = .ok (.invokespecial 46, 3) := by decide +kernel
theorem d8_211 : decode zc40 211 = .ok (.areturn, 1) := by decide +kernel
theorem d11_0 : decode zc32 0 = .ok (.aload_n 0, 1) := by decide +kernel
theorem d11_1 : decode zc32 1 = .ok (.invokespecial 3, 3) := by decide +kernel
theorem d11_4 : decode zc32 4 = .ok (.getstatic 18, 3) := by decide +kernel
theorem d11_7 : decode zc32 7 = .ok (.ifCond .eq 18, 3) := by decide +kernel
theorem d11_10 : decode zc32 10 = .ok (.aload_n 0, 1) := by decide +kernel
theorem d11_11 : decode zc32 11 = .ok (.iload_n 1, 1) := by decide +kernel
theorem d11_12 : decode zc32 12 = .ok (.newarray .byte, 2) := by decide +kernel
theorem d11_14 : decode zc32 14 = .ok (.putfield 15, 3) := by decide +kernel
theorem d11_17 : decode zc32 17 = .ok (.aload_n 0, 1) := by decide +kernel
theorem d11_18 : decode zc32 18 = .ok (.iconst 0, 1) := by decide +kernel
theorem d11_19 : decode zc32 19 = .ok (.putfield 22, 3) := by decide +kernel
theorem d11_22 : decode zc32 22 = .ok (.goto 16, 3) := by decide +kernel
theorem d11_38 : decode zc32 38 = .ok (.return_, 1) := by decide +kernel
theorem pn_java_lang_AbstractStringBuilder : plainName "java/lang/AbstractStringBuilder" = true := by first | (simp [plainName, overriddenIn]; done) | decide +kernel
theorem d10_0 : decode zc27 0 = .ok (.aload_n 0, 1) := by decide +kernel
theorem d10_1 : decode zc27 1 = .ok (.bipush 16, 2) := by decide +kernel
theorem d10_3 : decode zc27 3 = .ok (.invokespecial 1, 3) := by decide +kernel
theorem pd__I_V : parseMethodDescriptor "(I)V" = some ⟨[.int], none⟩ := by decide +kernel
theorem d10_6 : decode zc27 6 = .ok (.return_, 1) := by decide +kernel
theorem pn_java_lang_StringBuilder : plainName "java/lang/StringBuilder" = true := by first | (simp [plainName, overriddenIn]; done) | decide +kernel
theorem d15_0 : decode zc7 0 = .ok (.getstatic 38, 3) := by decide +kernel
theorem d15_3 : decode zc7 3 = .ok (.ifCond .eq 10, 3) := by decide +kernel
theorem d15_6 : decode zc7 6 = .ok (.aload_n 0, 1) := by decide +kernel
theorem d15_7 : decode zc7 7 = .ok (.getfield 15, 3) := by decide +kernel
theorem d15_10 : decode zc7 10 = .ok (.goto 4, 3) := by decide +kernel
theorem d15_14 : decode zc7 14 = .ok (.ireturn, 1) := by decide +kernel
theorem d14_0 : decode zc12 0 = .ok (.aload_n 0, 1) := by decide +kernel
theorem d14_1 : decode zc12 1 = .ok (.getfield 9, 3) := by decide +kernel
theorem d14_4 : decode zc12 4 = .ok (.arraylength, 1) := by decide +kernel
theorem d14_5 : decode zc12 5 = .ok (.aload_n 0, 1) := by decide +kernel
theorem d14_6 : decode zc12 6 = .ok (.invokevirtual 335, 3) := by decide +kernel
theorem pd___B : parseMethodDescriptor "()B" = some ⟨[], some .byte⟩ := by decide +kernel
theorem d14_9 : decode zc12 9 = .ok (.ishr, 1) := by decide +kernel
theorem d14_10 : decode zc12 10 = .ok (.ireturn, 1) := by decide +kernel
theorem d16_0 : decode zc38 0 = .ok (.aload_n 0, 1) := by decide +kernel
theorem d16_1 : decode zc38 1 = .ok (.getfield 15, 3) := by decide +kernel
theorem d16_4 : decode zc38 4 = .ok (.arraylength, 1) := by decide +kernel
theorem d16_5 : decode zc38 5 = .ok (.aload_n 0, 1) := by decide +kernel
theorem d16_6 : decode zc38 6 = .ok (.getfield 22, 3) := by decide +kernel
theorem d16_9 : decode zc38 9 = .ok (.ishr, 1) := by decide +kernel
theorem d16_10 : decode zc38 10 = .ok (.istore_n 2, 1) := by decide +kernel
theorem d16_11 : decode zc38 11 = .ok (.iload_n 1, 1) := by decide +kernel
theorem d16_12 : decode zc38 12 = .ok (.iload_n 2, 1) := by decide +kernel
theorem d16_13 : decode zc38 13 = .ok (.isub, 1) := by decide +kernel
theorem d16_14 : decode zc38 14 = .ok (.ifCond .le 24, 3) := by decide +kernel
theorem d16_38 : decode zc38 38 = .ok (.return_, 1) := by decide +kernel
theorem d18_0 : decode zc36 0 = .ok (.getstatic 18, 3) := by decide +kernel
theorem d18_3 : decode zc36 3 = .ok (.ifCond .eq 18, 3) := by decide +kernel
theorem d18_6 : decode zc36 6 = .ok (.aload_n 0, 1) := by decide +kernel
theorem d18_7 : decode zc36 7 = .ok (.getfield 22, 3) := by decide +kernel
theorem d18_10 : decode zc36 10 = .ok (.aload_n 1, 1) := by decide +kernel
theorem d18_11 : decode zc36 11 = .ok (.invokevirtual 40, 3) := by decide +kernel
theorem d18_14 : decode zc36 14 = .ok (.if_icmp .eq 7, 3) := by decide +kernel
theorem d18_21 : decode zc36 21 = .ok (.return_, 1) := by decide +kernel
theorem d19_0 : decode zc3 0 = .ok (.aload_n 0, 1) := by decide +kernel
theorem d19_1 : decode zc3 1 = .ok (.invokevirtual 335, 3) := by decide +kernel
theorem d19_4 : decode zc3 4 = .ok (.iload_n 3, 1) := by decide +kernel
theorem d19_5 : decode zc3 5 = .ok (.if_icmp .ne 23, 3) := by decide +kernel
theorem d19_8 : decode zc3 8 = .ok (.aload_n 0, 1) := by decide +kernel
theorem d19_9 : decode zc3 9 = .ok (.getfield 9, 3) := by decide +kernel
theorem d19_12 : decode zc3 12 = .ok (.iconst 0, 1) := by decide +kernel
theorem d19_13 : decode zc3 13 = .ok (.aload_n 1, 1) := by decide +kernel
theorem d19_14 : decode zc3 14 = .ok (.iload_n 2, 1) := by decide +kernel
theorem d19_15 : decode zc3 15 = .ok (.iload_n 3, 1) := by decide +kernel
theorem d19_16 : decode zc3 16 = .ok (.ishl, 1) := by decide +kernel
theorem d19_17 : decode zc3 17 = .ok (.aload_n 0, 1) := by decide +kernel
theorem d19_18 : decode zc3 18 = .ok (.getfield 9, 3) := by decide +kernel
theorem d19_21 : decode zc3 21 = .ok (.arraylength, 1) := by decide +kernel
theorem d19_22 : decode zc3 22 = .ok (.invokestatic 212, 3) := by decide +kernel
theorem d19_25 : decode zc3 25 = .ok (.goto 18, 3) := by decide +kernel
theorem d19_43 : decode zc3 43 = .ok (.return_, 1) := by decide +kernel
theorem d17_0 : decode zc37 0 = .ok (.aload_n 0, 1) := by decide +kernel
theorem d17_1 : decode zc37 1 = .ok (.aload_n 2, 1) := by decide +kernel
theorem d17_2 : decode zc37 2 = .ok (.invokevirtual 397, 3) := by decide +kernel
theorem pd__Ljava_lang_String__V : parseMethodDescriptor "(Ljava/lang/String;)V" = some ⟨[(.object "java/lang/String")], none⟩ := by decide +kernel
theorem d17_5 : decode zc37 5 = .ok (.aload_n 2, 1) := by decide +kernel
theorem d17_6 : decode zc37 6 = .ok (.aload_n 0, 1) := by decide +kernel
theorem d17_7 : decode zc37 7 = .ok (.getfield 15, 3) := by decide +kernel
theorem d17_10 : decode zc37 10 = .ok (.iload_n 1, 1) := by decide +kernel
theorem d17_11 : decode zc37 11 = .ok (.aload_n 0, 1) := by decide +kernel
theorem d17_12 : decode zc37 12 = .ok (.getfield 22, 3) := by decide +kernel
theorem d17_15 : decode zc37 15 = .ok (.invokevirtual 399, 3) := by decide +kernel
theorem pd___BIB_V : parseMethodDescriptor "([BIB)V" = some ⟨[(.array .byte), .int, .byte], none⟩ := by decide +kernel
theorem d17_18 : decode zc37 18 = .ok (.return_, 1) := by decide +kernel
theorem d13_0 : decode zc31 0 = .ok (.aload_n 1, 1) := by decide +kernel
theorem d13_1 : decode zc31 1 = .ok (.ifnonnull 8, 3) := by decide +kernel
theorem d13_9 : decode zc31 9 = .ok (.aload_n 1, 1) := by decide +kernel
theorem d13_10 : decode zc31 10 = .ok (.invokevirtual 32, 3) := by decide +kernel
theorem pd___I : parseMethodDescriptor "()I" = some ⟨[], some .int⟩ := by decide +kernel
theorem d13_13 : decode zc31 13 = .ok (.istore_n 2, 1) := by decide +kernel
theorem d13_14 : decode zc31 14 = .ok (.aload_n 0, 1) := by decide +kernel
theorem d13_15 : decode zc31 15 = .ok (.aload_n 0, 1) := by decide +kernel
theorem d13_16 : decode zc31 16 = .ok (.getfield 79, 3) := by decide +kernel
theorem d13_19 : decode zc31 19 = .ok (.iload_n 2, 1) := by decide +kernel
theorem d13_20 : decode zc31 20 = .ok (.iadd, 1) := by decide +kernel
theorem d13_21 : decode zc31 21 = .ok (.invokevirtual 100, 3) := by decide +kernel
theorem d13_24 : decode zc31 24 = .ok (.aload_n 0, 1) := by decide +kernel
theorem d13_25 : decode zc31 25 = .ok (.aload_n 0, 1) := by decide +kernel
theorem d13_26 : decode zc31 26 = .ok (.getfield 79, 3) := by decide +kernel
theorem d13_29 : decode zc31 29 = .ok (.aload_n 1, 1) := by decide +kernel
theorem d13_30 : decode zc31 30 = .ok (.invokevirtual 208, 3) := by decide +kernel
theorem pd__ILjava_lang_String__V : parseMethodDescriptor "(ILjava/lang/String;)V" = some ⟨[.int, (.object "java/lang/String")], none⟩ := by decide +kernel
theorem d13_33 : decode zc31 33 = .ok (.aload_n 0, 1) := by decide +kernel
theorem d13_34 : decode zc31 34 = .ok (.dup, 1) := by decide +kernel
theorem d13_35 : decode zc31 35 = .ok (.getfield 79, 3) := by decide +kernel
theorem d13_38 : decode zc31 38 = .ok (.iload_n 2, 1) := by decide +kernel
theorem d13_39 : decode zc31 39 = .ok (.iadd, 1) := by decide +kernel
theorem d13_40 : decode zc31 40 = .ok (.putfield 79, 3) := by decide +kernel
theorem d13_43 : decode zc31 43 = .ok (.aload_n 0, 1) := by decide +kernel
theorem d13_44 : decode zc31 44 = .ok (.areturn, 1) := by decide +kernel
theorem d12_0 : decode zc29 0 = .ok (.aload_n 0, 1) := by decide +kernel
theorem d12_1 : decode zc29 1 = .ok (.aload_n 1, 1) := by decide +kernel
theorem d12_2 : decode zc29 2 = .ok (.invokespecial 29, 3) := by decide +kernel
theorem pd__Ljava_lang_String__Ljava_lang_AbstractStringBuilder_ : parseMethodDescriptor "(Ljava/lang/String;)Ljava/lang/AbstractStringBuilder;" = some ⟨[(.object "java/lang/String")], some (.object "java/lang/AbstractStringBuilder")⟩ := by decide +kernel
theorem d12_5 : decode zc29 5 = .ok (.pop, 1) := by decide +kernel
theorem d12_6 : decode zc29 6 = .ok (.aload_n 0, 1) := by decide +kernel
theorem d12_7 : decode zc29 7 = .ok (.areturn, 1) := by decide +kernel
theorem d29_0 : decode zc24 0 = .ok (.iload_n 1, 1) := by decide +kernel
theorem d29_1 : decode zc24 1 = .ok (.iload_n 0, 1) := by decide +kernel
theorem d29_2 : decode zc24 2 = .ok (.if_icmp .ge 35, 3) := by decide +kernel
theorem d29_37 : decode zc24 37 = .ok (.return_, 1) := by decide +kernel
theorem pn_java_util_Arrays : plainName "java/util/Arrays" = true := by first | (simp [plainName, overriddenIn]; done) | decide +kernel
theorem d30_0 : decode zc0 0 = .ok (.iload_n 0, 1) := by decide +kernel
theorem d30_1 : decode zc0 1 = .ok (.iload_n 1, 1) := by decide +kernel
theorem d30_2 : decode zc0 2 = .ok (.if_icmp .gt 7, 3) := by decide +kernel
theorem d30_9 : decode zc0 9 = .ok (.iload_n 1, 1) := by decide +kernel
theorem d30_10 : decode zc0 10 = .ok (.ireturn, 1) := by decide +kernel
theorem d28_0 : decode zc26 0 = .ok (.iload_n 1, 1) := by decide +kernel
theorem d28_1 : decode zc26 1 = .ok (.iload_n 2, 1) := by decide +kernel
theorem d28_2 : decode zc26 2 = .ok (.invokestatic 343, 3) := by decide +kernel
theorem pd__II_V : parseMethodDescriptor "(II)V" = some ⟨[.int, .int], none⟩ := by decide +kernel
theorem d28_5 : decode zc26 5 = .ok (.iload_n 2, 1) := by decide +kernel
theorem d28_6 : decode zc26 6 = .ok (.iload_n 1, 1) := by decide +kernel
theorem d28_7 : decode zc26 7 = .ok (.isub, 1) := by decide +kernel
theorem d28_8 : decode zc26 8 = .ok (.istore_n 3, 1) := by decide +kernel
theorem d28_9 : decode zc26 9 = .ok (.iload_n 3, 1) := by decide +kernel
theorem d28_10 : decode zc26 10 = .ok (.newarray .byte, 2) := by decide +kernel
theorem d28_12 : decode zc26 12 = .ok (.astore 4, 2) := by decide +kernel
theorem d28_14 : decode zc26 14 = .ok (.aload_n 0, 1) := by decide +kernel
theorem d28_15 : decode zc26 15 = .ok (.iload_n 1, 1) := by decide +kernel
theorem d28_16 : decode zc26 16 = .ok (.aload 4, 2) := by decide +kernel
theorem d28_18 : decode zc26 18 = .ok (.iconst 0, 1) := by decide +kernel
theorem d28_19 : decode zc26 19 = .ok (.aload_n 0, 1) := by decide +kernel
theorem d28_20 : decode zc26 20 = .ok (.arraylength, 1) := by decide +kernel
theorem d28_21 : decode zc26 21 = .ok (.iload_n 1, 1) := by decide +kernel
theorem d28_22 : decode zc26 22 = .ok (.isub, 1) := by decide +kernel
theorem d28_23 : decode zc26 23 = .ok (.iload_n 3, 1) := by decide +kernel
theorem d28_24 : decode zc26 24 = .ok (.invokestatic 304, 3) := by decide +kernel
theorem pd__II_I : parseMethodDescriptor "(II)I" = some ⟨[.int, .int], some .int⟩ := by decide +kernel
theorem d28_27 : decode zc26 27 = .ok (.invokestatic 150, 3) := by decide +kernel
theorem d28_30 : decode zc26 30 = .ok (.aload 4, 2) := by decide +kernel
theorem d28_32 : decode zc26 32 = .ok (.areturn, 1) := by decide +kernel
theorem d27_0 : decode zc25 0 = .ok (.iload_n 1, 1) := by decide +kernel
theorem d27_1 : decode zc25 1 = .ok (.ifCond .ne 9, 3) := by decide +kernel
theorem d27_4 : decode zc25 4 = .ok (.iload_n 2, 1) := by decide +kernel
theorem d27_5 : decode zc25 5 = .ok (.aload_n 0, 1) := by decide +kernel
theorem d27_6 : decode zc25 6 = .ok (.arraylength, 1) := by decide +kernel
theorem d27_7 : decode zc25 7 = .ok (.if_icmp .eq 10, 3) := by decide +kernel
theorem d27_10 : decode zc25 10 = .ok (.aload_n 0, 1) := by decide +kernel
theorem d27_11 : decode zc25 11 = .ok (.iload_n 1, 1) := by decide +kernel
theorem d27_12 : decode zc25 12 = .ok (.iload_n 2, 1) := by decide +kernel
theorem d27_13 : decode zc25 13 = .ok (.invokestatic 339, 3) := by decide +kernel
theorem pd___BII__B : parseMethodDescriptor "([BII)[B" = some ⟨[(.array .byte), .int, .int], some (.array .byte)⟩ := by decide +kernel
theorem d27_16 : decode zc25 16 = .ok (.areturn, 1) := by decide +kernel
theorem d23_0 : decode zc33 0 = .ok (.aload_n 0, 1) := by decide +kernel
theorem d23_1 : decode zc33 1 = .ok (.getfield 15, 3) := by decide +kernel
theorem d23_4 : decode zc33 4 = .ok (.areturn, 1) := by decide +kernel
theorem d26_0 : decode zc34 0 = .ok (.getstatic 18, 3) := by decide +kernel
theorem d26_3 : decode zc34 3 = .ok (.ifCond .eq 14, 3) := by decide +kernel
theorem d26_6 : decode zc34 6 = .ok (.aload_n 0, 1) := by decide +kernel
theorem d26_7 : decode zc34 7 = .ok (.getfield 22, 3) := by decide +kernel
theorem d26_10 : decode zc34 10 = .ok (.ifCond .ne 7, 3) := by decide +kernel
theorem d26_13 : decode zc34 13 = .ok (.iconst 1, 1) := by decide +kernel
theorem d26_14 : decode zc34 14 = .ok (.goto 4, 3) := by decide +kernel
theorem d26_18 : decode zc34 18 = .ok (.ireturn, 1) := by decide +kernel
theorem d25_0 : decode zc35 0 = .ok (.aload_n 0, 1) := by decide +kernel
theorem d25_1 : decode zc35 1 = .ok (.getfield 79, 3) := by decide +kernel
theorem d25_4 : decode zc35 4 = .ok (.ireturn, 1) := by decide +kernel
theorem d24_0 : decode zc30 0 = .ok (.aload_n 0, 1) := by decide +kernel
theorem d24_1 : decode zc30 1 = .ok (.invokespecial 343, 3) := by decide +kernel
theorem d24_4 : decode zc30 4 = .ok (.ireturn, 1) := by decide +kernel
theorem d22_0 : decode zc5 0 = .ok (.aload_n 0, 1) := by decide +kernel
theorem d22_1 : decode zc5 1 = .ok (.invokespecial 1, 3) := by decide +kernel
theorem d22_4 : decode zc5 4 = .ok (.aload_n 1, 1) := by decide +kernel
theorem d22_5 : decode zc5 5 = .ok (.invokevirtual 552, 3) := by decide +kernel
theorem pd____B : parseMethodDescriptor "()[B" = some ⟨[], some (.array .byte)⟩ := by decide +kernel
theorem d22_8 : decode zc5 8 = .ok (.astore_n 3, 1) := by decide +kernel
theorem d22_9 : decode zc5 9 = .ok (.aload_n 1, 1) := by decide +kernel
theorem d22_10 : decode zc5 10 = .ok (.invokevirtual 549, 3) := by decide +kernel
theorem d22_13 : decode zc5 13 = .ok (.istore 4, 2) := by decide +kernel
theorem d22_15 : decode zc5 15 = .ok (.aload_n 1, 1) := by decide +kernel
theorem d22_16 : decode zc5 16 = .ok (.invokevirtual 1047, 3) := by decide +kernel
theorem pd___Z : parseMethodDescriptor "()Z" = some ⟨[], some .boolean⟩ := by decide +kernel
theorem d22_19 : decode zc5 19 = .ok (.ifCond .eq 22, 3) := by decide +kernel
theorem d22_22 : decode zc5 22 = .ok (.aload_n 0, 1) := by decide +kernel
theorem d22_23 : decode zc5 23 = .ok (.iconst 0, 1) := by decide +kernel
theorem d22_24 : decode zc5 24 = .ok (.putfield 15, 3) := by decide +kernel
theorem d22_27 : decode zc5 27 = .ok (.aload_n 0, 1) := by decide +kernel
theorem d22_28 : decode zc5 28 = .ok (.aload_n 3, 1) := by decide +kernel
theorem d22_29 : decode zc5 29 = .ok (.iconst 0, 1) := by decide +kernel
theorem d22_30 : decode zc5 30 = .ok (.iload 4, 2) := by decide +kernel
theorem d22_32 : decode zc5 32 = .ok (.invokestatic 54, 3) := by decide +kernel
theorem d22_35 : decode zc5 35 = .ok (.putfield 9, 3) := by decide +kernel
theorem d22_38 : decode zc5 38 = .ok (.goto 59, 3) := by decide +kernel
theorem d22_97 : decode zc5 97 = .ok (.return_, 1) := by decide +kernel
theorem d21_0 : decode zc11 0 = .ok (.aload_n 0, 1) := by decide +kernel
theorem d21_1 : decode zc11 1 = .ok (.aload_n 1, 1) := by decide +kernel
theorem d21_2 : decode zc11 2 = .ok (.aconst_null, 1) := by decide +kernel
theorem d21_3 : decode zc11 3 = .ok (.invokespecial 489, 3) := by decide +kernel
theorem pd__Ljava_lang_AbstractStringBuilder_Ljava_lang_Void__V : parseMethodDescriptor "(Ljava/lang/AbstractStringBuilder;Ljava/lang/Void;)V" = some ⟨[(.object "java/lang/AbstractStringBuilder"), (.object "java/lang/Void")], none⟩ := by decide +kernel
theorem d21_6 : decode zc11 6 = .ok (.return_, 1) := by decide +kernel
theorem d20_0 : decode zc28 0 = .ok (.new 18, 3) := by decide +kernel
theorem d20_3 : decode zc28 3 = .ok (.dup, 1) := by decide +kernel
theorem d20_4 : decode zc28 4 = .ok (.aload_n 0, 1) := by decide +kernel
theorem d20_5 : decode zc28 5 = .ok (.invokespecial 137, 3) := by decide +kernel
theorem pd__Ljava_lang_StringBuilder__V : parseMethodDescriptor "(Ljava/lang/StringBuilder;)V" = some ⟨[(.object "java/lang/StringBuilder")], none⟩ := by decide +kernel
theorem d20_8 : decode zc28 8 = .ok (.areturn, 1) := by decide +kernel
theorem d32_0 : decode zc1 0 = .ok (.aload_n 0, 1) := by decide +kernel
theorem d32_1 : decode zc1 1 = .ok (.invokespecial 1, 3) := by decide +kernel
theorem d32_4 : decode zc1 4 = .ok (.return_, 1) := by decide +kernel
theorem pn_java_lang_Record : plainName "java/lang/Record" = true := by first | (simp [plainName, overriddenIn]; done) | decide +kernel
theorem d31_0 : decode zc44 0 = .ok (.aload_n 0, 1) := by decide +kernel
theorem d31_1 : decode zc44 1 = .ok (.invokespecial 1, 3) := by decide +kernel
theorem pd___V : parseMethodDescriptor "()V" = some ⟨[], none⟩ := by decide +kernel
theorem d31_4 : decode zc44 4 = .ok (.aload_n 0, 1) := by decide +kernel
theorem d31_5 : decode zc44 5 = .ok (.aload_n 1, 1) := by decide +kernel
theorem d31_6 : decode zc44 6 = .ok (.putfield 7, 3) := by decide +kernel
theorem d31_9 : decode zc44 9 = .ok (.aload_n 0, 1) := by decide +kernel
theorem d31_10 : decode zc44 10 = .ok (.aload_n 2, 1) := by decide +kernel
theorem d31_11 : decode zc44 11 = .ok (.putfield 13, 3) := by decide +kernel
theorem d31_14 : decode zc44 14 = .ok (.aload_n 0, 1) := by decide +kernel
theorem d31_15 : decode zc44 15 = .ok (.iload_n 3, 1) := by decide +kernel
theorem d31_16 : decode zc44 16 = .ok (.putfield 16, 3) := by decide +kernel
theorem d31_19 : decode zc44 19 = .ok (.return_, 1) := by decide +kernel
theorem pn_com_example_evenlot_evenlot_Source : plainName "com/example/evenlot/evenlot/Source" = true := by first | (simp [plainName, overriddenIn]; done) | decide +kernel
theorem d9_0 : decode zc45 0 = .ok (.new 8, 3) := by decide +kernel
theorem d9_3 : decode zc45 3 = .ok (.dup, 1) := by decide +kernel
theorem d9_4 : decode zc45 4 = .ok (.aload_n 0, 1) := by decide +kernel
theorem d9_5 : decode zc45 5 = .ok (.new 20, 3) := by decide +kernel
theorem d9_8 : decode zc45 8 = .ok (.dup, 1) := by decide +kernel
theorem d9_9 : decode zc45 9 = .ok (.invokespecial 22, 3) := by decide +kernel
theorem d9_12 : decode zc45 12 = .ok (.ldc 23, 2) := by decide +kernel
theorem d9_14 : decode zc45 14 = .ok (.invokevirtual 25, 3) := by decide +kernel
theorem pd__Ljava_lang_String__Ljava_lang_StringBuilder_ : parseMethodDescriptor "(Ljava/lang/String;)Ljava/lang/StringBuilder;" = some ⟨[(.object "java/lang/String")], some (.object "java/lang/StringBuilder")⟩ := by decide +kernel
theorem d9_17 : decode zc45 17 = .ok (.aload_n 1, 1) := by decide +kernel
theorem d9_18 : decode zc45 18 = .ok (.invokevirtual 25, 3) := by decide +kernel
theorem d9_21 : decode zc45 21 = .ok (.invokevirtual 29, 3) := by decide +kernel
theorem pd___Ljava_lang_String_ : parseMethodDescriptor "()Ljava/lang/String;" = some ⟨[], some (.object "java/lang/String")⟩ := by decide +kernel
theorem d9_24 : decode zc45 24 = .ok (.iconst 0, 1) := by decide +kernel
theorem d9_25 : decode zc45 25 = .ok (.invokespecial 33, 3) := by decide +kernel
theorem pd__Ljava_lang_String_Ljava_lang_String_I_V : parseMethodDescriptor "(Ljava/lang/String;Ljava/lang/String;I)V" = some ⟨[(.object "java/lang/String"), (.object "java/lang/String"), .int], none⟩ := by decide +kernel
theorem d9_28 : decode zc45 28 = .ok (.areturn, 1) := by decide +kernel
theorem d33_0 : decode zc41 0 = .ok (.aload_n 0, 1) := by decide +kernel
theorem d33_1 : decode zc41 1 = .ok (.getfield 7, 3) := by decide +kernel
theorem d33_4 : decode zc41 4 = .ok (.areturn, 1) := by decide +kernel
theorem d35_0 : decode zc42 0 = .ok (.aload_n 0, 1) := by decide +kernel
theorem d35_1 : decode zc42 1 = .ok (.getfield 13, 3) := by decide +kernel
theorem d35_4 : decode zc42 4 = .ok (.areturn, 1) := by decide +kernel
theorem d37_0 : decode zc43 0 = .ok (.aload_n 0, 1) := by decide +kernel
theorem d37_1 : decode zc43 1 = .ok (.getfield 16, 3) := by decide +kernel
theorem d37_4 : decode zc43 4 = .ok (.ireturn, 1) := by decide +kernel
theorem d34_0 : decode zc13 0 = .ok (.aload_n 0, 1) := by decide +kernel
theorem d34_1 : decode zc13 1 = .ok (.aload_n 1, 1) := by decide +kernel
theorem d34_2 : decode zc13 2 = .ok (.if_acmp .ne 5, 3) := by decide +kernel
theorem d34_5 : decode zc13 5 = .ok (.iconst 1, 1) := by decide +kernel
theorem d34_6 : decode zc13 6 = .ok (.ireturn, 1) := by decide +kernel
theorem d36_0 : decode zc18 0 = .ok (.aload_n 0, 1) := by decide +kernel
theorem d36_1 : decode zc18 1 = .ok (.arraylength, 1) := by decide +kernel
theorem d36_2 : decode zc18 2 = .ok (.aload_n 1, 1) := by decide +kernel
theorem d36_3 : decode zc18 3 = .ok (.arraylength, 1) := by decide +kernel
theorem d36_4 : decode zc18 4 = .ok (.if_icmp .ne 30, 3) := by decide +kernel
theorem d36_7 : decode zc18 7 = .ok (.iconst 0, 1) := by decide +kernel
theorem d36_8 : decode zc18 8 = .ok (.istore_n 2, 1) := by decide +kernel
theorem d36_9 : decode zc18 9 = .ok (.iload_n 2, 1) := by decide +kernel
theorem d36_10 : decode zc18 10 = .ok (.aload_n 0, 1) := by decide +kernel
theorem d36_11 : decode zc18 11 = .ok (.arraylength, 1) := by decide +kernel
theorem d36_12 : decode zc18 12 = .ok (.if_icmp .ge 20, 3) := by decide +kernel
theorem d36_15 : decode zc18 15 = .ok (.aload_n 0, 1) := by decide +kernel
theorem d36_16 : decode zc18 16 = .ok (.iload_n 2, 1) := by decide +kernel
theorem d36_17 : decode zc18 17 = .ok (.baload, 1) := by decide +kernel
theorem d36_18 : decode zc18 18 = .ok (.aload_n 1, 1) := by decide +kernel
theorem d36_19 : decode zc18 19 = .ok (.iload_n 2, 1) := by decide +kernel
theorem d36_20 : decode zc18 20 = .ok (.baload, 1) := by decide +kernel
theorem d36_21 : decode zc18 21 = .ok (.if_icmp .eq 5, 3) := by decide +kernel
theorem d36_26 : decode zc18 26 = .ok (.iinc 2 1, 3) := by decide +kernel
theorem d36_29 : decode zc18 29 = .ok (.goto (-20), 3) := by decide +kernel
theorem d36_32 : decode zc18 32 = .ok (.iconst 1, 1) := by decide +kernel
theorem d36_33 : decode zc18 33 = .ok (.ireturn, 1) := by decide +kernel
theorem pn_java_lang_StringLatin1 : plainName "java/lang/StringLatin1" = true := by first | (simp [plainName, overriddenIn]; done) | decide +kernel
theorem d34_7 : decode zc13 7 = .ok (.aload_n 1, 1) := by decide +kernel
theorem d34_8 : decode zc13 8 = .ok (.instanceof 10, 3) := by decide +kernel
theorem d34_11 : decode zc13 11 = .ok (.ifCond .eq 43, 3) := by decide +kernel
theorem d34_14 : decode zc13 14 = .ok (.aload_n 1, 1) := by decide +kernel
theorem d34_15 : decode zc13 15 = .ok (.checkcast 10, 3) := by decide +kernel
theorem d34_18 : decode zc13 18 = .ok (.astore_n 2, 1) := by decide +kernel
theorem d34_19 : decode zc13 19 = .ok (.getstatic 38, 3) := by decide +kernel
theorem d34_22 : decode zc13 22 = .ok (.ifCond .eq 14, 3) := by decide +kernel
theorem d34_25 : decode zc13 25 = .ok (.aload_n 0, 1) := by decide +kernel
theorem d34_26 : decode zc13 26 = .ok (.getfield 15, 3) := by decide +kernel
theorem d34_29 : decode zc13 29 = .ok (.aload_n 2, 1) := by decide +kernel
theorem d34_30 : decode zc13 30 = .ok (.getfield 15, 3) := by decide +kernel
theorem d34_33 : decode zc13 33 = .ok (.if_icmp .ne 21, 3) := by decide +kernel
theorem d34_36 : decode zc13 36 = .ok (.aload_n 0, 1) := by decide +kernel
theorem d34_37 : decode zc13 37 = .ok (.getfield 9, 3) := by decide +kernel
theorem d34_40 : decode zc13 40 = .ok (.aload_n 2, 1) := by decide +kernel
theorem d34_41 : decode zc13 41 = .ok (.getfield 9, 3) := by decide +kernel
theorem d34_44 : decode zc13 44 = .ok (.invokestatic 541, 3) := by decide +kernel
theorem pd___B_B_Z : parseMethodDescriptor "([B[B)Z" = some ⟨[(.array .byte), (.array .byte)], some .boolean⟩ := by decide +kernel
theorem d34_47 : decode zc13 47 = .ok (.ifCond .eq 7, 3) := by decide +kernel
theorem d34_50 : decode zc13 50 = .ok (.iconst 1, 1) := by decide +kernel
theorem d34_51 : decode zc13 51 = .ok (.goto 4, 3) := by decide +kernel
theorem d34_55 : decode zc13 55 = .ok (.ireturn, 1) := by decide +kernel
theorem d46_0 : decode zc2 0 = .ok (.iload_n 0, 1) := by decide +kernel
theorem d46_1 : decode zc2 1 = .ok (.ifCond .lt 13, 3) := by decide +kernel
theorem d46_4 : decode zc2 4 = .ok (.iload_n 0, 1) := by decide +kernel
theorem d46_5 : decode zc2 5 = .ok (.iload_n 1, 1) := by decide +kernel
theorem d46_6 : decode zc2 6 = .ok (.if_icmp .gt 8, 3) := by decide +kernel
theorem d46_9 : decode zc2 9 = .ok (.iload_n 1, 1) := by decide +kernel
theorem d46_10 : decode zc2 10 = .ok (.iload_n 2, 1) := by decide +kernel
theorem d46_11 : decode zc2 11 = .ok (.if_icmp .le 11, 3) := by decide +kernel
theorem d46_22 : decode zc2 22 = .ok (.iload_n 0, 1) := by decide +kernel
theorem d46_23 : decode zc2 23 = .ok (.ireturn, 1) := by decide +kernel
theorem pn_jdk_internal_util_Preconditions : plainName "jdk/internal/util/Preconditions" = true := by first | (simp [plainName, overriddenIn]; done) | decide +kernel
theorem d45_0 : decode zc9 0 = .ok (.iload_n 0, 1) := by decide +kernel
theorem d45_1 : decode zc9 1 = .ok (.iload_n 1, 1) := by decide +kernel
theorem d45_2 : decode zc9 2 = .ok (.iload_n 2, 1) := by decide +kernel
theorem d45_3 : decode zc9 3 = .ok (.getstatic 1053, 3) := by decide +kernel
theorem d45_6 : decode zc9 6 = .ok (.invokestatic 1062, 3) := by decide +kernel
theorem pd__IIILjava_util_function_BiFunction__I : parseMethodDescriptor "(IIILjava/util/function/BiFunction;)I" = some ⟨[.int, .int, .int, (.object "java/util/function/BiFunction")], some .int⟩ := by decide +kernel
theorem d45_9 : decode zc9 9 = .ok (.pop, 1) := by decide +kernel
theorem d45_10 : decode zc9 10 = .ok (.return_, 1) := by decide +kernel
theorem d41_0 : decode zc20 0 = .ok (.iconst 0, 1) := by decide +kernel
theorem d41_1 : decode zc20 1 = .ok (.istore 5, 2) := by decide +kernel
theorem d41_3 : decode zc20 3 = .ok (.iload 4, 2) := by decide +kernel
theorem d41_5 : decode zc20 5 = .ok (.bipush 7, 2) := by decide +kernel
theorem d41_7 : decode zc20 7 = .ok (.if_icmp .le 63, 3) := by decide +kernel
theorem d41_70 : decode zc20 70 = .ok (.iload 5, 2) := by decide +kernel
theorem d41_72 : decode zc20 72 = .ok (.iload 4, 2) := by decide +kernel
theorem d41_74 : decode zc20 74 = .ok (.if_icmp .ge 27, 3) := by decide +kernel
theorem d41_77 : decode zc20 77 = .ok (.aload_n 0, 1) := by decide +kernel
theorem d41_78 : decode zc20 78 = .ok (.iload_n 1, 1) := by decide +kernel
theorem d41_79 : decode zc20 79 = .ok (.iload 5, 2) := by decide +kernel
theorem d41_81 : decode zc20 81 = .ok (.iadd, 1) := by decide +kernel
theorem d41_82 : decode zc20 82 = .ok (.baload, 1) := by decide +kernel
theorem d41_83 : decode zc20 83 = .ok (.aload_n 2, 1) := by decide +kernel
theorem d41_84 : decode zc20 84 = .ok (.iload_n 3, 1) := by decide +kernel
theorem d41_85 : decode zc20 85 = .ok (.iload 5, 2) := by decide +kernel
theorem d41_87 : decode zc20 87 = .ok (.iadd, 1) := by decide +kernel
theorem d41_88 : decode zc20 88 = .ok (.baload, 1) := by decide +kernel
theorem d41_89 : decode zc20 89 = .ok (.if_icmp .eq 6, 3) := by decide +kernel
theorem d41_92 : decode zc20 92 = .ok (.iload 5, 2) := by decide +kernel
theorem d41_94 : decode zc20 94 = .ok (.ireturn, 1) := by decide +kernel
theorem pn_jdk_internal_util_ArraysSupport : plainName "jdk/internal/util/ArraysSupport" = true := by first | (simp [plainName, overriddenIn]; done) | decide +kernel
theorem d40_0 : decode zc14 0 = .ok (.iload_n 2, 1) := by decide +kernel
theorem d40_1 : decode zc14 1 = .ok (.ifCond .lt 16, 3) := by decide +kernel
theorem d40_4 : decode zc14 4 = .ok (.iload_n 2, 1) := by decide +kernel
theorem d40_5 : decode zc14 5 = .ok (.aload_n 0, 1) := by decide +kernel
theorem d40_6 : decode zc14 6 = .ok (.invokevirtual 505, 3) := by decide +kernel
theorem d40_9 : decode zc14 9 = .ok (.aload_n 1, 1) := by decide +kernel
theorem d40_10 : decode zc14 10 = .ok (.invokevirtual 505, 3) := by decide +kernel
theorem d40_13 : decode zc14 13 = .ok (.isub, 1) := by decide +kernel
theorem d40_14 : decode zc14 14 = .ok (.if_icmp .le 5, 3) := by decide +kernel
theorem d40_19 : decode zc14 19 = .ok (.aload_n 0, 1) := by decide +kernel
theorem d40_20 : decode zc14 20 = .ok (.getfield 9, 3) := by decide +kernel
theorem d40_23 : decode zc14 23 = .ok (.astore_n 3, 1) := by decide +kernel
theorem d40_24 : decode zc14 24 = .ok (.aload_n 1, 1) := by decide +kernel
theorem d40_25 : decode zc14 25 = .ok (.getfield 9, 3) := by decide +kernel
theorem d40_28 : decode zc14 28 = .ok (.astore 4, 2) := by decide +kernel
theorem d40_30 : decode zc14 30 = .ok (.iconst 0, 1) := by decide +kernel
theorem d40_31 : decode zc14 31 = .ok (.istore 5, 2) := by decide +kernel
theorem d40_33 : decode zc14 33 = .ok (.aload 4, 2) := by decide +kernel
theorem d40_35 : decode zc14 35 = .ok (.arraylength, 1) := by decide +kernel
theorem d40_36 : decode zc14 36 = .ok (.istore 6, 2) := by decide +kernel
theorem d40_38 : decode zc14 38 = .ok (.aload_n 0, 1) := by decide +kernel
theorem d40_39 : decode zc14 39 = .ok (.invokevirtual 335, 3) := by decide +kernel
theorem d40_42 : decode zc14 42 = .ok (.istore 7, 2) := by decide +kernel
theorem d40_44 : decode zc14 44 = .ok (.iload 7, 2) := by decide +kernel
theorem d40_46 : decode zc14 46 = .ok (.aload_n 1, 1) := by decide +kernel
theorem d40_47 : decode zc14 47 = .ok (.invokevirtual 335, 3) := by decide +kernel
theorem d40_50 : decode zc14 50 = .ok (.if_icmp .ne 32, 3) := by decide +kernel
theorem d40_53 : decode zc14 53 = .ok (.iload 7, 2) := by decide +kernel
theorem d40_55 : decode zc14 55 = .ok (.iconst 1, 1) := by decide +kernel
theorem d40_56 : decode zc14 56 = .ok (.if_icmp .ne 7, 3) := by decide +kernel
theorem d40_63 : decode zc14 63 = .ok (.aload_n 3, 1) := by decide +kernel
theorem d40_64 : decode zc14 64 = .ok (.iload_n 2, 1) := by decide +kernel
theorem d40_65 : decode zc14 65 = .ok (.aload 4, 2) := by decide +kernel
theorem d40_67 : decode zc14 67 = .ok (.iconst 0, 1) := by decide +kernel
theorem d40_68 : decode zc14 68 = .ok (.iload 6, 2) := by decide +kernel
theorem d40_70 : decode zc14 70 = .ok (.invokestatic 607, 3) := by decide +kernel
theorem pd___BI_BII_I : parseMethodDescriptor "([BI[BII)I" = some ⟨[(.array .byte), .int, (.array .byte), .int, .int], some .int⟩ := by decide +kernel
theorem d40_73 : decode zc14 73 = .ok (.ifCond .ge 7, 3) := by decide +kernel
theorem d40_80 : decode zc14 80 = .ok (.iconst 0, 1) := by decide +kernel
theorem d40_81 : decode zc14 81 = .ok (.ireturn, 1) := by decide +kernel
theorem d39_0 : decode zc15 0 = .ok (.aload_n 0, 1) := by decide +kernel
theorem d39_1 : decode zc15 1 = .ok (.aload_n 1, 1) := by decide +kernel
theorem d39_2 : decode zc15 2 = .ok (.iconst 0, 1) := by decide +kernel
theorem d39_3 : decode zc15 3 = .ok (.invokevirtual 624, 3) := by decide +kernel
theorem pd__Ljava_lang_String_I_Z : parseMethodDescriptor "(Ljava/lang/String;I)Z" = some ⟨[(.object "java/lang/String"), .int], some .boolean⟩ := by decide +kernel
theorem d39_6 : decode zc15 6 = .ok (.ireturn, 1) := by decide +kernel
theorem d38_0 : decode zc47 0 = .ok (.aload_n 0, 1) := by decide +kernel
theorem d38_1 : decode zc47 1 = .ok (.getfield 13, 3) := by decide +kernel
theorem d38_4 : decode zc47 4 = .ok (.ldc 36, 2) := by decide +kernel
theorem d38_6 : decode zc47 6 = .ok (.invokevirtual 62, 3) := by decide +kernel
theorem pd__Ljava_lang_String__Z : parseMethodDescriptor "(Ljava/lang/String;)Z" = some ⟨[(.object "java/lang/String")], some .boolean⟩ := by decide +kernel
theorem d38_9 : decode zc47 9 = .ok (.ireturn, 1) := by decide +kernel
theorem d47_0 : decode zc8 0 = .ok (.getstatic 38, 3) := by decide +kernel
theorem d47_3 : decode zc8 3 = .ok (.ifCond .eq 14, 3) := by decide +kernel
theorem d47_6 : decode zc8 6 = .ok (.aload_n 0, 1) := by decide +kernel
theorem d47_7 : decode zc8 7 = .ok (.getfield 15, 3) := by decide +kernel
theorem d47_10 : decode zc8 10 = .ok (.ifCond .ne 7, 3) := by decide +kernel
theorem d47_13 : decode zc8 13 = .ok (.iconst 1, 1) := by decide +kernel
theorem d47_14 : decode zc8 14 = .ok (.goto 4, 3) := by decide +kernel
theorem d47_18 : decode zc8 18 = .ok (.ireturn, 1) := by decide +kernel
theorem d48_0 : decode zc19 0 = .ok (.iload_n 2, 1) := by decide +kernel
theorem d48_1 : decode zc19 1 = .ok (.ifCond .ne 6, 3) := by decide +kernel
theorem d48_4 : decode zc19 4 = .ok (.ldc 151, 2) := by decide +kernel
theorem d48_6 : decode zc19 6 = .ok (.areturn, 1) := by decide +kernel
theorem d44_0 : decode zc17 0 = .ok (.aload_n 0, 1) := by decide +kernel
theorem d44_1 : decode zc17 1 = .ok (.invokevirtual 505, 3) := by decide +kernel
theorem d44_4 : decode zc17 4 = .ok (.istore_n 3, 1) := by decide +kernel
theorem d44_5 : decode zc17 5 = .ok (.iload_n 1, 1) := by decide +kernel
theorem d44_6 : decode zc17 6 = .ok (.iload_n 2, 1) := by decide +kernel
theorem d44_7 : decode zc17 7 = .ok (.iload_n 3, 1) := by decide +kernel
theorem d44_8 : decode zc17 8 = .ok (.invokestatic 521, 3) := by decide +kernel
theorem pd__III_V : parseMethodDescriptor "(III)V" = some ⟨[.int, .int, .int], none⟩ := by decide +kernel
theorem d44_11 : decode zc17 11 = .ok (.iload_n 1, 1) := by decide +kernel
theorem d44_12 : decode zc17 12 = .ok (.ifCond .ne 10, 3) := by decide +kernel
theorem d44_22 : decode zc17 22 = .ok (.iload_n 2, 1) := by decide +kernel
theorem d44_23 : decode zc17 23 = .ok (.iload_n 1, 1) := by decide +kernel
theorem d44_24 : decode zc17 24 = .ok (.isub, 1) := by decide +kernel
theorem d44_25 : decode zc17 25 = .ok (.istore 4, 2) := by decide +kernel
theorem d44_27 : decode zc17 27 = .ok (.aload_n 0, 1) := by decide +kernel
theorem d44_28 : decode zc17 28 = .ok (.invokevirtual 492, 3) := by decide +kernel
theorem d44_31 : decode zc17 31 = .ok (.ifCond .eq 16, 3) := by decide +kernel
theorem d44_34 : decode zc17 34 = .ok (.aload_n 0, 1) := by decide +kernel
theorem d44_35 : decode zc17 35 = .ok (.getfield 9, 3) := by decide +kernel
theorem d44_38 : decode zc17 38 = .ok (.iload_n 1, 1) := by decide +kernel
theorem d44_39 : decode zc17 39 = .ok (.iload 4, 2) := by decide +kernel
theorem d44_41 : decode zc17 41 = .ok (.invokestatic 685, 3) := by decide +kernel
theorem pd___BII_Ljava_lang_String_ : parseMethodDescriptor "([BII)Ljava/lang/String;" = some ⟨[(.array .byte), .int, .int], some (.object "java/lang/String")⟩ := by decide +kernel
theorem d44_44 : decode zc17 44 = .ok (.goto 13, 3) := by decide +kernel
theorem d44_57 : decode zc17 57 = .ok (.areturn, 1) := by decide +kernel
theorem d43_0 : decode zc16 0 = .ok (.aload_n 0, 1) := by decide +kernel
theorem d43_1 : decode zc16 1 = .ok (.iload_n 1, 1) := by decide +kernel
theorem d43_2 : decode zc16 2 = .ok (.aload_n 0, 1) := by decide +kernel
theorem d43_3 : decode zc16 3 = .ok (.invokevirtual 505, 3) := by decide +kernel
theorem d43_6 : decode zc16 6 = .ok (.invokevirtual 681, 3) := by decide +kernel
theorem pd__II_Ljava_lang_String_ : parseMethodDescriptor "(II)Ljava/lang/String;" = some ⟨[.int, .int], some (.object "java/lang/String")⟩ := by decide +kernel
theorem d43_9 : decode zc16 9 = .ok (.areturn, 1) := by decide +kernel
theorem d42_0 : decode zc46 0 = .ok (.aload_n 0, 1) := by decide +kernel
theorem d42_1 : decode zc46 1 = .ok (.invokevirtual 38, 3) := by decide +kernel
theorem d42_4 : decode zc46 4 = .ok (.ifCond .eq 30, 3) := by decide +kernel
theorem d42_34 : decode zc46 34 = .ok (.aload_n 0, 1) := by decide +kernel
theorem d42_35 : decode zc46 35 = .ok (.getfield 13, 3) := by decide +kernel
theorem d42_38 : decode zc46 38 = .ok (.ldc 23, 2) := by decide +kernel
theorem d42_40 : decode zc46 40 = .ok (.invokevirtual 52, 3) := by decide +kernel
theorem d42_43 : decode zc46 43 = .ok (.invokevirtual 58, 3) := by decide +kernel
theorem pd__I_Ljava_lang_String_ : parseMethodDescriptor "(I)Ljava/lang/String;" = some ⟨[.int], some (.object "java/lang/String")⟩ := by decide +kernel
theorem d42_46 : decode zc46 46 = .ok (.areturn, 1) := by decide +kernel
theorem d30_5 : decode zc0 5 = .ok (.iload_n 0, 1) := by decide +kernel
theorem d30_6 : decode zc0 6 = .ok (.goto 4, 3) := by decide +kernel
theorem d49_0 : decode zc6 0 = .ok (.aload_n 0, 1) := by decide +kernel
theorem d49_1 : decode zc6 1 = .ok (.invokespecial 1, 3) := by decide +kernel
theorem d49_4 : decode zc6 4 = .ok (.aload_n 0, 1) := by decide +kernel
theorem d49_5 : decode zc6 5 = .ok (.aload_n 1, 1) := by decide +kernel
theorem d49_6 : decode zc6 6 = .ok (.putfield 9, 3) := by decide +kernel
theorem d49_9 : decode zc6 9 = .ok (.aload_n 0, 1) := by decide +kernel
theorem d49_10 : decode zc6 10 = .ok (.iload_n 2, 1) := by decide +kernel
theorem d49_11 : decode zc6 11 = .ok (.putfield 15, 3) := by decide +kernel
theorem d49_14 : decode zc6 14 = .ok (.return_, 1) := by decide +kernel
theorem d48_7 : decode zc19 7 = .ok (.new 1, 3) := by decide +kernel
theorem d48_10 : decode zc19 10 = .ok (.dup, 1) := by decide +kernel
theorem d48_11 : decode zc19 11 = .ok (.aload_n 0, 1) := by decide +kernel
theorem d48_12 : decode zc19 12 = .ok (.iload_n 1, 1) := by decide +kernel
theorem d48_13 : decode zc19 13 = .ok (.iload_n 1, 1) := by decide +kernel
theorem d48_14 : decode zc19 14 = .ok (.iload_n 2, 1) := by decide +kernel
theorem d48_15 : decode zc19 15 = .ok (.iadd, 1) := by decide +kernel
theorem d48_16 : decode zc19 16 = .ok (.invokestatic 232, 3) := by decide +kernel
theorem d48_19 : decode zc19 19 = .ok (.iconst 0, 1) := by decide +kernel
theorem d48_20 : decode zc19 20 = .ok (.invokespecial 112, 3) := by decide +kernel
theorem pd___BB_V : parseMethodDescriptor "([BB)V" = some ⟨[(.array .byte), .byte], none⟩ := by decide +kernel
theorem d48_23 : decode zc19 23 = .ok (.areturn, 1) := by decide +kernel
theorem pd__ICCC_Ljava_lang_String_ : parseMethodDescriptor "(ICCC)Ljava/lang/String;" = some ⟨[.int, .char, .char, .char], some (.object "java/lang/String")⟩ := by decide +kernel
theorem pd__Ljava_lang_String_Ljava_lang_String__Lcom_example_evenlot_evenlot_Source_ : parseMethodDescriptor "(Ljava/lang/String;Ljava/lang/String;)Lcom/example/evenlot/evenlot/Source;" = some ⟨[(.object "java/lang/String"), (.object "java/lang/String")], some (.object "com/example/evenlot/evenlot/Source")⟩ := by decide +kernel
theorem pd__Ljava_lang_Object__Z : parseMethodDescriptor "(Ljava/lang/Object;)Z" = some ⟨[(.object "java/lang/Object")], some .boolean⟩ := by decide +kernel
theorem ct_cmp1 (l : Launch) (Z : State) (a0 : Array Value) (hw : HW a0 Z) {cS : Int32} {fm : Value} (am : Amb Z a0 cS fm) {b t : Addr} {kC kB : ClassId} {c0 : Int32} {h0 : Heap} (p0 : Arv Z h0 b kC .char (1 : Int32) [.int c0] (.int 0)) (p1 : Arv Z h0 t kB .byte (1 : Int32) [.int 0] (.int 0)) (l0 : ¬ (255 : Int32) < c0) (hbt : b ≠ t) :
    Py l Z (⟨"java/lang/StringUTF16", "compress", "([CI[BII)I"⟩ : MethodName) 1 18 0 0 #[(.ref b), .int 0, (.ref t), .int 0, .int 1] h0 [t] (fun rv h' => rv = some (.int 1) ∧ Arv Z h' t kB .byte (1 : Int32) [.int (lo8 c0)] (.int 0)) := by
  refine Ct.py (by0 := zc23) (ml := 7) (rt := (some .int)) (rm := ({ frames := 0, cells := 0, slots := 0, locals := 0 } : Room)) ?_ (hq hw 26 rfl) (hq hw 21 rfl)
  refine Ct.mk (a0 := a0) (Ls := #[.val (.ref b), .val (.int 0), .val (.ref t), .val (.int 0), .val (.int 1), .unset, .unset]) (plainFor_of_name pn_java_lang_StringUTF16) (fun m => by simp [entryFrame, mkF, argsToLocals, Value.category]) ?_
  intro κ C
  show Go l _ Z _ _ _ κ [t] h0 0 #[.val (.ref b), .val (.int 0), .val (.ref t), .val (.int 0), .val (.int 1), .unset, .unset] [] 0 0
  refine of' C 1 (0 : Int32) d6_0 rfl (by decide) (ol' C 3 (Ls' := #[.val (.ref b), .val (.int 0), .val (.ref t), .val (.int 0), .val (.int 1), .val (.int 0), .unset]) d6_1 rfl rfl ?_)
  refine oa' C 5 d6_3 rfl rfl (oa' C 7 d6_5 rfl rfl ?_)
  refine oi' C 10 d6_7 rfl (by decide) (oc' C 11 d6_10 rfl rfl rfl ?_)
  refine od' C 12 d6_11 rfl rfl (og1' C 13 (v := (.int c0)) d6_12 rfl p0 (by decide) rfl ?_)
  refine ol' C 15 (Ls' := #[.val (.ref b), .val (.int 0), .val (.ref t), .val (.int 0), .val (.int 1), .val (.int 0), .val (.int c0)]) d6_13 rfl rfl (oa' C 17 d6_15 rfl rfl ?_)
  refine of1' C 20 (255 : Int32) d6_17 rfl (by decide) (oh' C (pc' := 26) d6_20 (flt (l0 : ¬ ((255 : Int32) < c0))).2.2.2 (by decide) (by decide) ?_)
  refine oc' C 27 d6_26 rfl rfl rfl (od' C 28 d6_27 rfl rfl ?_)
  refine oa' C 30 d6_28 rfl rfl (oa1' C 31 (lo8 c0) d6_30 rfl rfl ?_)
  refine oe1' C 32 0 (v := (lo8 c0)) (nar_lo8 _) d6_31 rfl p1 (by decide) rfl (nble rfl) (mi 0 rfl) ?_
  intro ph1 W2 fx3
  have fx4 : Arv Z ph1 t kB .byte (1 : Int32) [.int (lo8 c0)] (.int 0) := fx3
  refine og' C 35 (Ls' := #[.val (.ref b), .val (.int 1), .val (.ref t), .val (.int 0), .val (.int 1), .val (.int 0), .val (.int c0)]) (1 : Int32) d6_32 rfl (by decide) rfl rfl (og' C 38 (Ls' := #[.val (.ref b), .val (.int 1), .val (.ref t), .val (.int 1), .val (.int 1), .val (.int 0), .val (.int c0)]) (1 : Int32) d6_35 rfl (by decide) rfl rfl ?_)
  refine og' C 41 (Ls' := #[.val (.ref b), .val (.int 1), .val (.ref t), .val (.int 1), .val (.int 1), .val (.int 1), .val (.int c0)]) (1 : Int32) d6_38 rfl (by decide) rfl rfl (om' C (pc' := 3) d6_41 (by decide) (by decide) ?_)
  refine oa' C 5 d6_3 rfl rfl (oa' C 7 d6_5 rfl rfl ?_)
  refine oh' C (pc' := 44) d6_7 (by decide) (by decide) (by decide) (oa' C 46 d6_44 rfl rfl ?_)
  refine ol1' C d6_46 rfl (by decide) (by decide) ?_
  exact ⟨rfl, fx4⟩
theorem ct_cmpA1 (l : Launch) (Z : State) (a0 : Array Value) (hw : HW a0 Z) {cS : Int32} {fm : Value} (am : Amb Z a0 cS fm) {b : Addr} {kC : ClassId} {c0 : Int32} {h0 : Heap} (p0 : Arv Z h0 b kC .char (1 : Int32) [.int c0] (.int 0)) (l0 : ¬ (255 : Int32) < c0) :
    Py l Z (⟨"java/lang/StringUTF16", "compress", "([CII)[B"⟩ : MethodName) 2 35 1 1 #[(.ref b), .int 0, .int 1] h0 [] (fun rv h' => ∃ (t : Addr) (kB : ClassId), rv = some (.ref t) ∧ Arv Z h' t kB .byte (1 : Int32) [.int (lo8 c0)] (.int 0) ∧ (h0.size ≤ t)) := by
  refine Ct.py (by0 := zc22) (ml := 6) (rt := (some (.array .byte))) (rm := ({ frames := 1, cells := 1, slots := 1, locals := 18 } : Room)) ?_ (hq hw 22 rfl) (hq hw 21 rfl)
  refine Ct.mk (a0 := a0) (Ls := #[.val (.ref b), .val (.int 0), .val (.int 1), .unset, .unset, .unset]) (plainFor_of_name pn_java_lang_StringUTF16) (fun m => by simp [entryFrame, mkF, argsToLocals, Value.category]) ?_
  intro κ C
  show Go l _ Z _ _ _ κ [] h0 0 #[.val (.ref b), .val (.int 0), .val (.int 1), .unset, .unset, .unset] [] 0 0
  refine od' C 1 d5_0 rfl rfl (ow1' C 3 1 1 (ty := .byte) (cap := 1) d5_1 rfl rfl rfl rfl (hq hw 23 rfl) (by decide) (by decide) (by decide) (by decide) (by decide) ?_)
  intro b1 ph2 k3 g4 E5 V6
  have fx7 : Arv Z ph2 b1 k3 .byte (1 : Int32) [.int 0] (.int 0) := V6
  refine ov1' C 4 (Ls' := #[.val (.ref b), .val (.int 0), .val (.int 1), .val (.ref b1), .unset, .unset]) d5_3 rfl rfl rfl (oc' C 5 d5_4 rfl rfl rfl ?_)
  refine od' C 6 d5_5 rfl rfl (oc' C 7 d5_6 rfl rfl rfl ?_)
  refine of' C 8 (0 : Int32) d5_7 rfl (by decide) (od' C 9 d5_8 rfl rfl ?_)
  have fx8 := (p0.ext E5)
  refine or' C (argsL := [(.ref b), .int 0, (.ref b1), .int 0, .int 1]) (W := 0) d5_9 (hq hw 24 rfl) (hq hw 25 rfl) (hq hw 21 rfl) (hq hw 26 rfl) (by decide) pd___CI_BII_I (ct_cmp1 l Z a0 hw am (b := b) (t := b1) (kC := kC) (kB := k3) (c0 := c0) fx8 fx7 l0 (Nat.ne_of_lt (nltle (p0).lt (Nat.le_of_eq g4.symm)))) rfl (Nat.le_of_eq rfl) rfl (by decide) (memsS (mi 0 rfl) mems0) ?_
  intro fv9 ph10 K11 fq12
  obtain ⟨rfl, fx13⟩ := fq12
  refine ⟨[], fresh0, ?_⟩
  show Go l _ Z _ _ _ κ _ _ 12 _ [.int 1] 1 1
  refine ol' C 14 (Ls' := #[.val (.ref b), .val (.int 0), .val (.int 1), .val (.ref b1), .val (.int 1), .unset]) d5_12 rfl rfl (oa' C 16 d5_14 rfl rfl ?_)
  refine od' C 17 d5_16 rfl rfl (oh' C (pc' := 57) d5_17 (by decide) (by decide) (by decide) ?_)
  refine oc' C 58 d5_57 rfl rfl rfl (ov' C (v := (.ref b1)) d5_58 rfl rfl rfl (by decide) (by decide) ?_)
  exact ⟨b1, k3, rfl, fx13, (Nat.le_of_eq g4.symm)⟩
theorem ct_coder1 (l : Launch) (Z : State) (a0 : Array Value) (hw : HW a0 Z) {cS : Int32} {fm : Value} (am : Amb Z a0 cS fm) {t : Addr} {kB : ClassId} {vs : List Value} {h0 : Heap} (p0 : Arv Z h0 t kB .byte (1 : Int32) vs (.int 0)) :
    Py l Z (⟨"java/lang/StringUTF16", "coderFromArrayLen", "([BI)B"⟩ : MethodName) 1 13 0 0 #[(.ref t), .int 1] h0 [] (fun rv h' => rv = some (.int 0) ∧ h' = h0) := by
  refine Ct.py (by0 := zc21) (ml := 2) (rt := (some .byte)) (rm := ({ frames := 0, cells := 0, slots := 0, locals := 0 } : Room)) ?_ (hq hw 29 rfl) (hq hw 21 rfl)
  refine Ct.mk (a0 := a0) (Ls := #[.val (.ref t), .val (.int 1)]) (plainFor_of_name pn_java_lang_StringUTF16) (fun m => by simp [entryFrame, mkF, argsToLocals, Value.category]) ?_
  intro κ C
  show Go l _ Z _ _ _ κ [] h0 0 #[.val (.ref t), .val (.int 1)] [] 0 0
  refine od' C 1 d7_0 rfl rfl (oc' C 2 d7_1 rfl rfl rfl ?_)
  refine oj' C 3 d7_2 rfl p0 (oj1' C 4 (0 : Int32) d7_3 rfl (by decide) ?_)
  refine ox' C 6 (31 : Int32) d7_4 rfl (by decide) (ot2' C 7 (0 : Int32) d7_6 rfl (by decide) ?_)
  refine oa1' C 8 (0 : Int32) d7_7 rfl (by decide) (oz' C (t := .byte) (z := (0 : Int32)) d7_8 rfl (by decide) (by decide) (by decide) (by decide) ?_)
  exact ⟨rfl, rfl⟩
theorem ct_strV1 (l : Launch) (Z : State) (a0 : Array Value) (hw : HW a0 Z) {cS : Int32} {fm : Value} (am : Amb Z a0 cS fm) {a b : Addr} {kC : ClassId} {c0 : Int32} {h0 : Heap} (p0 : Exa Z h0 a "java/lang/String") (p1 : Fld Z h0 a "java/lang/String" "value" "[B" .null) (p2 : Fld Z h0 a "java/lang/String" "coder" "B" (.int 0)) (p3 : Arv Z h0 b kC .char (1 : Int32) [.int c0] (.int 0)) (l0 : ¬ (255 : Int32) < c0) :
    Py l Z (⟨"java/lang/String", "<init>", "([CIILjava/lang/Void;)V"⟩ : MethodName) 3 52 1 1 #[(.ref a), (.ref b), .int 0, .int 1, .null] h0 [a] (fun rv h' => ∃ (t : Addr) (kB : ClassId), rv = none ∧ Exa Z h' a "java/lang/String" ∧ Fld Z h' a "java/lang/String" "coder" "B" (.int 0) ∧ Fld Z h' a "java/lang/String" "value" "[B" (.ref t) ∧ Arv Z h' t kB .byte (1 : Int32) [.int (lo8 c0)] (.int 0) ∧ (h0.size ≤ t)) := by
  refine Ct.py (by0 := zc4) (ml := 6) (rt := none) (rm := ({ frames := 2, cells := 1, slots := 1, locals := 35 } : Room)) ?_ (hq hw 14 rfl) (hq hw 6 rfl)
  refine Ct.mk (a0 := a0) (Ls := #[.val (.ref a), .val (.ref b), .val (.int 0), .val (.int 1), .val .null, .unset]) (plainFor_of_name pn_java_lang_String) (fun m => by simp [entryFrame, mkF, argsToLocals, Value.category]) ?_
  intro κ C
  show Go l _ Z _ _ _ κ [a] h0 0 #[.val (.ref a), .val (.ref b), .val (.int 0), .val (.int 1), .val .null, .unset] [] 0 0
  refine oc' C 1 d3_0 rfl rfl rfl (oj2' C 4 (W := 0) d3_1 rfl (hq hw 15 rfl) (hq hw 16 rfl) (hq hw 17 rfl) rfl (by decide) (Nat.le_of_eq rfl) (by decide) ?_)
  refine od' C 5 d3_4 rfl rfl (om1' C (pc' := 27) d3_5 (by decide) (by decide) (by decide) ?_)
  refine oy1' C 30 d3_27 rfl (hq hw 18 rfl) am.2.1 (ot' C 33 d3_30 rfl (feq (am.2.2.1 : ¬ (cS = (0 : Int32)))).1 ?_)
  refine oc' C 34 d3_33 rfl rfl rfl (od' C 35 d3_34 rfl rfl ?_)
  refine od' C 36 d3_35 rfl rfl (or' C (argsL := [(.ref b), .int 0, .int 1]) (W := 0) d3_36 (hq hw 19 rfl) (hq hw 20 rfl) (hq hw 21 rfl) (hq hw 22 rfl) (by decide) pd___CII__B (ct_cmpA1 l Z a0 hw am (b := b) (kC := kC) (c0 := c0) p3 l0) rfl (Nat.le_of_eq rfl) rfl (by decide) mems0 ?_)
  intro fv1 ph2 K3 fq4
  obtain ⟨t5, kB6, rfl, fx7, fx8⟩ := fq4
  refine ⟨[t5], (freshS ⟨fx8, (fx7).lt⟩ fresh0), ?_⟩
  show Go l _ Z _ _ _ κ [t5, a] _ 39 _ [(.ref t5)] 1 1
  refine ob1' C 41 (Ls' := #[.val (.ref a), .val (.ref b), .val (.int 0), .val (.int 1), .val .null, .val (.ref t5)]) d3_39 rfl rfl rfl (oc' C 42 d3_41 rfl rfl rfl ?_)
  refine ob' C 44 d3_42 rfl rfl rfl (od' C 45 d3_44 rfl rfl ?_)
  refine or' C (argsL := [(.ref t5), .int 1]) (W := 1) d3_45 (hq hw 27 rfl) (hq hw 28 rfl) (hq hw 21 rfl) (hq hw 29 rfl) (by decide) pd___BI_B (ct_coder1 l Z a0 hw am (t := t5) (kB := kB6) (vs := [.int (lo8 c0)]) fx7) rfl (Nat.le_of_eq rfl) rfl (by decide) mems0 ?_
  intro fv9 ph10 K11 fq12
  obtain ⟨rfl, rfl⟩ := fq12
  refine ⟨[], fresh0, ?_⟩
  show Go l _ Z _ _ _ κ _ _ 48 _ [.int 0, (.ref a)] 1 1
  have fx13 := (p2.keep K3 nin0)
  have fx14 := (p0.keep K3)
  refine ol2' C 51 (ty := .byte) (v' := .int 0) d3_48 rfl (hq hw 30 rfl) Via.refl fx13 fx14 (Or.inr ⟨(hq hw 31 rfl), rfl, rfl⟩) (hq hw 5 rfl) (by decide) rfl (by decide) (mi 1 rfl) ?_
  intro ph15 W16
  have fx17 : Fld Z ph15 a "java/lang/String" "coder" "B" (.int 0) := Fld.same W16 fx13
  refine oc' C 52 d3_51 rfl rfl rfl (ob' C 54 d3_52 rfl rfl rfl ?_)
  have fx18 := (Fld.other W16 (p1.keep K3 nin0) (Or.inr (slot_ne (Or.inr (hq hw 33 rfl)) (Or.inr (hq hw 31 rfl)) (by decide) (t := (.array .byte)) (t' := .byte) (by decide) (by decide))))
  have fx19 := (Exa.wr W16 fx14)
  refine oh1' C 57 (ty := (.array .byte)) d3_54 rfl (hq hw 32 rfl) Via.refl fx18 fx19 (Or.inr ⟨(hq hw 33 rfl), rfl, rfl⟩) (hq hw 5 rfl) (by decide) rfl rfl (mi 1 rfl) ?_
  intro ph20 W21
  have fx22 : Fld Z ph20 a "java/lang/String" "value" "[B" (.ref t5) := Fld.same W21 fx18
  refine oe' C d3_57 rfl (by decide) (by decide) ?_
  have fx23 := (Exa.wr W21 fx19)
  have fx24 := (Fld.other W21 fx17 (Or.inr (slot_ne (Or.inr (hq hw 31 rfl)) (Or.inr (hq hw 33 rfl)) (by decide) (t := .byte) (t' := (.array .byte)) (by decide) (by decide))))
  have fx25 := ((fx7.other W16 (Ne.symm (Nat.ne_of_lt (nltle (p0).lt fx8)))).other W21 (Ne.symm (Nat.ne_of_lt (nltle (p0).lt fx8))))
  exact ⟨t5, kB6, rfl, fx23, fx24, fx22, fx25, fx8⟩
theorem ct_str1 (l : Launch) (Z : State) (a0 : Array Value) (hw : HW a0 Z) {cS : Int32} {fm : Value} (am : Amb Z a0 cS fm) {a b : Addr} {kC : ClassId} {c0 : Int32} {h0 : Heap} (p0 : Exa Z h0 a "java/lang/String") (p1 : Fld Z h0 a "java/lang/String" "value" "[B" .null) (p2 : Fld Z h0 a "java/lang/String" "coder" "B" (.int 0)) (p3 : Arv Z h0 b kC .char (1 : Int32) [.int c0] (.int 0)) (l0 : ¬ (255 : Int32) < c0) :
    Py l Z (⟨"java/lang/String", "<init>", "([C)V"⟩ : MethodName) 4 65 1 1 #[(.ref a), (.ref b)] h0 [a] (fun rv h' => ∃ (t : Addr) (kB : ClassId), rv = none ∧ Exa Z h' a "java/lang/String" ∧ Fld Z h' a "java/lang/String" "coder" "B" (.int 0) ∧ Fld Z h' a "java/lang/String" "value" "[B" (.ref t) ∧ Arv Z h' t kB .byte (1 : Int32) [.int (lo8 c0)] (.int 0) ∧ (h0.size ≤ t)) := by
  refine Ct.py (by0 := zc10) (ml := 2) (rt := none) (rm := ({ frames := 3, cells := 1, slots := 1, locals := 52 } : Room)) ?_ (hq hw 10 rfl) (hq hw 6 rfl)
  refine Ct.mk (a0 := a0) (Ls := #[.val (.ref a), .val (.ref b)]) (plainFor_of_name pn_java_lang_String) (fun m => by simp [entryFrame, mkF, argsToLocals, Value.category]) ?_
  intro κ C
  show Go l _ Z _ _ _ κ [a] h0 0 #[.val (.ref a), .val (.ref b)] [] 0 0
  refine oc' C 1 d2_0 rfl rfl rfl (oc' C 2 d2_1 rfl rfl rfl ?_)
  refine of' C 3 (0 : Int32) d2_2 rfl (by decide) (oc' C 4 d2_3 rfl rfl rfl ?_)
  refine oj' C 5 d2_4 rfl p3 (oo2' C 6 d2_5 rfl ?_)
  refine oq1' C (a := a) (argsL := [(.ref b), .int 0, .int 1, .null]) (W := 0) d2_6 rfl (hq hw 11 rfl) (hq hw 12 rfl) (hq hw 14 rfl) (by decide) pd___CIILjava_lang_Void__V (ct_strV1 l Z a0 hw am (a := a) (b := b) (kC := kC) (c0 := c0) p0 p1 p2 p3 l0) rfl (Nat.le_of_eq rfl) rfl (by decide) (memsS (mi 0 rfl) mems0) ?_
  intro fv1 ph2 K3 fq4
  obtain ⟨t5, kB6, rfl, fx7, fx8, fx9, fx10, fx11⟩ := fq4
  refine ⟨[t5], (freshS ⟨fx11, (fx10).lt⟩ fresh0), ?_⟩
  show Go l _ Z _ _ _ κ [t5, a] _ 9 _ [] 1 1
  refine oe' C d2_9 rfl (by decide) (by decide) ?_
  exact ⟨t5, kB6, rfl, fx7, fx8, fx9, fx10, fx11⟩
theorem ct_cmp2 (l : Launch) (Z : State) (a0 : Array Value) (hw : HW a0 Z) {cS : Int32} {fm : Value} (am : Amb Z a0 cS fm) {b t : Addr} {kC kB : ClassId} {c0 c1 : Int32} {h0 : Heap} (p0 : Arv Z h0 b kC .char (2 : Int32) [.int c0, .int c1] (.int 0)) (p1 : Arv Z h0 t kB .byte (2 : Int32) [.int 0, .int 0] (.int 0)) (l0 : ¬ (255 : Int32) < c0) (l1 : ¬ (255 : Int32) < c1) (hbt : b ≠ t) :
    Py l Z (⟨"java/lang/StringUTF16", "compress", "([CI[BII)I"⟩ : MethodName) 1 18 0 0 #[(.ref b), .int 0, (.ref t), .int 0, .int 2] h0 [t] (fun rv h' => rv = some (.int 2) ∧ Arv Z h' t kB .byte (2 : Int32) [.int (lo8 c0), .int (lo8 c1)] (.int 0)) := by
  refine Ct.py (by0 := zc23) (ml := 7) (rt := (some .int)) (rm := ({ frames := 0, cells := 0, slots := 0, locals := 0 } : Room)) ?_ (hq hw 26 rfl) (hq hw 21 rfl)
  refine Ct.mk (a0 := a0) (Ls := #[.val (.ref b), .val (.int 0), .val (.ref t), .val (.int 0), .val (.int 2), .unset, .unset]) (plainFor_of_name pn_java_lang_StringUTF16) (fun m => by simp [entryFrame, mkF, argsToLocals, Value.category]) ?_
  intro κ C
  show Go l _ Z _ _ _ κ [t] h0 0 #[.val (.ref b), .val (.int 0), .val (.ref t), .val (.int 0), .val (.int 2), .unset, .unset] [] 0 0
  refine of' C 1 (0 : Int32) d6_0 rfl (by decide) (ol' C 3 (Ls' := #[.val (.ref b), .val (.int 0), .val (.ref t), .val (.int 0), .val (.int 2), .val (.int 0), .unset]) d6_1 rfl rfl ?_)
  refine oa' C 5 d6_3 rfl rfl (oa' C 7 d6_5 rfl rfl ?_)
  refine oi' C 10 d6_7 rfl (by decide) (oc' C 11 d6_10 rfl rfl rfl ?_)
  refine od' C 12 d6_11 rfl rfl (og1' C 13 (v := (.int c0)) d6_12 rfl p0 (by decide) rfl ?_)
  refine ol' C 15 (Ls' := #[.val (.ref b), .val (.int 0), .val (.ref t), .val (.int 0), .val (.int 2), .val (.int 0), .val (.int c0)]) d6_13 rfl rfl (oa' C 17 d6_15 rfl rfl ?_)
  refine of1' C 20 (255 : Int32) d6_17 rfl (by decide) (oh' C (pc' := 26) d6_20 (flt (l0 : ¬ ((255 : Int32) < c0))).2.2.2 (by decide) (by decide) ?_)
  refine oc' C 27 d6_26 rfl rfl rfl (od' C 28 d6_27 rfl rfl ?_)
  refine oa' C 30 d6_28 rfl rfl (oa1' C 31 (lo8 c0) d6_30 rfl rfl ?_)
  refine oe1' C 32 0 (v := (lo8 c0)) (nar_lo8 _) d6_31 rfl p1 (by decide) rfl (nble rfl) (mi 0 rfl) ?_
  intro ph1 W2 fx3
  have fx4 : Arv Z ph1 t kB .byte (2 : Int32) [.int (lo8 c0), .int 0] (.int 0) := fx3
  refine og' C 35 (Ls' := #[.val (.ref b), .val (.int 1), .val (.ref t), .val (.int 0), .val (.int 2), .val (.int 0), .val (.int c0)]) (1 : Int32) d6_32 rfl (by decide) rfl rfl (og' C 38 (Ls' := #[.val (.ref b), .val (.int 1), .val (.ref t), .val (.int 1), .val (.int 2), .val (.int 0), .val (.int c0)]) (1 : Int32) d6_35 rfl (by decide) rfl rfl ?_)
  refine og' C 41 (Ls' := #[.val (.ref b), .val (.int 1), .val (.ref t), .val (.int 1), .val (.int 2), .val (.int 1), .val (.int c0)]) (1 : Int32) d6_38 rfl (by decide) rfl rfl (om' C (pc' := 3) d6_41 (by decide) (by decide) ?_)
  refine oa' C 5 d6_3 rfl rfl (oa' C 7 d6_5 rfl rfl ?_)
  refine oi' C 10 d6_7 rfl (by decide) (oc' C 11 d6_10 rfl rfl rfl ?_)
  refine od' C 12 d6_11 rfl rfl ?_
  have fx5 := (p0.other W2 hbt)
  refine og1' C 13 (v := (.int c1)) d6_12 rfl fx5 (by decide) rfl (ol' C 15 (Ls' := #[.val (.ref b), .val (.int 1), .val (.ref t), .val (.int 1), .val (.int 2), .val (.int 1), .val (.int c1)]) d6_13 rfl rfl ?_)
  refine oa' C 17 d6_15 rfl rfl (of1' C 20 (255 : Int32) d6_17 rfl (by decide) ?_)
  refine oh' C (pc' := 26) d6_20 (flt (l1 : ¬ ((255 : Int32) < c1))).2.2.2 (by decide) (by decide) (oc' C 27 d6_26 rfl rfl rfl ?_)
  refine od' C 28 d6_27 rfl rfl (oa' C 30 d6_28 rfl rfl ?_)
  refine oa1' C 31 (lo8 c1) d6_30 rfl rfl (oe1' C 32 1 (v := (lo8 c1)) (nar_lo8 _) d6_31 rfl fx4 (by decide) rfl (nble rfl) (mi 0 rfl) ?_)
  intro ph6 W7 fx8
  have fx9 : Arv Z ph6 t kB .byte (2 : Int32) [.int (lo8 c0), .int (lo8 c1)] (.int 0) := fx8
  refine og' C 35 (Ls' := #[.val (.ref b), .val (.int 2), .val (.ref t), .val (.int 1), .val (.int 2), .val (.int 1), .val (.int c1)]) (1 : Int32) d6_32 rfl (by decide) rfl rfl (og' C 38 (Ls' := #[.val (.ref b), .val (.int 2), .val (.ref t), .val (.int 2), .val (.int 2), .val (.int 1), .val (.int c1)]) (1 : Int32) d6_35 rfl (by decide) rfl rfl ?_)
  refine og' C 41 (Ls' := #[.val (.ref b), .val (.int 2), .val (.ref t), .val (.int 2), .val (.int 2), .val (.int 2), .val (.int c1)]) (1 : Int32) d6_38 rfl (by decide) rfl rfl (om' C (pc' := 3) d6_41 (by decide) (by decide) ?_)
  refine oa' C 5 d6_3 rfl rfl (oa' C 7 d6_5 rfl rfl ?_)
  refine oh' C (pc' := 44) d6_7 (by decide) (by decide) (by decide) (oa' C 46 d6_44 rfl rfl ?_)
  refine ol1' C d6_46 rfl (by decide) (by decide) ?_
  exact ⟨rfl, fx9⟩
theorem ct_cmpA2 (l : Launch) (Z : State) (a0 : Array Value) (hw : HW a0 Z) {cS : Int32} {fm : Value} (am : Amb Z a0 cS fm) {b : Addr} {kC : ClassId} {c0 c1 : Int32} {h0 : Heap} (p0 : Arv Z h0 b kC .char (2 : Int32) [.int c0, .int c1] (.int 0)) (l0 : ¬ (255 : Int32) < c0) (l1 : ¬ (255 : Int32) < c1) :
    Py l Z (⟨"java/lang/StringUTF16", "compress", "([CII)[B"⟩ : MethodName) 2 35 1 2 #[(.ref b), .int 0, .int 2] h0 [] (fun rv h' => ∃ (t : Addr) (kB : ClassId), rv = some (.ref t) ∧ Arv Z h' t kB .byte (2 : Int32) [.int (lo8 c0), .int (lo8 c1)] (.int 0) ∧ (h0.size ≤ t)) := by
  refine Ct.py (by0 := zc22) (ml := 6) (rt := (some (.array .byte))) (rm := ({ frames := 1, cells := 1, slots := 2, locals := 18 } : Room)) ?_ (hq hw 22 rfl) (hq hw 21 rfl)
  refine Ct.mk (a0 := a0) (Ls := #[.val (.ref b), .val (.int 0), .val (.int 2), .unset, .unset, .unset]) (plainFor_of_name pn_java_lang_StringUTF16) (fun m => by simp [entryFrame, mkF, argsToLocals, Value.category]) ?_
  intro κ C
  show Go l _ Z _ _ _ κ [] h0 0 #[.val (.ref b), .val (.int 0), .val (.int 2), .unset, .unset, .unset] [] 0 0
  refine od' C 1 d5_0 rfl rfl (ow1' C 3 1 2 (ty := .byte) (cap := 2) d5_1 rfl rfl rfl rfl (hq hw 23 rfl) (by decide) (by decide) (by decide) (by decide) (by decide) ?_)
  intro b1 ph2 k3 g4 E5 V6
  have fx7 : Arv Z ph2 b1 k3 .byte (2 : Int32) [.int 0, .int 0] (.int 0) := V6
  refine ov1' C 4 (Ls' := #[.val (.ref b), .val (.int 0), .val (.int 2), .val (.ref b1), .unset, .unset]) d5_3 rfl rfl rfl (oc' C 5 d5_4 rfl rfl rfl ?_)
  refine od' C 6 d5_5 rfl rfl (oc' C 7 d5_6 rfl rfl rfl ?_)
  refine of' C 8 (0 : Int32) d5_7 rfl (by decide) (od' C 9 d5_8 rfl rfl ?_)
  have fx8 := (p0.ext E5)
  refine or' C (argsL := [(.ref b), .int 0, (.ref b1), .int 0, .int 2]) (W := 0) d5_9 (hq hw 24 rfl) (hq hw 25 rfl) (hq hw 21 rfl) (hq hw 26 rfl) (by decide) pd___CI_BII_I (ct_cmp2 l Z a0 hw am (b := b) (t := b1) (kC := kC) (kB := k3) (c0 := c0) (c1 := c1) fx8 fx7 l0 l1 (Nat.ne_of_lt (nltle (p0).lt (Nat.le_of_eq g4.symm)))) rfl (Nat.le_of_eq rfl) rfl (by decide) (memsS (mi 0 rfl) mems0) ?_
  intro fv9 ph10 K11 fq12
  obtain ⟨rfl, fx13⟩ := fq12
  refine ⟨[], fresh0, ?_⟩
  show Go l _ Z _ _ _ κ _ _ 12 _ [.int 2] 1 2
  refine ol' C 14 (Ls' := #[.val (.ref b), .val (.int 0), .val (.int 2), .val (.ref b1), .val (.int 2), .unset]) d5_12 rfl rfl (oa' C 16 d5_14 rfl rfl ?_)
  refine od' C 17 d5_16 rfl rfl (oh' C (pc' := 57) d5_17 (by decide) (by decide) (by decide) ?_)
  refine oc' C 58 d5_57 rfl rfl rfl (ov' C (v := (.ref b1)) d5_58 rfl rfl rfl (by decide) (by decide) ?_)
  exact ⟨b1, k3, rfl, fx13, (Nat.le_of_eq g4.symm)⟩
theorem ct_coder2 (l : Launch) (Z : State) (a0 : Array Value) (hw : HW a0 Z) {cS : Int32} {fm : Value} (am : Amb Z a0 cS fm) {t : Addr} {kB : ClassId} {vs : List Value} {h0 : Heap} (p0 : Arv Z h0 t kB .byte (2 : Int32) vs (.int 0)) :
    Py l Z (⟨"java/lang/StringUTF16", "coderFromArrayLen", "([BI)B"⟩ : MethodName) 1 13 0 0 #[(.ref t), .int 2] h0 [] (fun rv h' => rv = some (.int 0) ∧ h' = h0) := by
  refine Ct.py (by0 := zc21) (ml := 2) (rt := (some .byte)) (rm := ({ frames := 0, cells := 0, slots := 0, locals := 0 } : Room)) ?_ (hq hw 29 rfl) (hq hw 21 rfl)
  refine Ct.mk (a0 := a0) (Ls := #[.val (.ref t), .val (.int 2)]) (plainFor_of_name pn_java_lang_StringUTF16) (fun m => by simp [entryFrame, mkF, argsToLocals, Value.category]) ?_
  intro κ C
  show Go l _ Z _ _ _ κ [] h0 0 #[.val (.ref t), .val (.int 2)] [] 0 0
  refine od' C 1 d7_0 rfl rfl (oc' C 2 d7_1 rfl rfl rfl ?_)
  refine oj' C 3 d7_2 rfl p0 (oj1' C 4 (0 : Int32) d7_3 rfl (by decide) ?_)
  refine ox' C 6 (31 : Int32) d7_4 rfl (by decide) (ot2' C 7 (0 : Int32) d7_6 rfl (by decide) ?_)
  refine oa1' C 8 (0 : Int32) d7_7 rfl (by decide) (oz' C (t := .byte) (z := (0 : Int32)) d7_8 rfl (by decide) (by decide) (by decide) (by decide) ?_)
  exact ⟨rfl, rfl⟩
theorem ct_strV2 (l : Launch) (Z : State) (a0 : Array Value) (hw : HW a0 Z) {cS : Int32} {fm : Value} (am : Amb Z a0 cS fm) {a b : Addr} {kC : ClassId} {c0 c1 : Int32} {h0 : Heap} (p0 : Exa Z h0 a "java/lang/String") (p1 : Fld Z h0 a "java/lang/String" "value" "[B" .null) (p2 : Fld Z h0 a "java/lang/String" "coder" "B" (.int 0)) (p3 : Arv Z h0 b kC .char (2 : Int32) [.int c0, .int c1] (.int 0)) (l0 : ¬ (255 : Int32) < c0) (l1 : ¬ (255 : Int32) < c1) :
    Py l Z (⟨"java/lang/String", "<init>", "([CIILjava/lang/Void;)V"⟩ : MethodName) 3 52 1 2 #[(.ref a), (.ref b), .int 0, .int 2, .null] h0 [a] (fun rv h' => ∃ (t : Addr) (kB : ClassId), rv = none ∧ Exa Z h' a "java/lang/String" ∧ Fld Z h' a "java/lang/String" "coder" "B" (.int 0) ∧ Fld Z h' a "java/lang/String" "value" "[B" (.ref t) ∧ Arv Z h' t kB .byte (2 : Int32) [.int (lo8 c0), .int (lo8 c1)] (.int 0) ∧ (h0.size ≤ t)) := by
  refine Ct.py (by0 := zc4) (ml := 6) (rt := none) (rm := ({ frames := 2, cells := 1, slots := 2, locals := 35 } : Room)) ?_ (hq hw 14 rfl) (hq hw 6 rfl)
  refine Ct.mk (a0 := a0) (Ls := #[.val (.ref a), .val (.ref b), .val (.int 0), .val (.int 2), .val .null, .unset]) (plainFor_of_name pn_java_lang_String) (fun m => by simp [entryFrame, mkF, argsToLocals, Value.category]) ?_
  intro κ C
  show Go l _ Z _ _ _ κ [a] h0 0 #[.val (.ref a), .val (.ref b), .val (.int 0), .val (.int 2), .val .null, .unset] [] 0 0
  refine oc' C 1 d3_0 rfl rfl rfl (oj2' C 4 (W := 0) d3_1 rfl (hq hw 15 rfl) (hq hw 16 rfl) (hq hw 17 rfl) rfl (by decide) (Nat.le_of_eq rfl) (by decide) ?_)
  refine od' C 5 d3_4 rfl rfl (om1' C (pc' := 27) d3_5 (by decide) (by decide) (by decide) ?_)
  refine oy1' C 30 d3_27 rfl (hq hw 18 rfl) am.2.1 (ot' C 33 d3_30 rfl (feq (am.2.2.1 : ¬ (cS = (0 : Int32)))).1 ?_)
  refine oc' C 34 d3_33 rfl rfl rfl (od' C 35 d3_34 rfl rfl ?_)
  refine od' C 36 d3_35 rfl rfl (or' C (argsL := [(.ref b), .int 0, .int 2]) (W := 0) d3_36 (hq hw 19 rfl) (hq hw 20 rfl) (hq hw 21 rfl) (hq hw 22 rfl) (by decide) pd___CII__B (ct_cmpA2 l Z a0 hw am (b := b) (kC := kC) (c0 := c0) (c1 := c1) p3 l0 l1) rfl (Nat.le_of_eq rfl) rfl (by decide) mems0 ?_)
  intro fv1 ph2 K3 fq4
  obtain ⟨t5, kB6, rfl, fx7, fx8⟩ := fq4
  refine ⟨[t5], (freshS ⟨fx8, (fx7).lt⟩ fresh0), ?_⟩
  show Go l _ Z _ _ _ κ [t5, a] _ 39 _ [(.ref t5)] 1 2
  refine ob1' C 41 (Ls' := #[.val (.ref a), .val (.ref b), .val (.int 0), .val (.int 2), .val .null, .val (.ref t5)]) d3_39 rfl rfl rfl (oc' C 42 d3_41 rfl rfl rfl ?_)
  refine ob' C 44 d3_42 rfl rfl rfl (od' C 45 d3_44 rfl rfl ?_)
  refine or' C (argsL := [(.ref t5), .int 2]) (W := 1) d3_45 (hq hw 27 rfl) (hq hw 28 rfl) (hq hw 21 rfl) (hq hw 29 rfl) (by decide) pd___BI_B (ct_coder2 l Z a0 hw am (t := t5) (kB := kB6) (vs := [.int (lo8 c0), .int (lo8 c1)]) fx7) rfl (Nat.le_of_eq rfl) rfl (by decide) mems0 ?_
  intro fv9 ph10 K11 fq12
  obtain ⟨rfl, rfl⟩ := fq12
  refine ⟨[], fresh0, ?_⟩
  show Go l _ Z _ _ _ κ _ _ 48 _ [.int 0, (.ref a)] 1 2
  have fx13 := (p2.keep K3 nin0)
  have fx14 := (p0.keep K3)
  refine ol2' C 51 (ty := .byte) (v' := .int 0) d3_48 rfl (hq hw 30 rfl) Via.refl fx13 fx14 (Or.inr ⟨(hq hw 31 rfl), rfl, rfl⟩) (hq hw 5 rfl) (by decide) rfl (by decide) (mi 1 rfl) ?_
  intro ph15 W16
  have fx17 : Fld Z ph15 a "java/lang/String" "coder" "B" (.int 0) := Fld.same W16 fx13
  refine oc' C 52 d3_51 rfl rfl rfl (ob' C 54 d3_52 rfl rfl rfl ?_)
  have fx18 := (Fld.other W16 (p1.keep K3 nin0) (Or.inr (slot_ne (Or.inr (hq hw 33 rfl)) (Or.inr (hq hw 31 rfl)) (by decide) (t := (.array .byte)) (t' := .byte) (by decide) (by decide))))
  have fx19 := (Exa.wr W16 fx14)
  refine oh1' C 57 (ty := (.array .byte)) d3_54 rfl (hq hw 32 rfl) Via.refl fx18 fx19 (Or.inr ⟨(hq hw 33 rfl), rfl, rfl⟩) (hq hw 5 rfl) (by decide) rfl rfl (mi 1 rfl) ?_
  intro ph20 W21
  have fx22 : Fld Z ph20 a "java/lang/String" "value" "[B" (.ref t5) := Fld.same W21 fx18
  refine oe' C d3_57 rfl (by decide) (by decide) ?_
  have fx23 := (Exa.wr W21 fx19)
  have fx24 := (Fld.other W21 fx17 (Or.inr (slot_ne (Or.inr (hq hw 31 rfl)) (Or.inr (hq hw 33 rfl)) (by decide) (t := .byte) (t' := (.array .byte)) (by decide) (by decide))))
  have fx25 := ((fx7.other W16 (Ne.symm (Nat.ne_of_lt (nltle (p0).lt fx8)))).other W21 (Ne.symm (Nat.ne_of_lt (nltle (p0).lt fx8))))
  exact ⟨t5, kB6, rfl, fx23, fx24, fx22, fx25, fx8⟩
theorem ct_str2 (l : Launch) (Z : State) (a0 : Array Value) (hw : HW a0 Z) {cS : Int32} {fm : Value} (am : Amb Z a0 cS fm) {a b : Addr} {kC : ClassId} {c0 c1 : Int32} {h0 : Heap} (p0 : Exa Z h0 a "java/lang/String") (p1 : Fld Z h0 a "java/lang/String" "value" "[B" .null) (p2 : Fld Z h0 a "java/lang/String" "coder" "B" (.int 0)) (p3 : Arv Z h0 b kC .char (2 : Int32) [.int c0, .int c1] (.int 0)) (l0 : ¬ (255 : Int32) < c0) (l1 : ¬ (255 : Int32) < c1) :
    Py l Z (⟨"java/lang/String", "<init>", "([C)V"⟩ : MethodName) 4 65 1 2 #[(.ref a), (.ref b)] h0 [a] (fun rv h' => ∃ (t : Addr) (kB : ClassId), rv = none ∧ Exa Z h' a "java/lang/String" ∧ Fld Z h' a "java/lang/String" "coder" "B" (.int 0) ∧ Fld Z h' a "java/lang/String" "value" "[B" (.ref t) ∧ Arv Z h' t kB .byte (2 : Int32) [.int (lo8 c0), .int (lo8 c1)] (.int 0) ∧ (h0.size ≤ t)) := by
  refine Ct.py (by0 := zc10) (ml := 2) (rt := none) (rm := ({ frames := 3, cells := 1, slots := 2, locals := 52 } : Room)) ?_ (hq hw 10 rfl) (hq hw 6 rfl)
  refine Ct.mk (a0 := a0) (Ls := #[.val (.ref a), .val (.ref b)]) (plainFor_of_name pn_java_lang_String) (fun m => by simp [entryFrame, mkF, argsToLocals, Value.category]) ?_
  intro κ C
  show Go l _ Z _ _ _ κ [a] h0 0 #[.val (.ref a), .val (.ref b)] [] 0 0
  refine oc' C 1 d2_0 rfl rfl rfl (oc' C 2 d2_1 rfl rfl rfl ?_)
  refine of' C 3 (0 : Int32) d2_2 rfl (by decide) (oc' C 4 d2_3 rfl rfl rfl ?_)
  refine oj' C 5 d2_4 rfl p3 (oo2' C 6 d2_5 rfl ?_)
  refine oq1' C (a := a) (argsL := [(.ref b), .int 0, .int 2, .null]) (W := 0) d2_6 rfl (hq hw 11 rfl) (hq hw 12 rfl) (hq hw 14 rfl) (by decide) pd___CIILjava_lang_Void__V (ct_strV2 l Z a0 hw am (a := a) (b := b) (kC := kC) (c0 := c0) (c1 := c1) p0 p1 p2 p3 l0 l1) rfl (Nat.le_of_eq rfl) rfl (by decide) (memsS (mi 0 rfl) mems0) ?_
  intro fv1 ph2 K3 fq4
  obtain ⟨t5, kB6, rfl, fx7, fx8, fx9, fx10, fx11⟩ := fq4
  refine ⟨[t5], (freshS ⟨fx11, (fx10).lt⟩ fresh0), ?_⟩
  show Go l _ Z _ _ _ κ [t5, a] _ 9 _ [] 1 2
  refine oe' C d2_9 rfl (by decide) (by decide) ?_
  exact ⟨t5, kB6, rfl, fx7, fx8, fx9, fx10, fx11⟩
theorem ct_cmp3 (l : Launch) (Z : State) (a0 : Array Value) (hw : HW a0 Z) {cS : Int32} {fm : Value} (am : Amb Z a0 cS fm) {b t : Addr} {kC kB : ClassId} {c0 c1 c2 : Int32} {h0 : Heap} (p0 : Arv Z h0 b kC .char (3 : Int32) [.int c0, .int c1, .int c2] (.int 0)) (p1 : Arv Z h0 t kB .byte (3 : Int32) [.int 0, .int 0, .int 0] (.int 0)) (l0 : ¬ (255 : Int32) < c0) (l1 : ¬ (255 : Int32) < c1) (l2 : ¬ (255 : Int32) < c2) (hbt : b ≠ t) :
    Py l Z (⟨"java/lang/StringUTF16", "compress", "([CI[BII)I"⟩ : MethodName) 1 18 0 0 #[(.ref b), .int 0, (.ref t), .int 0, .int 3] h0 [t] (fun rv h' => rv = some (.int 3) ∧ Arv Z h' t kB .byte (3 : Int32) [.int (lo8 c0), .int (lo8 c1), .int (lo8 c2)] (.int 0)) := by
  refine Ct.py (by0 := zc23) (ml := 7) (rt := (some .int)) (rm := ({ frames := 0, cells := 0, slots := 0, locals := 0 } : Room)) ?_ (hq hw 26 rfl) (hq hw 21 rfl)
  refine Ct.mk (a0 := a0) (Ls := #[.val (.ref b), .val (.int 0), .val (.ref t), .val (.int 0), .val (.int 3), .unset, .unset]) (plainFor_of_name pn_java_lang_StringUTF16) (fun m => by simp [entryFrame, mkF, argsToLocals, Value.category]) ?_
  intro κ C
  show Go l _ Z _ _ _ κ [t] h0 0 #[.val (.ref b), .val (.int 0), .val (.ref t), .val (.int 0), .val (.int 3), .unset, .unset] [] 0 0
  refine of' C 1 (0 : Int32) d6_0 rfl (by decide) (ol' C 3 (Ls' := #[.val (.ref b), .val (.int 0), .val (.ref t), .val (.int 0), .val (.int 3), .val (.int 0), .unset]) d6_1 rfl rfl ?_)
  refine oa' C 5 d6_3 rfl rfl (oa' C 7 d6_5 rfl rfl ?_)
  refine oi' C 10 d6_7 rfl (by decide) (oc' C 11 d6_10 rfl rfl rfl ?_)
  refine od' C 12 d6_11 rfl rfl (og1' C 13 (v := (.int c0)) d6_12 rfl p0 (by decide) rfl ?_)
  refine ol' C 15 (Ls' := #[.val (.ref b), .val (.int 0), .val (.ref t), .val (.int 0), .val (.int 3), .val (.int 0), .val (.int c0)]) d6_13 rfl rfl (oa' C 17 d6_15 rfl rfl ?_)
  refine of1' C 20 (255 : Int32) d6_17 rfl (by decide) (oh' C (pc' := 26) d6_20 (flt (l0 : ¬ ((255 : Int32) < c0))).2.2.2 (by decide) (by decide) ?_)
  refine oc' C 27 d6_26 rfl rfl rfl (od' C 28 d6_27 rfl rfl ?_)
  refine oa' C 30 d6_28 rfl rfl (oa1' C 31 (lo8 c0) d6_30 rfl rfl ?_)
  refine oe1' C 32 0 (v := (lo8 c0)) (nar_lo8 _) d6_31 rfl p1 (by decide) rfl (nble rfl) (mi 0 rfl) ?_
  intro ph1 W2 fx3
  have fx4 : Arv Z ph1 t kB .byte (3 : Int32) [.int (lo8 c0), .int 0, .int 0] (.int 0) := fx3
  refine og' C 35 (Ls' := #[.val (.ref b), .val (.int 1), .val (.ref t), .val (.int 0), .val (.int 3), .val (.int 0), .val (.int c0)]) (1 : Int32) d6_32 rfl (by decide) rfl rfl (og' C 38 (Ls' := #[.val (.ref b), .val (.int 1), .val (.ref t), .val (.int 1), .val (.int 3), .val (.int 0), .val (.int c0)]) (1 : Int32) d6_35 rfl (by decide) rfl rfl ?_)
  refine og' C 41 (Ls' := #[.val (.ref b), .val (.int 1), .val (.ref t), .val (.int 1), .val (.int 3), .val (.int 1), .val (.int c0)]) (1 : Int32) d6_38 rfl (by decide) rfl rfl (om' C (pc' := 3) d6_41 (by decide) (by decide) ?_)
  refine oa' C 5 d6_3 rfl rfl (oa' C 7 d6_5 rfl rfl ?_)
  refine oi' C 10 d6_7 rfl (by decide) (oc' C 11 d6_10 rfl rfl rfl ?_)
  refine od' C 12 d6_11 rfl rfl ?_
  have fx5 := (p0.other W2 hbt)
  refine og1' C 13 (v := (.int c1)) d6_12 rfl fx5 (by decide) rfl (ol' C 15 (Ls' := #[.val (.ref b), .val (.int 1), .val (.ref t), .val (.int 1), .val (.int 3), .val (.int 1), .val (.int c1)]) d6_13 rfl rfl ?_)
  refine oa' C 17 d6_15 rfl rfl (of1' C 20 (255 : Int32) d6_17 rfl (by decide) ?_)
  refine oh' C (pc' := 26) d6_20 (flt (l1 : ¬ ((255 : Int32) < c1))).2.2.2 (by decide) (by decide) (oc' C 27 d6_26 rfl rfl rfl ?_)
  refine od' C 28 d6_27 rfl rfl (oa' C 30 d6_28 rfl rfl ?_)
  refine oa1' C 31 (lo8 c1) d6_30 rfl rfl (oe1' C 32 1 (v := (lo8 c1)) (nar_lo8 _) d6_31 rfl fx4 (by decide) rfl (nble rfl) (mi 0 rfl) ?_)
  intro ph6 W7 fx8
  have fx9 : Arv Z ph6 t kB .byte (3 : Int32) [.int (lo8 c0), .int (lo8 c1), .int 0] (.int 0) := fx8
  refine og' C 35 (Ls' := #[.val (.ref b), .val (.int 2), .val (.ref t), .val (.int 1), .val (.int 3), .val (.int 1), .val (.int c1)]) (1 : Int32) d6_32 rfl (by decide) rfl rfl (og' C 38 (Ls' := #[.val (.ref b), .val (.int 2), .val (.ref t), .val (.int 2), .val (.int 3), .val (.int 1), .val (.int c1)]) (1 : Int32) d6_35 rfl (by decide) rfl rfl ?_)
  refine og' C 41 (Ls' := #[.val (.ref b), .val (.int 2), .val (.ref t), .val (.int 2), .val (.int 3), .val (.int 2), .val (.int c1)]) (1 : Int32) d6_38 rfl (by decide) rfl rfl (om' C (pc' := 3) d6_41 (by decide) (by decide) ?_)
  refine oa' C 5 d6_3 rfl rfl (oa' C 7 d6_5 rfl rfl ?_)
  refine oi' C 10 d6_7 rfl (by decide) (oc' C 11 d6_10 rfl rfl rfl ?_)
  refine od' C 12 d6_11 rfl rfl ?_
  have fx10 := (fx5.other W7 hbt)
  refine og1' C 13 (v := (.int c2)) d6_12 rfl fx10 (by decide) rfl (ol' C 15 (Ls' := #[.val (.ref b), .val (.int 2), .val (.ref t), .val (.int 2), .val (.int 3), .val (.int 2), .val (.int c2)]) d6_13 rfl rfl ?_)
  refine oa' C 17 d6_15 rfl rfl (of1' C 20 (255 : Int32) d6_17 rfl (by decide) ?_)
  refine oh' C (pc' := 26) d6_20 (flt (l2 : ¬ ((255 : Int32) < c2))).2.2.2 (by decide) (by decide) (oc' C 27 d6_26 rfl rfl rfl ?_)
  refine od' C 28 d6_27 rfl rfl (oa' C 30 d6_28 rfl rfl ?_)
  refine oa1' C 31 (lo8 c2) d6_30 rfl rfl (oe1' C 32 2 (v := (lo8 c2)) (nar_lo8 _) d6_31 rfl fx9 (by decide) rfl (nble rfl) (mi 0 rfl) ?_)
  intro ph11 W12 fx13
  have fx14 : Arv Z ph11 t kB .byte (3 : Int32) [.int (lo8 c0), .int (lo8 c1), .int (lo8 c2)] (.int 0) := fx13
  refine og' C 35 (Ls' := #[.val (.ref b), .val (.int 3), .val (.ref t), .val (.int 2), .val (.int 3), .val (.int 2), .val (.int c2)]) (1 : Int32) d6_32 rfl (by decide) rfl rfl (og' C 38 (Ls' := #[.val (.ref b), .val (.int 3), .val (.ref t), .val (.int 3), .val (.int 3), .val (.int 2), .val (.int c2)]) (1 : Int32) d6_35 rfl (by decide) rfl rfl ?_)
  refine og' C 41 (Ls' := #[.val (.ref b), .val (.int 3), .val (.ref t), .val (.int 3), .val (.int 3), .val (.int 3), .val (.int c2)]) (1 : Int32) d6_38 rfl (by decide) rfl rfl (om' C (pc' := 3) d6_41 (by decide) (by decide) ?_)
  refine oa' C 5 d6_3 rfl rfl (oa' C 7 d6_5 rfl rfl ?_)
  refine oh' C (pc' := 44) d6_7 (by decide) (by decide) (by decide) (oa' C 46 d6_44 rfl rfl ?_)
  refine ol1' C d6_46 rfl (by decide) (by decide) ?_
  exact ⟨rfl, fx14⟩
theorem ct_cmpA3 (l : Launch) (Z : State) (a0 : Array Value) (hw : HW a0 Z) {cS : Int32} {fm : Value} (am : Amb Z a0 cS fm) {b : Addr} {kC : ClassId} {c0 c1 c2 : Int32} {h0 : Heap} (p0 : Arv Z h0 b kC .char (3 : Int32) [.int c0, .int c1, .int c2] (.int 0)) (l0 : ¬ (255 : Int32) < c0) (l1 : ¬ (255 : Int32) < c1) (l2 : ¬ (255 : Int32) < c2) :
    Py l Z (⟨"java/lang/StringUTF16", "compress", "([CII)[B"⟩ : MethodName) 2 35 1 3 #[(.ref b), .int 0, .int 3] h0 [] (fun rv h' => ∃ (t : Addr) (kB : ClassId), rv = some (.ref t) ∧ Arv Z h' t kB .byte (3 : Int32) [.int (lo8 c0), .int (lo8 c1), .int (lo8 c2)] (.int 0) ∧ (h0.size ≤ t)) := by
  refine Ct.py (by0 := zc22) (ml := 6) (rt := (some (.array .byte))) (rm := ({ frames := 1, cells := 1, slots := 3, locals := 18 } : Room)) ?_ (hq hw 22 rfl) (hq hw 21 rfl)
  refine Ct.mk (a0 := a0) (Ls := #[.val (.ref b), .val (.int 0), .val (.int 3), .unset, .unset, .unset]) (plainFor_of_name pn_java_lang_StringUTF16) (fun m => by simp [entryFrame, mkF, argsToLocals, Value.category]) ?_
  intro κ C
  show Go l _ Z _ _ _ κ [] h0 0 #[.val (.ref b), .val (.int 0), .val (.int 3), .unset, .unset, .unset] [] 0 0
  refine od' C 1 d5_0 rfl rfl (ow1' C 3 1 3 (ty := .byte) (cap := 3) d5_1 rfl rfl rfl rfl (hq hw 23 rfl) (by decide) (by decide) (by decide) (by decide) (by decide) ?_)
  intro b1 ph2 k3 g4 E5 V6
  have fx7 : Arv Z ph2 b1 k3 .byte (3 : Int32) [.int 0, .int 0, .int 0] (.int 0) := V6
  refine ov1' C 4 (Ls' := #[.val (.ref b), .val (.int 0), .val (.int 3), .val (.ref b1), .unset, .unset]) d5_3 rfl rfl rfl (oc' C 5 d5_4 rfl rfl rfl ?_)
  refine od' C 6 d5_5 rfl rfl (oc' C 7 d5_6 rfl rfl rfl ?_)
  refine of' C 8 (0 : Int32) d5_7 rfl (by decide) (od' C 9 d5_8 rfl rfl ?_)
  have fx8 := (p0.ext E5)
  refine or' C (argsL := [(.ref b), .int 0, (.ref b1), .int 0, .int 3]) (W := 0) d5_9 (hq hw 24 rfl) (hq hw 25 rfl) (hq hw 21 rfl) (hq hw 26 rfl) (by decide) pd___CI_BII_I (ct_cmp3 l Z a0 hw am (b := b) (t := b1) (kC := kC) (kB := k3) (c0 := c0) (c1 := c1) (c2 := c2) fx8 fx7 l0 l1 l2 (Nat.ne_of_lt (nltle (p0).lt (Nat.le_of_eq g4.symm)))) rfl (Nat.le_of_eq rfl) rfl (by decide) (memsS (mi 0 rfl) mems0) ?_
  intro fv9 ph10 K11 fq12
  obtain ⟨rfl, fx13⟩ := fq12
  refine ⟨[], fresh0, ?_⟩
  show Go l _ Z _ _ _ κ _ _ 12 _ [.int 3] 1 3
  refine ol' C 14 (Ls' := #[.val (.ref b), .val (.int 0), .val (.int 3), .val (.ref b1), .val (.int 3), .unset]) d5_12 rfl rfl (oa' C 16 d5_14 rfl rfl ?_)
  refine od' C 17 d5_16 rfl rfl (oh' C (pc' := 57) d5_17 (by decide) (by decide) (by decide) ?_)
  refine oc' C 58 d5_57 rfl rfl rfl (ov' C (v := (.ref b1)) d5_58 rfl rfl rfl (by decide) (by decide) ?_)
  exact ⟨b1, k3, rfl, fx13, (Nat.le_of_eq g4.symm)⟩
theorem ct_coder3 (l : Launch) (Z : State) (a0 : Array Value) (hw : HW a0 Z) {cS : Int32} {fm : Value} (am : Amb Z a0 cS fm) {t : Addr} {kB : ClassId} {vs : List Value} {h0 : Heap} (p0 : Arv Z h0 t kB .byte (3 : Int32) vs (.int 0)) :
    Py l Z (⟨"java/lang/StringUTF16", "coderFromArrayLen", "([BI)B"⟩ : MethodName) 1 13 0 0 #[(.ref t), .int 3] h0 [] (fun rv h' => rv = some (.int 0) ∧ h' = h0) := by
  refine Ct.py (by0 := zc21) (ml := 2) (rt := (some .byte)) (rm := ({ frames := 0, cells := 0, slots := 0, locals := 0 } : Room)) ?_ (hq hw 29 rfl) (hq hw 21 rfl)
  refine Ct.mk (a0 := a0) (Ls := #[.val (.ref t), .val (.int 3)]) (plainFor_of_name pn_java_lang_StringUTF16) (fun m => by simp [entryFrame, mkF, argsToLocals, Value.category]) ?_
  intro κ C
  show Go l _ Z _ _ _ κ [] h0 0 #[.val (.ref t), .val (.int 3)] [] 0 0
  refine od' C 1 d7_0 rfl rfl (oc' C 2 d7_1 rfl rfl rfl ?_)
  refine oj' C 3 d7_2 rfl p0 (oj1' C 4 (0 : Int32) d7_3 rfl (by decide) ?_)
  refine ox' C 6 (31 : Int32) d7_4 rfl (by decide) (ot2' C 7 (0 : Int32) d7_6 rfl (by decide) ?_)
  refine oa1' C 8 (0 : Int32) d7_7 rfl (by decide) (oz' C (t := .byte) (z := (0 : Int32)) d7_8 rfl (by decide) (by decide) (by decide) (by decide) ?_)
  exact ⟨rfl, rfl⟩
theorem ct_strV3 (l : Launch) (Z : State) (a0 : Array Value) (hw : HW a0 Z) {cS : Int32} {fm : Value} (am : Amb Z a0 cS fm) {a b : Addr} {kC : ClassId} {c0 c1 c2 : Int32} {h0 : Heap} (p0 : Exa Z h0 a "java/lang/String") (p1 : Fld Z h0 a "java/lang/String" "value" "[B" .null) (p2 : Fld Z h0 a "java/lang/String" "coder" "B" (.int 0)) (p3 : Arv Z h0 b kC .char (3 : Int32) [.int c0, .int c1, .int c2] (.int 0)) (l0 : ¬ (255 : Int32) < c0) (l1 : ¬ (255 : Int32) < c1) (l2 : ¬ (255 : Int32) < c2) :
    Py l Z (⟨"java/lang/String", "<init>", "([CIILjava/lang/Void;)V"⟩ : MethodName) 3 52 1 3 #[(.ref a), (.ref b), .int 0, .int 3, .null] h0 [a] (fun rv h' => ∃ (t : Addr) (kB : ClassId), rv = none ∧ Exa Z h' a "java/lang/String" ∧ Fld Z h' a "java/lang/String" "coder" "B" (.int 0) ∧ Fld Z h' a "java/lang/String" "value" "[B" (.ref t) ∧ Arv Z h' t kB .byte (3 : Int32) [.int (lo8 c0), .int (lo8 c1), .int (lo8 c2)] (.int 0) ∧ (h0.size ≤ t)) := by
  refine Ct.py (by0 := zc4) (ml := 6) (rt := none) (rm := ({ frames := 2, cells := 1, slots := 3, locals := 35 } : Room)) ?_ (hq hw 14 rfl) (hq hw 6 rfl)
  refine Ct.mk (a0 := a0) (Ls := #[.val (.ref a), .val (.ref b), .val (.int 0), .val (.int 3), .val .null, .unset]) (plainFor_of_name pn_java_lang_String) (fun m => by simp [entryFrame, mkF, argsToLocals, Value.category]) ?_
  intro κ C
  show Go l _ Z _ _ _ κ [a] h0 0 #[.val (.ref a), .val (.ref b), .val (.int 0), .val (.int 3), .val .null, .unset] [] 0 0
  refine oc' C 1 d3_0 rfl rfl rfl (oj2' C 4 (W := 0) d3_1 rfl (hq hw 15 rfl) (hq hw 16 rfl) (hq hw 17 rfl) rfl (by decide) (Nat.le_of_eq rfl) (by decide) ?_)
  refine od' C 5 d3_4 rfl rfl (om1' C (pc' := 27) d3_5 (by decide) (by decide) (by decide) ?_)
  refine oy1' C 30 d3_27 rfl (hq hw 18 rfl) am.2.1 (ot' C 33 d3_30 rfl (feq (am.2.2.1 : ¬ (cS = (0 : Int32)))).1 ?_)
  refine oc' C 34 d3_33 rfl rfl rfl (od' C 35 d3_34 rfl rfl ?_)
  refine od' C 36 d3_35 rfl rfl (or' C (argsL := [(.ref b), .int 0, .int 3]) (W := 0) d3_36 (hq hw 19 rfl) (hq hw 20 rfl) (hq hw 21 rfl) (hq hw 22 rfl) (by decide) pd___CII__B (ct_cmpA3 l Z a0 hw am (b := b) (kC := kC) (c0 := c0) (c1 := c1) (c2 := c2) p3 l0 l1 l2) rfl (Nat.le_of_eq rfl) rfl (by decide) mems0 ?_)
  intro fv1 ph2 K3 fq4
  obtain ⟨t5, kB6, rfl, fx7, fx8⟩ := fq4
  refine ⟨[t5], (freshS ⟨fx8, (fx7).lt⟩ fresh0), ?_⟩
  show Go l _ Z _ _ _ κ [t5, a] _ 39 _ [(.ref t5)] 1 3
  refine ob1' C 41 (Ls' := #[.val (.ref a), .val (.ref b), .val (.int 0), .val (.int 3), .val .null, .val (.ref t5)]) d3_39 rfl rfl rfl (oc' C 42 d3_41 rfl rfl rfl ?_)
  refine ob' C 44 d3_42 rfl rfl rfl (od' C 45 d3_44 rfl rfl ?_)
  refine or' C (argsL := [(.ref t5), .int 3]) (W := 1) d3_45 (hq hw 27 rfl) (hq hw 28 rfl) (hq hw 21 rfl) (hq hw 29 rfl) (by decide) pd___BI_B (ct_coder3 l Z a0 hw am (t := t5) (kB := kB6) (vs := [.int (lo8 c0), .int (lo8 c1), .int (lo8 c2)]) fx7) rfl (Nat.le_of_eq rfl) rfl (by decide) mems0 ?_
  intro fv9 ph10 K11 fq12
  obtain ⟨rfl, rfl⟩ := fq12
  refine ⟨[], fresh0, ?_⟩
  show Go l _ Z _ _ _ κ _ _ 48 _ [.int 0, (.ref a)] 1 3
  have fx13 := (p2.keep K3 nin0)
  have fx14 := (p0.keep K3)
  refine ol2' C 51 (ty := .byte) (v' := .int 0) d3_48 rfl (hq hw 30 rfl) Via.refl fx13 fx14 (Or.inr ⟨(hq hw 31 rfl), rfl, rfl⟩) (hq hw 5 rfl) (by decide) rfl (by decide) (mi 1 rfl) ?_
  intro ph15 W16
  have fx17 : Fld Z ph15 a "java/lang/String" "coder" "B" (.int 0) := Fld.same W16 fx13
  refine oc' C 52 d3_51 rfl rfl rfl (ob' C 54 d3_52 rfl rfl rfl ?_)
  have fx18 := (Fld.other W16 (p1.keep K3 nin0) (Or.inr (slot_ne (Or.inr (hq hw 33 rfl)) (Or.inr (hq hw 31 rfl)) (by decide) (t := (.array .byte)) (t' := .byte) (by decide) (by decide))))
  have fx19 := (Exa.wr W16 fx14)
  refine oh1' C 57 (ty := (.array .byte)) d3_54 rfl (hq hw 32 rfl) Via.refl fx18 fx19 (Or.inr ⟨(hq hw 33 rfl), rfl, rfl⟩) (hq hw 5 rfl) (by decide) rfl rfl (mi 1 rfl) ?_
  intro ph20 W21
  have fx22 : Fld Z ph20 a "java/lang/String" "value" "[B" (.ref t5) := Fld.same W21 fx18
  refine oe' C d3_57 rfl (by decide) (by decide) ?_
  have fx23 := (Exa.wr W21 fx19)
  have fx24 := (Fld.other W21 fx17 (Or.inr (slot_ne (Or.inr (hq hw 31 rfl)) (Or.inr (hq hw 33 rfl)) (by decide) (t := .byte) (t' := (.array .byte)) (by decide) (by decide))))
  have fx25 := ((fx7.other W16 (Ne.symm (Nat.ne_of_lt (nltle (p0).lt fx8)))).other W21 (Ne.symm (Nat.ne_of_lt (nltle (p0).lt fx8))))
  exact ⟨t5, kB6, rfl, fx23, fx24, fx22, fx25, fx8⟩
theorem ct_str3 (l : Launch) (Z : State) (a0 : Array Value) (hw : HW a0 Z) {cS : Int32} {fm : Value} (am : Amb Z a0 cS fm) {a b : Addr} {kC : ClassId} {c0 c1 c2 : Int32} {h0 : Heap} (p0 : Exa Z h0 a "java/lang/String") (p1 : Fld Z h0 a "java/lang/String" "value" "[B" .null) (p2 : Fld Z h0 a "java/lang/String" "coder" "B" (.int 0)) (p3 : Arv Z h0 b kC .char (3 : Int32) [.int c0, .int c1, .int c2] (.int 0)) (l0 : ¬ (255 : Int32) < c0) (l1 : ¬ (255 : Int32) < c1) (l2 : ¬ (255 : Int32) < c2) :
    Py l Z (⟨"java/lang/String", "<init>", "([C)V"⟩ : MethodName) 4 65 1 3 #[(.ref a), (.ref b)] h0 [a] (fun rv h' => ∃ (t : Addr) (kB : ClassId), rv = none ∧ Exa Z h' a "java/lang/String" ∧ Fld Z h' a "java/lang/String" "coder" "B" (.int 0) ∧ Fld Z h' a "java/lang/String" "value" "[B" (.ref t) ∧ Arv Z h' t kB .byte (3 : Int32) [.int (lo8 c0), .int (lo8 c1), .int (lo8 c2)] (.int 0) ∧ (h0.size ≤ t)) := by
  refine Ct.py (by0 := zc10) (ml := 2) (rt := none) (rm := ({ frames := 3, cells := 1, slots := 3, locals := 52 } : Room)) ?_ (hq hw 10 rfl) (hq hw 6 rfl)
  refine Ct.mk (a0 := a0) (Ls := #[.val (.ref a), .val (.ref b)]) (plainFor_of_name pn_java_lang_String) (fun m => by simp [entryFrame, mkF, argsToLocals, Value.category]) ?_
  intro κ C
  show Go l _ Z _ _ _ κ [a] h0 0 #[.val (.ref a), .val (.ref b)] [] 0 0
  refine oc' C 1 d2_0 rfl rfl rfl (oc' C 2 d2_1 rfl rfl rfl ?_)
  refine of' C 3 (0 : Int32) d2_2 rfl (by decide) (oc' C 4 d2_3 rfl rfl rfl ?_)
  refine oj' C 5 d2_4 rfl p3 (oo2' C 6 d2_5 rfl ?_)
  refine oq1' C (a := a) (argsL := [(.ref b), .int 0, .int 3, .null]) (W := 0) d2_6 rfl (hq hw 11 rfl) (hq hw 12 rfl) (hq hw 14 rfl) (by decide) pd___CIILjava_lang_Void__V (ct_strV3 l Z a0 hw am (a := a) (b := b) (kC := kC) (c0 := c0) (c1 := c1) (c2 := c2) p0 p1 p2 p3 l0 l1 l2) rfl (Nat.le_of_eq rfl) rfl (by decide) (memsS (mi 0 rfl) mems0) ?_
  intro fv1 ph2 K3 fq4
  obtain ⟨t5, kB6, rfl, fx7, fx8, fx9, fx10, fx11⟩ := fq4
  refine ⟨[t5], (freshS ⟨fx11, (fx10).lt⟩ fresh0), ?_⟩
  show Go l _ Z _ _ _ κ [t5, a] _ 9 _ [] 1 3
  refine oe' C d2_9 rfl (by decide) (by decide) ?_
  exact ⟨t5, kB6, rfl, fx7, fx8, fx9, fx10, fx11⟩
theorem ct_cmp6 (l : Launch) (Z : State) (a0 : Array Value) (hw : HW a0 Z) {cS : Int32} {fm : Value} (am : Amb Z a0 cS fm) {b t : Addr} {kC kB : ClassId} {c0 c1 c2 c3 c4 c5 : Int32} {h0 : Heap} (p0 : Arv Z h0 b kC .char (6 : Int32) [.int c0, .int c1, .int c2, .int c3, .int c4, .int c5] (.int 0)) (p1 : Arv Z h0 t kB .byte (6 : Int32) [.int 0, .int 0, .int 0, .int 0, .int 0, .int 0] (.int 0)) (l0 : ¬ (255 : Int32) < c0) (l1 : ¬ (255 : Int32) < c1) (l2 : ¬ (255 : Int32) < c2) (l3 : ¬ (255 : Int32) < c3) (l4 : ¬ (255 : Int32) < c4) (l5 : ¬ (255 : Int32) < c5) (hbt : b ≠ t) :
    Py l Z (⟨"java/lang/StringUTF16", "compress", "([CI[BII)I"⟩ : MethodName) 1 18 0 0 #[(.ref b), .int 0, (.ref t), .int 0, .int 6] h0 [t] (fun rv h' => rv = some (.int 6) ∧ Arv Z h' t kB .byte (6 : Int32) [.int (lo8 c0), .int (lo8 c1), .int (lo8 c2), .int (lo8 c3), .int (lo8 c4), .int (lo8 c5)] (.int 0)) := by
  refine Ct.py (by0 := zc23) (ml := 7) (rt := (some .int)) (rm := ({ frames := 0, cells := 0, slots := 0, locals := 0 } : Room)) ?_ (hq hw 26 rfl) (hq hw 21 rfl)
  refine Ct.mk (a0 := a0) (Ls := #[.val (.ref b), .val (.int 0), .val (.ref t), .val (.int 0), .val (.int 6), .unset, .unset]) (plainFor_of_name pn_java_lang_StringUTF16) (fun m => by simp [entryFrame, mkF, argsToLocals, Value.category]) ?_
  intro κ C
  show Go l _ Z _ _ _ κ [t] h0 0 #[.val (.ref b), .val (.int 0), .val (.ref t), .val (.int 0), .val (.int 6), .unset, .unset] [] 0 0
  refine of' C 1 (0 : Int32) d6_0 rfl (by decide) (ol' C 3 (Ls' := #[.val (.ref b), .val (.int 0), .val (.ref t), .val (.int 0), .val (.int 6), .val (.int 0), .unset]) d6_1 rfl rfl ?_)
  refine oa' C 5 d6_3 rfl rfl (oa' C 7 d6_5 rfl rfl ?_)
  refine oi' C 10 d6_7 rfl (by decide) (oc' C 11 d6_10 rfl rfl rfl ?_)
  refine od' C 12 d6_11 rfl rfl (og1' C 13 (v := (.int c0)) d6_12 rfl p0 (by decide) rfl ?_)
  refine ol' C 15 (Ls' := #[.val (.ref b), .val (.int 0), .val (.ref t), .val (.int 0), .val (.int 6), .val (.int 0), .val (.int c0)]) d6_13 rfl rfl (oa' C 17 d6_15 rfl rfl ?_)
  refine of1' C 20 (255 : Int32) d6_17 rfl (by decide) (oh' C (pc' := 26) d6_20 (flt (l0 : ¬ ((255 : Int32) < c0))).2.2.2 (by decide) (by decide) ?_)
  refine oc' C 27 d6_26 rfl rfl rfl (od' C 28 d6_27 rfl rfl ?_)
  refine oa' C 30 d6_28 rfl rfl (oa1' C 31 (lo8 c0) d6_30 rfl rfl ?_)
  refine oe1' C 32 0 (v := (lo8 c0)) (nar_lo8 _) d6_31 rfl p1 (by decide) rfl (nble rfl) (mi 0 rfl) ?_
  intro ph1 W2 fx3
  have fx4 : Arv Z ph1 t kB .byte (6 : Int32) [.int (lo8 c0), .int 0, .int 0, .int 0, .int 0, .int 0] (.int 0) := fx3
  refine og' C 35 (Ls' := #[.val (.ref b), .val (.int 1), .val (.ref t), .val (.int 0), .val (.int 6), .val (.int 0), .val (.int c0)]) (1 : Int32) d6_32 rfl (by decide) rfl rfl (og' C 38 (Ls' := #[.val (.ref b), .val (.int 1), .val (.ref t), .val (.int 1), .val (.int 6), .val (.int 0), .val (.int c0)]) (1 : Int32) d6_35 rfl (by decide) rfl rfl ?_)
  refine og' C 41 (Ls' := #[.val (.ref b), .val (.int 1), .val (.ref t), .val (.int 1), .val (.int 6), .val (.int 1), .val (.int c0)]) (1 : Int32) d6_38 rfl (by decide) rfl rfl (om' C (pc' := 3) d6_41 (by decide) (by decide) ?_)
  refine oa' C 5 d6_3 rfl rfl (oa' C 7 d6_5 rfl rfl ?_)
  refine oi' C 10 d6_7 rfl (by decide) (oc' C 11 d6_10 rfl rfl rfl ?_)
  refine od' C 12 d6_11 rfl rfl ?_
  have fx5 := (p0.other W2 hbt)
  refine og1' C 13 (v := (.int c1)) d6_12 rfl fx5 (by decide) rfl (ol' C 15 (Ls' := #[.val (.ref b), .val (.int 1), .val (.ref t), .val (.int 1), .val (.int 6), .val (.int 1), .val (.int c1)]) d6_13 rfl rfl ?_)
  refine oa' C 17 d6_15 rfl rfl (of1' C 20 (255 : Int32) d6_17 rfl (by decide) ?_)
  refine oh' C (pc' := 26) d6_20 (flt (l1 : ¬ ((255 : Int32) < c1))).2.2.2 (by decide) (by decide) (oc' C 27 d6_26 rfl rfl rfl ?_)
  refine od' C 28 d6_27 rfl rfl (oa' C 30 d6_28 rfl rfl ?_)
  refine oa1' C 31 (lo8 c1) d6_30 rfl rfl (oe1' C 32 1 (v := (lo8 c1)) (nar_lo8 _) d6_31 rfl fx4 (by decide) rfl (nble rfl) (mi 0 rfl) ?_)
  intro ph6 W7 fx8
  have fx9 : Arv Z ph6 t kB .byte (6 : Int32) [.int (lo8 c0), .int (lo8 c1), .int 0, .int 0, .int 0, .int 0] (.int 0) := fx8
  refine og' C 35 (Ls' := #[.val (.ref b), .val (.int 2), .val (.ref t), .val (.int 1), .val (.int 6), .val (.int 1), .val (.int c1)]) (1 : Int32) d6_32 rfl (by decide) rfl rfl (og' C 38 (Ls' := #[.val (.ref b), .val (.int 2), .val (.ref t), .val (.int 2), .val (.int 6), .val (.int 1), .val (.int c1)]) (1 : Int32) d6_35 rfl (by decide) rfl rfl ?_)
  refine og' C 41 (Ls' := #[.val (.ref b), .val (.int 2), .val (.ref t), .val (.int 2), .val (.int 6), .val (.int 2), .val (.int c1)]) (1 : Int32) d6_38 rfl (by decide) rfl rfl (om' C (pc' := 3) d6_41 (by decide) (by decide) ?_)
  refine oa' C 5 d6_3 rfl rfl (oa' C 7 d6_5 rfl rfl ?_)
  refine oi' C 10 d6_7 rfl (by decide) (oc' C 11 d6_10 rfl rfl rfl ?_)
  refine od' C 12 d6_11 rfl rfl ?_
  have fx10 := (fx5.other W7 hbt)
  refine og1' C 13 (v := (.int c2)) d6_12 rfl fx10 (by decide) rfl (ol' C 15 (Ls' := #[.val (.ref b), .val (.int 2), .val (.ref t), .val (.int 2), .val (.int 6), .val (.int 2), .val (.int c2)]) d6_13 rfl rfl ?_)
  refine oa' C 17 d6_15 rfl rfl (of1' C 20 (255 : Int32) d6_17 rfl (by decide) ?_)
  refine oh' C (pc' := 26) d6_20 (flt (l2 : ¬ ((255 : Int32) < c2))).2.2.2 (by decide) (by decide) (oc' C 27 d6_26 rfl rfl rfl ?_)
  refine od' C 28 d6_27 rfl rfl (oa' C 30 d6_28 rfl rfl ?_)
  refine oa1' C 31 (lo8 c2) d6_30 rfl rfl (oe1' C 32 2 (v := (lo8 c2)) (nar_lo8 _) d6_31 rfl fx9 (by decide) rfl (nble rfl) (mi 0 rfl) ?_)
  intro ph11 W12 fx13
  have fx14 : Arv Z ph11 t kB .byte (6 : Int32) [.int (lo8 c0), .int (lo8 c1), .int (lo8 c2), .int 0, .int 0, .int 0] (.int 0) := fx13
  refine og' C 35 (Ls' := #[.val (.ref b), .val (.int 3), .val (.ref t), .val (.int 2), .val (.int 6), .val (.int 2), .val (.int c2)]) (1 : Int32) d6_32 rfl (by decide) rfl rfl (og' C 38 (Ls' := #[.val (.ref b), .val (.int 3), .val (.ref t), .val (.int 3), .val (.int 6), .val (.int 2), .val (.int c2)]) (1 : Int32) d6_35 rfl (by decide) rfl rfl ?_)
  refine og' C 41 (Ls' := #[.val (.ref b), .val (.int 3), .val (.ref t), .val (.int 3), .val (.int 6), .val (.int 3), .val (.int c2)]) (1 : Int32) d6_38 rfl (by decide) rfl rfl (om' C (pc' := 3) d6_41 (by decide) (by decide) ?_)
  refine oa' C 5 d6_3 rfl rfl (oa' C 7 d6_5 rfl rfl ?_)
  refine oi' C 10 d6_7 rfl (by decide) (oc' C 11 d6_10 rfl rfl rfl ?_)
  refine od' C 12 d6_11 rfl rfl ?_
  have fx15 := (fx10.other W12 hbt)
  refine og1' C 13 (v := (.int c3)) d6_12 rfl fx15 (by decide) rfl (ol' C 15 (Ls' := #[.val (.ref b), .val (.int 3), .val (.ref t), .val (.int 3), .val (.int 6), .val (.int 3), .val (.int c3)]) d6_13 rfl rfl ?_)
  refine oa' C 17 d6_15 rfl rfl (of1' C 20 (255 : Int32) d6_17 rfl (by decide) ?_)
  refine oh' C (pc' := 26) d6_20 (flt (l3 : ¬ ((255 : Int32) < c3))).2.2.2 (by decide) (by decide) (oc' C 27 d6_26 rfl rfl rfl ?_)
  refine od' C 28 d6_27 rfl rfl (oa' C 30 d6_28 rfl rfl ?_)
  refine oa1' C 31 (lo8 c3) d6_30 rfl rfl (oe1' C 32 3 (v := (lo8 c3)) (nar_lo8 _) d6_31 rfl fx14 (by decide) rfl (nble rfl) (mi 0 rfl) ?_)
  intro ph16 W17 fx18
  have fx19 : Arv Z ph16 t kB .byte (6 : Int32) [.int (lo8 c0), .int (lo8 c1), .int (lo8 c2), .int (lo8 c3), .int 0, .int 0] (.int 0) := fx18
  refine og' C 35 (Ls' := #[.val (.ref b), .val (.int 4), .val (.ref t), .val (.int 3), .val (.int 6), .val (.int 3), .val (.int c3)]) (1 : Int32) d6_32 rfl (by decide) rfl rfl (og' C 38 (Ls' := #[.val (.ref b), .val (.int 4), .val (.ref t), .val (.int 4), .val (.int 6), .val (.int 3), .val (.int c3)]) (1 : Int32) d6_35 rfl (by decide) rfl rfl ?_)
  refine og' C 41 (Ls' := #[.val (.ref b), .val (.int 4), .val (.ref t), .val (.int 4), .val (.int 6), .val (.int 4), .val (.int c3)]) (1 : Int32) d6_38 rfl (by decide) rfl rfl (om' C (pc' := 3) d6_41 (by decide) (by decide) ?_)
  refine oa' C 5 d6_3 rfl rfl (oa' C 7 d6_5 rfl rfl ?_)
  refine oi' C 10 d6_7 rfl (by decide) (oc' C 11 d6_10 rfl rfl rfl ?_)
  refine od' C 12 d6_11 rfl rfl ?_
  have fx20 := (fx15.other W17 hbt)
  refine og1' C 13 (v := (.int c4)) d6_12 rfl fx20 (by decide) rfl (ol' C 15 (Ls' := #[.val (.ref b), .val (.int 4), .val (.ref t), .val (.int 4), .val (.int 6), .val (.int 4), .val (.int c4)]) d6_13 rfl rfl ?_)
  refine oa' C 17 d6_15 rfl rfl (of1' C 20 (255 : Int32) d6_17 rfl (by decide) ?_)
  refine oh' C (pc' := 26) d6_20 (flt (l4 : ¬ ((255 : Int32) < c4))).2.2.2 (by decide) (by decide) (oc' C 27 d6_26 rfl rfl rfl ?_)
  refine od' C 28 d6_27 rfl rfl (oa' C 30 d6_28 rfl rfl ?_)
  refine oa1' C 31 (lo8 c4) d6_30 rfl rfl (oe1' C 32 4 (v := (lo8 c4)) (nar_lo8 _) d6_31 rfl fx19 (by decide) rfl (nble rfl) (mi 0 rfl) ?_)
  intro ph21 W22 fx23
  have fx24 : Arv Z ph21 t kB .byte (6 : Int32) [.int (lo8 c0), .int (lo8 c1), .int (lo8 c2), .int (lo8 c3), .int (lo8 c4), .int 0] (.int 0) := fx23
  refine og' C 35 (Ls' := #[.val (.ref b), .val (.int 5), .val (.ref t), .val (.int 4), .val (.int 6), .val (.int 4), .val (.int c4)]) (1 : Int32) d6_32 rfl (by decide) rfl rfl (og' C 38 (Ls' := #[.val (.ref b), .val (.int 5), .val (.ref t), .val (.int 5), .val (.int 6), .val (.int 4), .val (.int c4)]) (1 : Int32) d6_35 rfl (by decide) rfl rfl ?_)
  refine og' C 41 (Ls' := #[.val (.ref b), .val (.int 5), .val (.ref t), .val (.int 5), .val (.int 6), .val (.int 5), .val (.int c4)]) (1 : Int32) d6_38 rfl (by decide) rfl rfl (om' C (pc' := 3) d6_41 (by decide) (by decide) ?_)
  refine oa' C 5 d6_3 rfl rfl (oa' C 7 d6_5 rfl rfl ?_)
  refine oi' C 10 d6_7 rfl (by decide) (oc' C 11 d6_10 rfl rfl rfl ?_)
  refine od' C 12 d6_11 rfl rfl ?_
  have fx25 := (fx20.other W22 hbt)
  refine og1' C 13 (v := (.int c5)) d6_12 rfl fx25 (by decide) rfl (ol' C 15 (Ls' := #[.val (.ref b), .val (.int 5), .val (.ref t), .val (.int 5), .val (.int 6), .val (.int 5), .val (.int c5)]) d6_13 rfl rfl ?_)
  refine oa' C 17 d6_15 rfl rfl (of1' C 20 (255 : Int32) d6_17 rfl (by decide) ?_)
  refine oh' C (pc' := 26) d6_20 (flt (l5 : ¬ ((255 : Int32) < c5))).2.2.2 (by decide) (by decide) (oc' C 27 d6_26 rfl rfl rfl ?_)
  refine od' C 28 d6_27 rfl rfl (oa' C 30 d6_28 rfl rfl ?_)
  refine oa1' C 31 (lo8 c5) d6_30 rfl rfl (oe1' C 32 5 (v := (lo8 c5)) (nar_lo8 _) d6_31 rfl fx24 (by decide) rfl (nble rfl) (mi 0 rfl) ?_)
  intro ph26 W27 fx28
  have fx29 : Arv Z ph26 t kB .byte (6 : Int32) [.int (lo8 c0), .int (lo8 c1), .int (lo8 c2), .int (lo8 c3), .int (lo8 c4), .int (lo8 c5)] (.int 0) := fx28
  refine og' C 35 (Ls' := #[.val (.ref b), .val (.int 6), .val (.ref t), .val (.int 5), .val (.int 6), .val (.int 5), .val (.int c5)]) (1 : Int32) d6_32 rfl (by decide) rfl rfl (og' C 38 (Ls' := #[.val (.ref b), .val (.int 6), .val (.ref t), .val (.int 6), .val (.int 6), .val (.int 5), .val (.int c5)]) (1 : Int32) d6_35 rfl (by decide) rfl rfl ?_)
  refine og' C 41 (Ls' := #[.val (.ref b), .val (.int 6), .val (.ref t), .val (.int 6), .val (.int 6), .val (.int 6), .val (.int c5)]) (1 : Int32) d6_38 rfl (by decide) rfl rfl (om' C (pc' := 3) d6_41 (by decide) (by decide) ?_)
  refine oa' C 5 d6_3 rfl rfl (oa' C 7 d6_5 rfl rfl ?_)
  refine oh' C (pc' := 44) d6_7 (by decide) (by decide) (by decide) (oa' C 46 d6_44 rfl rfl ?_)
  refine ol1' C d6_46 rfl (by decide) (by decide) ?_
  exact ⟨rfl, fx29⟩
theorem ct_cmpA6 (l : Launch) (Z : State) (a0 : Array Value) (hw : HW a0 Z) {cS : Int32} {fm : Value} (am : Amb Z a0 cS fm) {b : Addr} {kC : ClassId} {c0 c1 c2 c3 c4 c5 : Int32} {h0 : Heap} (p0 : Arv Z h0 b kC .char (6 : Int32) [.int c0, .int c1, .int c2, .int c3, .int c4, .int c5] (.int 0)) (l0 : ¬ (255 : Int32) < c0) (l1 : ¬ (255 : Int32) < c1) (l2 : ¬ (255 : Int32) < c2) (l3 : ¬ (255 : Int32) < c3) (l4 : ¬ (255 : Int32) < c4) (l5 : ¬ (255 : Int32) < c5) :
    Py l Z (⟨"java/lang/StringUTF16", "compress", "([CII)[B"⟩ : MethodName) 2 35 1 6 #[(.ref b), .int 0, .int 6] h0 [] (fun rv h' => ∃ (t : Addr) (kB : ClassId), rv = some (.ref t) ∧ Arv Z h' t kB .byte (6 : Int32) [.int (lo8 c0), .int (lo8 c1), .int (lo8 c2), .int (lo8 c3), .int (lo8 c4), .int (lo8 c5)] (.int 0) ∧ (h0.size ≤ t)) := by
  refine Ct.py (by0 := zc22) (ml := 6) (rt := (some (.array .byte))) (rm := ({ frames := 1, cells := 1, slots := 6, locals := 18 } : Room)) ?_ (hq hw 22 rfl) (hq hw 21 rfl)
  refine Ct.mk (a0 := a0) (Ls := #[.val (.ref b), .val (.int 0), .val (.int 6), .unset, .unset, .unset]) (plainFor_of_name pn_java_lang_StringUTF16) (fun m => by simp [entryFrame, mkF, argsToLocals, Value.category]) ?_
  intro κ C
  show Go l _ Z _ _ _ κ [] h0 0 #[.val (.ref b), .val (.int 0), .val (.int 6), .unset, .unset, .unset] [] 0 0
  refine od' C 1 d5_0 rfl rfl (ow1' C 3 1 6 (ty := .byte) (cap := 6) d5_1 rfl rfl rfl rfl (hq hw 23 rfl) (by decide) (by decide) (by decide) (by decide) (by decide) ?_)
  intro b1 ph2 k3 g4 E5 V6
  have fx7 : Arv Z ph2 b1 k3 .byte (6 : Int32) [.int 0, .int 0, .int 0, .int 0, .int 0, .int 0] (.int 0) := V6
  refine ov1' C 4 (Ls' := #[.val (.ref b), .val (.int 0), .val (.int 6), .val (.ref b1), .unset, .unset]) d5_3 rfl rfl rfl (oc' C 5 d5_4 rfl rfl rfl ?_)
  refine od' C 6 d5_5 rfl rfl (oc' C 7 d5_6 rfl rfl rfl ?_)
  refine of' C 8 (0 : Int32) d5_7 rfl (by decide) (od' C 9 d5_8 rfl rfl ?_)
  have fx8 := (p0.ext E5)
  refine or' C (argsL := [(.ref b), .int 0, (.ref b1), .int 0, .int 6]) (W := 0) d5_9 (hq hw 24 rfl) (hq hw 25 rfl) (hq hw 21 rfl) (hq hw 26 rfl) (by decide) pd___CI_BII_I (ct_cmp6 l Z a0 hw am (b := b) (t := b1) (kC := kC) (kB := k3) (c0 := c0) (c1 := c1) (c2 := c2) (c3 := c3) (c4 := c4) (c5 := c5) fx8 fx7 l0 l1 l2 l3 l4 l5 (Nat.ne_of_lt (nltle (p0).lt (Nat.le_of_eq g4.symm)))) rfl (Nat.le_of_eq rfl) rfl (by decide) (memsS (mi 0 rfl) mems0) ?_
  intro fv9 ph10 K11 fq12
  obtain ⟨rfl, fx13⟩ := fq12
  refine ⟨[], fresh0, ?_⟩
  show Go l _ Z _ _ _ κ _ _ 12 _ [.int 6] 1 6
  refine ol' C 14 (Ls' := #[.val (.ref b), .val (.int 0), .val (.int 6), .val (.ref b1), .val (.int 6), .unset]) d5_12 rfl rfl (oa' C 16 d5_14 rfl rfl ?_)
  refine od' C 17 d5_16 rfl rfl (oh' C (pc' := 57) d5_17 (by decide) (by decide) (by decide) ?_)
  refine oc' C 58 d5_57 rfl rfl rfl (ov' C (v := (.ref b1)) d5_58 rfl rfl rfl (by decide) (by decide) ?_)
  exact ⟨b1, k3, rfl, fx13, (Nat.le_of_eq g4.symm)⟩
theorem ct_coder6 (l : Launch) (Z : State) (a0 : Array Value) (hw : HW a0 Z) {cS : Int32} {fm : Value} (am : Amb Z a0 cS fm) {t : Addr} {kB : ClassId} {vs : List Value} {h0 : Heap} (p0 : Arv Z h0 t kB .byte (6 : Int32) vs (.int 0)) :
    Py l Z (⟨"java/lang/StringUTF16", "coderFromArrayLen", "([BI)B"⟩ : MethodName) 1 13 0 0 #[(.ref t), .int 6] h0 [] (fun rv h' => rv = some (.int 0) ∧ h' = h0) := by
  refine Ct.py (by0 := zc21) (ml := 2) (rt := (some .byte)) (rm := ({ frames := 0, cells := 0, slots := 0, locals := 0 } : Room)) ?_ (hq hw 29 rfl) (hq hw 21 rfl)
  refine Ct.mk (a0 := a0) (Ls := #[.val (.ref t), .val (.int 6)]) (plainFor_of_name pn_java_lang_StringUTF16) (fun m => by simp [entryFrame, mkF, argsToLocals, Value.category]) ?_
  intro κ C
  show Go l _ Z _ _ _ κ [] h0 0 #[.val (.ref t), .val (.int 6)] [] 0 0
  refine od' C 1 d7_0 rfl rfl (oc' C 2 d7_1 rfl rfl rfl ?_)
  refine oj' C 3 d7_2 rfl p0 (oj1' C 4 (0 : Int32) d7_3 rfl (by decide) ?_)
  refine ox' C 6 (31 : Int32) d7_4 rfl (by decide) (ot2' C 7 (0 : Int32) d7_6 rfl (by decide) ?_)
  refine oa1' C 8 (0 : Int32) d7_7 rfl (by decide) (oz' C (t := .byte) (z := (0 : Int32)) d7_8 rfl (by decide) (by decide) (by decide) (by decide) ?_)
  exact ⟨rfl, rfl⟩
theorem ct_strV6 (l : Launch) (Z : State) (a0 : Array Value) (hw : HW a0 Z) {cS : Int32} {fm : Value} (am : Amb Z a0 cS fm) {a b : Addr} {kC : ClassId} {c0 c1 c2 c3 c4 c5 : Int32} {h0 : Heap} (p0 : Exa Z h0 a "java/lang/String") (p1 : Fld Z h0 a "java/lang/String" "value" "[B" .null) (p2 : Fld Z h0 a "java/lang/String" "coder" "B" (.int 0)) (p3 : Arv Z h0 b kC .char (6 : Int32) [.int c0, .int c1, .int c2, .int c3, .int c4, .int c5] (.int 0)) (l0 : ¬ (255 : Int32) < c0) (l1 : ¬ (255 : Int32) < c1) (l2 : ¬ (255 : Int32) < c2) (l3 : ¬ (255 : Int32) < c3) (l4 : ¬ (255 : Int32) < c4) (l5 : ¬ (255 : Int32) < c5) :
    Py l Z (⟨"java/lang/String", "<init>", "([CIILjava/lang/Void;)V"⟩ : MethodName) 3 52 1 6 #[(.ref a), (.ref b), .int 0, .int 6, .null] h0 [a] (fun rv h' => ∃ (t : Addr) (kB : ClassId), rv = none ∧ Exa Z h' a "java/lang/String" ∧ Fld Z h' a "java/lang/String" "coder" "B" (.int 0) ∧ Fld Z h' a "java/lang/String" "value" "[B" (.ref t) ∧ Arv Z h' t kB .byte (6 : Int32) [.int (lo8 c0), .int (lo8 c1), .int (lo8 c2), .int (lo8 c3), .int (lo8 c4), .int (lo8 c5)] (.int 0) ∧ (h0.size ≤ t)) := by
  refine Ct.py (by0 := zc4) (ml := 6) (rt := none) (rm := ({ frames := 2, cells := 1, slots := 6, locals := 35 } : Room)) ?_ (hq hw 14 rfl) (hq hw 6 rfl)
  refine Ct.mk (a0 := a0) (Ls := #[.val (.ref a), .val (.ref b), .val (.int 0), .val (.int 6), .val .null, .unset]) (plainFor_of_name pn_java_lang_String) (fun m => by simp [entryFrame, mkF, argsToLocals, Value.category]) ?_
  intro κ C
  show Go l _ Z _ _ _ κ [a] h0 0 #[.val (.ref a), .val (.ref b), .val (.int 0), .val (.int 6), .val .null, .unset] [] 0 0
  refine oc' C 1 d3_0 rfl rfl rfl (oj2' C 4 (W := 0) d3_1 rfl (hq hw 15 rfl) (hq hw 16 rfl) (hq hw 17 rfl) rfl (by decide) (Nat.le_of_eq rfl) (by decide) ?_)
  refine od' C 5 d3_4 rfl rfl (om1' C (pc' := 27) d3_5 (by decide) (by decide) (by decide) ?_)
  refine oy1' C 30 d3_27 rfl (hq hw 18 rfl) am.2.1 (ot' C 33 d3_30 rfl (feq (am.2.2.1 : ¬ (cS = (0 : Int32)))).1 ?_)
  refine oc' C 34 d3_33 rfl rfl rfl (od' C 35 d3_34 rfl rfl ?_)
  refine od' C 36 d3_35 rfl rfl (or' C (argsL := [(.ref b), .int 0, .int 6]) (W := 0) d3_36 (hq hw 19 rfl) (hq hw 20 rfl) (hq hw 21 rfl) (hq hw 22 rfl) (by decide) pd___CII__B (ct_cmpA6 l Z a0 hw am (b := b) (kC := kC) (c0 := c0) (c1 := c1) (c2 := c2) (c3 := c3) (c4 := c4) (c5 := c5) p3 l0 l1 l2 l3 l4 l5) rfl (Nat.le_of_eq rfl) rfl (by decide) mems0 ?_)
  intro fv1 ph2 K3 fq4
  obtain ⟨t5, kB6, rfl, fx7, fx8⟩ := fq4
  refine ⟨[t5], (freshS ⟨fx8, (fx7).lt⟩ fresh0), ?_⟩
  show Go l _ Z _ _ _ κ [t5, a] _ 39 _ [(.ref t5)] 1 6
  refine ob1' C 41 (Ls' := #[.val (.ref a), .val (.ref b), .val (.int 0), .val (.int 6), .val .null, .val (.ref t5)]) d3_39 rfl rfl rfl (oc' C 42 d3_41 rfl rfl rfl ?_)
  refine ob' C 44 d3_42 rfl rfl rfl (od' C 45 d3_44 rfl rfl ?_)
  refine or' C (argsL := [(.ref t5), .int 6]) (W := 1) d3_45 (hq hw 27 rfl) (hq hw 28 rfl) (hq hw 21 rfl) (hq hw 29 rfl) (by decide) pd___BI_B (ct_coder6 l Z a0 hw am (t := t5) (kB := kB6) (vs := [.int (lo8 c0), .int (lo8 c1), .int (lo8 c2), .int (lo8 c3), .int (lo8 c4), .int (lo8 c5)]) fx7) rfl (Nat.le_of_eq rfl) rfl (by decide) mems0 ?_
  intro fv9 ph10 K11 fq12
  obtain ⟨rfl, rfl⟩ := fq12
  refine ⟨[], fresh0, ?_⟩
  show Go l _ Z _ _ _ κ _ _ 48 _ [.int 0, (.ref a)] 1 6
  have fx13 := (p2.keep K3 nin0)
  have fx14 := (p0.keep K3)
  refine ol2' C 51 (ty := .byte) (v' := .int 0) d3_48 rfl (hq hw 30 rfl) Via.refl fx13 fx14 (Or.inr ⟨(hq hw 31 rfl), rfl, rfl⟩) (hq hw 5 rfl) (by decide) rfl (by decide) (mi 1 rfl) ?_
  intro ph15 W16
  have fx17 : Fld Z ph15 a "java/lang/String" "coder" "B" (.int 0) := Fld.same W16 fx13
  refine oc' C 52 d3_51 rfl rfl rfl (ob' C 54 d3_52 rfl rfl rfl ?_)
  have fx18 := (Fld.other W16 (p1.keep K3 nin0) (Or.inr (slot_ne (Or.inr (hq hw 33 rfl)) (Or.inr (hq hw 31 rfl)) (by decide) (t := (.array .byte)) (t' := .byte) (by decide) (by decide))))
  have fx19 := (Exa.wr W16 fx14)
  refine oh1' C 57 (ty := (.array .byte)) d3_54 rfl (hq hw 32 rfl) Via.refl fx18 fx19 (Or.inr ⟨(hq hw 33 rfl), rfl, rfl⟩) (hq hw 5 rfl) (by decide) rfl rfl (mi 1 rfl) ?_
  intro ph20 W21
  have fx22 : Fld Z ph20 a "java/lang/String" "value" "[B" (.ref t5) := Fld.same W21 fx18
  refine oe' C d3_57 rfl (by decide) (by decide) ?_
  have fx23 := (Exa.wr W21 fx19)
  have fx24 := (Fld.other W21 fx17 (Or.inr (slot_ne (Or.inr (hq hw 31 rfl)) (Or.inr (hq hw 33 rfl)) (by decide) (t := .byte) (t' := (.array .byte)) (by decide) (by decide))))
  have fx25 := ((fx7.other W16 (Ne.symm (Nat.ne_of_lt (nltle (p0).lt fx8)))).other W21 (Ne.symm (Nat.ne_of_lt (nltle (p0).lt fx8))))
  exact ⟨t5, kB6, rfl, fx23, fx24, fx22, fx25, fx8⟩
theorem ct_str6 (l : Launch) (Z : State) (a0 : Array Value) (hw : HW a0 Z) {cS : Int32} {fm : Value} (am : Amb Z a0 cS fm) {a b : Addr} {kC : ClassId} {c0 c1 c2 c3 c4 c5 : Int32} {h0 : Heap} (p0 : Exa Z h0 a "java/lang/String") (p1 : Fld Z h0 a "java/lang/String" "value" "[B" .null) (p2 : Fld Z h0 a "java/lang/String" "coder" "B" (.int 0)) (p3 : Arv Z h0 b kC .char (6 : Int32) [.int c0, .int c1, .int c2, .int c3, .int c4, .int c5] (.int 0)) (l0 : ¬ (255 : Int32) < c0) (l1 : ¬ (255 : Int32) < c1) (l2 : ¬ (255 : Int32) < c2) (l3 : ¬ (255 : Int32) < c3) (l4 : ¬ (255 : Int32) < c4) (l5 : ¬ (255 : Int32) < c5) :
    Py l Z (⟨"java/lang/String", "<init>", "([C)V"⟩ : MethodName) 4 65 1 6 #[(.ref a), (.ref b)] h0 [a] (fun rv h' => ∃ (t : Addr) (kB : ClassId), rv = none ∧ Exa Z h' a "java/lang/String" ∧ Fld Z h' a "java/lang/String" "coder" "B" (.int 0) ∧ Fld Z h' a "java/lang/String" "value" "[B" (.ref t) ∧ Arv Z h' t kB .byte (6 : Int32) [.int (lo8 c0), .int (lo8 c1), .int (lo8 c2), .int (lo8 c3), .int (lo8 c4), .int (lo8 c5)] (.int 0) ∧ (h0.size ≤ t)) := by
  refine Ct.py (by0 := zc10) (ml := 2) (rt := none) (rm := ({ frames := 3, cells := 1, slots := 6, locals := 52 } : Room)) ?_ (hq hw 10 rfl) (hq hw 6 rfl)
  refine Ct.mk (a0 := a0) (Ls := #[.val (.ref a), .val (.ref b)]) (plainFor_of_name pn_java_lang_String) (fun m => by simp [entryFrame, mkF, argsToLocals, Value.category]) ?_
  intro κ C
  show Go l _ Z _ _ _ κ [a] h0 0 #[.val (.ref a), .val (.ref b)] [] 0 0
  refine oc' C 1 d2_0 rfl rfl rfl (oc' C 2 d2_1 rfl rfl rfl ?_)
  refine of' C 3 (0 : Int32) d2_2 rfl (by decide) (oc' C 4 d2_3 rfl rfl rfl ?_)
  refine oj' C 5 d2_4 rfl p3 (oo2' C 6 d2_5 rfl ?_)
  refine oq1' C (a := a) (argsL := [(.ref b), .int 0, .int 6, .null]) (W := 0) d2_6 rfl (hq hw 11 rfl) (hq hw 12 rfl) (hq hw 14 rfl) (by decide) pd___CIILjava_lang_Void__V (ct_strV6 l Z a0 hw am (a := a) (b := b) (kC := kC) (c0 := c0) (c1 := c1) (c2 := c2) (c3 := c3) (c4 := c4) (c5 := c5) p0 p1 p2 p3 l0 l1 l2 l3 l4 l5) rfl (Nat.le_of_eq rfl) rfl (by decide) (memsS (mi 0 rfl) mems0) ?_
  intro fv1 ph2 K3 fq4
  obtain ⟨t5, kB6, rfl, fx7, fx8, fx9, fx10, fx11⟩ := fq4
  refine ⟨[t5], (freshS ⟨fx11, (fx10).lt⟩ fresh0), ?_⟩
  show Go l _ Z _ _ _ κ [t5, a] _ 9 _ [] 1 6
  refine oe' C d2_9 rfl (by decide) (by decide) ?_
  exact ⟨t5, kB6, rfl, fx7, fx8, fx9, fx10, fx11⟩
theorem ct_cmp7 (l : Launch) (Z : State) (a0 : Array Value) (hw : HW a0 Z) {cS : Int32} {fm : Value} (am : Amb Z a0 cS fm) {b t : Addr} {kC kB : ClassId} {c0 c1 c2 c3 c4 c5 c6 : Int32} {h0 : Heap} (p0 : Arv Z h0 b kC .char (7 : Int32) [.int c0, .int c1, .int c2, .int c3, .int c4, .int c5, .int c6] (.int 0)) (p1 : Arv Z h0 t kB .byte (7 : Int32) [.int 0, .int 0, .int 0, .int 0, .int 0, .int 0, .int 0] (.int 0)) (l0 : ¬ (255 : Int32) < c0) (l1 : ¬ (255 : Int32) < c1) (l2 : ¬ (255 : Int32) < c2) (l3 : ¬ (255 : Int32) < c3) (l4 : ¬ (255 : Int32) < c4) (l5 : ¬ (255 : Int32) < c5) (l6 : ¬ (255 : Int32) < c6) (hbt : b ≠ t) :
    Py l Z (⟨"java/lang/StringUTF16", "compress", "([CI[BII)I"⟩ : MethodName) 1 18 0 0 #[(.ref b), .int 0, (.ref t), .int 0, .int 7] h0 [t] (fun rv h' => rv = some (.int 7) ∧ Arv Z h' t kB .byte (7 : Int32) [.int (lo8 c0), .int (lo8 c1), .int (lo8 c2), .int (lo8 c3), .int (lo8 c4), .int (lo8 c5), .int (lo8 c6)] (.int 0)) := by
  refine Ct.py (by0 := zc23) (ml := 7) (rt := (some .int)) (rm := ({ frames := 0, cells := 0, slots := 0, locals := 0 } : Room)) ?_ (hq hw 26 rfl) (hq hw 21 rfl)
  refine Ct.mk (a0 := a0) (Ls := #[.val (.ref b), .val (.int 0), .val (.ref t), .val (.int 0), .val (.int 7), .unset, .unset]) (plainFor_of_name pn_java_lang_StringUTF16) (fun m => by simp [entryFrame, mkF, argsToLocals, Value.category]) ?_
  intro κ C
  show Go l _ Z _ _ _ κ [t] h0 0 #[.val (.ref b), .val (.int 0), .val (.ref t), .val (.int 0), .val (.int 7), .unset, .unset] [] 0 0
  refine of' C 1 (0 : Int32) d6_0 rfl (by decide) (ol' C 3 (Ls' := #[.val (.ref b), .val (.int 0), .val (.ref t), .val (.int 0), .val (.int 7), .val (.int 0), .unset]) d6_1 rfl rfl ?_)
  refine oa' C 5 d6_3 rfl rfl (oa' C 7 d6_5 rfl rfl ?_)
  refine oi' C 10 d6_7 rfl (by decide) (oc' C 11 d6_10 rfl rfl rfl ?_)
  refine od' C 12 d6_11 rfl rfl (og1' C 13 (v := (.int c0)) d6_12 rfl p0 (by decide) rfl ?_)
  refine ol' C 15 (Ls' := #[.val (.ref b), .val (.int 0), .val (.ref t), .val (.int 0), .val (.int 7), .val (.int 0), .val (.int c0)]) d6_13 rfl rfl (oa' C 17 d6_15 rfl rfl ?_)
  refine of1' C 20 (255 : Int32) d6_17 rfl (by decide) (oh' C (pc' := 26) d6_20 (flt (l0 : ¬ ((255 : Int32) < c0))).2.2.2 (by decide) (by decide) ?_)
  refine oc' C 27 d6_26 rfl rfl rfl (od' C 28 d6_27 rfl rfl ?_)
  refine oa' C 30 d6_28 rfl rfl (oa1' C 31 (lo8 c0) d6_30 rfl rfl ?_)
  refine oe1' C 32 0 (v := (lo8 c0)) (nar_lo8 _) d6_31 rfl p1 (by decide) rfl (nble rfl) (mi 0 rfl) ?_
  intro ph1 W2 fx3
  have fx4 : Arv Z ph1 t kB .byte (7 : Int32) [.int (lo8 c0), .int 0, .int 0, .int 0, .int 0, .int 0, .int 0] (.int 0) := fx3
  refine og' C 35 (Ls' := #[.val (.ref b), .val (.int 1), .val (.ref t), .val (.int 0), .val (.int 7), .val (.int 0), .val (.int c0)]) (1 : Int32) d6_32 rfl (by decide) rfl rfl (og' C 38 (Ls' := #[.val (.ref b), .val (.int 1), .val (.ref t), .val (.int 1), .val (.int 7), .val (.int 0), .val (.int c0)]) (1 : Int32) d6_35 rfl (by decide) rfl rfl ?_)
  refine og' C 41 (Ls' := #[.val (.ref b), .val (.int 1), .val (.ref t), .val (.int 1), .val (.int 7), .val (.int 1), .val (.int c0)]) (1 : Int32) d6_38 rfl (by decide) rfl rfl (om' C (pc' := 3) d6_41 (by decide) (by decide) ?_)
  refine oa' C 5 d6_3 rfl rfl (oa' C 7 d6_5 rfl rfl ?_)
  refine oi' C 10 d6_7 rfl (by decide) (oc' C 11 d6_10 rfl rfl rfl ?_)
  refine od' C 12 d6_11 rfl rfl ?_
  have fx5 := (p0.other W2 hbt)
  refine og1' C 13 (v := (.int c1)) d6_12 rfl fx5 (by decide) rfl (ol' C 15 (Ls' := #[.val (.ref b), .val (.int 1), .val (.ref t), .val (.int 1), .val (.int 7), .val (.int 1), .val (.int c1)]) d6_13 rfl rfl ?_)
  refine oa' C 17 d6_15 rfl rfl (of1' C 20 (255 : Int32) d6_17 rfl (by decide) ?_)
  refine oh' C (pc' := 26) d6_20 (flt (l1 : ¬ ((255 : Int32) < c1))).2.2.2 (by decide) (by decide) (oc' C 27 d6_26 rfl rfl rfl ?_)
  refine od' C 28 d6_27 rfl rfl (oa' C 30 d6_28 rfl rfl ?_)
  refine oa1' C 31 (lo8 c1) d6_30 rfl rfl (oe1' C 32 1 (v := (lo8 c1)) (nar_lo8 _) d6_31 rfl fx4 (by decide) rfl (nble rfl) (mi 0 rfl) ?_)
  intro ph6 W7 fx8
  have fx9 : Arv Z ph6 t kB .byte (7 : Int32) [.int (lo8 c0), .int (lo8 c1), .int 0, .int 0, .int 0, .int 0, .int 0] (.int 0) := fx8
  refine og' C 35 (Ls' := #[.val (.ref b), .val (.int 2), .val (.ref t), .val (.int 1), .val (.int 7), .val (.int 1), .val (.int c1)]) (1 : Int32) d6_32 rfl (by decide) rfl rfl (og' C 38 (Ls' := #[.val (.ref b), .val (.int 2), .val (.ref t), .val (.int 2), .val (.int 7), .val (.int 1), .val (.int c1)]) (1 : Int32) d6_35 rfl (by decide) rfl rfl ?_)
  refine og' C 41 (Ls' := #[.val (.ref b), .val (.int 2), .val (.ref t), .val (.int 2), .val (.int 7), .val (.int 2), .val (.int c1)]) (1 : Int32) d6_38 rfl (by decide) rfl rfl (om' C (pc' := 3) d6_41 (by decide) (by decide) ?_)
  refine oa' C 5 d6_3 rfl rfl (oa' C 7 d6_5 rfl rfl ?_)
  refine oi' C 10 d6_7 rfl (by decide) (oc' C 11 d6_10 rfl rfl rfl ?_)
  refine od' C 12 d6_11 rfl rfl ?_
  have fx10 := (fx5.other W7 hbt)
  refine og1' C 13 (v := (.int c2)) d6_12 rfl fx10 (by decide) rfl (ol' C 15 (Ls' := #[.val (.ref b), .val (.int 2), .val (.ref t), .val (.int 2), .val (.int 7), .val (.int 2), .val (.int c2)]) d6_13 rfl rfl ?_)
  refine oa' C 17 d6_15 rfl rfl (of1' C 20 (255 : Int32) d6_17 rfl (by decide) ?_)
  refine oh' C (pc' := 26) d6_20 (flt (l2 : ¬ ((255 : Int32) < c2))).2.2.2 (by decide) (by decide) (oc' C 27 d6_26 rfl rfl rfl ?_)
  refine od' C 28 d6_27 rfl rfl (oa' C 30 d6_28 rfl rfl ?_)
  refine oa1' C 31 (lo8 c2) d6_30 rfl rfl (oe1' C 32 2 (v := (lo8 c2)) (nar_lo8 _) d6_31 rfl fx9 (by decide) rfl (nble rfl) (mi 0 rfl) ?_)
  intro ph11 W12 fx13
  have fx14 : Arv Z ph11 t kB .byte (7 : Int32) [.int (lo8 c0), .int (lo8 c1), .int (lo8 c2), .int 0, .int 0, .int 0, .int 0] (.int 0) := fx13
  refine og' C 35 (Ls' := #[.val (.ref b), .val (.int 3), .val (.ref t), .val (.int 2), .val (.int 7), .val (.int 2), .val (.int c2)]) (1 : Int32) d6_32 rfl (by decide) rfl rfl (og' C 38 (Ls' := #[.val (.ref b), .val (.int 3), .val (.ref t), .val (.int 3), .val (.int 7), .val (.int 2), .val (.int c2)]) (1 : Int32) d6_35 rfl (by decide) rfl rfl ?_)
  refine og' C 41 (Ls' := #[.val (.ref b), .val (.int 3), .val (.ref t), .val (.int 3), .val (.int 7), .val (.int 3), .val (.int c2)]) (1 : Int32) d6_38 rfl (by decide) rfl rfl (om' C (pc' := 3) d6_41 (by decide) (by decide) ?_)
  refine oa' C 5 d6_3 rfl rfl (oa' C 7 d6_5 rfl rfl ?_)
  refine oi' C 10 d6_7 rfl (by decide) (oc' C 11 d6_10 rfl rfl rfl ?_)
  refine od' C 12 d6_11 rfl rfl ?_
  have fx15 := (fx10.other W12 hbt)
  refine og1' C 13 (v := (.int c3)) d6_12 rfl fx15 (by decide) rfl (ol' C 15 (Ls' := #[.val (.ref b), .val (.int 3), .val (.ref t), .val (.int 3), .val (.int 7), .val (.int 3), .val (.int c3)]) d6_13 rfl rfl ?_)
  refine oa' C 17 d6_15 rfl rfl (of1' C 20 (255 : Int32) d6_17 rfl (by decide) ?_)
  refine oh' C (pc' := 26) d6_20 (flt (l3 : ¬ ((255 : Int32) < c3))).2.2.2 (by decide) (by decide) (oc' C 27 d6_26 rfl rfl rfl ?_)
  refine od' C 28 d6_27 rfl rfl (oa' C 30 d6_28 rfl rfl ?_)
  refine oa1' C 31 (lo8 c3) d6_30 rfl rfl (oe1' C 32 3 (v := (lo8 c3)) (nar_lo8 _) d6_31 rfl fx14 (by decide) rfl (nble rfl) (mi 0 rfl) ?_)
  intro ph16 W17 fx18
  have fx19 : Arv Z ph16 t kB .byte (7 : Int32) [.int (lo8 c0), .int (lo8 c1), .int (lo8 c2), .int (lo8 c3), .int 0, .int 0, .int 0] (.int 0) := fx18
  refine og' C 35 (Ls' := #[.val (.ref b), .val (.int 4), .val (.ref t), .val (.int 3), .val (.int 7), .val (.int 3), .val (.int c3)]) (1 : Int32) d6_32 rfl (by decide) rfl rfl (og' C 38 (Ls' := #[.val (.ref b), .val (.int 4), .val (.ref t), .val (.int 4), .val (.int 7), .val (.int 3), .val (.int c3)]) (1 : Int32) d6_35 rfl (by decide) rfl rfl ?_)
  refine og' C 41 (Ls' := #[.val (.ref b), .val (.int 4), .val (.ref t), .val (.int 4), .val (.int 7), .val (.int 4), .val (.int c3)]) (1 : Int32) d6_38 rfl (by decide) rfl rfl (om' C (pc' := 3) d6_41 (by decide) (by decide) ?_)
  refine oa' C 5 d6_3 rfl rfl (oa' C 7 d6_5 rfl rfl ?_)
  refine oi' C 10 d6_7 rfl (by decide) (oc' C 11 d6_10 rfl rfl rfl ?_)
  refine od' C 12 d6_11 rfl rfl ?_
  have fx20 := (fx15.other W17 hbt)
  refine og1' C 13 (v := (.int c4)) d6_12 rfl fx20 (by decide) rfl (ol' C 15 (Ls' := #[.val (.ref b), .val (.int 4), .val (.ref t), .val (.int 4), .val (.int 7), .val (.int 4), .val (.int c4)]) d6_13 rfl rfl ?_)
  refine oa' C 17 d6_15 rfl rfl (of1' C 20 (255 : Int32) d6_17 rfl (by decide) ?_)
  refine oh' C (pc' := 26) d6_20 (flt (l4 : ¬ ((255 : Int32) < c4))).2.2.2 (by decide) (by decide) (oc' C 27 d6_26 rfl rfl rfl ?_)
  refine od' C 28 d6_27 rfl rfl (oa' C 30 d6_28 rfl rfl ?_)
  refine oa1' C 31 (lo8 c4) d6_30 rfl rfl (oe1' C 32 4 (v := (lo8 c4)) (nar_lo8 _) d6_31 rfl fx19 (by decide) rfl (nble rfl) (mi 0 rfl) ?_)
  intro ph21 W22 fx23
  have fx24 : Arv Z ph21 t kB .byte (7 : Int32) [.int (lo8 c0), .int (lo8 c1), .int (lo8 c2), .int (lo8 c3), .int (lo8 c4), .int 0, .int 0] (.int 0) := fx23
  refine og' C 35 (Ls' := #[.val (.ref b), .val (.int 5), .val (.ref t), .val (.int 4), .val (.int 7), .val (.int 4), .val (.int c4)]) (1 : Int32) d6_32 rfl (by decide) rfl rfl (og' C 38 (Ls' := #[.val (.ref b), .val (.int 5), .val (.ref t), .val (.int 5), .val (.int 7), .val (.int 4), .val (.int c4)]) (1 : Int32) d6_35 rfl (by decide) rfl rfl ?_)
  refine og' C 41 (Ls' := #[.val (.ref b), .val (.int 5), .val (.ref t), .val (.int 5), .val (.int 7), .val (.int 5), .val (.int c4)]) (1 : Int32) d6_38 rfl (by decide) rfl rfl (om' C (pc' := 3) d6_41 (by decide) (by decide) ?_)
  refine oa' C 5 d6_3 rfl rfl (oa' C 7 d6_5 rfl rfl ?_)
  refine oi' C 10 d6_7 rfl (by decide) (oc' C 11 d6_10 rfl rfl rfl ?_)
  refine od' C 12 d6_11 rfl rfl ?_
  have fx25 := (fx20.other W22 hbt)
  refine og1' C 13 (v := (.int c5)) d6_12 rfl fx25 (by decide) rfl (ol' C 15 (Ls' := #[.val (.ref b), .val (.int 5), .val (.ref t), .val (.int 5), .val (.int 7), .val (.int 5), .val (.int c5)]) d6_13 rfl rfl ?_)
  refine oa' C 17 d6_15 rfl rfl (of1' C 20 (255 : Int32) d6_17 rfl (by decide) ?_)
  refine oh' C (pc' := 26) d6_20 (flt (l5 : ¬ ((255 : Int32) < c5))).2.2.2 (by decide) (by decide) (oc' C 27 d6_26 rfl rfl rfl ?_)
  refine od' C 28 d6_27 rfl rfl (oa' C 30 d6_28 rfl rfl ?_)
  refine oa1' C 31 (lo8 c5) d6_30 rfl rfl (oe1' C 32 5 (v := (lo8 c5)) (nar_lo8 _) d6_31 rfl fx24 (by decide) rfl (nble rfl) (mi 0 rfl) ?_)
  intro ph26 W27 fx28
  have fx29 : Arv Z ph26 t kB .byte (7 : Int32) [.int (lo8 c0), .int (lo8 c1), .int (lo8 c2), .int (lo8 c3), .int (lo8 c4), .int (lo8 c5), .int 0] (.int 0) := fx28
  refine og' C 35 (Ls' := #[.val (.ref b), .val (.int 6), .val (.ref t), .val (.int 5), .val (.int 7), .val (.int 5), .val (.int c5)]) (1 : Int32) d6_32 rfl (by decide) rfl rfl (og' C 38 (Ls' := #[.val (.ref b), .val (.int 6), .val (.ref t), .val (.int 6), .val (.int 7), .val (.int 5), .val (.int c5)]) (1 : Int32) d6_35 rfl (by decide) rfl rfl ?_)
  refine og' C 41 (Ls' := #[.val (.ref b), .val (.int 6), .val (.ref t), .val (.int 6), .val (.int 7), .val (.int 6), .val (.int c5)]) (1 : Int32) d6_38 rfl (by decide) rfl rfl (om' C (pc' := 3) d6_41 (by decide) (by decide) ?_)
  refine oa' C 5 d6_3 rfl rfl (oa' C 7 d6_5 rfl rfl ?_)
  refine oi' C 10 d6_7 rfl (by decide) (oc' C 11 d6_10 rfl rfl rfl ?_)
  refine od' C 12 d6_11 rfl rfl ?_
  have fx30 := (fx25.other W27 hbt)
  refine og1' C 13 (v := (.int c6)) d6_12 rfl fx30 (by decide) rfl (ol' C 15 (Ls' := #[.val (.ref b), .val (.int 6), .val (.ref t), .val (.int 6), .val (.int 7), .val (.int 6), .val (.int c6)]) d6_13 rfl rfl ?_)
  refine oa' C 17 d6_15 rfl rfl (of1' C 20 (255 : Int32) d6_17 rfl (by decide) ?_)
  refine oh' C (pc' := 26) d6_20 (flt (l6 : ¬ ((255 : Int32) < c6))).2.2.2 (by decide) (by decide) (oc' C 27 d6_26 rfl rfl rfl ?_)
  refine od' C 28 d6_27 rfl rfl (oa' C 30 d6_28 rfl rfl ?_)
  refine oa1' C 31 (lo8 c6) d6_30 rfl rfl (oe1' C 32 6 (v := (lo8 c6)) (nar_lo8 _) d6_31 rfl fx29 (by decide) rfl (nble rfl) (mi 0 rfl) ?_)
  intro ph31 W32 fx33
  have fx34 : Arv Z ph31 t kB .byte (7 : Int32) [.int (lo8 c0), .int (lo8 c1), .int (lo8 c2), .int (lo8 c3), .int (lo8 c4), .int (lo8 c5), .int (lo8 c6)] (.int 0) := fx33
  refine og' C 35 (Ls' := #[.val (.ref b), .val (.int 7), .val (.ref t), .val (.int 6), .val (.int 7), .val (.int 6), .val (.int c6)]) (1 : Int32) d6_32 rfl (by decide) rfl rfl (og' C 38 (Ls' := #[.val (.ref b), .val (.int 7), .val (.ref t), .val (.int 7), .val (.int 7), .val (.int 6), .val (.int c6)]) (1 : Int32) d6_35 rfl (by decide) rfl rfl ?_)
  refine og' C 41 (Ls' := #[.val (.ref b), .val (.int 7), .val (.ref t), .val (.int 7), .val (.int 7), .val (.int 7), .val (.int c6)]) (1 : Int32) d6_38 rfl (by decide) rfl rfl (om' C (pc' := 3) d6_41 (by decide) (by decide) ?_)
  refine oa' C 5 d6_3 rfl rfl (oa' C 7 d6_5 rfl rfl ?_)
  refine oh' C (pc' := 44) d6_7 (by decide) (by decide) (by decide) (oa' C 46 d6_44 rfl rfl ?_)
  refine ol1' C d6_46 rfl (by decide) (by decide) ?_
  exact ⟨rfl, fx34⟩
theorem ct_cmpA7 (l : Launch) (Z : State) (a0 : Array Value) (hw : HW a0 Z) {cS : Int32} {fm : Value} (am : Amb Z a0 cS fm) {b : Addr} {kC : ClassId} {c0 c1 c2 c3 c4 c5 c6 : Int32} {h0 : Heap} (p0 : Arv Z h0 b kC .char (7 : Int32) [.int c0, .int c1, .int c2, .int c3, .int c4, .int c5, .int c6] (.int 0)) (l0 : ¬ (255 : Int32) < c0) (l1 : ¬ (255 : Int32) < c1) (l2 : ¬ (255 : Int32) < c2) (l3 : ¬ (255 : Int32) < c3) (l4 : ¬ (255 : Int32) < c4) (l5 : ¬ (255 : Int32) < c5) (l6 : ¬ (255 : Int32) < c6) :
    Py l Z (⟨"java/lang/StringUTF16", "compress", "([CII)[B"⟩ : MethodName) 2 35 1 7 #[(.ref b), .int 0, .int 7] h0 [] (fun rv h' => ∃ (t : Addr) (kB : ClassId), rv = some (.ref t) ∧ Arv Z h' t kB .byte (7 : Int32) [.int (lo8 c0), .int (lo8 c1), .int (lo8 c2), .int (lo8 c3), .int (lo8 c4), .int (lo8 c5), .int (lo8 c6)] (.int 0) ∧ (h0.size ≤ t)) := by
  refine Ct.py (by0 := zc22) (ml := 6) (rt := (some (.array .byte))) (rm := ({ frames := 1, cells := 1, slots := 7, locals := 18 } : Room)) ?_ (hq hw 22 rfl) (hq hw 21 rfl)
  refine Ct.mk (a0 := a0) (Ls := #[.val (.ref b), .val (.int 0), .val (.int 7), .unset, .unset, .unset]) (plainFor_of_name pn_java_lang_StringUTF16) (fun m => by simp [entryFrame, mkF, argsToLocals, Value.category]) ?_
  intro κ C
  show Go l _ Z _ _ _ κ [] h0 0 #[.val (.ref b), .val (.int 0), .val (.int 7), .unset, .unset, .unset] [] 0 0
  refine od' C 1 d5_0 rfl rfl (ow1' C 3 1 7 (ty := .byte) (cap := 7) d5_1 rfl rfl rfl rfl (hq hw 23 rfl) (by decide) (by decide) (by decide) (by decide) (by decide) ?_)
  intro b1 ph2 k3 g4 E5 V6
  have fx7 : Arv Z ph2 b1 k3 .byte (7 : Int32) [.int 0, .int 0, .int 0, .int 0, .int 0, .int 0, .int 0] (.int 0) := V6
  refine ov1' C 4 (Ls' := #[.val (.ref b), .val (.int 0), .val (.int 7), .val (.ref b1), .unset, .unset]) d5_3 rfl rfl rfl (oc' C 5 d5_4 rfl rfl rfl ?_)
  refine od' C 6 d5_5 rfl rfl (oc' C 7 d5_6 rfl rfl rfl ?_)
  refine of' C 8 (0 : Int32) d5_7 rfl (by decide) (od' C 9 d5_8 rfl rfl ?_)
  have fx8 := (p0.ext E5)
  refine or' C (argsL := [(.ref b), .int 0, (.ref b1), .int 0, .int 7]) (W := 0) d5_9 (hq hw 24 rfl) (hq hw 25 rfl) (hq hw 21 rfl) (hq hw 26 rfl) (by decide) pd___CI_BII_I (ct_cmp7 l Z a0 hw am (b := b) (t := b1) (kC := kC) (kB := k3) (c0 := c0) (c1 := c1) (c2 := c2) (c3 := c3) (c4 := c4) (c5 := c5) (c6 := c6) fx8 fx7 l0 l1 l2 l3 l4 l5 l6 (Nat.ne_of_lt (nltle (p0).lt (Nat.le_of_eq g4.symm)))) rfl (Nat.le_of_eq rfl) rfl (by decide) (memsS (mi 0 rfl) mems0) ?_
  intro fv9 ph10 K11 fq12
  obtain ⟨rfl, fx13⟩ := fq12
  refine ⟨[], fresh0, ?_⟩
  show Go l _ Z _ _ _ κ _ _ 12 _ [.int 7] 1 7
  refine ol' C 14 (Ls' := #[.val (.ref b), .val (.int 0), .val (.int 7), .val (.ref b1), .val (.int 7), .unset]) d5_12 rfl rfl (oa' C 16 d5_14 rfl rfl ?_)
  refine od' C 17 d5_16 rfl rfl (oh' C (pc' := 57) d5_17 (by decide) (by decide) (by decide) ?_)
  refine oc' C 58 d5_57 rfl rfl rfl (ov' C (v := (.ref b1)) d5_58 rfl rfl rfl (by decide) (by decide) ?_)
  exact ⟨b1, k3, rfl, fx13, (Nat.le_of_eq g4.symm)⟩
theorem ct_coder7 (l : Launch) (Z : State) (a0 : Array Value) (hw : HW a0 Z) {cS : Int32} {fm : Value} (am : Amb Z a0 cS fm) {t : Addr} {kB : ClassId} {vs : List Value} {h0 : Heap} (p0 : Arv Z h0 t kB .byte (7 : Int32) vs (.int 0)) :
    Py l Z (⟨"java/lang/StringUTF16", "coderFromArrayLen", "([BI)B"⟩ : MethodName) 1 13 0 0 #[(.ref t), .int 7] h0 [] (fun rv h' => rv = some (.int 0) ∧ h' = h0) := by
  refine Ct.py (by0 := zc21) (ml := 2) (rt := (some .byte)) (rm := ({ frames := 0, cells := 0, slots := 0, locals := 0 } : Room)) ?_ (hq hw 29 rfl) (hq hw 21 rfl)
  refine Ct.mk (a0 := a0) (Ls := #[.val (.ref t), .val (.int 7)]) (plainFor_of_name pn_java_lang_StringUTF16) (fun m => by simp [entryFrame, mkF, argsToLocals, Value.category]) ?_
  intro κ C
  show Go l _ Z _ _ _ κ [] h0 0 #[.val (.ref t), .val (.int 7)] [] 0 0
  refine od' C 1 d7_0 rfl rfl (oc' C 2 d7_1 rfl rfl rfl ?_)
  refine oj' C 3 d7_2 rfl p0 (oj1' C 4 (0 : Int32) d7_3 rfl (by decide) ?_)
  refine ox' C 6 (31 : Int32) d7_4 rfl (by decide) (ot2' C 7 (0 : Int32) d7_6 rfl (by decide) ?_)
  refine oa1' C 8 (0 : Int32) d7_7 rfl (by decide) (oz' C (t := .byte) (z := (0 : Int32)) d7_8 rfl (by decide) (by decide) (by decide) (by decide) ?_)
  exact ⟨rfl, rfl⟩
theorem ct_strV7 (l : Launch) (Z : State) (a0 : Array Value) (hw : HW a0 Z) {cS : Int32} {fm : Value} (am : Amb Z a0 cS fm) {a b : Addr} {kC : ClassId} {c0 c1 c2 c3 c4 c5 c6 : Int32} {h0 : Heap} (p0 : Exa Z h0 a "java/lang/String") (p1 : Fld Z h0 a "java/lang/String" "value" "[B" .null) (p2 : Fld Z h0 a "java/lang/String" "coder" "B" (.int 0)) (p3 : Arv Z h0 b kC .char (7 : Int32) [.int c0, .int c1, .int c2, .int c3, .int c4, .int c5, .int c6] (.int 0)) (l0 : ¬ (255 : Int32) < c0) (l1 : ¬ (255 : Int32) < c1) (l2 : ¬ (255 : Int32) < c2) (l3 : ¬ (255 : Int32) < c3) (l4 : ¬ (255 : Int32) < c4) (l5 : ¬ (255 : Int32) < c5) (l6 : ¬ (255 : Int32) < c6) :
    Py l Z (⟨"java/lang/String", "<init>", "([CIILjava/lang/Void;)V"⟩ : MethodName) 3 52 1 7 #[(.ref a), (.ref b), .int 0, .int 7, .null] h0 [a] (fun rv h' => ∃ (t : Addr) (kB : ClassId), rv = none ∧ Exa Z h' a "java/lang/String" ∧ Fld Z h' a "java/lang/String" "coder" "B" (.int 0) ∧ Fld Z h' a "java/lang/String" "value" "[B" (.ref t) ∧ Arv Z h' t kB .byte (7 : Int32) [.int (lo8 c0), .int (lo8 c1), .int (lo8 c2), .int (lo8 c3), .int (lo8 c4), .int (lo8 c5), .int (lo8 c6)] (.int 0) ∧ (h0.size ≤ t)) := by
  refine Ct.py (by0 := zc4) (ml := 6) (rt := none) (rm := ({ frames := 2, cells := 1, slots := 7, locals := 35 } : Room)) ?_ (hq hw 14 rfl) (hq hw 6 rfl)
  refine Ct.mk (a0 := a0) (Ls := #[.val (.ref a), .val (.ref b), .val (.int 0), .val (.int 7), .val .null, .unset]) (plainFor_of_name pn_java_lang_String) (fun m => by simp [entryFrame, mkF, argsToLocals, Value.category]) ?_
  intro κ C
  show Go l _ Z _ _ _ κ [a] h0 0 #[.val (.ref a), .val (.ref b), .val (.int 0), .val (.int 7), .val .null, .unset] [] 0 0
  refine oc' C 1 d3_0 rfl rfl rfl (oj2' C 4 (W := 0) d3_1 rfl (hq hw 15 rfl) (hq hw 16 rfl) (hq hw 17 rfl) rfl (by decide) (Nat.le_of_eq rfl) (by decide) ?_)
  refine od' C 5 d3_4 rfl rfl (om1' C (pc' := 27) d3_5 (by decide) (by decide) (by decide) ?_)
  refine oy1' C 30 d3_27 rfl (hq hw 18 rfl) am.2.1 (ot' C 33 d3_30 rfl (feq (am.2.2.1 : ¬ (cS = (0 : Int32)))).1 ?_)
  refine oc' C 34 d3_33 rfl rfl rfl (od' C 35 d3_34 rfl rfl ?_)
  refine od' C 36 d3_35 rfl rfl (or' C (argsL := [(.ref b), .int 0, .int 7]) (W := 0) d3_36 (hq hw 19 rfl) (hq hw 20 rfl) (hq hw 21 rfl) (hq hw 22 rfl) (by decide) pd___CII__B (ct_cmpA7 l Z a0 hw am (b := b) (kC := kC) (c0 := c0) (c1 := c1) (c2 := c2) (c3 := c3) (c4 := c4) (c5 := c5) (c6 := c6) p3 l0 l1 l2 l3 l4 l5 l6) rfl (Nat.le_of_eq rfl) rfl (by decide) mems0 ?_)
  intro fv1 ph2 K3 fq4
  obtain ⟨t5, kB6, rfl, fx7, fx8⟩ := fq4
  refine ⟨[t5], (freshS ⟨fx8, (fx7).lt⟩ fresh0), ?_⟩
  show Go l _ Z _ _ _ κ [t5, a] _ 39 _ [(.ref t5)] 1 7
  refine ob1' C 41 (Ls' := #[.val (.ref a), .val (.ref b), .val (.int 0), .val (.int 7), .val .null, .val (.ref t5)]) d3_39 rfl rfl rfl (oc' C 42 d3_41 rfl rfl rfl ?_)
  refine ob' C 44 d3_42 rfl rfl rfl (od' C 45 d3_44 rfl rfl ?_)
  refine or' C (argsL := [(.ref t5), .int 7]) (W := 1) d3_45 (hq hw 27 rfl) (hq hw 28 rfl) (hq hw 21 rfl) (hq hw 29 rfl) (by decide) pd___BI_B (ct_coder7 l Z a0 hw am (t := t5) (kB := kB6) (vs := [.int (lo8 c0), .int (lo8 c1), .int (lo8 c2), .int (lo8 c3), .int (lo8 c4), .int (lo8 c5), .int (lo8 c6)]) fx7) rfl (Nat.le_of_eq rfl) rfl (by decide) mems0 ?_
  intro fv9 ph10 K11 fq12
  obtain ⟨rfl, rfl⟩ := fq12
  refine ⟨[], fresh0, ?_⟩
  show Go l _ Z _ _ _ κ _ _ 48 _ [.int 0, (.ref a)] 1 7
  have fx13 := (p2.keep K3 nin0)
  have fx14 := (p0.keep K3)
  refine ol2' C 51 (ty := .byte) (v' := .int 0) d3_48 rfl (hq hw 30 rfl) Via.refl fx13 fx14 (Or.inr ⟨(hq hw 31 rfl), rfl, rfl⟩) (hq hw 5 rfl) (by decide) rfl (by decide) (mi 1 rfl) ?_
  intro ph15 W16
  have fx17 : Fld Z ph15 a "java/lang/String" "coder" "B" (.int 0) := Fld.same W16 fx13
  refine oc' C 52 d3_51 rfl rfl rfl (ob' C 54 d3_52 rfl rfl rfl ?_)
  have fx18 := (Fld.other W16 (p1.keep K3 nin0) (Or.inr (slot_ne (Or.inr (hq hw 33 rfl)) (Or.inr (hq hw 31 rfl)) (by decide) (t := (.array .byte)) (t' := .byte) (by decide) (by decide))))
  have fx19 := (Exa.wr W16 fx14)
  refine oh1' C 57 (ty := (.array .byte)) d3_54 rfl (hq hw 32 rfl) Via.refl fx18 fx19 (Or.inr ⟨(hq hw 33 rfl), rfl, rfl⟩) (hq hw 5 rfl) (by decide) rfl rfl (mi 1 rfl) ?_
  intro ph20 W21
  have fx22 : Fld Z ph20 a "java/lang/String" "value" "[B" (.ref t5) := Fld.same W21 fx18
  refine oe' C d3_57 rfl (by decide) (by decide) ?_
  have fx23 := (Exa.wr W21 fx19)
  have fx24 := (Fld.other W21 fx17 (Or.inr (slot_ne (Or.inr (hq hw 31 rfl)) (Or.inr (hq hw 33 rfl)) (by decide) (t := .byte) (t' := (.array .byte)) (by decide) (by decide))))
  have fx25 := ((fx7.other W16 (Ne.symm (Nat.ne_of_lt (nltle (p0).lt fx8)))).other W21 (Ne.symm (Nat.ne_of_lt (nltle (p0).lt fx8))))
  exact ⟨t5, kB6, rfl, fx23, fx24, fx22, fx25, fx8⟩
theorem ct_str7 (l : Launch) (Z : State) (a0 : Array Value) (hw : HW a0 Z) {cS : Int32} {fm : Value} (am : Amb Z a0 cS fm) {a b : Addr} {kC : ClassId} {c0 c1 c2 c3 c4 c5 c6 : Int32} {h0 : Heap} (p0 : Exa Z h0 a "java/lang/String") (p1 : Fld Z h0 a "java/lang/String" "value" "[B" .null) (p2 : Fld Z h0 a "java/lang/String" "coder" "B" (.int 0)) (p3 : Arv Z h0 b kC .char (7 : Int32) [.int c0, .int c1, .int c2, .int c3, .int c4, .int c5, .int c6] (.int 0)) (l0 : ¬ (255 : Int32) < c0) (l1 : ¬ (255 : Int32) < c1) (l2 : ¬ (255 : Int32) < c2) (l3 : ¬ (255 : Int32) < c3) (l4 : ¬ (255 : Int32) < c4) (l5 : ¬ (255 : Int32) < c5) (l6 : ¬ (255 : Int32) < c6) :
    Py l Z (⟨"java/lang/String", "<init>", "([C)V"⟩ : MethodName) 4 65 1 7 #[(.ref a), (.ref b)] h0 [a] (fun rv h' => ∃ (t : Addr) (kB : ClassId), rv = none ∧ Exa Z h' a "java/lang/String" ∧ Fld Z h' a "java/lang/String" "coder" "B" (.int 0) ∧ Fld Z h' a "java/lang/String" "value" "[B" (.ref t) ∧ Arv Z h' t kB .byte (7 : Int32) [.int (lo8 c0), .int (lo8 c1), .int (lo8 c2), .int (lo8 c3), .int (lo8 c4), .int (lo8 c5), .int (lo8 c6)] (.int 0) ∧ (h0.size ≤ t)) := by
  refine Ct.py (by0 := zc10) (ml := 2) (rt := none) (rm := ({ frames := 3, cells := 1, slots := 7, locals := 52 } : Room)) ?_ (hq hw 10 rfl) (hq hw 6 rfl)
  refine Ct.mk (a0 := a0) (Ls := #[.val (.ref a), .val (.ref b)]) (plainFor_of_name pn_java_lang_String) (fun m => by simp [entryFrame, mkF, argsToLocals, Value.category]) ?_
  intro κ C
  show Go l _ Z _ _ _ κ [a] h0 0 #[.val (.ref a), .val (.ref b)] [] 0 0
  refine oc' C 1 d2_0 rfl rfl rfl (oc' C 2 d2_1 rfl rfl rfl ?_)
  refine of' C 3 (0 : Int32) d2_2 rfl (by decide) (oc' C 4 d2_3 rfl rfl rfl ?_)
  refine oj' C 5 d2_4 rfl p3 (oo2' C 6 d2_5 rfl ?_)
  refine oq1' C (a := a) (argsL := [(.ref b), .int 0, .int 7, .null]) (W := 0) d2_6 rfl (hq hw 11 rfl) (hq hw 12 rfl) (hq hw 14 rfl) (by decide) pd___CIILjava_lang_Void__V (ct_strV7 l Z a0 hw am (a := a) (b := b) (kC := kC) (c0 := c0) (c1 := c1) (c2 := c2) (c3 := c3) (c4 := c4) (c5 := c5) (c6 := c6) p0 p1 p2 p3 l0 l1 l2 l3 l4 l5 l6) rfl (Nat.le_of_eq rfl) rfl (by decide) (memsS (mi 0 rfl) mems0) ?_
  intro fv1 ph2 K3 fq4
  obtain ⟨t5, kB6, rfl, fx7, fx8, fx9, fx10, fx11⟩ := fq4
  refine ⟨[t5], (freshS ⟨fx11, (fx10).lt⟩ fresh0), ?_⟩
  show Go l _ Z _ _ _ κ [t5, a] _ 9 _ [] 1 7
  refine oe' C d2_9 rfl (by decide) (by decide) ?_
  exact ⟨t5, kB6, rfl, fx7, fx8, fx9, fx10, fx11⟩
theorem ct_cmp8 (l : Launch) (Z : State) (a0 : Array Value) (hw : HW a0 Z) {cS : Int32} {fm : Value} (am : Amb Z a0 cS fm) {b t : Addr} {kC kB : ClassId} {c0 c1 c2 c3 c4 c5 c6 c7 : Int32} {h0 : Heap} (p0 : Arv Z h0 b kC .char (8 : Int32) [.int c0, .int c1, .int c2, .int c3, .int c4, .int c5, .int c6, .int c7] (.int 0)) (p1 : Arv Z h0 t kB .byte (8 : Int32) [.int 0, .int 0, .int 0, .int 0, .int 0, .int 0, .int 0, .int 0] (.int 0)) (l0 : ¬ (255 : Int32) < c0) (l1 : ¬ (255 : Int32) < c1) (l2 : ¬ (255 : Int32) < c2) (l3 : ¬ (255 : Int32) < c3) (l4 : ¬ (255 : Int32) < c4) (l5 : ¬ (255 : Int32) < c5) (l6 : ¬ (255 : Int32) < c6) (l7 : ¬ (255 : Int32) < c7) (hbt : b ≠ t) :
    Py l Z (⟨"java/lang/StringUTF16", "compress", "([CI[BII)I"⟩ : MethodName) 1 18 0 0 #[(.ref b), .int 0, (.ref t), .int 0, .int 8] h0 [t] (fun rv h' => rv = some (.int 8) ∧ Arv Z h' t kB .byte (8 : Int32) [.int (lo8 c0), .int (lo8 c1), .int (lo8 c2), .int (lo8 c3), .int (lo8 c4), .int (lo8 c5), .int (lo8 c6), .int (lo8 c7)] (.int 0)) := by
  refine Ct.py (by0 := zc23) (ml := 7) (rt := (some .int)) (rm := ({ frames := 0, cells := 0, slots := 0, locals := 0 } : Room)) ?_ (hq hw 26 rfl) (hq hw 21 rfl)
  refine Ct.mk (a0 := a0) (Ls := #[.val (.ref b), .val (.int 0), .val (.ref t), .val (.int 0), .val (.int 8), .unset, .unset]) (plainFor_of_name pn_java_lang_StringUTF16) (fun m => by simp [entryFrame, mkF, argsToLocals, Value.category]) ?_
  intro κ C
  show Go l _ Z _ _ _ κ [t] h0 0 #[.val (.ref b), .val (.int 0), .val (.ref t), .val (.int 0), .val (.int 8), .unset, .unset] [] 0 0
  refine of' C 1 (0 : Int32) d6_0 rfl (by decide) (ol' C 3 (Ls' := #[.val (.ref b), .val (.int 0), .val (.ref t), .val (.int 0), .val (.int 8), .val (.int 0), .unset]) d6_1 rfl rfl ?_)
  refine oa' C 5 d6_3 rfl rfl (oa' C 7 d6_5 rfl rfl ?_)
  refine oi' C 10 d6_7 rfl (by decide) (oc' C 11 d6_10 rfl rfl rfl ?_)
  refine od' C 12 d6_11 rfl rfl (og1' C 13 (v := (.int c0)) d6_12 rfl p0 (by decide) rfl ?_)
  refine ol' C 15 (Ls' := #[.val (.ref b), .val (.int 0), .val (.ref t), .val (.int 0), .val (.int 8), .val (.int 0), .val (.int c0)]) d6_13 rfl rfl (oa' C 17 d6_15 rfl rfl ?_)
  refine of1' C 20 (255 : Int32) d6_17 rfl (by decide) (oh' C (pc' := 26) d6_20 (flt (l0 : ¬ ((255 : Int32) < c0))).2.2.2 (by decide) (by decide) ?_)
  refine oc' C 27 d6_26 rfl rfl rfl (od' C 28 d6_27 rfl rfl ?_)
  refine oa' C 30 d6_28 rfl rfl (oa1' C 31 (lo8 c0) d6_30 rfl rfl ?_)
  refine oe1' C 32 0 (v := (lo8 c0)) (nar_lo8 _) d6_31 rfl p1 (by decide) rfl (nble rfl) (mi 0 rfl) ?_
  intro ph1 W2 fx3
  have fx4 : Arv Z ph1 t kB .byte (8 : Int32) [.int (lo8 c0), .int 0, .int 0, .int 0, .int 0, .int 0, .int 0, .int 0] (.int 0) := fx3
  refine og' C 35 (Ls' := #[.val (.ref b), .val (.int 1), .val (.ref t), .val (.int 0), .val (.int 8), .val (.int 0), .val (.int c0)]) (1 : Int32) d6_32 rfl (by decide) rfl rfl (og' C 38 (Ls' := #[.val (.ref b), .val (.int 1), .val (.ref t), .val (.int 1), .val (.int 8), .val (.int 0), .val (.int c0)]) (1 : Int32) d6_35 rfl (by decide) rfl rfl ?_)
  refine og' C 41 (Ls' := #[.val (.ref b), .val (.int 1), .val (.ref t), .val (.int 1), .val (.int 8), .val (.int 1), .val (.int c0)]) (1 : Int32) d6_38 rfl (by decide) rfl rfl (om' C (pc' := 3) d6_41 (by decide) (by decide) ?_)
  refine oa' C 5 d6_3 rfl rfl (oa' C 7 d6_5 rfl rfl ?_)
  refine oi' C 10 d6_7 rfl (by decide) (oc' C 11 d6_10 rfl rfl rfl ?_)
  refine od' C 12 d6_11 rfl rfl ?_
  have fx5 := (p0.other W2 hbt)
  refine og1' C 13 (v := (.int c1)) d6_12 rfl fx5 (by decide) rfl (ol' C 15 (Ls' := #[.val (.ref b), .val (.int 1), .val (.ref t), .val (.int 1), .val (.int 8), .val (.int 1), .val (.int c1)]) d6_13 rfl rfl ?_)
  refine oa' C 17 d6_15 rfl rfl (of1' C 20 (255 : Int32) d6_17 rfl (by decide) ?_)
  refine oh' C (pc' := 26) d6_20 (flt (l1 : ¬ ((255 : Int32) < c1))).2.2.2 (by decide) (by decide) (oc' C 27 d6_26 rfl rfl rfl ?_)
  refine od' C 28 d6_27 rfl rfl (oa' C 30 d6_28 rfl rfl ?_)
  refine oa1' C 31 (lo8 c1) d6_30 rfl rfl (oe1' C 32 1 (v := (lo8 c1)) (nar_lo8 _) d6_31 rfl fx4 (by decide) rfl (nble rfl) (mi 0 rfl) ?_)
  intro ph6 W7 fx8
  have fx9 : Arv Z ph6 t kB .byte (8 : Int32) [.int (lo8 c0), .int (lo8 c1), .int 0, .int 0, .int 0, .int 0, .int 0, .int 0] (.int 0) := fx8
  refine og' C 35 (Ls' := #[.val (.ref b), .val (.int 2), .val (.ref t), .val (.int 1), .val (.int 8), .val (.int 1), .val (.int c1)]) (1 : Int32) d6_32 rfl (by decide) rfl rfl (og' C 38 (Ls' := #[.val (.ref b), .val (.int 2), .val (.ref t), .val (.int 2), .val (.int 8), .val (.int 1), .val (.int c1)]) (1 : Int32) d6_35 rfl (by decide) rfl rfl ?_)
  refine og' C 41 (Ls' := #[.val (.ref b), .val (.int 2), .val (.ref t), .val (.int 2), .val (.int 8), .val (.int 2), .val (.int c1)]) (1 : Int32) d6_38 rfl (by decide) rfl rfl (om' C (pc' := 3) d6_41 (by decide) (by decide) ?_)
  refine oa' C 5 d6_3 rfl rfl (oa' C 7 d6_5 rfl rfl ?_)
  refine oi' C 10 d6_7 rfl (by decide) (oc' C 11 d6_10 rfl rfl rfl ?_)
  refine od' C 12 d6_11 rfl rfl ?_
  have fx10 := (fx5.other W7 hbt)
  refine og1' C 13 (v := (.int c2)) d6_12 rfl fx10 (by decide) rfl (ol' C 15 (Ls' := #[.val (.ref b), .val (.int 2), .val (.ref t), .val (.int 2), .val (.int 8), .val (.int 2), .val (.int c2)]) d6_13 rfl rfl ?_)
  refine oa' C 17 d6_15 rfl rfl (of1' C 20 (255 : Int32) d6_17 rfl (by decide) ?_)
  refine oh' C (pc' := 26) d6_20 (flt (l2 : ¬ ((255 : Int32) < c2))).2.2.2 (by decide) (by decide) (oc' C 27 d6_26 rfl rfl rfl ?_)
  refine od' C 28 d6_27 rfl rfl (oa' C 30 d6_28 rfl rfl ?_)
  refine oa1' C 31 (lo8 c2) d6_30 rfl rfl (oe1' C 32 2 (v := (lo8 c2)) (nar_lo8 _) d6_31 rfl fx9 (by decide) rfl (nble rfl) (mi 0 rfl) ?_)
  intro ph11 W12 fx13
  have fx14 : Arv Z ph11 t kB .byte (8 : Int32) [.int (lo8 c0), .int (lo8 c1), .int (lo8 c2), .int 0, .int 0, .int 0, .int 0, .int 0] (.int 0) := fx13
  refine og' C 35 (Ls' := #[.val (.ref b), .val (.int 3), .val (.ref t), .val (.int 2), .val (.int 8), .val (.int 2), .val (.int c2)]) (1 : Int32) d6_32 rfl (by decide) rfl rfl (og' C 38 (Ls' := #[.val (.ref b), .val (.int 3), .val (.ref t), .val (.int 3), .val (.int 8), .val (.int 2), .val (.int c2)]) (1 : Int32) d6_35 rfl (by decide) rfl rfl ?_)
  refine og' C 41 (Ls' := #[.val (.ref b), .val (.int 3), .val (.ref t), .val (.int 3), .val (.int 8), .val (.int 3), .val (.int c2)]) (1 : Int32) d6_38 rfl (by decide) rfl rfl (om' C (pc' := 3) d6_41 (by decide) (by decide) ?_)
  refine oa' C 5 d6_3 rfl rfl (oa' C 7 d6_5 rfl rfl ?_)
  refine oi' C 10 d6_7 rfl (by decide) (oc' C 11 d6_10 rfl rfl rfl ?_)
  refine od' C 12 d6_11 rfl rfl ?_
  have fx15 := (fx10.other W12 hbt)
  refine og1' C 13 (v := (.int c3)) d6_12 rfl fx15 (by decide) rfl (ol' C 15 (Ls' := #[.val (.ref b), .val (.int 3), .val (.ref t), .val (.int 3), .val (.int 8), .val (.int 3), .val (.int c3)]) d6_13 rfl rfl ?_)
  refine oa' C 17 d6_15 rfl rfl (of1' C 20 (255 : Int32) d6_17 rfl (by decide) ?_)
  refine oh' C (pc' := 26) d6_20 (flt (l3 : ¬ ((255 : Int32) < c3))).2.2.2 (by decide) (by decide) (oc' C 27 d6_26 rfl rfl rfl ?_)
  refine od' C 28 d6_27 rfl rfl (oa' C 30 d6_28 rfl rfl ?_)
  refine oa1' C 31 (lo8 c3) d6_30 rfl rfl (oe1' C 32 3 (v := (lo8 c3)) (nar_lo8 _) d6_31 rfl fx14 (by decide) rfl (nble rfl) (mi 0 rfl) ?_)
  intro ph16 W17 fx18
  have fx19 : Arv Z ph16 t kB .byte (8 : Int32) [.int (lo8 c0), .int (lo8 c1), .int (lo8 c2), .int (lo8 c3), .int 0, .int 0, .int 0, .int 0] (.int 0) := fx18
  refine og' C 35 (Ls' := #[.val (.ref b), .val (.int 4), .val (.ref t), .val (.int 3), .val (.int 8), .val (.int 3), .val (.int c3)]) (1 : Int32) d6_32 rfl (by decide) rfl rfl (og' C 38 (Ls' := #[.val (.ref b), .val (.int 4), .val (.ref t), .val (.int 4), .val (.int 8), .val (.int 3), .val (.int c3)]) (1 : Int32) d6_35 rfl (by decide) rfl rfl ?_)
  refine og' C 41 (Ls' := #[.val (.ref b), .val (.int 4), .val (.ref t), .val (.int 4), .val (.int 8), .val (.int 4), .val (.int c3)]) (1 : Int32) d6_38 rfl (by decide) rfl rfl (om' C (pc' := 3) d6_41 (by decide) (by decide) ?_)
  refine oa' C 5 d6_3 rfl rfl (oa' C 7 d6_5 rfl rfl ?_)
  refine oi' C 10 d6_7 rfl (by decide) (oc' C 11 d6_10 rfl rfl rfl ?_)
  refine od' C 12 d6_11 rfl rfl ?_
  have fx20 := (fx15.other W17 hbt)
  refine og1' C 13 (v := (.int c4)) d6_12 rfl fx20 (by decide) rfl (ol' C 15 (Ls' := #[.val (.ref b), .val (.int 4), .val (.ref t), .val (.int 4), .val (.int 8), .val (.int 4), .val (.int c4)]) d6_13 rfl rfl ?_)
  refine oa' C 17 d6_15 rfl rfl (of1' C 20 (255 : Int32) d6_17 rfl (by decide) ?_)
  refine oh' C (pc' := 26) d6_20 (flt (l4 : ¬ ((255 : Int32) < c4))).2.2.2 (by decide) (by decide) (oc' C 27 d6_26 rfl rfl rfl ?_)
  refine od' C 28 d6_27 rfl rfl (oa' C 30 d6_28 rfl rfl ?_)
  refine oa1' C 31 (lo8 c4) d6_30 rfl rfl (oe1' C 32 4 (v := (lo8 c4)) (nar_lo8 _) d6_31 rfl fx19 (by decide) rfl (nble rfl) (mi 0 rfl) ?_)
  intro ph21 W22 fx23
  have fx24 : Arv Z ph21 t kB .byte (8 : Int32) [.int (lo8 c0), .int (lo8 c1), .int (lo8 c2), .int (lo8 c3), .int (lo8 c4), .int 0, .int 0, .int 0] (.int 0) := fx23
  refine og' C 35 (Ls' := #[.val (.ref b), .val (.int 5), .val (.ref t), .val (.int 4), .val (.int 8), .val (.int 4), .val (.int c4)]) (1 : Int32) d6_32 rfl (by decide) rfl rfl (og' C 38 (Ls' := #[.val (.ref b), .val (.int 5), .val (.ref t), .val (.int 5), .val (.int 8), .val (.int 4), .val (.int c4)]) (1 : Int32) d6_35 rfl (by decide) rfl rfl ?_)
  refine og' C 41 (Ls' := #[.val (.ref b), .val (.int 5), .val (.ref t), .val (.int 5), .val (.int 8), .val (.int 5), .val (.int c4)]) (1 : Int32) d6_38 rfl (by decide) rfl rfl (om' C (pc' := 3) d6_41 (by decide) (by decide) ?_)
  refine oa' C 5 d6_3 rfl rfl (oa' C 7 d6_5 rfl rfl ?_)
  refine oi' C 10 d6_7 rfl (by decide) (oc' C 11 d6_10 rfl rfl rfl ?_)
  refine od' C 12 d6_11 rfl rfl ?_
  have fx25 := (fx20.other W22 hbt)
  refine og1' C 13 (v := (.int c5)) d6_12 rfl fx25 (by decide) rfl (ol' C 15 (Ls' := #[.val (.ref b), .val (.int 5), .val (.ref t), .val (.int 5), .val (.int 8), .val (.int 5), .val (.int c5)]) d6_13 rfl rfl ?_)
  refine oa' C 17 d6_15 rfl rfl (of1' C 20 (255 : Int32) d6_17 rfl (by decide) ?_)
  refine oh' C (pc' := 26) d6_20 (flt (l5 : ¬ ((255 : Int32) < c5))).2.2.2 (by decide) (by decide) (oc' C 27 d6_26 rfl rfl rfl ?_)
  refine od' C 28 d6_27 rfl rfl (oa' C 30 d6_28 rfl rfl ?_)
  refine oa1' C 31 (lo8 c5) d6_30 rfl rfl (oe1' C 32 5 (v := (lo8 c5)) (nar_lo8 _) d6_31 rfl fx24 (by decide) rfl (nble rfl) (mi 0 rfl) ?_)
  intro ph26 W27 fx28
  have fx29 : Arv Z ph26 t kB .byte (8 : Int32) [.int (lo8 c0), .int (lo8 c1), .int (lo8 c2), .int (lo8 c3), .int (lo8 c4), .int (lo8 c5), .int 0, .int 0] (.int 0) := fx28
  refine og' C 35 (Ls' := #[.val (.ref b), .val (.int 6), .val (.ref t), .val (.int 5), .val (.int 8), .val (.int 5), .val (.int c5)]) (1 : Int32) d6_32 rfl (by decide) rfl rfl (og' C 38 (Ls' := #[.val (.ref b), .val (.int 6), .val (.ref t), .val (.int 6), .val (.int 8), .val (.int 5), .val (.int c5)]) (1 : Int32) d6_35 rfl (by decide) rfl rfl ?_)
  refine og' C 41 (Ls' := #[.val (.ref b), .val (.int 6), .val (.ref t), .val (.int 6), .val (.int 8), .val (.int 6), .val (.int c5)]) (1 : Int32) d6_38 rfl (by decide) rfl rfl (om' C (pc' := 3) d6_41 (by decide) (by decide) ?_)
  refine oa' C 5 d6_3 rfl rfl (oa' C 7 d6_5 rfl rfl ?_)
  refine oi' C 10 d6_7 rfl (by decide) (oc' C 11 d6_10 rfl rfl rfl ?_)
  refine od' C 12 d6_11 rfl rfl ?_
  have fx30 := (fx25.other W27 hbt)
  refine og1' C 13 (v := (.int c6)) d6_12 rfl fx30 (by decide) rfl (ol' C 15 (Ls' := #[.val (.ref b), .val (.int 6), .val (.ref t), .val (.int 6), .val (.int 8), .val (.int 6), .val (.int c6)]) d6_13 rfl rfl ?_)
  refine oa' C 17 d6_15 rfl rfl (of1' C 20 (255 : Int32) d6_17 rfl (by decide) ?_)
  refine oh' C (pc' := 26) d6_20 (flt (l6 : ¬ ((255 : Int32) < c6))).2.2.2 (by decide) (by decide) (oc' C 27 d6_26 rfl rfl rfl ?_)
  refine od' C 28 d6_27 rfl rfl (oa' C 30 d6_28 rfl rfl ?_)
  refine oa1' C 31 (lo8 c6) d6_30 rfl rfl (oe1' C 32 6 (v := (lo8 c6)) (nar_lo8 _) d6_31 rfl fx29 (by decide) rfl (nble rfl) (mi 0 rfl) ?_)
  intro ph31 W32 fx33
  have fx34 : Arv Z ph31 t kB .byte (8 : Int32) [.int (lo8 c0), .int (lo8 c1), .int (lo8 c2), .int (lo8 c3), .int (lo8 c4), .int (lo8 c5), .int (lo8 c6), .int 0] (.int 0) := fx33
  refine og' C 35 (Ls' := #[.val (.ref b), .val (.int 7), .val (.ref t), .val (.int 6), .val (.int 8), .val (.int 6), .val (.int c6)]) (1 : Int32) d6_32 rfl (by decide) rfl rfl (og' C 38 (Ls' := #[.val (.ref b), .val (.int 7), .val (.ref t), .val (.int 7), .val (.int 8), .val (.int 6), .val (.int c6)]) (1 : Int32) d6_35 rfl (by decide) rfl rfl ?_)
  refine og' C 41 (Ls' := #[.val (.ref b), .val (.int 7), .val (.ref t), .val (.int 7), .val (.int 8), .val (.int 7), .val (.int c6)]) (1 : Int32) d6_38 rfl (by decide) rfl rfl (om' C (pc' := 3) d6_41 (by decide) (by decide) ?_)
  refine oa' C 5 d6_3 rfl rfl (oa' C 7 d6_5 rfl rfl ?_)
  refine oi' C 10 d6_7 rfl (by decide) (oc' C 11 d6_10 rfl rfl rfl ?_)
  refine od' C 12 d6_11 rfl rfl ?_
  have fx35 := (fx30.other W32 hbt)
  refine og1' C 13 (v := (.int c7)) d6_12 rfl fx35 (by decide) rfl (ol' C 15 (Ls' := #[.val (.ref b), .val (.int 7), .val (.ref t), .val (.int 7), .val (.int 8), .val (.int 7), .val (.int c7)]) d6_13 rfl rfl ?_)
  refine oa' C 17 d6_15 rfl rfl (of1' C 20 (255 : Int32) d6_17 rfl (by decide) ?_)
  refine oh' C (pc' := 26) d6_20 (flt (l7 : ¬ ((255 : Int32) < c7))).2.2.2 (by decide) (by decide) (oc' C 27 d6_26 rfl rfl rfl ?_)
  refine od' C 28 d6_27 rfl rfl (oa' C 30 d6_28 rfl rfl ?_)
  refine oa1' C 31 (lo8 c7) d6_30 rfl rfl (oe1' C 32 7 (v := (lo8 c7)) (nar_lo8 _) d6_31 rfl fx34 (by decide) rfl (nble rfl) (mi 0 rfl) ?_)
  intro ph36 W37 fx38
  have fx39 : Arv Z ph36 t kB .byte (8 : Int32) [.int (lo8 c0), .int (lo8 c1), .int (lo8 c2), .int (lo8 c3), .int (lo8 c4), .int (lo8 c5), .int (lo8 c6), .int (lo8 c7)] (.int 0) := fx38
  refine og' C 35 (Ls' := #[.val (.ref b), .val (.int 8), .val (.ref t), .val (.int 7), .val (.int 8), .val (.int 7), .val (.int c7)]) (1 : Int32) d6_32 rfl (by decide) rfl rfl (og' C 38 (Ls' := #[.val (.ref b), .val (.int 8), .val (.ref t), .val (.int 8), .val (.int 8), .val (.int 7), .val (.int c7)]) (1 : Int32) d6_35 rfl (by decide) rfl rfl ?_)
  refine og' C 41 (Ls' := #[.val (.ref b), .val (.int 8), .val (.ref t), .val (.int 8), .val (.int 8), .val (.int 8), .val (.int c7)]) (1 : Int32) d6_38 rfl (by decide) rfl rfl (om' C (pc' := 3) d6_41 (by decide) (by decide) ?_)
  refine oa' C 5 d6_3 rfl rfl (oa' C 7 d6_5 rfl rfl ?_)
  refine oh' C (pc' := 44) d6_7 (by decide) (by decide) (by decide) (oa' C 46 d6_44 rfl rfl ?_)
  refine ol1' C d6_46 rfl (by decide) (by decide) ?_
  exact ⟨rfl, fx39⟩
theorem ct_cmpA8 (l : Launch) (Z : State) (a0 : Array Value) (hw : HW a0 Z) {cS : Int32} {fm : Value} (am : Amb Z a0 cS fm) {b : Addr} {kC : ClassId} {c0 c1 c2 c3 c4 c5 c6 c7 : Int32} {h0 : Heap} (p0 : Arv Z h0 b kC .char (8 : Int32) [.int c0, .int c1, .int c2, .int c3, .int c4, .int c5, .int c6, .int c7] (.int 0)) (l0 : ¬ (255 : Int32) < c0) (l1 : ¬ (255 : Int32) < c1) (l2 : ¬ (255 : Int32) < c2) (l3 : ¬ (255 : Int32) < c3) (l4 : ¬ (255 : Int32) < c4) (l5 : ¬ (255 : Int32) < c5) (l6 : ¬ (255 : Int32) < c6) (l7 : ¬ (255 : Int32) < c7) :
    Py l Z (⟨"java/lang/StringUTF16", "compress", "([CII)[B"⟩ : MethodName) 2 35 1 8 #[(.ref b), .int 0, .int 8] h0 [] (fun rv h' => ∃ (t : Addr) (kB : ClassId), rv = some (.ref t) ∧ Arv Z h' t kB .byte (8 : Int32) [.int (lo8 c0), .int (lo8 c1), .int (lo8 c2), .int (lo8 c3), .int (lo8 c4), .int (lo8 c5), .int (lo8 c6), .int (lo8 c7)] (.int 0) ∧ (h0.size ≤ t)) := by
  refine Ct.py (by0 := zc22) (ml := 6) (rt := (some (.array .byte))) (rm := ({ frames := 1, cells := 1, slots := 8, locals := 18 } : Room)) ?_ (hq hw 22 rfl) (hq hw 21 rfl)
  refine Ct.mk (a0 := a0) (Ls := #[.val (.ref b), .val (.int 0), .val (.int 8), .unset, .unset, .unset]) (plainFor_of_name pn_java_lang_StringUTF16) (fun m => by simp [entryFrame, mkF, argsToLocals, Value.category]) ?_
  intro κ C
  show Go l _ Z _ _ _ κ [] h0 0 #[.val (.ref b), .val (.int 0), .val (.int 8), .unset, .unset, .unset] [] 0 0
  refine od' C 1 d5_0 rfl rfl (ow1' C 3 1 8 (ty := .byte) (cap := 8) d5_1 rfl rfl rfl rfl (hq hw 23 rfl) (by decide) (by decide) (by decide) (by decide) (by decide) ?_)
  intro b1 ph2 k3 g4 E5 V6
  have fx7 : Arv Z ph2 b1 k3 .byte (8 : Int32) [.int 0, .int 0, .int 0, .int 0, .int 0, .int 0, .int 0, .int 0] (.int 0) := V6
  refine ov1' C 4 (Ls' := #[.val (.ref b), .val (.int 0), .val (.int 8), .val (.ref b1), .unset, .unset]) d5_3 rfl rfl rfl (oc' C 5 d5_4 rfl rfl rfl ?_)
  refine od' C 6 d5_5 rfl rfl (oc' C 7 d5_6 rfl rfl rfl ?_)
  refine of' C 8 (0 : Int32) d5_7 rfl (by decide) (od' C 9 d5_8 rfl rfl ?_)
  have fx8 := (p0.ext E5)
  refine or' C (argsL := [(.ref b), .int 0, (.ref b1), .int 0, .int 8]) (W := 0) d5_9 (hq hw 24 rfl) (hq hw 25 rfl) (hq hw 21 rfl) (hq hw 26 rfl) (by decide) pd___CI_BII_I (ct_cmp8 l Z a0 hw am (b := b) (t := b1) (kC := kC) (kB := k3) (c0 := c0) (c1 := c1) (c2 := c2) (c3 := c3) (c4 := c4) (c5 := c5) (c6 := c6) (c7 := c7) fx8 fx7 l0 l1 l2 l3 l4 l5 l6 l7 (Nat.ne_of_lt (nltle (p0).lt (Nat.le_of_eq g4.symm)))) rfl (Nat.le_of_eq rfl) rfl (by decide) (memsS (mi 0 rfl) mems0) ?_
  intro fv9 ph10 K11 fq12
  obtain ⟨rfl, fx13⟩ := fq12
  refine ⟨[], fresh0, ?_⟩
  show Go l _ Z _ _ _ κ _ _ 12 _ [.int 8] 1 8
  refine ol' C 14 (Ls' := #[.val (.ref b), .val (.int 0), .val (.int 8), .val (.ref b1), .val (.int 8), .unset]) d5_12 rfl rfl (oa' C 16 d5_14 rfl rfl ?_)
  refine od' C 17 d5_16 rfl rfl (oh' C (pc' := 57) d5_17 (by decide) (by decide) (by decide) ?_)
  refine oc' C 58 d5_57 rfl rfl rfl (ov' C (v := (.ref b1)) d5_58 rfl rfl rfl (by decide) (by decide) ?_)
  exact ⟨b1, k3, rfl, fx13, (Nat.le_of_eq g4.symm)⟩
theorem ct_coder8 (l : Launch) (Z : State) (a0 : Array Value) (hw : HW a0 Z) {cS : Int32} {fm : Value} (am : Amb Z a0 cS fm) {t : Addr} {kB : ClassId} {vs : List Value} {h0 : Heap} (p0 : Arv Z h0 t kB .byte (8 : Int32) vs (.int 0)) :
    Py l Z (⟨"java/lang/StringUTF16", "coderFromArrayLen", "([BI)B"⟩ : MethodName) 1 13 0 0 #[(.ref t), .int 8] h0 [] (fun rv h' => rv = some (.int 0) ∧ h' = h0) := by
  refine Ct.py (by0 := zc21) (ml := 2) (rt := (some .byte)) (rm := ({ frames := 0, cells := 0, slots := 0, locals := 0 } : Room)) ?_ (hq hw 29 rfl) (hq hw 21 rfl)
  refine Ct.mk (a0 := a0) (Ls := #[.val (.ref t), .val (.int 8)]) (plainFor_of_name pn_java_lang_StringUTF16) (fun m => by simp [entryFrame, mkF, argsToLocals, Value.category]) ?_
  intro κ C
  show Go l _ Z _ _ _ κ [] h0 0 #[.val (.ref t), .val (.int 8)] [] 0 0
  refine od' C 1 d7_0 rfl rfl (oc' C 2 d7_1 rfl rfl rfl ?_)
  refine oj' C 3 d7_2 rfl p0 (oj1' C 4 (0 : Int32) d7_3 rfl (by decide) ?_)
  refine ox' C 6 (31 : Int32) d7_4 rfl (by decide) (ot2' C 7 (0 : Int32) d7_6 rfl (by decide) ?_)
  refine oa1' C 8 (0 : Int32) d7_7 rfl (by decide) (oz' C (t := .byte) (z := (0 : Int32)) d7_8 rfl (by decide) (by decide) (by decide) (by decide) ?_)
  exact ⟨rfl, rfl⟩
theorem ct_strV8 (l : Launch) (Z : State) (a0 : Array Value) (hw : HW a0 Z) {cS : Int32} {fm : Value} (am : Amb Z a0 cS fm) {a b : Addr} {kC : ClassId} {c0 c1 c2 c3 c4 c5 c6 c7 : Int32} {h0 : Heap} (p0 : Exa Z h0 a "java/lang/String") (p1 : Fld Z h0 a "java/lang/String" "value" "[B" .null) (p2 : Fld Z h0 a "java/lang/String" "coder" "B" (.int 0)) (p3 : Arv Z h0 b kC .char (8 : Int32) [.int c0, .int c1, .int c2, .int c3, .int c4, .int c5, .int c6, .int c7] (.int 0)) (l0 : ¬ (255 : Int32) < c0) (l1 : ¬ (255 : Int32) < c1) (l2 : ¬ (255 : Int32) < c2) (l3 : ¬ (255 : Int32) < c3) (l4 : ¬ (255 : Int32) < c4) (l5 : ¬ (255 : Int32) < c5) (l6 : ¬ (255 : Int32) < c6) (l7 : ¬ (255 : Int32) < c7) :
    Py l Z (⟨"java/lang/String", "<init>", "([CIILjava/lang/Void;)V"⟩ : MethodName) 3 52 1 8 #[(.ref a), (.ref b), .int 0, .int 8, .null] h0 [a] (fun rv h' => ∃ (t : Addr) (kB : ClassId), rv = none ∧ Exa Z h' a "java/lang/String" ∧ Fld Z h' a "java/lang/String" "coder" "B" (.int 0) ∧ Fld Z h' a "java/lang/String" "value" "[B" (.ref t) ∧ Arv Z h' t kB .byte (8 : Int32) [.int (lo8 c0), .int (lo8 c1), .int (lo8 c2), .int (lo8 c3), .int (lo8 c4), .int (lo8 c5), .int (lo8 c6), .int (lo8 c7)] (.int 0) ∧ (h0.size ≤ t)) := by
  refine Ct.py (by0 := zc4) (ml := 6) (rt := none) (rm := ({ frames := 2, cells := 1, slots := 8, locals := 35 } : Room)) ?_ (hq hw 14 rfl) (hq hw 6 rfl)
  refine Ct.mk (a0 := a0) (Ls := #[.val (.ref a), .val (.ref b), .val (.int 0), .val (.int 8), .val .null, .unset]) (plainFor_of_name pn_java_lang_String) (fun m => by simp [entryFrame, mkF, argsToLocals, Value.category]) ?_
  intro κ C
  show Go l _ Z _ _ _ κ [a] h0 0 #[.val (.ref a), .val (.ref b), .val (.int 0), .val (.int 8), .val .null, .unset] [] 0 0
  refine oc' C 1 d3_0 rfl rfl rfl (oj2' C 4 (W := 0) d3_1 rfl (hq hw 15 rfl) (hq hw 16 rfl) (hq hw 17 rfl) rfl (by decide) (Nat.le_of_eq rfl) (by decide) ?_)
  refine od' C 5 d3_4 rfl rfl (om1' C (pc' := 27) d3_5 (by decide) (by decide) (by decide) ?_)
  refine oy1' C 30 d3_27 rfl (hq hw 18 rfl) am.2.1 (ot' C 33 d3_30 rfl (feq (am.2.2.1 : ¬ (cS = (0 : Int32)))).1 ?_)
  refine oc' C 34 d3_33 rfl rfl rfl (od' C 35 d3_34 rfl rfl ?_)
  refine od' C 36 d3_35 rfl rfl (or' C (argsL := [(.ref b), .int 0, .int 8]) (W := 0) d3_36 (hq hw 19 rfl) (hq hw 20 rfl) (hq hw 21 rfl) (hq hw 22 rfl) (by decide) pd___CII__B (ct_cmpA8 l Z a0 hw am (b := b) (kC := kC) (c0 := c0) (c1 := c1) (c2 := c2) (c3 := c3) (c4 := c4) (c5 := c5) (c6 := c6) (c7 := c7) p3 l0 l1 l2 l3 l4 l5 l6 l7) rfl (Nat.le_of_eq rfl) rfl (by decide) mems0 ?_)
  intro fv1 ph2 K3 fq4
  obtain ⟨t5, kB6, rfl, fx7, fx8⟩ := fq4
  refine ⟨[t5], (freshS ⟨fx8, (fx7).lt⟩ fresh0), ?_⟩
  show Go l _ Z _ _ _ κ [t5, a] _ 39 _ [(.ref t5)] 1 8
  refine ob1' C 41 (Ls' := #[.val (.ref a), .val (.ref b), .val (.int 0), .val (.int 8), .val .null, .val (.ref t5)]) d3_39 rfl rfl rfl (oc' C 42 d3_41 rfl rfl rfl ?_)
  refine ob' C 44 d3_42 rfl rfl rfl (od' C 45 d3_44 rfl rfl ?_)
  refine or' C (argsL := [(.ref t5), .int 8]) (W := 1) d3_45 (hq hw 27 rfl) (hq hw 28 rfl) (hq hw 21 rfl) (hq hw 29 rfl) (by decide) pd___BI_B (ct_coder8 l Z a0 hw am (t := t5) (kB := kB6) (vs := [.int (lo8 c0), .int (lo8 c1), .int (lo8 c2), .int (lo8 c3), .int (lo8 c4), .int (lo8 c5), .int (lo8 c6), .int (lo8 c7)]) fx7) rfl (Nat.le_of_eq rfl) rfl (by decide) mems0 ?_
  intro fv9 ph10 K11 fq12
  obtain ⟨rfl, rfl⟩ := fq12
  refine ⟨[], fresh0, ?_⟩
  show Go l _ Z _ _ _ κ _ _ 48 _ [.int 0, (.ref a)] 1 8
  have fx13 := (p2.keep K3 nin0)
  have fx14 := (p0.keep K3)
  refine ol2' C 51 (ty := .byte) (v' := .int 0) d3_48 rfl (hq hw 30 rfl) Via.refl fx13 fx14 (Or.inr ⟨(hq hw 31 rfl), rfl, rfl⟩) (hq hw 5 rfl) (by decide) rfl (by decide) (mi 1 rfl) ?_
  intro ph15 W16
  have fx17 : Fld Z ph15 a "java/lang/String" "coder" "B" (.int 0) := Fld.same W16 fx13
  refine oc' C 52 d3_51 rfl rfl rfl (ob' C 54 d3_52 rfl rfl rfl ?_)
  have fx18 := (Fld.other W16 (p1.keep K3 nin0) (Or.inr (slot_ne (Or.inr (hq hw 33 rfl)) (Or.inr (hq hw 31 rfl)) (by decide) (t := (.array .byte)) (t' := .byte) (by decide) (by decide))))
  have fx19 := (Exa.wr W16 fx14)
  refine oh1' C 57 (ty := (.array .byte)) d3_54 rfl (hq hw 32 rfl) Via.refl fx18 fx19 (Or.inr ⟨(hq hw 33 rfl), rfl, rfl⟩) (hq hw 5 rfl) (by decide) rfl rfl (mi 1 rfl) ?_
  intro ph20 W21
  have fx22 : Fld Z ph20 a "java/lang/String" "value" "[B" (.ref t5) := Fld.same W21 fx18
  refine oe' C d3_57 rfl (by decide) (by decide) ?_
  have fx23 := (Exa.wr W21 fx19)
  have fx24 := (Fld.other W21 fx17 (Or.inr (slot_ne (Or.inr (hq hw 31 rfl)) (Or.inr (hq hw 33 rfl)) (by decide) (t := .byte) (t' := (.array .byte)) (by decide) (by decide))))
  have fx25 := ((fx7.other W16 (Ne.symm (Nat.ne_of_lt (nltle (p0).lt fx8)))).other W21 (Ne.symm (Nat.ne_of_lt (nltle (p0).lt fx8))))
  exact ⟨t5, kB6, rfl, fx23, fx24, fx22, fx25, fx8⟩
theorem ct_str8 (l : Launch) (Z : State) (a0 : Array Value) (hw : HW a0 Z) {cS : Int32} {fm : Value} (am : Amb Z a0 cS fm) {a b : Addr} {kC : ClassId} {c0 c1 c2 c3 c4 c5 c6 c7 : Int32} {h0 : Heap} (p0 : Exa Z h0 a "java/lang/String") (p1 : Fld Z h0 a "java/lang/String" "value" "[B" .null) (p2 : Fld Z h0 a "java/lang/String" "coder" "B" (.int 0)) (p3 : Arv Z h0 b kC .char (8 : Int32) [.int c0, .int c1, .int c2, .int c3, .int c4, .int c5, .int c6, .int c7] (.int 0)) (l0 : ¬ (255 : Int32) < c0) (l1 : ¬ (255 : Int32) < c1) (l2 : ¬ (255 : Int32) < c2) (l3 : ¬ (255 : Int32) < c3) (l4 : ¬ (255 : Int32) < c4) (l5 : ¬ (255 : Int32) < c5) (l6 : ¬ (255 : Int32) < c6) (l7 : ¬ (255 : Int32) < c7) :
    Py l Z (⟨"java/lang/String", "<init>", "([C)V"⟩ : MethodName) 4 65 1 8 #[(.ref a), (.ref b)] h0 [a] (fun rv h' => ∃ (t : Addr) (kB : ClassId), rv = none ∧ Exa Z h' a "java/lang/String" ∧ Fld Z h' a "java/lang/String" "coder" "B" (.int 0) ∧ Fld Z h' a "java/lang/String" "value" "[B" (.ref t) ∧ Arv Z h' t kB .byte (8 : Int32) [.int (lo8 c0), .int (lo8 c1), .int (lo8 c2), .int (lo8 c3), .int (lo8 c4), .int (lo8 c5), .int (lo8 c6), .int (lo8 c7)] (.int 0) ∧ (h0.size ≤ t)) := by
  refine Ct.py (by0 := zc10) (ml := 2) (rt := none) (rm := ({ frames := 3, cells := 1, slots := 8, locals := 52 } : Room)) ?_ (hq hw 10 rfl) (hq hw 6 rfl)
  refine Ct.mk (a0 := a0) (Ls := #[.val (.ref a), .val (.ref b)]) (plainFor_of_name pn_java_lang_String) (fun m => by simp [entryFrame, mkF, argsToLocals, Value.category]) ?_
  intro κ C
  show Go l _ Z _ _ _ κ [a] h0 0 #[.val (.ref a), .val (.ref b)] [] 0 0
  refine oc' C 1 d2_0 rfl rfl rfl (oc' C 2 d2_1 rfl rfl rfl ?_)
  refine of' C 3 (0 : Int32) d2_2 rfl (by decide) (oc' C 4 d2_3 rfl rfl rfl ?_)
  refine oj' C 5 d2_4 rfl p3 (oo2' C 6 d2_5 rfl ?_)
  refine oq1' C (a := a) (argsL := [(.ref b), .int 0, .int 8, .null]) (W := 0) d2_6 rfl (hq hw 11 rfl) (hq hw 12 rfl) (hq hw 14 rfl) (by decide) pd___CIILjava_lang_Void__V (ct_strV8 l Z a0 hw am (a := a) (b := b) (kC := kC) (c0 := c0) (c1 := c1) (c2 := c2) (c3 := c3) (c4 := c4) (c5 := c5) (c6 := c6) (c7 := c7) p0 p1 p2 p3 l0 l1 l2 l3 l4 l5 l6 l7) rfl (Nat.le_of_eq rfl) rfl (by decide) (memsS (mi 0 rfl) mems0) ?_
  intro fv1 ph2 K3 fq4
  obtain ⟨t5, kB6, rfl, fx7, fx8, fx9, fx10, fx11⟩ := fq4
  refine ⟨[t5], (freshS ⟨fx11, (fx10).lt⟩ fresh0), ?_⟩
  show Go l _ Z _ _ _ κ [t5, a] _ 9 _ [] 1 8
  refine oe' C d2_9 rfl (by decide) (by decide) ?_
  exact ⟨t5, kB6, rfl, fx7, fx8, fx9, fx10, fx11⟩
theorem ct_cmp9 (l : Launch) (Z : State) (a0 : Array Value) (hw : HW a0 Z) {cS : Int32} {fm : Value} (am : Amb Z a0 cS fm) {b t : Addr} {kC kB : ClassId} {c0 c1 c2 c3 c4 c5 c6 c7 c8 : Int32} {h0 : Heap} (p0 : Arv Z h0 b kC .char (9 : Int32) [.int c0, .int c1, .int c2, .int c3, .int c4, .int c5, .int c6, .int c7, .int c8] (.int 0)) (p1 : Arv Z h0 t kB .byte (9 : Int32) [.int 0, .int 0, .int 0, .int 0, .int 0, .int 0, .int 0, .int 0, .int 0] (.int 0)) (l0 : ¬ (255 : Int32) < c0) (l1 : ¬ (255 : Int32) < c1) (l2 : ¬ (255 : Int32) < c2) (l3 : ¬ (255 : Int32) < c3) (l4 : ¬ (255 : Int32) < c4) (l5 : ¬ (255 : Int32) < c5) (l6 : ¬ (255 : Int32) < c6) (l7 : ¬ (255 : Int32) < c7) (l8 : ¬ (255 : Int32) < c8) (hbt : b ≠ t) :
    Py l Z (⟨"java/lang/StringUTF16", "compress", "([CI[BII)I"⟩ : MethodName) 1 18 0 0 #[(.ref b), .int 0, (.ref t), .int 0, .int 9] h0 [t] (fun rv h' => rv = some (.int 9) ∧ Arv Z h' t kB .byte (9 : Int32) [.int (lo8 c0), .int (lo8 c1), .int (lo8 c2), .int (lo8 c3), .int (lo8 c4), .int (lo8 c5), .int (lo8 c6), .int (lo8 c7), .int (lo8 c8)] (.int 0)) := by
  refine Ct.py (by0 := zc23) (ml := 7) (rt := (some .int)) (rm := ({ frames := 0, cells := 0, slots := 0, locals := 0 } : Room)) ?_ (hq hw 26 rfl) (hq hw 21 rfl)
  refine Ct.mk (a0 := a0) (Ls := #[.val (.ref b), .val (.int 0), .val (.ref t), .val (.int 0), .val (.int 9), .unset, .unset]) (plainFor_of_name pn_java_lang_StringUTF16) (fun m => by simp [entryFrame, mkF, argsToLocals, Value.category]) ?_
  intro κ C
  show Go l _ Z _ _ _ κ [t] h0 0 #[.val (.ref b), .val (.int 0), .val (.ref t), .val (.int 0), .val (.int 9), .unset, .unset] [] 0 0
  refine of' C 1 (0 : Int32) d6_0 rfl (by decide) (ol' C 3 (Ls' := #[.val (.ref b), .val (.int 0), .val (.ref t), .val (.int 0), .val (.int 9), .val (.int 0), .unset]) d6_1 rfl rfl ?_)
  refine oa' C 5 d6_3 rfl rfl (oa' C 7 d6_5 rfl rfl ?_)
  refine oi' C 10 d6_7 rfl (by decide) (oc' C 11 d6_10 rfl rfl rfl ?_)
  refine od' C 12 d6_11 rfl rfl (og1' C 13 (v := (.int c0)) d6_12 rfl p0 (by decide) rfl ?_)
  refine ol' C 15 (Ls' := #[.val (.ref b), .val (.int 0), .val (.ref t), .val (.int 0), .val (.int 9), .val (.int 0), .val (.int c0)]) d6_13 rfl rfl (oa' C 17 d6_15 rfl rfl ?_)
  refine of1' C 20 (255 : Int32) d6_17 rfl (by decide) (oh' C (pc' := 26) d6_20 (flt (l0 : ¬ ((255 : Int32) < c0))).2.2.2 (by decide) (by decide) ?_)
  refine oc' C 27 d6_26 rfl rfl rfl (od' C 28 d6_27 rfl rfl ?_)
  refine oa' C 30 d6_28 rfl rfl (oa1' C 31 (lo8 c0) d6_30 rfl rfl ?_)
  refine oe1' C 32 0 (v := (lo8 c0)) (nar_lo8 _) d6_31 rfl p1 (by decide) rfl (nble rfl) (mi 0 rfl) ?_
  intro ph1 W2 fx3
  have fx4 : Arv Z ph1 t kB .byte (9 : Int32) [.int (lo8 c0), .int 0, .int 0, .int 0, .int 0, .int 0, .int 0, .int 0, .int 0] (.int 0) := fx3
  refine og' C 35 (Ls' := #[.val (.ref b), .val (.int 1), .val (.ref t), .val (.int 0), .val (.int 9), .val (.int 0), .val (.int c0)]) (1 : Int32) d6_32 rfl (by decide) rfl rfl (og' C 38 (Ls' := #[.val (.ref b), .val (.int 1), .val (.ref t), .val (.int 1), .val (.int 9), .val (.int 0), .val (.int c0)]) (1 : Int32) d6_35 rfl (by decide) rfl rfl ?_)
  refine og' C 41 (Ls' := #[.val (.ref b), .val (.int 1), .val (.ref t), .val (.int 1), .val (.int 9), .val (.int 1), .val (.int c0)]) (1 : Int32) d6_38 rfl (by decide) rfl rfl (om' C (pc' := 3) d6_41 (by decide) (by decide) ?_)
  refine oa' C 5 d6_3 rfl rfl (oa' C 7 d6_5 rfl rfl ?_)
  refine oi' C 10 d6_7 rfl (by decide) (oc' C 11 d6_10 rfl rfl rfl ?_)
  refine od' C 12 d6_11 rfl rfl ?_
  have fx5 := (p0.other W2 hbt)
  refine og1' C 13 (v := (.int c1)) d6_12 rfl fx5 (by decide) rfl (ol' C 15 (Ls' := #[.val (.ref b), .val (.int 1), .val (.ref t), .val (.int 1), .val (.int 9), .val (.int 1), .val (.int c1)]) d6_13 rfl rfl ?_)
  refine oa' C 17 d6_15 rfl rfl (of1' C 20 (255 : Int32) d6_17 rfl (by decide) ?_)
  refine oh' C (pc' := 26) d6_20 (flt (l1 : ¬ ((255 : Int32) < c1))).2.2.2 (by decide) (by decide) (oc' C 27 d6_26 rfl rfl rfl ?_)
  refine od' C 28 d6_27 rfl rfl (oa' C 30 d6_28 rfl rfl ?_)
  refine oa1' C 31 (lo8 c1) d6_30 rfl rfl (oe1' C 32 1 (v := (lo8 c1)) (nar_lo8 _) d6_31 rfl fx4 (by decide) rfl (nble rfl) (mi 0 rfl) ?_)
  intro ph6 W7 fx8
  have fx9 : Arv Z ph6 t kB .byte (9 : Int32) [.int (lo8 c0), .int (lo8 c1), .int 0, .int 0, .int 0, .int 0, .int 0, .int 0, .int 0] (.int 0) := fx8
  refine og' C 35 (Ls' := #[.val (.ref b), .val (.int 2), .val (.ref t), .val (.int 1), .val (.int 9), .val (.int 1), .val (.int c1)]) (1 : Int32) d6_32 rfl (by decide) rfl rfl (og' C 38 (Ls' := #[.val (.ref b), .val (.int 2), .val (.ref t), .val (.int 2), .val (.int 9), .val (.int 1), .val (.int c1)]) (1 : Int32) d6_35 rfl (by decide) rfl rfl ?_)
  refine og' C 41 (Ls' := #[.val (.ref b), .val (.int 2), .val (.ref t), .val (.int 2), .val (.int 9), .val (.int 2), .val (.int c1)]) (1 : Int32) d6_38 rfl (by decide) rfl rfl (om' C (pc' := 3) d6_41 (by decide) (by decide) ?_)
  refine oa' C 5 d6_3 rfl rfl (oa' C 7 d6_5 rfl rfl ?_)
  refine oi' C 10 d6_7 rfl (by decide) (oc' C 11 d6_10 rfl rfl rfl ?_)
  refine od' C 12 d6_11 rfl rfl ?_
  have fx10 := (fx5.other W7 hbt)
  refine og1' C 13 (v := (.int c2)) d6_12 rfl fx10 (by decide) rfl (ol' C 15 (Ls' := #[.val (.ref b), .val (.int 2), .val (.ref t), .val (.int 2), .val (.int 9), .val (.int 2), .val (.int c2)]) d6_13 rfl rfl ?_)
  refine oa' C 17 d6_15 rfl rfl (of1' C 20 (255 : Int32) d6_17 rfl (by decide) ?_)
  refine oh' C (pc' := 26) d6_20 (flt (l2 : ¬ ((255 : Int32) < c2))).2.2.2 (by decide) (by decide) (oc' C 27 d6_26 rfl rfl rfl ?_)
  refine od' C 28 d6_27 rfl rfl (oa' C 30 d6_28 rfl rfl ?_)
  refine oa1' C 31 (lo8 c2) d6_30 rfl rfl (oe1' C 32 2 (v := (lo8 c2)) (nar_lo8 _) d6_31 rfl fx9 (by decide) rfl (nble rfl) (mi 0 rfl) ?_)
  intro ph11 W12 fx13
  have fx14 : Arv Z ph11 t kB .byte (9 : Int32) [.int (lo8 c0), .int (lo8 c1), .int (lo8 c2), .int 0, .int 0, .int 0, .int 0, .int 0, .int 0] (.int 0) := fx13
  refine og' C 35 (Ls' := #[.val (.ref b), .val (.int 3), .val (.ref t), .val (.int 2), .val (.int 9), .val (.int 2), .val (.int c2)]) (1 : Int32) d6_32 rfl (by decide) rfl rfl (og' C 38 (Ls' := #[.val (.ref b), .val (.int 3), .val (.ref t), .val (.int 3), .val (.int 9), .val (.int 2), .val (.int c2)]) (1 : Int32) d6_35 rfl (by decide) rfl rfl ?_)
  refine og' C 41 (Ls' := #[.val (.ref b), .val (.int 3), .val (.ref t), .val (.int 3), .val (.int 9), .val (.int 3), .val (.int c2)]) (1 : Int32) d6_38 rfl (by decide) rfl rfl (om' C (pc' := 3) d6_41 (by decide) (by decide) ?_)
  refine oa' C 5 d6_3 rfl rfl (oa' C 7 d6_5 rfl rfl ?_)
  refine oi' C 10 d6_7 rfl (by decide) (oc' C 11 d6_10 rfl rfl rfl ?_)
  refine od' C 12 d6_11 rfl rfl ?_
  have fx15 := (fx10.other W12 hbt)
  refine og1' C 13 (v := (.int c3)) d6_12 rfl fx15 (by decide) rfl (ol' C 15 (Ls' := #[.val (.ref b), .val (.int 3), .val (.ref t), .val (.int 3), .val (.int 9), .val (.int 3), .val (.int c3)]) d6_13 rfl rfl ?_)
  refine oa' C 17 d6_15 rfl rfl (of1' C 20 (255 : Int32) d6_17 rfl (by decide) ?_)
  refine oh' C (pc' := 26) d6_20 (flt (l3 : ¬ ((255 : Int32) < c3))).2.2.2 (by decide) (by decide) (oc' C 27 d6_26 rfl rfl rfl ?_)
  refine od' C 28 d6_27 rfl rfl (oa' C 30 d6_28 rfl rfl ?_)
  refine oa1' C 31 (lo8 c3) d6_30 rfl rfl (oe1' C 32 3 (v := (lo8 c3)) (nar_lo8 _) d6_31 rfl fx14 (by decide) rfl (nble rfl) (mi 0 rfl) ?_)
  intro ph16 W17 fx18
  have fx19 : Arv Z ph16 t kB .byte (9 : Int32) [.int (lo8 c0), .int (lo8 c1), .int (lo8 c2), .int (lo8 c3), .int 0, .int 0, .int 0, .int 0, .int 0] (.int 0) := fx18
  refine og' C 35 (Ls' := #[.val (.ref b), .val (.int 4), .val (.ref t), .val (.int 3), .val (.int 9), .val (.int 3), .val (.int c3)]) (1 : Int32) d6_32 rfl (by decide) rfl rfl (og' C 38 (Ls' := #[.val (.ref b), .val (.int 4), .val (.ref t), .val (.int 4), .val (.int 9), .val (.int 3), .val (.int c3)]) (1 : Int32) d6_35 rfl (by decide) rfl rfl ?_)
  refine og' C 41 (Ls' := #[.val (.ref b), .val (.int 4), .val (.ref t), .val (.int 4), .val (.int 9), .val (.int 4), .val (.int c3)]) (1 : Int32) d6_38 rfl (by decide) rfl rfl (om' C (pc' := 3) d6_41 (by decide) (by decide) ?_)
  refine oa' C 5 d6_3 rfl rfl (oa' C 7 d6_5 rfl rfl ?_)
  refine oi' C 10 d6_7 rfl (by decide) (oc' C 11 d6_10 rfl rfl rfl ?_)
  refine od' C 12 d6_11 rfl rfl ?_
  have fx20 := (fx15.other W17 hbt)
  refine og1' C 13 (v := (.int c4)) d6_12 rfl fx20 (by decide) rfl (ol' C 15 (Ls' := #[.val (.ref b), .val (.int 4), .val (.ref t), .val (.int 4), .val (.int 9), .val (.int 4), .val (.int c4)]) d6_13 rfl rfl ?_)
  refine oa' C 17 d6_15 rfl rfl (of1' C 20 (255 : Int32) d6_17 rfl (by decide) ?_)
  refine oh' C (pc' := 26) d6_20 (flt (l4 : ¬ ((255 : Int32) < c4))).2.2.2 (by decide) (by decide) (oc' C 27 d6_26 rfl rfl rfl ?_)
  refine od' C 28 d6_27 rfl rfl (oa' C 30 d6_28 rfl rfl ?_)
  refine oa1' C 31 (lo8 c4) d6_30 rfl rfl (oe1' C 32 4 (v := (lo8 c4)) (nar_lo8 _) d6_31 rfl fx19 (by decide) rfl (nble rfl) (mi 0 rfl) ?_)
  intro ph21 W22 fx23
  have fx24 : Arv Z ph21 t kB .byte (9 : Int32) [.int (lo8 c0), .int (lo8 c1), .int (lo8 c2), .int (lo8 c3), .int (lo8 c4), .int 0, .int 0, .int 0, .int 0] (.int 0) := fx23
  refine og' C 35 (Ls' := #[.val (.ref b), .val (.int 5), .val (.ref t), .val (.int 4), .val (.int 9), .val (.int 4), .val (.int c4)]) (1 : Int32) d6_32 rfl (by decide) rfl rfl (og' C 38 (Ls' := #[.val (.ref b), .val (.int 5), .val (.ref t), .val (.int 5), .val (.int 9), .val (.int 4), .val (.int c4)]) (1 : Int32) d6_35 rfl (by decide) rfl rfl ?_)
  refine og' C 41 (Ls' := #[.val (.ref b), .val (.int 5), .val (.ref t), .val (.int 5), .val (.int 9), .val (.int 5), .val (.int c4)]) (1 : Int32) d6_38 rfl (by decide) rfl rfl (om' C (pc' := 3) d6_41 (by decide) (by decide) ?_)
  refine oa' C 5 d6_3 rfl rfl (oa' C 7 d6_5 rfl rfl ?_)
  refine oi' C 10 d6_7 rfl (by decide) (oc' C 11 d6_10 rfl rfl rfl ?_)
  refine od' C 12 d6_11 rfl rfl ?_
  have fx25 := (fx20.other W22 hbt)
  refine og1' C 13 (v := (.int c5)) d6_12 rfl fx25 (by decide) rfl (ol' C 15 (Ls' := #[.val (.ref b), .val (.int 5), .val (.ref t), .val (.int 5), .val (.int 9), .val (.int 5), .val (.int c5)]) d6_13 rfl rfl ?_)
  refine oa' C 17 d6_15 rfl rfl (of1' C 20 (255 : Int32) d6_17 rfl (by decide) ?_)
  refine oh' C (pc' := 26) d6_20 (flt (l5 : ¬ ((255 : Int32) < c5))).2.2.2 (by decide) (by decide) (oc' C 27 d6_26 rfl rfl rfl ?_)
  refine od' C 28 d6_27 rfl rfl (oa' C 30 d6_28 rfl rfl ?_)
  refine oa1' C 31 (lo8 c5) d6_30 rfl rfl (oe1' C 32 5 (v := (lo8 c5)) (nar_lo8 _) d6_31 rfl fx24 (by decide) rfl (nble rfl) (mi 0 rfl) ?_)
  intro ph26 W27 fx28
  have fx29 : Arv Z ph26 t kB .byte (9 : Int32) [.int (lo8 c0), .int (lo8 c1), .int (lo8 c2), .int (lo8 c3), .int (lo8 c4), .int (lo8 c5), .int 0, .int 0, .int 0] (.int 0) := fx28
  refine og' C 35 (Ls' := #[.val (.ref b), .val (.int 6), .val (.ref t), .val (.int 5), .val (.int 9), .val (.int 5), .val (.int c5)]) (1 : Int32) d6_32 rfl (by decide) rfl rfl (og' C 38 (Ls' := #[.val (.ref b), .val (.int 6), .val (.ref t), .val (.int 6), .val (.int 9), .val (.int 5), .val (.int c5)]) (1 : Int32) d6_35 rfl (by decide) rfl rfl ?_)
  refine og' C 41 (Ls' := #[.val (.ref b), .val (.int 6), .val (.ref t), .val (.int 6), .val (.int 9), .val (.int 6), .val (.int c5)]) (1 : Int32) d6_38 rfl (by decide) rfl rfl (om' C (pc' := 3) d6_41 (by decide) (by decide) ?_)
  refine oa' C 5 d6_3 rfl rfl (oa' C 7 d6_5 rfl rfl ?_)
  refine oi' C 10 d6_7 rfl (by decide) (oc' C 11 d6_10 rfl rfl rfl ?_)
  refine od' C 12 d6_11 rfl rfl ?_
  have fx30 := (fx25.other W27 hbt)
  refine og1' C 13 (v := (.int c6)) d6_12 rfl fx30 (by decide) rfl (ol' C 15 (Ls' := #[.val (.ref b), .val (.int 6), .val (.ref t), .val (.int 6), .val (.int 9), .val (.int 6), .val (.int c6)]) d6_13 rfl rfl ?_)
  refine oa' C 17 d6_15 rfl rfl (of1' C 20 (255 : Int32) d6_17 rfl (by decide) ?_)
  refine oh' C (pc' := 26) d6_20 (flt (l6 : ¬ ((255 : Int32) < c6))).2.2.2 (by decide) (by decide) (oc' C 27 d6_26 rfl rfl rfl ?_)
  refine od' C 28 d6_27 rfl rfl (oa' C 30 d6_28 rfl rfl ?_)
  refine oa1' C 31 (lo8 c6) d6_30 rfl rfl (oe1' C 32 6 (v := (lo8 c6)) (nar_lo8 _) d6_31 rfl fx29 (by decide) rfl (nble rfl) (mi 0 rfl) ?_)
  intro ph31 W32 fx33
  have fx34 : Arv Z ph31 t kB .byte (9 : Int32) [.int (lo8 c0), .int (lo8 c1), .int (lo8 c2), .int (lo8 c3), .int (lo8 c4), .int (lo8 c5), .int (lo8 c6), .int 0, .int 0] (.int 0) := fx33
  refine og' C 35 (Ls' := #[.val (.ref b), .val (.int 7), .val (.ref t), .val (.int 6), .val (.int 9), .val (.int 6), .val (.int c6)]) (1 : Int32) d6_32 rfl (by decide) rfl rfl (og' C 38 (Ls' := #[.val (.ref b), .val (.int 7), .val (.ref t), .val (.int 7), .val (.int 9), .val (.int 6), .val (.int c6)]) (1 : Int32) d6_35 rfl (by decide) rfl rfl ?_)
  refine og' C 41 (Ls' := #[.val (.ref b), .val (.int 7), .val (.ref t), .val (.int 7), .val (.int 9), .val (.int 7), .val (.int c6)]) (1 : Int32) d6_38 rfl (by decide) rfl rfl (om' C (pc' := 3) d6_41 (by decide) (by decide) ?_)
  refine oa' C 5 d6_3 rfl rfl (oa' C 7 d6_5 rfl rfl ?_)
  refine oi' C 10 d6_7 rfl (by decide) (oc' C 11 d6_10 rfl rfl rfl ?_)
  refine od' C 12 d6_11 rfl rfl ?_
  have fx35 := (fx30.other W32 hbt)
  refine og1' C 13 (v := (.int c7)) d6_12 rfl fx35 (by decide) rfl (ol' C 15 (Ls' := #[.val (.ref b), .val (.int 7), .val (.ref t), .val (.int 7), .val (.int 9), .val (.int 7), .val (.int c7)]) d6_13 rfl rfl ?_)
  refine oa' C 17 d6_15 rfl rfl (of1' C 20 (255 : Int32) d6_17 rfl (by decide) ?_)
  refine oh' C (pc' := 26) d6_20 (flt (l7 : ¬ ((255 : Int32) < c7))).2.2.2 (by decide) (by decide) (oc' C 27 d6_26 rfl rfl rfl ?_)
  refine od' C 28 d6_27 rfl rfl (oa' C 30 d6_28 rfl rfl ?_)
  refine oa1' C 31 (lo8 c7) d6_30 rfl rfl (oe1' C 32 7 (v := (lo8 c7)) (nar_lo8 _) d6_31 rfl fx34 (by decide) rfl (nble rfl) (mi 0 rfl) ?_)
  intro ph36 W37 fx38
  have fx39 : Arv Z ph36 t kB .byte (9 : Int32) [.int (lo8 c0), .int (lo8 c1), .int (lo8 c2), .int (lo8 c3), .int (lo8 c4), .int (lo8 c5), .int (lo8 c6), .int (lo8 c7), .int 0] (.int 0) := fx38
  refine og' C 35 (Ls' := #[.val (.ref b), .val (.int 8), .val (.ref t), .val (.int 7), .val (.int 9), .val (.int 7), .val (.int c7)]) (1 : Int32) d6_32 rfl (by decide) rfl rfl (og' C 38 (Ls' := #[.val (.ref b), .val (.int 8), .val (.ref t), .val (.int 8), .val (.int 9), .val (.int 7), .val (.int c7)]) (1 : Int32) d6_35 rfl (by decide) rfl rfl ?_)
  refine og' C 41 (Ls' := #[.val (.ref b), .val (.int 8), .val (.ref t), .val (.int 8), .val (.int 9), .val (.int 8), .val (.int c7)]) (1 : Int32) d6_38 rfl (by decide) rfl rfl (om' C (pc' := 3) d6_41 (by decide) (by decide) ?_)
  refine oa' C 5 d6_3 rfl rfl (oa' C 7 d6_5 rfl rfl ?_)
  refine oi' C 10 d6_7 rfl (by decide) (oc' C 11 d6_10 rfl rfl rfl ?_)
  refine od' C 12 d6_11 rfl rfl ?_
  have fx40 := (fx35.other W37 hbt)
  refine og1' C 13 (v := (.int c8)) d6_12 rfl fx40 (by decide) rfl (ol' C 15 (Ls' := #[.val (.ref b), .val (.int 8), .val (.ref t), .val (.int 8), .val (.int 9), .val (.int 8), .val (.int c8)]) d6_13 rfl rfl ?_)
  refine oa' C 17 d6_15 rfl rfl (of1' C 20 (255 : Int32) d6_17 rfl (by decide) ?_)
  refine oh' C (pc' := 26) d6_20 (flt (l8 : ¬ ((255 : Int32) < c8))).2.2.2 (by decide) (by decide) (oc' C 27 d6_26 rfl rfl rfl ?_)
  refine od' C 28 d6_27 rfl rfl (oa' C 30 d6_28 rfl rfl ?_)
  refine oa1' C 31 (lo8 c8) d6_30 rfl rfl (oe1' C 32 8 (v := (lo8 c8)) (nar_lo8 _) d6_31 rfl fx39 (by decide) rfl (nble rfl) (mi 0 rfl) ?_)
  intro ph41 W42 fx43
  have fx44 : Arv Z ph41 t kB .byte (9 : Int32) [.int (lo8 c0), .int (lo8 c1), .int (lo8 c2), .int (lo8 c3), .int (lo8 c4), .int (lo8 c5), .int (lo8 c6), .int (lo8 c7), .int (lo8 c8)] (.int 0) := fx43
  refine og' C 35 (Ls' := #[.val (.ref b), .val (.int 9), .val (.ref t), .val (.int 8), .val (.int 9), .val (.int 8), .val (.int c8)]) (1 : Int32) d6_32 rfl (by decide) rfl rfl (og' C 38 (Ls' := #[.val (.ref b), .val (.int 9), .val (.ref t), .val (.int 9), .val (.int 9), .val (.int 8), .val (.int c8)]) (1 : Int32) d6_35 rfl (by decide) rfl rfl ?_)
  refine og' C 41 (Ls' := #[.val (.ref b), .val (.int 9), .val (.ref t), .val (.int 9), .val (.int 9), .val (.int 9), .val (.int c8)]) (1 : Int32) d6_38 rfl (by decide) rfl rfl (om' C (pc' := 3) d6_41 (by decide) (by decide) ?_)
  refine oa' C 5 d6_3 rfl rfl (oa' C 7 d6_5 rfl rfl ?_)
  refine oh' C (pc' := 44) d6_7 (by decide) (by decide) (by decide) (oa' C 46 d6_44 rfl rfl ?_)
  refine ol1' C d6_46 rfl (by decide) (by decide) ?_
  exact ⟨rfl, fx44⟩
theorem ct_cmpA9 (l : Launch) (Z : State) (a0 : Array Value) (hw : HW a0 Z) {cS : Int32} {fm : Value} (am : Amb Z a0 cS fm) {b : Addr} {kC : ClassId} {c0 c1 c2 c3 c4 c5 c6 c7 c8 : Int32} {h0 : Heap} (p0 : Arv Z h0 b kC .char (9 : Int32) [.int c0, .int c1, .int c2, .int c3, .int c4, .int c5, .int c6, .int c7, .int c8] (.int 0)) (l0 : ¬ (255 : Int32) < c0) (l1 : ¬ (255 : Int32) < c1) (l2 : ¬ (255 : Int32) < c2) (l3 : ¬ (255 : Int32) < c3) (l4 : ¬ (255 : Int32) < c4) (l5 : ¬ (255 : Int32) < c5) (l6 : ¬ (255 : Int32) < c6) (l7 : ¬ (255 : Int32) < c7) (l8 : ¬ (255 : Int32) < c8) :
    Py l Z (⟨"java/lang/StringUTF16", "compress", "([CII)[B"⟩ : MethodName) 2 35 1 9 #[(.ref b), .int 0, .int 9] h0 [] (fun rv h' => ∃ (t : Addr) (kB : ClassId), rv = some (.ref t) ∧ Arv Z h' t kB .byte (9 : Int32) [.int (lo8 c0), .int (lo8 c1), .int (lo8 c2), .int (lo8 c3), .int (lo8 c4), .int (lo8 c5), .int (lo8 c6), .int (lo8 c7), .int (lo8 c8)] (.int 0) ∧ (h0.size ≤ t)) := by
  refine Ct.py (by0 := zc22) (ml := 6) (rt := (some (.array .byte))) (rm := ({ frames := 1, cells := 1, slots := 9, locals := 18 } : Room)) ?_ (hq hw 22 rfl) (hq hw 21 rfl)
  refine Ct.mk (a0 := a0) (Ls := #[.val (.ref b), .val (.int 0), .val (.int 9), .unset, .unset, .unset]) (plainFor_of_name pn_java_lang_StringUTF16) (fun m => by simp [entryFrame, mkF, argsToLocals, Value.category]) ?_
  intro κ C
  show Go l _ Z _ _ _ κ [] h0 0 #[.val (.ref b), .val (.int 0), .val (.int 9), .unset, .unset, .unset] [] 0 0
  refine od' C 1 d5_0 rfl rfl (ow1' C 3 1 9 (ty := .byte) (cap := 9) d5_1 rfl rfl rfl rfl (hq hw 23 rfl) (by decide) (by decide) (by decide) (by decide) (by decide) ?_)
  intro b1 ph2 k3 g4 E5 V6
  have fx7 : Arv Z ph2 b1 k3 .byte (9 : Int32) [.int 0, .int 0, .int 0, .int 0, .int 0, .int 0, .int 0, .int 0, .int 0] (.int 0) := V6
  refine ov1' C 4 (Ls' := #[.val (.ref b), .val (.int 0), .val (.int 9), .val (.ref b1), .unset, .unset]) d5_3 rfl rfl rfl (oc' C 5 d5_4 rfl rfl rfl ?_)
  refine od' C 6 d5_5 rfl rfl (oc' C 7 d5_6 rfl rfl rfl ?_)
  refine of' C 8 (0 : Int32) d5_7 rfl (by decide) (od' C 9 d5_8 rfl rfl ?_)
  have fx8 := (p0.ext E5)
  refine or' C (argsL := [(.ref b), .int 0, (.ref b1), .int 0, .int 9]) (W := 0) d5_9 (hq hw 24 rfl) (hq hw 25 rfl) (hq hw 21 rfl) (hq hw 26 rfl) (by decide) pd___CI_BII_I (ct_cmp9 l Z a0 hw am (b := b) (t := b1) (kC := kC) (kB := k3) (c0 := c0) (c1 := c1) (c2 := c2) (c3 := c3) (c4 := c4) (c5 := c5) (c6 := c6) (c7 := c7) (c8 := c8) fx8 fx7 l0 l1 l2 l3 l4 l5 l6 l7 l8 (Nat.ne_of_lt (nltle (p0).lt (Nat.le_of_eq g4.symm)))) rfl (Nat.le_of_eq rfl) rfl (by decide) (memsS (mi 0 rfl) mems0) ?_
  intro fv9 ph10 K11 fq12
  obtain ⟨rfl, fx13⟩ := fq12
  refine ⟨[], fresh0, ?_⟩
  show Go l _ Z _ _ _ κ _ _ 12 _ [.int 9] 1 9
  refine ol' C 14 (Ls' := #[.val (.ref b), .val (.int 0), .val (.int 9), .val (.ref b1), .val (.int 9), .unset]) d5_12 rfl rfl (oa' C 16 d5_14 rfl rfl ?_)
  refine od' C 17 d5_16 rfl rfl (oh' C (pc' := 57) d5_17 (by decide) (by decide) (by decide) ?_)
  refine oc' C 58 d5_57 rfl rfl rfl (ov' C (v := (.ref b1)) d5_58 rfl rfl rfl (by decide) (by decide) ?_)
  exact ⟨b1, k3, rfl, fx13, (Nat.le_of_eq g4.symm)⟩
theorem ct_coder9 (l : Launch) (Z : State) (a0 : Array Value) (hw : HW a0 Z) {cS : Int32} {fm : Value} (am : Amb Z a0 cS fm) {t : Addr} {kB : ClassId} {vs : List Value} {h0 : Heap} (p0 : Arv Z h0 t kB .byte (9 : Int32) vs (.int 0)) :
    Py l Z (⟨"java/lang/StringUTF16", "coderFromArrayLen", "([BI)B"⟩ : MethodName) 1 13 0 0 #[(.ref t), .int 9] h0 [] (fun rv h' => rv = some (.int 0) ∧ h' = h0) := by
  refine Ct.py (by0 := zc21) (ml := 2) (rt := (some .byte)) (rm := ({ frames := 0, cells := 0, slots := 0, locals := 0 } : Room)) ?_ (hq hw 29 rfl) (hq hw 21 rfl)
  refine Ct.mk (a0 := a0) (Ls := #[.val (.ref t), .val (.int 9)]) (plainFor_of_name pn_java_lang_StringUTF16) (fun m => by simp [entryFrame, mkF, argsToLocals, Value.category]) ?_
  intro κ C
  show Go l _ Z _ _ _ κ [] h0 0 #[.val (.ref t), .val (.int 9)] [] 0 0
  refine od' C 1 d7_0 rfl rfl (oc' C 2 d7_1 rfl rfl rfl ?_)
  refine oj' C 3 d7_2 rfl p0 (oj1' C 4 (0 : Int32) d7_3 rfl (by decide) ?_)
  refine ox' C 6 (31 : Int32) d7_4 rfl (by decide) (ot2' C 7 (0 : Int32) d7_6 rfl (by decide) ?_)
  refine oa1' C 8 (0 : Int32) d7_7 rfl (by decide) (oz' C (t := .byte) (z := (0 : Int32)) d7_8 rfl (by decide) (by decide) (by decide) (by decide) ?_)
  exact ⟨rfl, rfl⟩
theorem ct_strV9 (l : Launch) (Z : State) (a0 : Array Value) (hw : HW a0 Z) {cS : Int32} {fm : Value} (am : Amb Z a0 cS fm) {a b : Addr} {kC : ClassId} {c0 c1 c2 c3 c4 c5 c6 c7 c8 : Int32} {h0 : Heap} (p0 : Exa Z h0 a "java/lang/String") (p1 : Fld Z h0 a "java/lang/String" "value" "[B" .null) (p2 : Fld Z h0 a "java/lang/String" "coder" "B" (.int 0)) (p3 : Arv Z h0 b kC .char (9 : Int32) [.int c0, .int c1, .int c2, .int c3, .int c4, .int c5, .int c6, .int c7, .int c8] (.int 0)) (l0 : ¬ (255 : Int32) < c0) (l1 : ¬ (255 : Int32) < c1) (l2 : ¬ (255 : Int32) < c2) (l3 : ¬ (255 : Int32) < c3) (l4 : ¬ (255 : Int32) < c4) (l5 : ¬ (255 : Int32) < c5) (l6 : ¬ (255 : Int32) < c6) (l7 : ¬ (255 : Int32) < c7) (l8 : ¬ (255 : Int32) < c8) :
    Py l Z (⟨"java/lang/String", "<init>", "([CIILjava/lang/Void;)V"⟩ : MethodName) 3 52 1 9 #[(.ref a), (.ref b), .int 0, .int 9, .null] h0 [a] (fun rv h' => ∃ (t : Addr) (kB : ClassId), rv = none ∧ Exa Z h' a "java/lang/String" ∧ Fld Z h' a "java/lang/String" "coder" "B" (.int 0) ∧ Fld Z h' a "java/lang/String" "value" "[B" (.ref t) ∧ Arv Z h' t kB .byte (9 : Int32) [.int (lo8 c0), .int (lo8 c1), .int (lo8 c2), .int (lo8 c3), .int (lo8 c4), .int (lo8 c5), .int (lo8 c6), .int (lo8 c7), .int (lo8 c8)] (.int 0) ∧ (h0.size ≤ t)) := by
  refine Ct.py (by0 := zc4) (ml := 6) (rt := none) (rm := ({ frames := 2, cells := 1, slots := 9, locals := 35 } : Room)) ?_ (hq hw 14 rfl) (hq hw 6 rfl)
  refine Ct.mk (a0 := a0) (Ls := #[.val (.ref a), .val (.ref b), .val (.int 0), .val (.int 9), .val .null, .unset]) (plainFor_of_name pn_java_lang_String) (fun m => by simp [entryFrame, mkF, argsToLocals, Value.category]) ?_
  intro κ C
  show Go l _ Z _ _ _ κ [a] h0 0 #[.val (.ref a), .val (.ref b), .val (.int 0), .val (.int 9), .val .null, .unset] [] 0 0
  refine oc' C 1 d3_0 rfl rfl rfl (oj2' C 4 (W := 0) d3_1 rfl (hq hw 15 rfl) (hq hw 16 rfl) (hq hw 17 rfl) rfl (by decide) (Nat.le_of_eq rfl) (by decide) ?_)
  refine od' C 5 d3_4 rfl rfl (om1' C (pc' := 27) d3_5 (by decide) (by decide) (by decide) ?_)
  refine oy1' C 30 d3_27 rfl (hq hw 18 rfl) am.2.1 (ot' C 33 d3_30 rfl (feq (am.2.2.1 : ¬ (cS = (0 : Int32)))).1 ?_)
  refine oc' C 34 d3_33 rfl rfl rfl (od' C 35 d3_34 rfl rfl ?_)
  refine od' C 36 d3_35 rfl rfl (or' C (argsL := [(.ref b), .int 0, .int 9]) (W := 0) d3_36 (hq hw 19 rfl) (hq hw 20 rfl) (hq hw 21 rfl) (hq hw 22 rfl) (by decide) pd___CII__B (ct_cmpA9 l Z a0 hw am (b := b) (kC := kC) (c0 := c0) (c1 := c1) (c2 := c2) (c3 := c3) (c4 := c4) (c5 := c5) (c6 := c6) (c7 := c7) (c8 := c8) p3 l0 l1 l2 l3 l4 l5 l6 l7 l8) rfl (Nat.le_of_eq rfl) rfl (by decide) mems0 ?_)
  intro fv1 ph2 K3 fq4
  obtain ⟨t5, kB6, rfl, fx7, fx8⟩ := fq4
  refine ⟨[t5], (freshS ⟨fx8, (fx7).lt⟩ fresh0), ?_⟩
  show Go l _ Z _ _ _ κ [t5, a] _ 39 _ [(.ref t5)] 1 9
  refine ob1' C 41 (Ls' := #[.val (.ref a), .val (.ref b), .val (.int 0), .val (.int 9), .val .null, .val (.ref t5)]) d3_39 rfl rfl rfl (oc' C 42 d3_41 rfl rfl rfl ?_)
  refine ob' C 44 d3_42 rfl rfl rfl (od' C 45 d3_44 rfl rfl ?_)
  refine or' C (argsL := [(.ref t5), .int 9]) (W := 1) d3_45 (hq hw 27 rfl) (hq hw 28 rfl) (hq hw 21 rfl) (hq hw 29 rfl) (by decide) pd___BI_B (ct_coder9 l Z a0 hw am (t := t5) (kB := kB6) (vs := [.int (lo8 c0), .int (lo8 c1), .int (lo8 c2), .int (lo8 c3), .int (lo8 c4), .int (lo8 c5), .int (lo8 c6), .int (lo8 c7), .int (lo8 c8)]) fx7) rfl (Nat.le_of_eq rfl) rfl (by decide) mems0 ?_
  intro fv9 ph10 K11 fq12
  obtain ⟨rfl, rfl⟩ := fq12
  refine ⟨[], fresh0, ?_⟩
  show Go l _ Z _ _ _ κ _ _ 48 _ [.int 0, (.ref a)] 1 9
  have fx13 := (p2.keep K3 nin0)
  have fx14 := (p0.keep K3)
  refine ol2' C 51 (ty := .byte) (v' := .int 0) d3_48 rfl (hq hw 30 rfl) Via.refl fx13 fx14 (Or.inr ⟨(hq hw 31 rfl), rfl, rfl⟩) (hq hw 5 rfl) (by decide) rfl (by decide) (mi 1 rfl) ?_
  intro ph15 W16
  have fx17 : Fld Z ph15 a "java/lang/String" "coder" "B" (.int 0) := Fld.same W16 fx13
  refine oc' C 52 d3_51 rfl rfl rfl (ob' C 54 d3_52 rfl rfl rfl ?_)
  have fx18 := (Fld.other W16 (p1.keep K3 nin0) (Or.inr (slot_ne (Or.inr (hq hw 33 rfl)) (Or.inr (hq hw 31 rfl)) (by decide) (t := (.array .byte)) (t' := .byte) (by decide) (by decide))))
  have fx19 := (Exa.wr W16 fx14)
  refine oh1' C 57 (ty := (.array .byte)) d3_54 rfl (hq hw 32 rfl) Via.refl fx18 fx19 (Or.inr ⟨(hq hw 33 rfl), rfl, rfl⟩) (hq hw 5 rfl) (by decide) rfl rfl (mi 1 rfl) ?_
  intro ph20 W21
  have fx22 : Fld Z ph20 a "java/lang/String" "value" "[B" (.ref t5) := Fld.same W21 fx18
  refine oe' C d3_57 rfl (by decide) (by decide) ?_
  have fx23 := (Exa.wr W21 fx19)
  have fx24 := (Fld.other W21 fx17 (Or.inr (slot_ne (Or.inr (hq hw 31 rfl)) (Or.inr (hq hw 33 rfl)) (by decide) (t := .byte) (t' := (.array .byte)) (by decide) (by decide))))
  have fx25 := ((fx7.other W16 (Ne.symm (Nat.ne_of_lt (nltle (p0).lt fx8)))).other W21 (Ne.symm (Nat.ne_of_lt (nltle (p0).lt fx8))))
  exact ⟨t5, kB6, rfl, fx23, fx24, fx22, fx25, fx8⟩
theorem ct_str9 (l : Launch) (Z : State) (a0 : Array Value) (hw : HW a0 Z) {cS : Int32} {fm : Value} (am : Amb Z a0 cS fm) {a b : Addr} {kC : ClassId} {c0 c1 c2 c3 c4 c5 c6 c7 c8 : Int32} {h0 : Heap} (p0 : Exa Z h0 a "java/lang/String") (p1 : Fld Z h0 a "java/lang/String" "value" "[B" .null) (p2 : Fld Z h0 a "java/lang/String" "coder" "B" (.int 0)) (p3 : Arv Z h0 b kC .char (9 : Int32) [.int c0, .int c1, .int c2, .int c3, .int c4, .int c5, .int c6, .int c7, .int c8] (.int 0)) (l0 : ¬ (255 : Int32) < c0) (l1 : ¬ (255 : Int32) < c1) (l2 : ¬ (255 : Int32) < c2) (l3 : ¬ (255 : Int32) < c3) (l4 : ¬ (255 : Int32) < c4) (l5 : ¬ (255 : Int32) < c5) (l6 : ¬ (255 : Int32) < c6) (l7 : ¬ (255 : Int32) < c7) (l8 : ¬ (255 : Int32) < c8) :
    Py l Z (⟨"java/lang/String", "<init>", "([C)V"⟩ : MethodName) 4 65 1 9 #[(.ref a), (.ref b)] h0 [a] (fun rv h' => ∃ (t : Addr) (kB : ClassId), rv = none ∧ Exa Z h' a "java/lang/String" ∧ Fld Z h' a "java/lang/String" "coder" "B" (.int 0) ∧ Fld Z h' a "java/lang/String" "value" "[B" (.ref t) ∧ Arv Z h' t kB .byte (9 : Int32) [.int (lo8 c0), .int (lo8 c1), .int (lo8 c2), .int (lo8 c3), .int (lo8 c4), .int (lo8 c5), .int (lo8 c6), .int (lo8 c7), .int (lo8 c8)] (.int 0) ∧ (h0.size ≤ t)) := by
  refine Ct.py (by0 := zc10) (ml := 2) (rt := none) (rm := ({ frames := 3, cells := 1, slots := 9, locals := 52 } : Room)) ?_ (hq hw 10 rfl) (hq hw 6 rfl)
  refine Ct.mk (a0 := a0) (Ls := #[.val (.ref a), .val (.ref b)]) (plainFor_of_name pn_java_lang_String) (fun m => by simp [entryFrame, mkF, argsToLocals, Value.category]) ?_
  intro κ C
  show Go l _ Z _ _ _ κ [a] h0 0 #[.val (.ref a), .val (.ref b)] [] 0 0
  refine oc' C 1 d2_0 rfl rfl rfl (oc' C 2 d2_1 rfl rfl rfl ?_)
  refine of' C 3 (0 : Int32) d2_2 rfl (by decide) (oc' C 4 d2_3 rfl rfl rfl ?_)
  refine oj' C 5 d2_4 rfl p3 (oo2' C 6 d2_5 rfl ?_)
  refine oq1' C (a := a) (argsL := [(.ref b), .int 0, .int 9, .null]) (W := 0) d2_6 rfl (hq hw 11 rfl) (hq hw 12 rfl) (hq hw 14 rfl) (by decide) pd___CIILjava_lang_Void__V (ct_strV9 l Z a0 hw am (a := a) (b := b) (kC := kC) (c0 := c0) (c1 := c1) (c2 := c2) (c3 := c3) (c4 := c4) (c5 := c5) (c6 := c6) (c7 := c7) (c8 := c8) p0 p1 p2 p3 l0 l1 l2 l3 l4 l5 l6 l7 l8) rfl (Nat.le_of_eq rfl) rfl (by decide) (memsS (mi 0 rfl) mems0) ?_
  intro fv1 ph2 K3 fq4
  obtain ⟨t5, kB6, rfl, fx7, fx8, fx9, fx10, fx11⟩ := fq4
  refine ⟨[t5], (freshS ⟨fx11, (fx10).lt⟩ fresh0), ?_⟩
  show Go l _ Z _ _ _ κ [t5, a] _ 9 _ [] 1 9
  refine oe' C d2_9 rfl (by decide) (by decide) ?_
  exact ⟨t5, kB6, rfl, fx7, fx8, fx9, fx10, fx11⟩
theorem ct_strV0 (l : Launch) (Z : State) (a0 : Array Value) (hw : HW a0 Z) {cS : Int32} {fm : Value} (am : Amb Z a0 cS fm) {a b : Addr} {kC : ClassId} {h0 : Heap} (p0 : Exa Z h0 a "java/lang/String") (p1 : Fld Z h0 a "java/lang/String" "value" "[B" .null) (p2 : Fld Z h0 a "java/lang/String" "coder" "B" (.int 0)) (p3 : Arv Z h0 b kC .char (0 : Int32) [] (.int 0)) :
    PyW l Z consts_1 a0 (⟨"java/lang/String", "<init>", "([CIILjava/lang/Void;)V"⟩ : MethodName) 2 29 4 8 #[(.ref a), (.ref b), .int 0, .int 0, .null] h0 [a] (fun rv h' => ∃ (t : Addr) (kB : ClassId), rv = none ∧ Exa Z h' a "java/lang/String" ∧ Fld Z h' a "java/lang/String" "coder" "B" (.int 0) ∧ Fld Z h' a "java/lang/String" "value" "[B" (.ref t) ∧ Arv Z h' t kB .byte (0 : Int32) [] (.int 0)) := by
  have hEL := am.1
  refine CtW.py (by0 := zc4) (ml := 6) (rt := none) (rm := ({ frames := 1, cells := 4, slots := 8, locals := 12 } : Room)) ?_ (hq hw 14 rfl) (hq hw 6 rfl)
  refine CtW.mk (a0 := a0) (Ls := #[.val (.ref a), .val (.ref b), .val (.int 0), .val (.int 0), .val .null, .unset]) (plainFor_of_name pn_java_lang_String) (fun m => by simp [entryFrame, mkF, argsToLocals, Value.category]) ?_
  intro κ C
  show GoW l _ Z _ _ _ _ _ κ [a] h0 0 #[.val (.ref a), .val (.ref b), .val (.int 0), .val (.int 0), .val .null, .unset] [] 0 0
  refine wk1' C 1 d3_0 rfl rfl rfl (wj3' C 4 (W := 0) d3_1 rfl (hq hw 15 rfl) (hq hw 16 rfl) (hq hw 17 rfl) rfl (by decide) (Nat.le_of_eq rfl) (by decide) ?_)
  refine ww' C 5 d3_4 rfl rfl (ws1' C 8 d3_5 rfl (by decide) ?_)
  refine wk1' C 9 d3_8 rfl rfl rfl (wi2' C hEL 11 2 4 (n := 0) (vs := []) (zn := (0 : Int32)) d3_9 rfl rfl rfl (hq hw 34 rfl) (wS hw) (List.mem_of_getElem? (i := 2) rfl) (by decide) (by decide) rfl (by decide) (by decide) (by decide) (by decide) ?_)
  intro sa1 sb2 k3 ph4 E5 fx6 fx7 fx8 fx9 fn10
  have fe11 : a ≠ sa1 := (fn10 _ (List.mem_of_getElem? (i := 0) rfl)).1
  have fe12 : a ≠ sb2 := (fn10 _ (List.mem_of_getElem? (i := 0) rfl)).2
  refine wp2' C 14 d3_11 rfl (hq hw 32 rfl) Via.refl fx8 ?_
  have fx13 := (Fld.ext E5 p1)
  have fx14 := (Exa.ext E5 p0)
  refine wd3' C 17 (ty := (.array .byte)) d3_14 rfl (hq hw 32 rfl) Via.refl fx13 fx14 (Or.inr ⟨(hq hw 33 rfl), rfl, rfl⟩) (hq hw 5 rfl) (by decide) rfl rfl (mi 0 rfl) ?_
  intro ph15 W16
  have fx17 : Fld Z ph15 a "java/lang/String" "value" "[B" (.ref sb2) := Fld.same W16 fx13
  refine wk1' C 18 d3_17 rfl rfl rfl (wi2' C hEL 20 4 8 (n := 0) (vs := []) (zn := (0 : Int32)) d3_18 rfl rfl rfl (hq hw 34 rfl) (wS hw) (List.mem_of_getElem? (i := 2) rfl) (by decide) (by decide) rfl (by decide) (by decide) (by decide) (by decide) ?_)
  intro sa18 sb19 k20 ph21 E22 fx23 fx24 fx25 fx26 fn27
  have fe28 : a ≠ sa18 := (fn27 _ (List.mem_of_getElem? (i := 0) rfl)).1
  have fe29 : a ≠ sb19 := (fn27 _ (List.mem_of_getElem? (i := 0) rfl)).2
  refine wp2' C 23 d3_20 rfl (hq hw 30 rfl) Via.refl fx24 ?_
  have fx30 := (Fld.ext E22 (Fld.other W16 (Fld.ext E5 p2) (Or.inr (slot_ne (Or.inr (hq hw 31 rfl)) (Or.inr (hq hw 33 rfl)) (by decide) (t := .byte) (t' := (.array .byte)) (by decide) (by decide)))))
  have fx31 := (Exa.ext E22 (Exa.wr W16 fx14))
  refine wi3' C 26 (ty := .byte) (v' := .int 0) d3_23 rfl (hq hw 30 rfl) Via.refl fx30 fx31 (Or.inr ⟨(hq hw 31 rfl), rfl, rfl⟩) (hq hw 5 rfl) (by decide) rfl (by decide) (mi 0 rfl) ?_
  intro ph32 W33
  have fx34 : Fld Z ph32 a "java/lang/String" "coder" "B" (.int 0) := Fld.same W33 fx30
  refine wo1' C hEL d3_26 rfl (by decide) (by decide) ?_
  have fx35 := (Exa.wr W33 fx31)
  have fx36 := (Fld.other W33 (Fld.ext E22 fx17) (Or.inr (slot_ne (Or.inr (hq hw 33 rfl)) (Or.inr (hq hw 31 rfl)) (by decide) (t := (.array .byte)) (t' := .byte) (by decide) (by decide))))
  have fx37 := (((fx9.other W16 (Ne.symm fe12)).ext E22).other W33 (Ne.symm fe12))
  exact ⟨sb2, k3, rfl, fx35, fx34, fx36, fx37⟩
theorem ct_str0 (l : Launch) (Z : State) (a0 : Array Value) (hw : HW a0 Z) {cS : Int32} {fm : Value} (am : Amb Z a0 cS fm) {a b : Addr} {kC : ClassId} {h0 : Heap} (p0 : Exa Z h0 a "java/lang/String") (p1 : Fld Z h0 a "java/lang/String" "value" "[B" .null) (p2 : Fld Z h0 a "java/lang/String" "coder" "B" (.int 0)) (p3 : Arv Z h0 b kC .char (0 : Int32) [] (.int 0)) :
    PyW l Z consts_1 a0 (⟨"java/lang/String", "<init>", "([C)V"⟩ : MethodName) 3 42 4 8 #[(.ref a), (.ref b)] h0 [a] (fun rv h' => ∃ (t : Addr) (kB : ClassId), rv = none ∧ Exa Z h' a "java/lang/String" ∧ Fld Z h' a "java/lang/String" "coder" "B" (.int 0) ∧ Fld Z h' a "java/lang/String" "value" "[B" (.ref t) ∧ Arv Z h' t kB .byte (0 : Int32) [] (.int 0)) := by
  have hEL := am.1
  refine CtW.py (by0 := zc10) (ml := 2) (rt := none) (rm := ({ frames := 2, cells := 4, slots := 8, locals := 29 } : Room)) ?_ (hq hw 10 rfl) (hq hw 6 rfl)
  refine CtW.mk (a0 := a0) (Ls := #[.val (.ref a), .val (.ref b)]) (plainFor_of_name pn_java_lang_String) (fun m => by simp [entryFrame, mkF, argsToLocals, Value.category]) ?_
  intro κ C
  show GoW l _ Z _ _ _ _ _ κ [a] h0 0 #[.val (.ref a), .val (.ref b)] [] 0 0
  refine wk1' C 1 d2_0 rfl rfl rfl (wk1' C 2 d2_1 rfl rfl rfl ?_)
  refine wr1' C 3 (0 : Int32) d2_2 rfl (by decide) (wk1' C 4 d2_3 rfl rfl rfl ?_)
  refine wh3' C 5 d2_4 rfl p3 (wl3' C 6 d2_5 rfl ?_)
  refine wc3' C hEL (a := a) (argsL := [(.ref b), .int 0, .int 0, .null]) (W := 0) d2_6 rfl (hq hw 11 rfl) (hq hw 12 rfl) (hq hw 14 rfl) (by decide) pd___CIILjava_lang_Void__V (ct_strV0 l Z a0 hw am (a := a) (b := b) (kC := kC) p0 p1 p2 p3) rfl (Nat.le_of_eq rfl) rfl (by decide) (memsS (mi 0 rfl) mems0) ?_
  intro fv1 ph2 K3 fq4
  obtain ⟨t5, kB6, rfl, fx7, fx8, fx9, fx10⟩ := fq4
  show GoW l _ Z _ _ _ _ _ κ _ _ 9 _ [] 4 8
  refine wo1' C hEL d2_9 rfl (by decide) (by decide) ?_
  exact ⟨t5, kB6, rfl, fx7, fx8, fx9, fx10⟩
theorem ct_sany (l : Launch) (Z : State) (a0 : Array Value) (hw : HW a0 Z) {cS : Int32} {fm : Value} (am : Amb Z a0 cS fm) {n c0 c1 c2 : Int32} {h0 : Heap} (r0 : Chr c0) (r1 : Chr c1) (r2 : Chr c2) (l0 : ¬ (255 : Int32) < c0) (l1 : ¬ (255 : Int32) < c1) (l2 : ¬ (255 : Int32) < c2) :
    PyW l Z consts_1 a0 (⟨"com/example/evenlot/evenlot/SourceStockPinLaw", "str", "(ICCC)Ljava/lang/String;"⟩ : MethodName) 5 81 6 12 #[.int n, .int c0, .int c1, .int c2] h0 [] (fun rv h' => ∃ (a : Addr), rv = some (.ref a) ∧ Exa Z h' a "java/lang/String") := by
  have hEL := am.1
  refine CtW.py (by0 := zc39) (ml := 4) (rt := (some (.object "java/lang/String"))) (rm := ({ frames := 4, cells := 6, slots := 12, locals := 66 } : Room)) ?_ (hq hw 3 rfl) (hq hw 2 rfl)
  refine CtW.mk (a0 := a0) (Ls := #[.val (.int n), .val (.int c0), .val (.int c1), .val (.int c2)]) (plainFor_of_name pn_com_example_evenlot_evenlot_SourceStockPinLaw) (fun m => by simp [entryFrame, mkF, argsToLocals, Value.category]) ?_
  intro κ C
  show GoW l _ Z _ _ _ _ _ κ [] h0 0 #[.val (.int n), .val (.int c0), .val (.int c1), .val (.int c2)] [] 0 0
  refine ww' C 1 d1_0 rfl rfl ?_
  by_cases hc1 : n = (0 : Int32)
  · skip
    refine ws1' C 4 d1_1 rfl (teq hc1).2 (wb2' C 7 1 4 d1_4 rfl rfl rfl (hq hw 4 rfl) (hq hw 5 rfl) (hq hw 6 rfl) (by decide) (by decide) ?_)
    intro b2 ph3 g4 E5 A6 D7
    have fx8 : Fld Z ph3 b2 "java/lang/String" "coder" "B" (.int 0) := D7 (Or.inr (hq hw 31 rfl)) (ty := .byte) (by decide)
    have fx9 : Fld Z ph3 b2 "java/lang/String" "value" "[B" .null := D7 (Or.inr (hq hw 33 rfl)) (ty := (.array .byte)) (by decide)
    refine wa2' C 8 d1_7 rfl rfl (wr1' C 9 (0 : Int32) d1_8 rfl (by decide) ?_)
    refine wz2' C 11 2 4 (ty := .char) (cap := 0) d1_9 rfl rfl rfl rfl (hq hw 7 rfl) (by decide) (by decide) (by decide) (by decide) (by decide) ?_
    intro b10 ph11 k12 g13 E14 V15
    have fx16 : Arv Z ph11 b10 k12 .char (0 : Int32) [] (.int 0) := V15
    have fx17 := (Exa.ext E14 A6)
    have fx18 := (Fld.ext E14 fx9)
    have fx19 := (Fld.ext E14 fx8)
    refine wc3' C hEL (a := b2) (argsL := [(.ref b10)]) (W := 1) d1_11 rfl (hq hw 8 rfl) (hq hw 9 rfl) (hq hw 10 rfl) (by decide) pd___C_V (ct_str0 l Z a0 hw am (a := b2) (b := b10) (kC := k12) fx17 fx18 fx19 fx16) rfl (Nat.le_of_eq rfl) rfl (by decide) (memsS (mi 1 rfl) mems0) ?_
    intro fv20 ph21 K22 fq23
    obtain ⟨t24, kB25, rfl, fx26, fx27, fx28, fx29⟩ := fq23
    show GoW l _ Z _ _ _ _ _ κ _ _ 14 _ [(.ref b2)] 6 12
    refine wg2' C hEL (v := (.ref b2)) d1_14 rfl rfl rfl (by decide) (by decide) ?_
    exact ⟨b2, rfl, fx26⟩
  · skip
    refine ww2' C (pc' := 15) d1_1 (feq hc1).2 (by decide) (by decide) (ww' C 16 d1_15 rfl rfl ?_)
    refine wr1' C 17 (1 : Int32) d1_16 rfl (by decide) ?_
    by_cases hc30 : n = (1 : Int32)
    · skip
      refine wf3' C 20 d1_17 rfl (teq hc30).2 (wb2' C 23 1 4 d1_20 rfl rfl rfl (hq hw 4 rfl) (hq hw 5 rfl) (hq hw 6 rfl) (by decide) (by decide) ?_)
      intro b31 ph32 g33 E34 A35 D36
      have fx37 : Fld Z ph32 b31 "java/lang/String" "coder" "B" (.int 0) := D36 (Or.inr (hq hw 31 rfl)) (ty := .byte) (by decide)
      have fx38 : Fld Z ph32 b31 "java/lang/String" "value" "[B" .null := D36 (Or.inr (hq hw 33 rfl)) (ty := (.array .byte)) (by decide)
      refine wa2' C 24 d1_23 rfl rfl (wr1' C 25 (1 : Int32) d1_24 rfl (by decide) ?_)
      refine wz2' C 27 2 5 (ty := .char) (cap := 1) d1_25 rfl rfl rfl rfl (hq hw 7 rfl) (by decide) (by decide) (by decide) (by decide) (by decide) ?_
      intro b39 ph40 k41 g42 E43 V44
      have fx45 : Arv Z ph40 b39 k41 .char (1 : Int32) [.int 0] (.int 0) := V44
      refine wa2' C 28 d1_27 rfl rfl (wr1' C 29 (0 : Int32) d1_28 rfl (by decide) ?_)
      refine ww' C 30 d1_29 rfl rfl (wu2' C 31 0 (v := c0) (r0.nar) d1_30 rfl fx45 (by decide) rfl (nble rfl) (mi 0 rfl) ?_)
      intro ph46 W47 fx48
      have fx49 : Arv Z ph46 b39 k41 .char (1 : Int32) [.int c0] (.int 0) := fx48
      have fx50 := (Exa.wr W47 (Exa.ext E43 A35))
      have fx51 := (Fld.other W47 (Fld.ext E43 fx38) (Or.inl (Nat.ne_of_lt (nltle (A35).lt (Nat.le_of_eq g42.symm)))))
      have fx52 := (Fld.other W47 (Fld.ext E43 fx37) (Or.inl (Nat.ne_of_lt (nltle (A35).lt (Nat.le_of_eq g42.symm)))))
      refine wh2' C (a := b31) (argsL := [(.ref b39)]) (W := 1) d1_31 rfl (hq hw 8 rfl) (hq hw 9 rfl) (hq hw 10 rfl) (by decide) pd___C_V (ct_str1 l Z a0 hw am (a := b31) (b := b39) (kC := k41) (c0 := c0) fx50 fx51 fx52 fx49 l0) rfl (Nat.le_of_eq rfl) rfl (by decide) (memsS (mi 1 rfl) mems0) ?_
      intro fv53 ph54 K55 fq56
      obtain ⟨t57, kB58, rfl, fx59, fx60, fx61, fx62, fx63⟩ := fq56
      refine ⟨[t57], (freshS ⟨fx63, (fx62).lt⟩ fresh0), ?_⟩
      show GoW l _ Z _ _ _ _ _ κ [t57, b39, b31] _ 34 _ [(.ref b31)] 3 6
      refine wg2' C hEL (v := (.ref b31)) d1_34 rfl rfl rfl (by decide) (by decide) ?_
      exact ⟨b31, rfl, fx59⟩
    · skip
      refine we3' C (pc' := 35) d1_17 (feq hc30).2 (by decide) (by decide) (ww' C 36 d1_35 rfl rfl ?_)
      refine wr1' C 37 (2 : Int32) d1_36 rfl (by decide) ?_
      by_cases hc64 : n = (2 : Int32)
      · skip
        refine wf3' C 40 d1_37 rfl (teq hc64).2 (wb2' C 43 1 4 d1_40 rfl rfl rfl (hq hw 4 rfl) (hq hw 5 rfl) (hq hw 6 rfl) (by decide) (by decide) ?_)
        intro b65 ph66 g67 E68 A69 D70
        have fx71 : Fld Z ph66 b65 "java/lang/String" "coder" "B" (.int 0) := D70 (Or.inr (hq hw 31 rfl)) (ty := .byte) (by decide)
        have fx72 : Fld Z ph66 b65 "java/lang/String" "value" "[B" .null := D70 (Or.inr (hq hw 33 rfl)) (ty := (.array .byte)) (by decide)
        refine wa2' C 44 d1_43 rfl rfl (wr1' C 45 (2 : Int32) d1_44 rfl (by decide) ?_)
        refine wz2' C 47 2 6 (ty := .char) (cap := 2) d1_45 rfl rfl rfl rfl (hq hw 7 rfl) (by decide) (by decide) (by decide) (by decide) (by decide) ?_
        intro b73 ph74 k75 g76 E77 V78
        have fx79 : Arv Z ph74 b73 k75 .char (2 : Int32) [.int 0, .int 0] (.int 0) := V78
        refine wa2' C 48 d1_47 rfl rfl (wr1' C 49 (0 : Int32) d1_48 rfl (by decide) ?_)
        refine ww' C 50 d1_49 rfl rfl (wu2' C 51 0 (v := c0) (r0.nar) d1_50 rfl fx79 (by decide) rfl (nble rfl) (mi 0 rfl) ?_)
        intro ph80 W81 fx82
        have fx83 : Arv Z ph80 b73 k75 .char (2 : Int32) [.int c0, .int 0] (.int 0) := fx82
        refine wa2' C 52 d1_51 rfl rfl (wr1' C 53 (1 : Int32) d1_52 rfl (by decide) ?_)
        refine ww' C 54 d1_53 rfl rfl (wu2' C 55 1 (v := c1) (r1.nar) d1_54 rfl fx83 (by decide) rfl (nble rfl) (mi 0 rfl) ?_)
        intro ph84 W85 fx86
        have fx87 : Arv Z ph84 b73 k75 .char (2 : Int32) [.int c0, .int c1] (.int 0) := fx86
        have fx88 := (Exa.wr W85 (Exa.wr W81 (Exa.ext E77 A69)))
        have fx89 := (Fld.other W85 (Fld.other W81 (Fld.ext E77 fx72) (Or.inl (Nat.ne_of_lt (nltle (A69).lt (Nat.le_of_eq g76.symm))))) (Or.inl (Nat.ne_of_lt (nltle (A69).lt (Nat.le_of_eq g76.symm)))))
        have fx90 := (Fld.other W85 (Fld.other W81 (Fld.ext E77 fx71) (Or.inl (Nat.ne_of_lt (nltle (A69).lt (Nat.le_of_eq g76.symm))))) (Or.inl (Nat.ne_of_lt (nltle (A69).lt (Nat.le_of_eq g76.symm)))))
        refine wh2' C (a := b65) (argsL := [(.ref b73)]) (W := 1) d1_55 rfl (hq hw 8 rfl) (hq hw 9 rfl) (hq hw 10 rfl) (by decide) pd___C_V (ct_str2 l Z a0 hw am (a := b65) (b := b73) (kC := k75) (c0 := c0) (c1 := c1) fx88 fx89 fx90 fx87 l0 l1) rfl (Nat.le_of_eq rfl) rfl (by decide) (memsS (mi 1 rfl) mems0) ?_
        intro fv91 ph92 K93 fq94
        obtain ⟨t95, kB96, rfl, fx97, fx98, fx99, fx100, fx101⟩ := fq94
        refine ⟨[t95], (freshS ⟨fx101, (fx100).lt⟩ fresh0), ?_⟩
        show GoW l _ Z _ _ _ _ _ κ [t95, b73, b65] _ 58 _ [(.ref b65)] 3 8
        refine wg2' C hEL (v := (.ref b65)) d1_58 rfl rfl rfl (by decide) (by decide) ?_
        exact ⟨b65, rfl, fx97⟩
      · skip
        refine we3' C (pc' := 59) d1_37 (feq hc64).2 (by decide) (by decide) (wb2' C 62 1 4 d1_59 rfl rfl rfl (hq hw 4 rfl) (hq hw 5 rfl) (hq hw 6 rfl) (by decide) (by decide) ?_)
        intro b102 ph103 g104 E105 A106 D107
        have fx108 : Fld Z ph103 b102 "java/lang/String" "coder" "B" (.int 0) := D107 (Or.inr (hq hw 31 rfl)) (ty := .byte) (by decide)
        have fx109 : Fld Z ph103 b102 "java/lang/String" "value" "[B" .null := D107 (Or.inr (hq hw 33 rfl)) (ty := (.array .byte)) (by decide)
        refine wa2' C 63 d1_62 rfl rfl (wr1' C 64 (3 : Int32) d1_63 rfl (by decide) ?_)
        refine wz2' C 66 2 7 (ty := .char) (cap := 3) d1_64 rfl rfl rfl rfl (hq hw 7 rfl) (by decide) (by decide) (by decide) (by decide) (by decide) ?_
        intro b110 ph111 k112 g113 E114 V115
        have fx116 : Arv Z ph111 b110 k112 .char (3 : Int32) [.int 0, .int 0, .int 0] (.int 0) := V115
        refine wa2' C 67 d1_66 rfl rfl (wr1' C 68 (0 : Int32) d1_67 rfl (by decide) ?_)
        refine ww' C 69 d1_68 rfl rfl (wu2' C 70 0 (v := c0) (r0.nar) d1_69 rfl fx116 (by decide) rfl (nble rfl) (mi 0 rfl) ?_)
        intro ph117 W118 fx119
        have fx120 : Arv Z ph117 b110 k112 .char (3 : Int32) [.int c0, .int 0, .int 0] (.int 0) := fx119
        refine wa2' C 71 d1_70 rfl rfl (wr1' C 72 (1 : Int32) d1_71 rfl (by decide) ?_)
        refine ww' C 73 d1_72 rfl rfl (wu2' C 74 1 (v := c1) (r1.nar) d1_73 rfl fx120 (by decide) rfl (nble rfl) (mi 0 rfl) ?_)
        intro ph121 W122 fx123
        have fx124 : Arv Z ph121 b110 k112 .char (3 : Int32) [.int c0, .int c1, .int 0] (.int 0) := fx123
        refine wa2' C 75 d1_74 rfl rfl (wr1' C 76 (2 : Int32) d1_75 rfl (by decide) ?_)
        refine ww' C 77 d1_76 rfl rfl (wu2' C 78 2 (v := c2) (r2.nar) d1_77 rfl fx124 (by decide) rfl (nble rfl) (mi 0 rfl) ?_)
        intro ph125 W126 fx127
        have fx128 : Arv Z ph125 b110 k112 .char (3 : Int32) [.int c0, .int c1, .int c2] (.int 0) := fx127
        have fx129 := (Exa.wr W126 (Exa.wr W122 (Exa.wr W118 (Exa.ext E114 A106))))
        have fx130 := (Fld.other W126 (Fld.other W122 (Fld.other W118 (Fld.ext E114 fx109) (Or.inl (Nat.ne_of_lt (nltle (A106).lt (Nat.le_of_eq g113.symm))))) (Or.inl (Nat.ne_of_lt (nltle (A106).lt (Nat.le_of_eq g113.symm))))) (Or.inl (Nat.ne_of_lt (nltle (A106).lt (Nat.le_of_eq g113.symm)))))
        have fx131 := (Fld.other W126 (Fld.other W122 (Fld.other W118 (Fld.ext E114 fx108) (Or.inl (Nat.ne_of_lt (nltle (A106).lt (Nat.le_of_eq g113.symm))))) (Or.inl (Nat.ne_of_lt (nltle (A106).lt (Nat.le_of_eq g113.symm))))) (Or.inl (Nat.ne_of_lt (nltle (A106).lt (Nat.le_of_eq g113.symm)))))
        refine wh2' C (a := b102) (argsL := [(.ref b110)]) (W := 1) d1_78 rfl (hq hw 8 rfl) (hq hw 9 rfl) (hq hw 10 rfl) (by decide) pd___C_V (ct_str3 l Z a0 hw am (a := b102) (b := b110) (kC := k112) (c0 := c0) (c1 := c1) (c2 := c2) fx129 fx130 fx131 fx128 l0 l1 l2) rfl (Nat.le_of_eq rfl) rfl (by decide) (memsS (mi 1 rfl) mems0) ?_
        intro fv132 ph133 K134 fq135
        obtain ⟨t136, kB137, rfl, fx138, fx139, fx140, fx141, fx142⟩ := fq135
        refine ⟨[t136], (freshS ⟨fx142, (fx141).lt⟩ fresh0), ?_⟩
        show GoW l _ Z _ _ _ _ _ κ [t136, b110, b102] _ 81 _ [(.ref b102)] 3 10
        refine wg2' C hEL (v := (.ref b102)) d1_81 rfl rfl rfl (by decide) (by decide) ?_
        exact ⟨b102, rfl, fx138⟩
theorem ct_s0 (l : Launch) (Z : State) (a0 : Array Value) (hw : HW a0 Z) {cS : Int32} {fm : Value} (am : Amb Z a0 cS fm) {c0 c1 c2 : Int32} {h0 : Heap} (r0 : Chr c0) (r1 : Chr c1) (r2 : Chr c2) (l0 : ¬ (255 : Int32) < c0) (l1 : ¬ (255 : Int32) < c1) (l2 : ¬ (255 : Int32) < c2) :
    PyW l Z consts_1 a0 (⟨"com/example/evenlot/evenlot/SourceStockPinLaw", "str", "(ICCC)Ljava/lang/String;"⟩ : MethodName) 4 58 6 12 #[.int 0, .int c0, .int c1, .int c2] h0 [] (fun rv h' => ∃ (a : Addr) (t : Addr) (kt : ClassId), rv = some (.ref a) ∧ Exa Z h' a "java/lang/String" ∧ Fld Z h' a "java/lang/String" "coder" "B" (.int 0) ∧ Fld Z h' a "java/lang/String" "value" "[B" (.ref t) ∧ Arv Z h' t kt .byte (0 : Int32) [] (.int 0)) := by
  have hEL := am.1
  refine CtW.py (by0 := zc39) (ml := 4) (rt := (some (.object "java/lang/String"))) (rm := ({ frames := 3, cells := 6, slots := 12, locals := 43 } : Room)) ?_ (hq hw 3 rfl) (hq hw 2 rfl)
  refine CtW.mk (a0 := a0) (Ls := #[.val (.int 0), .val (.int c0), .val (.int c1), .val (.int c2)]) (plainFor_of_name pn_com_example_evenlot_evenlot_SourceStockPinLaw) (fun m => by simp [entryFrame, mkF, argsToLocals, Value.category]) ?_
  intro κ C
  show GoW l _ Z _ _ _ _ _ κ [] h0 0 #[.val (.int 0), .val (.int c0), .val (.int c1), .val (.int c2)] [] 0 0
  refine ww' C 1 d1_0 rfl rfl (ws1' C 4 d1_1 rfl (by decide) ?_)
  refine wb2' C 7 1 4 d1_4 rfl rfl rfl (hq hw 4 rfl) (hq hw 5 rfl) (hq hw 6 rfl) (by decide) (by decide) ?_
  intro b1 ph2 g3 E4 A5 D6
  have fx7 : Fld Z ph2 b1 "java/lang/String" "coder" "B" (.int 0) := D6 (Or.inr (hq hw 31 rfl)) (ty := .byte) (by decide)
  have fx8 : Fld Z ph2 b1 "java/lang/String" "value" "[B" .null := D6 (Or.inr (hq hw 33 rfl)) (ty := (.array .byte)) (by decide)
  refine wa2' C 8 d1_7 rfl rfl (wr1' C 9 (0 : Int32) d1_8 rfl (by decide) ?_)
  refine wz2' C 11 2 4 (ty := .char) (cap := 0) d1_9 rfl rfl rfl rfl (hq hw 7 rfl) (by decide) (by decide) (by decide) (by decide) (by decide) ?_
  intro b9 ph10 k11 g12 E13 V14
  have fx15 : Arv Z ph10 b9 k11 .char (0 : Int32) [] (.int 0) := V14
  have fx16 := (Exa.ext E13 A5)
  have fx17 := (Fld.ext E13 fx8)
  have fx18 := (Fld.ext E13 fx7)
  refine wc3' C hEL (a := b1) (argsL := [(.ref b9)]) (W := 1) d1_11 rfl (hq hw 8 rfl) (hq hw 9 rfl) (hq hw 10 rfl) (by decide) pd___C_V (ct_str0 l Z a0 hw am (a := b1) (b := b9) (kC := k11) fx16 fx17 fx18 fx15) rfl (Nat.le_of_eq rfl) rfl (by decide) (memsS (mi 1 rfl) mems0) ?_
  intro fv19 ph20 K21 fq22
  obtain ⟨t23, kB24, rfl, fx25, fx26, fx27, fx28⟩ := fq22
  show GoW l _ Z _ _ _ _ _ κ _ _ 14 _ [(.ref b1)] 6 12
  refine wg2' C hEL (v := (.ref b1)) d1_14 rfl rfl rfl (by decide) (by decide) ?_
  exact ⟨b1, t23, kB24, rfl, fx25, fx26, fx27, fx28⟩
theorem ct_sn0 (l : Launch) (Z : State) (a0 : Array Value) (hw : HW a0 Z) {cS : Int32} {fm : Value} (am : Amb Z a0 cS fm) {c0 c1 c2 : Int32} {h0 : Heap} (r0 : Chr c0) (r1 : Chr c1) (r2 : Chr c2) (l0 : ¬ (255 : Int32) < c0) (l1 : ¬ (255 : Int32) < c1) (l2 : ¬ (255 : Int32) < c2) :
    Py l Z (⟨"com/example/evenlot/evenlot/SourceStockPinLaw", "stockName", "(ICCC)Ljava/lang/String;"⟩ : MethodName) 5 81 3 16 #[.int 0, .int c0, .int c1, .int c2] h0 [] (fun rv h' => ∃ (a : Addr) (t : Addr) (kt : ClassId), rv = some (.ref a) ∧ Exa Z h' a "java/lang/String" ∧ Fld Z h' a "java/lang/String" "coder" "B" (.int 0) ∧ Fld Z h' a "java/lang/String" "value" "[B" (.ref t) ∧ Arv Z h' t kt .byte (6 : Int32) [.int (lo8 115), .int (lo8 116), .int (lo8 111), .int (lo8 99), .int (lo8 107), .int (lo8 47)] (.int 0)) := by
  refine Ct.py (by0 := zc40) (ml := 4) (rt := (some (.object "java/lang/String"))) (rm := ({ frames := 4, cells := 3, slots := 16, locals := 66 } : Room)) ?_ (hq hw 39 rfl) (hq hw 2 rfl)
  refine Ct.mk (a0 := a0) (Ls := #[.val (.int 0), .val (.int c0), .val (.int c1), .val (.int c2)]) (plainFor_of_name pn_com_example_evenlot_evenlot_SourceStockPinLaw) (fun m => by simp [entryFrame, mkF, argsToLocals, Value.category]) ?_
  intro κ C
  show Go l _ Z _ _ _ κ [] h0 0 #[.val (.int 0), .val (.int c0), .val (.int c1), .val (.int c2)] [] 0 0
  refine od' C 1 d8_0 rfl rfl (ot' C 4 d8_1 rfl (by decide) ?_)
  refine oc1' C 7 1 4 d8_4 rfl rfl rfl (hq hw 4 rfl) (hq hw 5 rfl) (hq hw 6 rfl) (by decide) (by decide) ?_
  intro b1 ph2 g3 E4 A5 D6
  have fx7 : Fld Z ph2 b1 "java/lang/String" "coder" "B" (.int 0) := D6 (Or.inr (hq hw 31 rfl)) (ty := .byte) (by decide)
  have fx8 : Fld Z ph2 b1 "java/lang/String" "value" "[B" .null := D6 (Or.inr (hq hw 33 rfl)) (ty := (.array .byte)) (by decide)
  refine ou' C 8 d8_7 rfl rfl (ox' C 10 (6 : Int32) d8_8 rfl (by decide) ?_)
  refine ow1' C 12 2 10 (ty := .char) (cap := 6) d8_10 rfl rfl rfl rfl (hq hw 7 rfl) (by decide) (by decide) (by decide) (by decide) (by decide) ?_
  intro b9 ph10 k11 g12 E13 V14
  have fx15 : Arv Z ph10 b9 k11 .char (6 : Int32) [.int 0, .int 0, .int 0, .int 0, .int 0, .int 0] (.int 0) := V14
  refine ou' C 13 d8_12 rfl rfl (of' C 14 (0 : Int32) d8_13 rfl (by decide) ?_)
  refine ox' C 16 (115 : Int32) d8_14 rfl (by decide) (od1' C 17 0 (v := (115 : Int32)) (by decide) d8_16 rfl fx15 (by decide) rfl (nble rfl) (mi 0 rfl) ?_)
  intro ph16 W17 fx18
  have fx19 : Arv Z ph16 b9 k11 .char (6 : Int32) [.int 115, .int 0, .int 0, .int 0, .int 0, .int 0] (.int 0) := fx18
  refine ou' C 18 d8_17 rfl rfl (of' C 19 (1 : Int32) d8_18 rfl (by decide) ?_)
  refine ox' C 21 (116 : Int32) d8_19 rfl (by decide) (od1' C 22 1 (v := (116 : Int32)) (by decide) d8_21 rfl fx19 (by decide) rfl (nble rfl) (mi 0 rfl) ?_)
  intro ph20 W21 fx22
  have fx23 : Arv Z ph20 b9 k11 .char (6 : Int32) [.int 115, .int 116, .int 0, .int 0, .int 0, .int 0] (.int 0) := fx22
  refine ou' C 23 d8_22 rfl rfl (of' C 24 (2 : Int32) d8_23 rfl (by decide) ?_)
  refine ox' C 26 (111 : Int32) d8_24 rfl (by decide) (od1' C 27 2 (v := (111 : Int32)) (by decide) d8_26 rfl fx23 (by decide) rfl (nble rfl) (mi 0 rfl) ?_)
  intro ph24 W25 fx26
  have fx27 : Arv Z ph24 b9 k11 .char (6 : Int32) [.int 115, .int 116, .int 111, .int 0, .int 0, .int 0] (.int 0) := fx26
  refine ou' C 28 d8_27 rfl rfl (of' C 29 (3 : Int32) d8_28 rfl (by decide) ?_)
  refine ox' C 31 (99 : Int32) d8_29 rfl (by decide) (od1' C 32 3 (v := (99 : Int32)) (by decide) d8_31 rfl fx27 (by decide) rfl (nble rfl) (mi 0 rfl) ?_)
  intro ph28 W29 fx30
  have fx31 : Arv Z ph28 b9 k11 .char (6 : Int32) [.int 115, .int 116, .int 111, .int 99, .int 0, .int 0] (.int 0) := fx30
  refine ou' C 33 d8_32 rfl rfl (of' C 34 (4 : Int32) d8_33 rfl (by decide) ?_)
  refine ox' C 36 (107 : Int32) d8_34 rfl (by decide) (od1' C 37 4 (v := (107 : Int32)) (by decide) d8_36 rfl fx31 (by decide) rfl (nble rfl) (mi 0 rfl) ?_)
  intro ph32 W33 fx34
  have fx35 : Arv Z ph32 b9 k11 .char (6 : Int32) [.int 115, .int 116, .int 111, .int 99, .int 107, .int 0] (.int 0) := fx34
  refine ou' C 38 d8_37 rfl rfl (of' C 39 (5 : Int32) d8_38 rfl (by decide) ?_)
  refine ox' C 41 (47 : Int32) d8_39 rfl (by decide) (od1' C 42 5 (v := (47 : Int32)) (by decide) d8_41 rfl fx35 (by decide) rfl (nble rfl) (mi 0 rfl) ?_)
  intro ph36 W37 fx38
  have fx39 : Arv Z ph36 b9 k11 .char (6 : Int32) [.int 115, .int 116, .int 111, .int 99, .int 107, .int 47] (.int 0) := fx38
  have fx40 := (Exa.wr W37 (Exa.wr W33 (Exa.wr W29 (Exa.wr W25 (Exa.wr W21 (Exa.wr W17 (Exa.ext E13 A5)))))))
  have fx41 := (Fld.other W37 (Fld.other W33 (Fld.other W29 (Fld.other W25 (Fld.other W21 (Fld.other W17 (Fld.ext E13 fx8) (Or.inl (Nat.ne_of_lt (nltle (A5).lt (Nat.le_of_eq g12.symm))))) (Or.inl (Nat.ne_of_lt (nltle (A5).lt (Nat.le_of_eq g12.symm))))) (Or.inl (Nat.ne_of_lt (nltle (A5).lt (Nat.le_of_eq g12.symm))))) (Or.inl (Nat.ne_of_lt (nltle (A5).lt (Nat.le_of_eq g12.symm))))) (Or.inl (Nat.ne_of_lt (nltle (A5).lt (Nat.le_of_eq g12.symm))))) (Or.inl (Nat.ne_of_lt (nltle (A5).lt (Nat.le_of_eq g12.symm)))))
  have fx42 := (Fld.other W37 (Fld.other W33 (Fld.other W29 (Fld.other W25 (Fld.other W21 (Fld.other W17 (Fld.ext E13 fx7) (Or.inl (Nat.ne_of_lt (nltle (A5).lt (Nat.le_of_eq g12.symm))))) (Or.inl (Nat.ne_of_lt (nltle (A5).lt (Nat.le_of_eq g12.symm))))) (Or.inl (Nat.ne_of_lt (nltle (A5).lt (Nat.le_of_eq g12.symm))))) (Or.inl (Nat.ne_of_lt (nltle (A5).lt (Nat.le_of_eq g12.symm))))) (Or.inl (Nat.ne_of_lt (nltle (A5).lt (Nat.le_of_eq g12.symm))))) (Or.inl (Nat.ne_of_lt (nltle (A5).lt (Nat.le_of_eq g12.symm)))))
  refine oq1' C (a := b1) (argsL := [(.ref b9)]) (W := 1) d8_42 rfl (hq hw 8 rfl) (hq hw 9 rfl) (hq hw 10 rfl) (by decide) pd___C_V (ct_str6 l Z a0 hw am (a := b1) (b := b9) (kC := k11) (c0 := (115 : Int32)) (c1 := (116 : Int32)) (c2 := (111 : Int32)) (c3 := (99 : Int32)) (c4 := (107 : Int32)) (c5 := (47 : Int32)) fx40 fx41 fx42 fx39 (by decide) (by decide) (by decide) (by decide) (by decide) (by decide)) rfl (Nat.le_of_eq rfl) rfl (by decide) (memsS (mi 1 rfl) mems0) ?_
  intro fv43 ph44 K45 fq46
  obtain ⟨t47, kB48, rfl, fx49, fx50, fx51, fx52, fx53⟩ := fq46
  refine ⟨[t47], (freshS ⟨fx53, (fx52).lt⟩ fresh0), ?_⟩
  show Go l _ Z _ _ _ κ [t47, b9, b1] _ 45 _ [(.ref b1)] 3 16
  refine ov' C (v := (.ref b1)) d8_45 rfl rfl rfl (by decide) (by decide) ?_
  exact ⟨b1, t47, kB48, rfl, fx49, fx50, fx51, fx52⟩
theorem ct_s1 (l : Launch) (Z : State) (a0 : Array Value) (hw : HW a0 Z) {cS : Int32} {fm : Value} (am : Amb Z a0 cS fm) {c0 c1 c2 : Int32} {h0 : Heap} (r0 : Chr c0) (r1 : Chr c1) (r2 : Chr c2) (l0 : ¬ (255 : Int32) < c0) (l1 : ¬ (255 : Int32) < c1) (l2 : ¬ (255 : Int32) < c2) :
    Py l Z (⟨"com/example/evenlot/evenlot/SourceStockPinLaw", "str", "(ICCC)Ljava/lang/String;"⟩ : MethodName) 5 81 3 6 #[.int 1, .int c0, .int c1, .int c2] h0 [] (fun rv h' => ∃ (a : Addr) (t : Addr) (kt : ClassId), rv = some (.ref a) ∧ Exa Z h' a "java/lang/String" ∧ Fld Z h' a "java/lang/String" "coder" "B" (.int 0) ∧ Fld Z h' a "java/lang/String" "value" "[B" (.ref t) ∧ Arv Z h' t kt .byte (1 : Int32) [.int (lo8 c0)] (.int 0)) := by
  refine Ct.py (by0 := zc39) (ml := 4) (rt := (some (.object "java/lang/String"))) (rm := ({ frames := 4, cells := 3, slots := 6, locals := 66 } : Room)) ?_ (hq hw 3 rfl) (hq hw 2 rfl)
  refine Ct.mk (a0 := a0) (Ls := #[.val (.int 1), .val (.int c0), .val (.int c1), .val (.int c2)]) (plainFor_of_name pn_com_example_evenlot_evenlot_SourceStockPinLaw) (fun m => by simp [entryFrame, mkF, argsToLocals, Value.category]) ?_
  intro κ C
  show Go l _ Z _ _ _ κ [] h0 0 #[.val (.int 1), .val (.int c0), .val (.int c1), .val (.int c2)] [] 0 0
  refine od' C 1 d1_0 rfl rfl (om1' C (pc' := 15) d1_1 (by decide) (by decide) (by decide) ?_)
  refine od' C 16 d1_15 rfl rfl (of' C 17 (1 : Int32) d1_16 rfl (by decide) ?_)
  refine oi' C 20 d1_17 rfl (by decide) (oc1' C 23 1 4 d1_20 rfl rfl rfl (hq hw 4 rfl) (hq hw 5 rfl) (hq hw 6 rfl) (by decide) (by decide) ?_)
  intro b1 ph2 g3 E4 A5 D6
  have fx7 : Fld Z ph2 b1 "java/lang/String" "coder" "B" (.int 0) := D6 (Or.inr (hq hw 31 rfl)) (ty := .byte) (by decide)
  have fx8 : Fld Z ph2 b1 "java/lang/String" "value" "[B" .null := D6 (Or.inr (hq hw 33 rfl)) (ty := (.array .byte)) (by decide)
  refine ou' C 24 d1_23 rfl rfl (of' C 25 (1 : Int32) d1_24 rfl (by decide) ?_)
  refine ow1' C 27 2 5 (ty := .char) (cap := 1) d1_25 rfl rfl rfl rfl (hq hw 7 rfl) (by decide) (by decide) (by decide) (by decide) (by decide) ?_
  intro b9 ph10 k11 g12 E13 V14
  have fx15 : Arv Z ph10 b9 k11 .char (1 : Int32) [.int 0] (.int 0) := V14
  refine ou' C 28 d1_27 rfl rfl (of' C 29 (0 : Int32) d1_28 rfl (by decide) ?_)
  refine od' C 30 d1_29 rfl rfl (od1' C 31 0 (v := c0) (r0.nar) d1_30 rfl fx15 (by decide) rfl (nble rfl) (mi 0 rfl) ?_)
  intro ph16 W17 fx18
  have fx19 : Arv Z ph16 b9 k11 .char (1 : Int32) [.int c0] (.int 0) := fx18
  have fx20 := (Exa.wr W17 (Exa.ext E13 A5))
  have fx21 := (Fld.other W17 (Fld.ext E13 fx8) (Or.inl (Nat.ne_of_lt (nltle (A5).lt (Nat.le_of_eq g12.symm)))))
  have fx22 := (Fld.other W17 (Fld.ext E13 fx7) (Or.inl (Nat.ne_of_lt (nltle (A5).lt (Nat.le_of_eq g12.symm)))))
  refine oq1' C (a := b1) (argsL := [(.ref b9)]) (W := 1) d1_31 rfl (hq hw 8 rfl) (hq hw 9 rfl) (hq hw 10 rfl) (by decide) pd___C_V (ct_str1 l Z a0 hw am (a := b1) (b := b9) (kC := k11) (c0 := c0) fx20 fx21 fx22 fx19 l0) rfl (Nat.le_of_eq rfl) rfl (by decide) (memsS (mi 1 rfl) mems0) ?_
  intro fv23 ph24 K25 fq26
  obtain ⟨t27, kB28, rfl, fx29, fx30, fx31, fx32, fx33⟩ := fq26
  refine ⟨[t27], (freshS ⟨fx33, (fx32).lt⟩ fresh0), ?_⟩
  show Go l _ Z _ _ _ κ [t27, b9, b1] _ 34 _ [(.ref b1)] 3 6
  refine ov' C (v := (.ref b1)) d1_34 rfl rfl rfl (by decide) (by decide) ?_
  exact ⟨b1, t27, kB28, rfl, fx29, fx30, fx31, fx32⟩
theorem ct_sn1 (l : Launch) (Z : State) (a0 : Array Value) (hw : HW a0 Z) {cS : Int32} {fm : Value} (am : Amb Z a0 cS fm) {c0 c1 c2 : Int32} {h0 : Heap} (r0 : Chr c0) (r1 : Chr c1) (r2 : Chr c2) (l0 : ¬ (255 : Int32) < c0) (l1 : ¬ (255 : Int32) < c1) (l2 : ¬ (255 : Int32) < c2) :
    Py l Z (⟨"com/example/evenlot/evenlot/SourceStockPinLaw", "stockName", "(ICCC)Ljava/lang/String;"⟩ : MethodName) 5 81 3 18 #[.int 1, .int c0, .int c1, .int c2] h0 [] (fun rv h' => ∃ (a : Addr) (t : Addr) (kt : ClassId), rv = some (.ref a) ∧ Exa Z h' a "java/lang/String" ∧ Fld Z h' a "java/lang/String" "coder" "B" (.int 0) ∧ Fld Z h' a "java/lang/String" "value" "[B" (.ref t) ∧ Arv Z h' t kt .byte (7 : Int32) [.int (lo8 115), .int (lo8 116), .int (lo8 111), .int (lo8 99), .int (lo8 107), .int (lo8 47), .int (lo8 c0)] (.int 0)) := by
  refine Ct.py (by0 := zc40) (ml := 4) (rt := (some (.object "java/lang/String"))) (rm := ({ frames := 4, cells := 3, slots := 18, locals := 66 } : Room)) ?_ (hq hw 39 rfl) (hq hw 2 rfl)
  refine Ct.mk (a0 := a0) (Ls := #[.val (.int 1), .val (.int c0), .val (.int c1), .val (.int c2)]) (plainFor_of_name pn_com_example_evenlot_evenlot_SourceStockPinLaw) (fun m => by simp [entryFrame, mkF, argsToLocals, Value.category]) ?_
  intro κ C
  show Go l _ Z _ _ _ κ [] h0 0 #[.val (.int 1), .val (.int c0), .val (.int c1), .val (.int c2)] [] 0 0
  refine od' C 1 d8_0 rfl rfl (om1' C (pc' := 46) d8_1 (by decide) (by decide) (by decide) ?_)
  refine od' C 47 d8_46 rfl rfl (of' C 48 (1 : Int32) d8_47 rfl (by decide) ?_)
  refine oi' C 51 d8_48 rfl (by decide) (oc1' C 54 1 4 d8_51 rfl rfl rfl (hq hw 4 rfl) (hq hw 5 rfl) (hq hw 6 rfl) (by decide) (by decide) ?_)
  intro b1 ph2 g3 E4 A5 D6
  have fx7 : Fld Z ph2 b1 "java/lang/String" "coder" "B" (.int 0) := D6 (Or.inr (hq hw 31 rfl)) (ty := .byte) (by decide)
  have fx8 : Fld Z ph2 b1 "java/lang/String" "value" "[B" .null := D6 (Or.inr (hq hw 33 rfl)) (ty := (.array .byte)) (by decide)
  refine ou' C 55 d8_54 rfl rfl (ox' C 57 (7 : Int32) d8_55 rfl (by decide) ?_)
  refine ow1' C 59 2 11 (ty := .char) (cap := 7) d8_57 rfl rfl rfl rfl (hq hw 7 rfl) (by decide) (by decide) (by decide) (by decide) (by decide) ?_
  intro b9 ph10 k11 g12 E13 V14
  have fx15 : Arv Z ph10 b9 k11 .char (7 : Int32) [.int 0, .int 0, .int 0, .int 0, .int 0, .int 0, .int 0] (.int 0) := V14
  refine ou' C 60 d8_59 rfl rfl (of' C 61 (0 : Int32) d8_60 rfl (by decide) ?_)
  refine ox' C 63 (115 : Int32) d8_61 rfl (by decide) (od1' C 64 0 (v := (115 : Int32)) (by decide) d8_63 rfl fx15 (by decide) rfl (nble rfl) (mi 0 rfl) ?_)
  intro ph16 W17 fx18
  have fx19 : Arv Z ph16 b9 k11 .char (7 : Int32) [.int 115, .int 0, .int 0, .int 0, .int 0, .int 0, .int 0] (.int 0) := fx18
  refine ou' C 65 d8_64 rfl rfl (of' C 66 (1 : Int32) d8_65 rfl (by decide) ?_)
  refine ox' C 68 (116 : Int32) d8_66 rfl (by decide) (od1' C 69 1 (v := (116 : Int32)) (by decide) d8_68 rfl fx19 (by decide) rfl (nble rfl) (mi 0 rfl) ?_)
  intro ph20 W21 fx22
  have fx23 : Arv Z ph20 b9 k11 .char (7 : Int32) [.int 115, .int 116, .int 0, .int 0, .int 0, .int 0, .int 0] (.int 0) := fx22
  refine ou' C 70 d8_69 rfl rfl (of' C 71 (2 : Int32) d8_70 rfl (by decide) ?_)
  refine ox' C 73 (111 : Int32) d8_71 rfl (by decide) (od1' C 74 2 (v := (111 : Int32)) (by decide) d8_73 rfl fx23 (by decide) rfl (nble rfl) (mi 0 rfl) ?_)
  intro ph24 W25 fx26
  have fx27 : Arv Z ph24 b9 k11 .char (7 : Int32) [.int 115, .int 116, .int 111, .int 0, .int 0, .int 0, .int 0] (.int 0) := fx26
  refine ou' C 75 d8_74 rfl rfl (of' C 76 (3 : Int32) d8_75 rfl (by decide) ?_)
  refine ox' C 78 (99 : Int32) d8_76 rfl (by decide) (od1' C 79 3 (v := (99 : Int32)) (by decide) d8_78 rfl fx27 (by decide) rfl (nble rfl) (mi 0 rfl) ?_)
  intro ph28 W29 fx30
  have fx31 : Arv Z ph28 b9 k11 .char (7 : Int32) [.int 115, .int 116, .int 111, .int 99, .int 0, .int 0, .int 0] (.int 0) := fx30
  refine ou' C 80 d8_79 rfl rfl (of' C 81 (4 : Int32) d8_80 rfl (by decide) ?_)
  refine ox' C 83 (107 : Int32) d8_81 rfl (by decide) (od1' C 84 4 (v := (107 : Int32)) (by decide) d8_83 rfl fx31 (by decide) rfl (nble rfl) (mi 0 rfl) ?_)
  intro ph32 W33 fx34
  have fx35 : Arv Z ph32 b9 k11 .char (7 : Int32) [.int 115, .int 116, .int 111, .int 99, .int 107, .int 0, .int 0] (.int 0) := fx34
  refine ou' C 85 d8_84 rfl rfl (of' C 86 (5 : Int32) d8_85 rfl (by decide) ?_)
  refine ox' C 88 (47 : Int32) d8_86 rfl (by decide) (od1' C 89 5 (v := (47 : Int32)) (by decide) d8_88 rfl fx35 (by decide) rfl (nble rfl) (mi 0 rfl) ?_)
  intro ph36 W37 fx38
  have fx39 : Arv Z ph36 b9 k11 .char (7 : Int32) [.int 115, .int 116, .int 111, .int 99, .int 107, .int 47, .int 0] (.int 0) := fx38
  refine ou' C 90 d8_89 rfl rfl (ox' C 92 (6 : Int32) d8_90 rfl (by decide) ?_)
  refine od' C 93 d8_92 rfl rfl (od1' C 94 6 (v := c0) (r0.nar) d8_93 rfl fx39 (by decide) rfl (nble rfl) (mi 0 rfl) ?_)
  intro ph40 W41 fx42
  have fx43 : Arv Z ph40 b9 k11 .char (7 : Int32) [.int 115, .int 116, .int 111, .int 99, .int 107, .int 47, .int c0] (.int 0) := fx42
  have fx44 := (Exa.wr W41 (Exa.wr W37 (Exa.wr W33 (Exa.wr W29 (Exa.wr W25 (Exa.wr W21 (Exa.wr W17 (Exa.ext E13 A5))))))))
  have fx45 := (Fld.other W41 (Fld.other W37 (Fld.other W33 (Fld.other W29 (Fld.other W25 (Fld.other W21 (Fld.other W17 (Fld.ext E13 fx8) (Or.inl (Nat.ne_of_lt (nltle (A5).lt (Nat.le_of_eq g12.symm))))) (Or.inl (Nat.ne_of_lt (nltle (A5).lt (Nat.le_of_eq g12.symm))))) (Or.inl (Nat.ne_of_lt (nltle (A5).lt (Nat.le_of_eq g12.symm))))) (Or.inl (Nat.ne_of_lt (nltle (A5).lt (Nat.le_of_eq g12.symm))))) (Or.inl (Nat.ne_of_lt (nltle (A5).lt (Nat.le_of_eq g12.symm))))) (Or.inl (Nat.ne_of_lt (nltle (A5).lt (Nat.le_of_eq g12.symm))))) (Or.inl (Nat.ne_of_lt (nltle (A5).lt (Nat.le_of_eq g12.symm)))))
  have fx46 := (Fld.other W41 (Fld.other W37 (Fld.other W33 (Fld.other W29 (Fld.other W25 (Fld.other W21 (Fld.other W17 (Fld.ext E13 fx7) (Or.inl (Nat.ne_of_lt (nltle (A5).lt (Nat.le_of_eq g12.symm))))) (Or.inl (Nat.ne_of_lt (nltle (A5).lt (Nat.le_of_eq g12.symm))))) (Or.inl (Nat.ne_of_lt (nltle (A5).lt (Nat.le_of_eq g12.symm))))) (Or.inl (Nat.ne_of_lt (nltle (A5).lt (Nat.le_of_eq g12.symm))))) (Or.inl (Nat.ne_of_lt (nltle (A5).lt (Nat.le_of_eq g12.symm))))) (Or.inl (Nat.ne_of_lt (nltle (A5).lt (Nat.le_of_eq g12.symm))))) (Or.inl (Nat.ne_of_lt (nltle (A5).lt (Nat.le_of_eq g12.symm)))))
  refine oq1' C (a := b1) (argsL := [(.ref b9)]) (W := 1) d8_94 rfl (hq hw 8 rfl) (hq hw 9 rfl) (hq hw 10 rfl) (by decide) pd___C_V (ct_str7 l Z a0 hw am (a := b1) (b := b9) (kC := k11) (c0 := (115 : Int32)) (c1 := (116 : Int32)) (c2 := (111 : Int32)) (c3 := (99 : Int32)) (c4 := (107 : Int32)) (c5 := (47 : Int32)) (c6 := c0) fx44 fx45 fx46 fx43 (by decide) (by decide) (by decide) (by decide) (by decide) (by decide) l0) rfl (Nat.le_of_eq rfl) rfl (by decide) (memsS (mi 1 rfl) mems0) ?_
  intro fv47 ph48 K49 fq50
  obtain ⟨t51, kB52, rfl, fx53, fx54, fx55, fx56, fx57⟩ := fq50
  refine ⟨[t51], (freshS ⟨fx57, (fx56).lt⟩ fresh0), ?_⟩
  show Go l _ Z _ _ _ κ [t51, b9, b1] _ 97 _ [(.ref b1)] 3 18
  refine ov' C (v := (.ref b1)) d8_97 rfl rfl rfl (by decide) (by decide) ?_
  exact ⟨b1, t51, kB52, rfl, fx53, fx54, fx55, fx56⟩
theorem ct_s2 (l : Launch) (Z : State) (a0 : Array Value) (hw : HW a0 Z) {cS : Int32} {fm : Value} (am : Amb Z a0 cS fm) {c0 c1 c2 : Int32} {h0 : Heap} (r0 : Chr c0) (r1 : Chr c1) (r2 : Chr c2) (l0 : ¬ (255 : Int32) < c0) (l1 : ¬ (255 : Int32) < c1) (l2 : ¬ (255 : Int32) < c2) :
    Py l Z (⟨"com/example/evenlot/evenlot/SourceStockPinLaw", "str", "(ICCC)Ljava/lang/String;"⟩ : MethodName) 5 81 3 8 #[.int 2, .int c0, .int c1, .int c2] h0 [] (fun rv h' => ∃ (a : Addr) (t : Addr) (kt : ClassId), rv = some (.ref a) ∧ Exa Z h' a "java/lang/String" ∧ Fld Z h' a "java/lang/String" "coder" "B" (.int 0) ∧ Fld Z h' a "java/lang/String" "value" "[B" (.ref t) ∧ Arv Z h' t kt .byte (2 : Int32) [.int (lo8 c0), .int (lo8 c1)] (.int 0)) := by
  refine Ct.py (by0 := zc39) (ml := 4) (rt := (some (.object "java/lang/String"))) (rm := ({ frames := 4, cells := 3, slots := 8, locals := 66 } : Room)) ?_ (hq hw 3 rfl) (hq hw 2 rfl)
  refine Ct.mk (a0 := a0) (Ls := #[.val (.int 2), .val (.int c0), .val (.int c1), .val (.int c2)]) (plainFor_of_name pn_com_example_evenlot_evenlot_SourceStockPinLaw) (fun m => by simp [entryFrame, mkF, argsToLocals, Value.category]) ?_
  intro κ C
  show Go l _ Z _ _ _ κ [] h0 0 #[.val (.int 2), .val (.int c0), .val (.int c1), .val (.int c2)] [] 0 0
  refine od' C 1 d1_0 rfl rfl (om1' C (pc' := 15) d1_1 (by decide) (by decide) (by decide) ?_)
  refine od' C 16 d1_15 rfl rfl (of' C 17 (1 : Int32) d1_16 rfl (by decide) ?_)
  refine oh' C (pc' := 35) d1_17 (by decide) (by decide) (by decide) (od' C 36 d1_35 rfl rfl ?_)
  refine of' C 37 (2 : Int32) d1_36 rfl (by decide) (oi' C 40 d1_37 rfl (by decide) ?_)
  refine oc1' C 43 1 4 d1_40 rfl rfl rfl (hq hw 4 rfl) (hq hw 5 rfl) (hq hw 6 rfl) (by decide) (by decide) ?_
  intro b1 ph2 g3 E4 A5 D6
  have fx7 : Fld Z ph2 b1 "java/lang/String" "coder" "B" (.int 0) := D6 (Or.inr (hq hw 31 rfl)) (ty := .byte) (by decide)
  have fx8 : Fld Z ph2 b1 "java/lang/String" "value" "[B" .null := D6 (Or.inr (hq hw 33 rfl)) (ty := (.array .byte)) (by decide)
  refine ou' C 44 d1_43 rfl rfl (of' C 45 (2 : Int32) d1_44 rfl (by decide) ?_)
  refine ow1' C 47 2 6 (ty := .char) (cap := 2) d1_45 rfl rfl rfl rfl (hq hw 7 rfl) (by decide) (by decide) (by decide) (by decide) (by decide) ?_
  intro b9 ph10 k11 g12 E13 V14
  have fx15 : Arv Z ph10 b9 k11 .char (2 : Int32) [.int 0, .int 0] (.int 0) := V14
  refine ou' C 48 d1_47 rfl rfl (of' C 49 (0 : Int32) d1_48 rfl (by decide) ?_)
  refine od' C 50 d1_49 rfl rfl (od1' C 51 0 (v := c0) (r0.nar) d1_50 rfl fx15 (by decide) rfl (nble rfl) (mi 0 rfl) ?_)
  intro ph16 W17 fx18
  have fx19 : Arv Z ph16 b9 k11 .char (2 : Int32) [.int c0, .int 0] (.int 0) := fx18
  refine ou' C 52 d1_51 rfl rfl (of' C 53 (1 : Int32) d1_52 rfl (by decide) ?_)
  refine od' C 54 d1_53 rfl rfl (od1' C 55 1 (v := c1) (r1.nar) d1_54 rfl fx19 (by decide) rfl (nble rfl) (mi 0 rfl) ?_)
  intro ph20 W21 fx22
  have fx23 : Arv Z ph20 b9 k11 .char (2 : Int32) [.int c0, .int c1] (.int 0) := fx22
  have fx24 := (Exa.wr W21 (Exa.wr W17 (Exa.ext E13 A5)))
  have fx25 := (Fld.other W21 (Fld.other W17 (Fld.ext E13 fx8) (Or.inl (Nat.ne_of_lt (nltle (A5).lt (Nat.le_of_eq g12.symm))))) (Or.inl (Nat.ne_of_lt (nltle (A5).lt (Nat.le_of_eq g12.symm)))))
  have fx26 := (Fld.other W21 (Fld.other W17 (Fld.ext E13 fx7) (Or.inl (Nat.ne_of_lt (nltle (A5).lt (Nat.le_of_eq g12.symm))))) (Or.inl (Nat.ne_of_lt (nltle (A5).lt (Nat.le_of_eq g12.symm)))))
  refine oq1' C (a := b1) (argsL := [(.ref b9)]) (W := 1) d1_55 rfl (hq hw 8 rfl) (hq hw 9 rfl) (hq hw 10 rfl) (by decide) pd___C_V (ct_str2 l Z a0 hw am (a := b1) (b := b9) (kC := k11) (c0 := c0) (c1 := c1) fx24 fx25 fx26 fx23 l0 l1) rfl (Nat.le_of_eq rfl) rfl (by decide) (memsS (mi 1 rfl) mems0) ?_
  intro fv27 ph28 K29 fq30
  obtain ⟨t31, kB32, rfl, fx33, fx34, fx35, fx36, fx37⟩ := fq30
  refine ⟨[t31], (freshS ⟨fx37, (fx36).lt⟩ fresh0), ?_⟩
  show Go l _ Z _ _ _ κ [t31, b9, b1] _ 58 _ [(.ref b1)] 3 8
  refine ov' C (v := (.ref b1)) d1_58 rfl rfl rfl (by decide) (by decide) ?_
  exact ⟨b1, t31, kB32, rfl, fx33, fx34, fx35, fx36⟩
theorem ct_sn2 (l : Launch) (Z : State) (a0 : Array Value) (hw : HW a0 Z) {cS : Int32} {fm : Value} (am : Amb Z a0 cS fm) {c0 c1 c2 : Int32} {h0 : Heap} (r0 : Chr c0) (r1 : Chr c1) (r2 : Chr c2) (l0 : ¬ (255 : Int32) < c0) (l1 : ¬ (255 : Int32) < c1) (l2 : ¬ (255 : Int32) < c2) :
    Py l Z (⟨"com/example/evenlot/evenlot/SourceStockPinLaw", "stockName", "(ICCC)Ljava/lang/String;"⟩ : MethodName) 5 81 3 20 #[.int 2, .int c0, .int c1, .int c2] h0 [] (fun rv h' => ∃ (a : Addr) (t : Addr) (kt : ClassId), rv = some (.ref a) ∧ Exa Z h' a "java/lang/String" ∧ Fld Z h' a "java/lang/String" "coder" "B" (.int 0) ∧ Fld Z h' a "java/lang/String" "value" "[B" (.ref t) ∧ Arv Z h' t kt .byte (8 : Int32) [.int (lo8 115), .int (lo8 116), .int (lo8 111), .int (lo8 99), .int (lo8 107), .int (lo8 47), .int (lo8 c0), .int (lo8 c1)] (.int 0)) := by
  refine Ct.py (by0 := zc40) (ml := 4) (rt := (some (.object "java/lang/String"))) (rm := ({ frames := 4, cells := 3, slots := 20, locals := 66 } : Room)) ?_ (hq hw 39 rfl) (hq hw 2 rfl)
  refine Ct.mk (a0 := a0) (Ls := #[.val (.int 2), .val (.int c0), .val (.int c1), .val (.int c2)]) (plainFor_of_name pn_com_example_evenlot_evenlot_SourceStockPinLaw) (fun m => by simp [entryFrame, mkF, argsToLocals, Value.category]) ?_
  intro κ C
  show Go l _ Z _ _ _ κ [] h0 0 #[.val (.int 2), .val (.int c0), .val (.int c1), .val (.int c2)] [] 0 0
  refine od' C 1 d8_0 rfl rfl (om1' C (pc' := 46) d8_1 (by decide) (by decide) (by decide) ?_)
  refine od' C 47 d8_46 rfl rfl (of' C 48 (1 : Int32) d8_47 rfl (by decide) ?_)
  refine oh' C (pc' := 98) d8_48 (by decide) (by decide) (by decide) (od' C 99 d8_98 rfl rfl ?_)
  refine of' C 100 (2 : Int32) d8_99 rfl (by decide) (oi' C 103 d8_100 rfl (by decide) ?_)
  refine oc1' C 106 1 4 d8_103 rfl rfl rfl (hq hw 4 rfl) (hq hw 5 rfl) (hq hw 6 rfl) (by decide) (by decide) ?_
  intro b1 ph2 g3 E4 A5 D6
  have fx7 : Fld Z ph2 b1 "java/lang/String" "coder" "B" (.int 0) := D6 (Or.inr (hq hw 31 rfl)) (ty := .byte) (by decide)
  have fx8 : Fld Z ph2 b1 "java/lang/String" "value" "[B" .null := D6 (Or.inr (hq hw 33 rfl)) (ty := (.array .byte)) (by decide)
  refine ou' C 107 d8_106 rfl rfl (ox' C 109 (8 : Int32) d8_107 rfl (by decide) ?_)
  refine ow1' C 111 2 12 (ty := .char) (cap := 8) d8_109 rfl rfl rfl rfl (hq hw 7 rfl) (by decide) (by decide) (by decide) (by decide) (by decide) ?_
  intro b9 ph10 k11 g12 E13 V14
  have fx15 : Arv Z ph10 b9 k11 .char (8 : Int32) [.int 0, .int 0, .int 0, .int 0, .int 0, .int 0, .int 0, .int 0] (.int 0) := V14
  refine ou' C 112 d8_111 rfl rfl (of' C 113 (0 : Int32) d8_112 rfl (by decide) ?_)
  refine ox' C 115 (115 : Int32) d8_113 rfl (by decide) (od1' C 116 0 (v := (115 : Int32)) (by decide) d8_115 rfl fx15 (by decide) rfl (nble rfl) (mi 0 rfl) ?_)
  intro ph16 W17 fx18
  have fx19 : Arv Z ph16 b9 k11 .char (8 : Int32) [.int 115, .int 0, .int 0, .int 0, .int 0, .int 0, .int 0, .int 0] (.int 0) := fx18
  refine ou' C 117 d8_116 rfl rfl (of' C 118 (1 : Int32) d8_117 rfl (by decide) ?_)
  refine ox' C 120 (116 : Int32) d8_118 rfl (by decide) (od1' C 121 1 (v := (116 : Int32)) (by decide) d8_120 rfl fx19 (by decide) rfl (nble rfl) (mi 0 rfl) ?_)
  intro ph20 W21 fx22
  have fx23 : Arv Z ph20 b9 k11 .char (8 : Int32) [.int 115, .int 116, .int 0, .int 0, .int 0, .int 0, .int 0, .int 0] (.int 0) := fx22
  refine ou' C 122 d8_121 rfl rfl (of' C 123 (2 : Int32) d8_122 rfl (by decide) ?_)
  refine ox' C 125 (111 : Int32) d8_123 rfl (by decide) (od1' C 126 2 (v := (111 : Int32)) (by decide) d8_125 rfl fx23 (by decide) rfl (nble rfl) (mi 0 rfl) ?_)
  intro ph24 W25 fx26
  have fx27 : Arv Z ph24 b9 k11 .char (8 : Int32) [.int 115, .int 116, .int 111, .int 0, .int 0, .int 0, .int 0, .int 0] (.int 0) := fx26
  refine ou' C 127 d8_126 rfl rfl (of' C 128 (3 : Int32) d8_127 rfl (by decide) ?_)
  refine ox' C 130 (99 : Int32) d8_128 rfl (by decide) (od1' C 131 3 (v := (99 : Int32)) (by decide) d8_130 rfl fx27 (by decide) rfl (nble rfl) (mi 0 rfl) ?_)
  intro ph28 W29 fx30
  have fx31 : Arv Z ph28 b9 k11 .char (8 : Int32) [.int 115, .int 116, .int 111, .int 99, .int 0, .int 0, .int 0, .int 0] (.int 0) := fx30
  refine ou' C 132 d8_131 rfl rfl (of' C 133 (4 : Int32) d8_132 rfl (by decide) ?_)
  refine ox' C 135 (107 : Int32) d8_133 rfl (by decide) (od1' C 136 4 (v := (107 : Int32)) (by decide) d8_135 rfl fx31 (by decide) rfl (nble rfl) (mi 0 rfl) ?_)
  intro ph32 W33 fx34
  have fx35 : Arv Z ph32 b9 k11 .char (8 : Int32) [.int 115, .int 116, .int 111, .int 99, .int 107, .int 0, .int 0, .int 0] (.int 0) := fx34
  refine ou' C 137 d8_136 rfl rfl (of' C 138 (5 : Int32) d8_137 rfl (by decide) ?_)
  refine ox' C 140 (47 : Int32) d8_138 rfl (by decide) (od1' C 141 5 (v := (47 : Int32)) (by decide) d8_140 rfl fx35 (by decide) rfl (nble rfl) (mi 0 rfl) ?_)
  intro ph36 W37 fx38
  have fx39 : Arv Z ph36 b9 k11 .char (8 : Int32) [.int 115, .int 116, .int 111, .int 99, .int 107, .int 47, .int 0, .int 0] (.int 0) := fx38
  refine ou' C 142 d8_141 rfl rfl (ox' C 144 (6 : Int32) d8_142 rfl (by decide) ?_)
  refine od' C 145 d8_144 rfl rfl (od1' C 146 6 (v := c0) (r0.nar) d8_145 rfl fx39 (by decide) rfl (nble rfl) (mi 0 rfl) ?_)
  intro ph40 W41 fx42
  have fx43 : Arv Z ph40 b9 k11 .char (8 : Int32) [.int 115, .int 116, .int 111, .int 99, .int 107, .int 47, .int c0, .int 0] (.int 0) := fx42
  refine ou' C 147 d8_146 rfl rfl (ox' C 149 (7 : Int32) d8_147 rfl (by decide) ?_)
  refine od' C 150 d8_149 rfl rfl (od1' C 151 7 (v := c1) (r1.nar) d8_150 rfl fx43 (by decide) rfl (nble rfl) (mi 0 rfl) ?_)
  intro ph44 W45 fx46
  have fx47 : Arv Z ph44 b9 k11 .char (8 : Int32) [.int 115, .int 116, .int 111, .int 99, .int 107, .int 47, .int c0, .int c1] (.int 0) := fx46
  have fx48 := (Exa.wr W45 (Exa.wr W41 (Exa.wr W37 (Exa.wr W33 (Exa.wr W29 (Exa.wr W25 (Exa.wr W21 (Exa.wr W17 (Exa.ext E13 A5)))))))))
  have fx49 := (Fld.other W45 (Fld.other W41 (Fld.other W37 (Fld.other W33 (Fld.other W29 (Fld.other W25 (Fld.other W21 (Fld.other W17 (Fld.ext E13 fx8) (Or.inl (Nat.ne_of_lt (nltle (A5).lt (Nat.le_of_eq g12.symm))))) (Or.inl (Nat.ne_of_lt (nltle (A5).lt (Nat.le_of_eq g12.symm))))) (Or.inl (Nat.ne_of_lt (nltle (A5).lt (Nat.le_of_eq g12.symm))))) (Or.inl (Nat.ne_of_lt (nltle (A5).lt (Nat.le_of_eq g12.symm))))) (Or.inl (Nat.ne_of_lt (nltle (A5).lt (Nat.le_of_eq g12.symm))))) (Or.inl (Nat.ne_of_lt (nltle (A5).lt (Nat.le_of_eq g12.symm))))) (Or.inl (Nat.ne_of_lt (nltle (A5).lt (Nat.le_of_eq g12.symm))))) (Or.inl (Nat.ne_of_lt (nltle (A5).lt (Nat.le_of_eq g12.symm)))))
  have fx50 := (Fld.other W45 (Fld.other W41 (Fld.other W37 (Fld.other W33 (Fld.other W29 (Fld.other W25 (Fld.other W21 (Fld.other W17 (Fld.ext E13 fx7) (Or.inl (Nat.ne_of_lt (nltle (A5).lt (Nat.le_of_eq g12.symm))))) (Or.inl (Nat.ne_of_lt (nltle (A5).lt (Nat.le_of_eq g12.symm))))) (Or.inl (Nat.ne_of_lt (nltle (A5).lt (Nat.le_of_eq g12.symm))))) (Or.inl (Nat.ne_of_lt (nltle (A5).lt (Nat.le_of_eq g12.symm))))) (Or.inl (Nat.ne_of_lt (nltle (A5).lt (Nat.le_of_eq g12.symm))))) (Or.inl (Nat.ne_of_lt (nltle (A5).lt (Nat.le_of_eq g12.symm))))) (Or.inl (Nat.ne_of_lt (nltle (A5).lt (Nat.le_of_eq g12.symm))))) (Or.inl (Nat.ne_of_lt (nltle (A5).lt (Nat.le_of_eq g12.symm)))))
  refine oq1' C (a := b1) (argsL := [(.ref b9)]) (W := 1) d8_151 rfl (hq hw 8 rfl) (hq hw 9 rfl) (hq hw 10 rfl) (by decide) pd___C_V (ct_str8 l Z a0 hw am (a := b1) (b := b9) (kC := k11) (c0 := (115 : Int32)) (c1 := (116 : Int32)) (c2 := (111 : Int32)) (c3 := (99 : Int32)) (c4 := (107 : Int32)) (c5 := (47 : Int32)) (c6 := c0) (c7 := c1) fx48 fx49 fx50 fx47 (by decide) (by decide) (by decide) (by decide) (by decide) (by decide) l0 l1) rfl (Nat.le_of_eq rfl) rfl (by decide) (memsS (mi 1 rfl) mems0) ?_
  intro fv51 ph52 K53 fq54
  obtain ⟨t55, kB56, rfl, fx57, fx58, fx59, fx60, fx61⟩ := fq54
  refine ⟨[t55], (freshS ⟨fx61, (fx60).lt⟩ fresh0), ?_⟩
  show Go l _ Z _ _ _ κ [t55, b9, b1] _ 154 _ [(.ref b1)] 3 20
  refine ov' C (v := (.ref b1)) d8_154 rfl rfl rfl (by decide) (by decide) ?_
  exact ⟨b1, t55, kB56, rfl, fx57, fx58, fx59, fx60⟩
theorem ct_s3 (l : Launch) (Z : State) (a0 : Array Value) (hw : HW a0 Z) {cS : Int32} {fm : Value} (am : Amb Z a0 cS fm) {c0 c1 c2 : Int32} {h0 : Heap} (r0 : Chr c0) (r1 : Chr c1) (r2 : Chr c2) (l0 : ¬ (255 : Int32) < c0) (l1 : ¬ (255 : Int32) < c1) (l2 : ¬ (255 : Int32) < c2) :
    Py l Z (⟨"com/example/evenlot/evenlot/SourceStockPinLaw", "str", "(ICCC)Ljava/lang/String;"⟩ : MethodName) 5 81 3 10 #[.int 3, .int c0, .int c1, .int c2] h0 [] (fun rv h' => ∃ (a : Addr) (t : Addr) (kt : ClassId), rv = some (.ref a) ∧ Exa Z h' a "java/lang/String" ∧ Fld Z h' a "java/lang/String" "coder" "B" (.int 0) ∧ Fld Z h' a "java/lang/String" "value" "[B" (.ref t) ∧ Arv Z h' t kt .byte (3 : Int32) [.int (lo8 c0), .int (lo8 c1), .int (lo8 c2)] (.int 0)) := by
  refine Ct.py (by0 := zc39) (ml := 4) (rt := (some (.object "java/lang/String"))) (rm := ({ frames := 4, cells := 3, slots := 10, locals := 66 } : Room)) ?_ (hq hw 3 rfl) (hq hw 2 rfl)
  refine Ct.mk (a0 := a0) (Ls := #[.val (.int 3), .val (.int c0), .val (.int c1), .val (.int c2)]) (plainFor_of_name pn_com_example_evenlot_evenlot_SourceStockPinLaw) (fun m => by simp [entryFrame, mkF, argsToLocals, Value.category]) ?_
  intro κ C
  show Go l _ Z _ _ _ κ [] h0 0 #[.val (.int 3), .val (.int c0), .val (.int c1), .val (.int c2)] [] 0 0
  refine od' C 1 d1_0 rfl rfl (om1' C (pc' := 15) d1_1 (by decide) (by decide) (by decide) ?_)
  refine od' C 16 d1_15 rfl rfl (of' C 17 (1 : Int32) d1_16 rfl (by decide) ?_)
  refine oh' C (pc' := 35) d1_17 (by decide) (by decide) (by decide) (od' C 36 d1_35 rfl rfl ?_)
  refine of' C 37 (2 : Int32) d1_36 rfl (by decide) (oh' C (pc' := 59) d1_37 (by decide) (by decide) (by decide) ?_)
  refine oc1' C 62 1 4 d1_59 rfl rfl rfl (hq hw 4 rfl) (hq hw 5 rfl) (hq hw 6 rfl) (by decide) (by decide) ?_
  intro b1 ph2 g3 E4 A5 D6
  have fx7 : Fld Z ph2 b1 "java/lang/String" "coder" "B" (.int 0) := D6 (Or.inr (hq hw 31 rfl)) (ty := .byte) (by decide)
  have fx8 : Fld Z ph2 b1 "java/lang/String" "value" "[B" .null := D6 (Or.inr (hq hw 33 rfl)) (ty := (.array .byte)) (by decide)
  refine ou' C 63 d1_62 rfl rfl (of' C 64 (3 : Int32) d1_63 rfl (by decide) ?_)
  refine ow1' C 66 2 7 (ty := .char) (cap := 3) d1_64 rfl rfl rfl rfl (hq hw 7 rfl) (by decide) (by decide) (by decide) (by decide) (by decide) ?_
  intro b9 ph10 k11 g12 E13 V14
  have fx15 : Arv Z ph10 b9 k11 .char (3 : Int32) [.int 0, .int 0, .int 0] (.int 0) := V14
  refine ou' C 67 d1_66 rfl rfl (of' C 68 (0 : Int32) d1_67 rfl (by decide) ?_)
  refine od' C 69 d1_68 rfl rfl (od1' C 70 0 (v := c0) (r0.nar) d1_69 rfl fx15 (by decide) rfl (nble rfl) (mi 0 rfl) ?_)
  intro ph16 W17 fx18
  have fx19 : Arv Z ph16 b9 k11 .char (3 : Int32) [.int c0, .int 0, .int 0] (.int 0) := fx18
  refine ou' C 71 d1_70 rfl rfl (of' C 72 (1 : Int32) d1_71 rfl (by decide) ?_)
  refine od' C 73 d1_72 rfl rfl (od1' C 74 1 (v := c1) (r1.nar) d1_73 rfl fx19 (by decide) rfl (nble rfl) (mi 0 rfl) ?_)
  intro ph20 W21 fx22
  have fx23 : Arv Z ph20 b9 k11 .char (3 : Int32) [.int c0, .int c1, .int 0] (.int 0) := fx22
  refine ou' C 75 d1_74 rfl rfl (of' C 76 (2 : Int32) d1_75 rfl (by decide) ?_)
  refine od' C 77 d1_76 rfl rfl (od1' C 78 2 (v := c2) (r2.nar) d1_77 rfl fx23 (by decide) rfl (nble rfl) (mi 0 rfl) ?_)
  intro ph24 W25 fx26
  have fx27 : Arv Z ph24 b9 k11 .char (3 : Int32) [.int c0, .int c1, .int c2] (.int 0) := fx26
  have fx28 := (Exa.wr W25 (Exa.wr W21 (Exa.wr W17 (Exa.ext E13 A5))))
  have fx29 := (Fld.other W25 (Fld.other W21 (Fld.other W17 (Fld.ext E13 fx8) (Or.inl (Nat.ne_of_lt (nltle (A5).lt (Nat.le_of_eq g12.symm))))) (Or.inl (Nat.ne_of_lt (nltle (A5).lt (Nat.le_of_eq g12.symm))))) (Or.inl (Nat.ne_of_lt (nltle (A5).lt (Nat.le_of_eq g12.symm)))))
  have fx30 := (Fld.other W25 (Fld.other W21 (Fld.other W17 (Fld.ext E13 fx7) (Or.inl (Nat.ne_of_lt (nltle (A5).lt (Nat.le_of_eq g12.symm))))) (Or.inl (Nat.ne_of_lt (nltle (A5).lt (Nat.le_of_eq g12.symm))))) (Or.inl (Nat.ne_of_lt (nltle (A5).lt (Nat.le_of_eq g12.symm)))))
  refine oq1' C (a := b1) (argsL := [(.ref b9)]) (W := 1) d1_78 rfl (hq hw 8 rfl) (hq hw 9 rfl) (hq hw 10 rfl) (by decide) pd___C_V (ct_str3 l Z a0 hw am (a := b1) (b := b9) (kC := k11) (c0 := c0) (c1 := c1) (c2 := c2) fx28 fx29 fx30 fx27 l0 l1 l2) rfl (Nat.le_of_eq rfl) rfl (by decide) (memsS (mi 1 rfl) mems0) ?_
  intro fv31 ph32 K33 fq34
  obtain ⟨t35, kB36, rfl, fx37, fx38, fx39, fx40, fx41⟩ := fq34
  refine ⟨[t35], (freshS ⟨fx41, (fx40).lt⟩ fresh0), ?_⟩
  show Go l _ Z _ _ _ κ [t35, b9, b1] _ 81 _ [(.ref b1)] 3 10
  refine ov' C (v := (.ref b1)) d1_81 rfl rfl rfl (by decide) (by decide) ?_
  exact ⟨b1, t35, kB36, rfl, fx37, fx38, fx39, fx40⟩
theorem ct_sn3 (l : Launch) (Z : State) (a0 : Array Value) (hw : HW a0 Z) {cS : Int32} {fm : Value} (am : Amb Z a0 cS fm) {c0 c1 c2 : Int32} {h0 : Heap} (r0 : Chr c0) (r1 : Chr c1) (r2 : Chr c2) (l0 : ¬ (255 : Int32) < c0) (l1 : ¬ (255 : Int32) < c1) (l2 : ¬ (255 : Int32) < c2) :
    Py l Z (⟨"com/example/evenlot/evenlot/SourceStockPinLaw", "stockName", "(ICCC)Ljava/lang/String;"⟩ : MethodName) 5 81 3 22 #[.int 3, .int c0, .int c1, .int c2] h0 [] (fun rv h' => ∃ (a : Addr) (t : Addr) (kt : ClassId), rv = some (.ref a) ∧ Exa Z h' a "java/lang/String" ∧ Fld Z h' a "java/lang/String" "coder" "B" (.int 0) ∧ Fld Z h' a "java/lang/String" "value" "[B" (.ref t) ∧ Arv Z h' t kt .byte (9 : Int32) [.int (lo8 115), .int (lo8 116), .int (lo8 111), .int (lo8 99), .int (lo8 107), .int (lo8 47), .int (lo8 c0), .int (lo8 c1), .int (lo8 c2)] (.int 0)) := by
  refine Ct.py (by0 := zc40) (ml := 4) (rt := (some (.object "java/lang/String"))) (rm := ({ frames := 4, cells := 3, slots := 22, locals := 66 } : Room)) ?_ (hq hw 39 rfl) (hq hw 2 rfl)
  refine Ct.mk (a0 := a0) (Ls := #[.val (.int 3), .val (.int c0), .val (.int c1), .val (.int c2)]) (plainFor_of_name pn_com_example_evenlot_evenlot_SourceStockPinLaw) (fun m => by simp [entryFrame, mkF, argsToLocals, Value.category]) ?_
  intro κ C
  show Go l _ Z _ _ _ κ [] h0 0 #[.val (.int 3), .val (.int c0), .val (.int c1), .val (.int c2)] [] 0 0
  refine od' C 1 d8_0 rfl rfl (om1' C (pc' := 46) d8_1 (by decide) (by decide) (by decide) ?_)
  refine od' C 47 d8_46 rfl rfl (of' C 48 (1 : Int32) d8_47 rfl (by decide) ?_)
  refine oh' C (pc' := 98) d8_48 (by decide) (by decide) (by decide) (od' C 99 d8_98 rfl rfl ?_)
  refine of' C 100 (2 : Int32) d8_99 rfl (by decide) (oh' C (pc' := 155) d8_100 (by decide) (by decide) (by decide) ?_)
  refine oc1' C 158 1 4 d8_155 rfl rfl rfl (hq hw 4 rfl) (hq hw 5 rfl) (hq hw 6 rfl) (by decide) (by decide) ?_
  intro b1 ph2 g3 E4 A5 D6
  have fx7 : Fld Z ph2 b1 "java/lang/String" "coder" "B" (.int 0) := D6 (Or.inr (hq hw 31 rfl)) (ty := .byte) (by decide)
  have fx8 : Fld Z ph2 b1 "java/lang/String" "value" "[B" .null := D6 (Or.inr (hq hw 33 rfl)) (ty := (.array .byte)) (by decide)
  refine ou' C 159 d8_158 rfl rfl (ox' C 161 (9 : Int32) d8_159 rfl (by decide) ?_)
  refine ow1' C 163 2 13 (ty := .char) (cap := 9) d8_161 rfl rfl rfl rfl (hq hw 7 rfl) (by decide) (by decide) (by decide) (by decide) (by decide) ?_
  intro b9 ph10 k11 g12 E13 V14
  have fx15 : Arv Z ph10 b9 k11 .char (9 : Int32) [.int 0, .int 0, .int 0, .int 0, .int 0, .int 0, .int 0, .int 0, .int 0] (.int 0) := V14
  refine ou' C 164 d8_163 rfl rfl (of' C 165 (0 : Int32) d8_164 rfl (by decide) ?_)
  refine ox' C 167 (115 : Int32) d8_165 rfl (by decide) (od1' C 168 0 (v := (115 : Int32)) (by decide) d8_167 rfl fx15 (by decide) rfl (nble rfl) (mi 0 rfl) ?_)
  intro ph16 W17 fx18
  have fx19 : Arv Z ph16 b9 k11 .char (9 : Int32) [.int 115, .int 0, .int 0, .int 0, .int 0, .int 0, .int 0, .int 0, .int 0] (.int 0) := fx18
  refine ou' C 169 d8_168 rfl rfl (of' C 170 (1 : Int32) d8_169 rfl (by decide) ?_)
  refine ox' C 172 (116 : Int32) d8_170 rfl (by decide) (od1' C 173 1 (v := (116 : Int32)) (by decide) d8_172 rfl fx19 (by decide) rfl (nble rfl) (mi 0 rfl) ?_)
  intro ph20 W21 fx22
  have fx23 : Arv Z ph20 b9 k11 .char (9 : Int32) [.int 115, .int 116, .int 0, .int 0, .int 0, .int 0, .int 0, .int 0, .int 0] (.int 0) := fx22
  refine ou' C 174 d8_173 rfl rfl (of' C 175 (2 : Int32) d8_174 rfl (by decide) ?_)
  refine ox' C 177 (111 : Int32) d8_175 rfl (by decide) (od1' C 178 2 (v := (111 : Int32)) (by decide) d8_177 rfl fx23 (by decide) rfl (nble rfl) (mi 0 rfl) ?_)
  intro ph24 W25 fx26
  have fx27 : Arv Z ph24 b9 k11 .char (9 : Int32) [.int 115, .int 116, .int 111, .int 0, .int 0, .int 0, .int 0, .int 0, .int 0] (.int 0) := fx26
  refine ou' C 179 d8_178 rfl rfl (of' C 180 (3 : Int32) d8_179 rfl (by decide) ?_)
  refine ox' C 182 (99 : Int32) d8_180 rfl (by decide) (od1' C 183 3 (v := (99 : Int32)) (by decide) d8_182 rfl fx27 (by decide) rfl (nble rfl) (mi 0 rfl) ?_)
  intro ph28 W29 fx30
  have fx31 : Arv Z ph28 b9 k11 .char (9 : Int32) [.int 115, .int 116, .int 111, .int 99, .int 0, .int 0, .int 0, .int 0, .int 0] (.int 0) := fx30
  refine ou' C 184 d8_183 rfl rfl (of' C 185 (4 : Int32) d8_184 rfl (by decide) ?_)
  refine ox' C 187 (107 : Int32) d8_185 rfl (by decide) (od1' C 188 4 (v := (107 : Int32)) (by decide) d8_187 rfl fx31 (by decide) rfl (nble rfl) (mi 0 rfl) ?_)
  intro ph32 W33 fx34
  have fx35 : Arv Z ph32 b9 k11 .char (9 : Int32) [.int 115, .int 116, .int 111, .int 99, .int 107, .int 0, .int 0, .int 0, .int 0] (.int 0) := fx34
  refine ou' C 189 d8_188 rfl rfl (of' C 190 (5 : Int32) d8_189 rfl (by decide) ?_)
  refine ox' C 192 (47 : Int32) d8_190 rfl (by decide) (od1' C 193 5 (v := (47 : Int32)) (by decide) d8_192 rfl fx35 (by decide) rfl (nble rfl) (mi 0 rfl) ?_)
  intro ph36 W37 fx38
  have fx39 : Arv Z ph36 b9 k11 .char (9 : Int32) [.int 115, .int 116, .int 111, .int 99, .int 107, .int 47, .int 0, .int 0, .int 0] (.int 0) := fx38
  refine ou' C 194 d8_193 rfl rfl (ox' C 196 (6 : Int32) d8_194 rfl (by decide) ?_)
  refine od' C 197 d8_196 rfl rfl (od1' C 198 6 (v := c0) (r0.nar) d8_197 rfl fx39 (by decide) rfl (nble rfl) (mi 0 rfl) ?_)
  intro ph40 W41 fx42
  have fx43 : Arv Z ph40 b9 k11 .char (9 : Int32) [.int 115, .int 116, .int 111, .int 99, .int 107, .int 47, .int c0, .int 0, .int 0] (.int 0) := fx42
  refine ou' C 199 d8_198 rfl rfl (ox' C 201 (7 : Int32) d8_199 rfl (by decide) ?_)
  refine od' C 202 d8_201 rfl rfl (od1' C 203 7 (v := c1) (r1.nar) d8_202 rfl fx43 (by decide) rfl (nble rfl) (mi 0 rfl) ?_)
  intro ph44 W45 fx46
  have fx47 : Arv Z ph44 b9 k11 .char (9 : Int32) [.int 115, .int 116, .int 111, .int 99, .int 107, .int 47, .int c0, .int c1, .int 0] (.int 0) := fx46
  refine ou' C 204 d8_203 rfl rfl (ox' C 206 (8 : Int32) d8_204 rfl (by decide) ?_)
  refine od' C 207 d8_206 rfl rfl (od1' C 208 8 (v := c2) (r2.nar) d8_207 rfl fx47 (by decide) rfl (nble rfl) (mi 0 rfl) ?_)
  intro ph48 W49 fx50
  have fx51 : Arv Z ph48 b9 k11 .char (9 : Int32) [.int 115, .int 116, .int 111, .int 99, .int 107, .int 47, .int c0, .int c1, .int c2] (.int 0) := fx50
  have fx52 := (Exa.wr W49 (Exa.wr W45 (Exa.wr W41 (Exa.wr W37 (Exa.wr W33 (Exa.wr W29 (Exa.wr W25 (Exa.wr W21 (Exa.wr W17 (Exa.ext E13 A5))))))))))
  have fx53 := (Fld.other W49 (Fld.other W45 (Fld.other W41 (Fld.other W37 (Fld.other W33 (Fld.other W29 (Fld.other W25 (Fld.other W21 (Fld.other W17 (Fld.ext E13 fx8) (Or.inl (Nat.ne_of_lt (nltle (A5).lt (Nat.le_of_eq g12.symm))))) (Or.inl (Nat.ne_of_lt (nltle (A5).lt (Nat.le_of_eq g12.symm))))) (Or.inl (Nat.ne_of_lt (nltle (A5).lt (Nat.le_of_eq g12.symm))))) (Or.inl (Nat.ne_of_lt (nltle (A5).lt (Nat.le_of_eq g12.symm))))) (Or.inl (Nat.ne_of_lt (nltle (A5).lt (Nat.le_of_eq g12.symm))))) (Or.inl (Nat.ne_of_lt (nltle (A5).lt (Nat.le_of_eq g12.symm))))) (Or.inl (Nat.ne_of_lt (nltle (A5).lt (Nat.le_of_eq g12.symm))))) (Or.inl (Nat.ne_of_lt (nltle (A5).lt (Nat.le_of_eq g12.symm))))) (Or.inl (Nat.ne_of_lt (nltle (A5).lt (Nat.le_of_eq g12.symm)))))
  have fx54 := (Fld.other W49 (Fld.other W45 (Fld.other W41 (Fld.other W37 (Fld.other W33 (Fld.other W29 (Fld.other W25 (Fld.other W21 (Fld.other W17 (Fld.ext E13 fx7) (Or.inl (Nat.ne_of_lt (nltle (A5).lt (Nat.le_of_eq g12.symm))))) (Or.inl (Nat.ne_of_lt (nltle (A5).lt (Nat.le_of_eq g12.symm))))) (Or.inl (Nat.ne_of_lt (nltle (A5).lt (Nat.le_of_eq g12.symm))))) (Or.inl (Nat.ne_of_lt (nltle (A5).lt (Nat.le_of_eq g12.symm))))) (Or.inl (Nat.ne_of_lt (nltle (A5).lt (Nat.le_of_eq g12.symm))))) (Or.inl (Nat.ne_of_lt (nltle (A5).lt (Nat.le_of_eq g12.symm))))) (Or.inl (Nat.ne_of_lt (nltle (A5).lt (Nat.le_of_eq g12.symm))))) (Or.inl (Nat.ne_of_lt (nltle (A5).lt (Nat.le_of_eq g12.symm))))) (Or.inl (Nat.ne_of_lt (nltle (A5).lt (Nat.le_of_eq g12.symm)))))
  refine oq1' C (a := b1) (argsL := [(.ref b9)]) (W := 1) d8_208 rfl (hq hw 8 rfl) (hq hw 9 rfl) (hq hw 10 rfl) (by decide) pd___C_V (ct_str9 l Z a0 hw am (a := b1) (b := b9) (kC := k11) (c0 := (115 : Int32)) (c1 := (116 : Int32)) (c2 := (111 : Int32)) (c3 := (99 : Int32)) (c4 := (107 : Int32)) (c5 := (47 : Int32)) (c6 := c0) (c7 := c1) (c8 := c2) fx52 fx53 fx54 fx51 (by decide) (by decide) (by decide) (by decide) (by decide) (by decide) l0 l1 l2) rfl (Nat.le_of_eq rfl) rfl (by decide) (memsS (mi 1 rfl) mems0) ?_
  intro fv55 ph56 K57 fq58
  obtain ⟨t59, kB60, rfl, fx61, fx62, fx63, fx64, fx65⟩ := fq58
  refine ⟨[t59], (freshS ⟨fx65, (fx64).lt⟩ fresh0), ?_⟩
  show Go l _ Z _ _ _ κ [t59, b9, b1] _ 211 _ [(.ref b1)] 3 22
  refine ov' C (v := (.ref b1)) d8_211 rfl rfl rfl (by decide) (by decide) ?_
  exact ⟨b1, t59, kB60, rfl, fx61, fx62, fx63, fx64⟩
theorem ct_asbi (l : Launch) (Z : State) (a0 : Array Value) (hw : HW a0 Z) {cS : Int32} {fm : Value} (am : Amb Z a0 cS fm) {b : Addr} {h0 : Heap} (p0 : Exa Z h0 b "java/lang/StringBuilder") (p1 : Fld Z h0 b "java/lang/AbstractStringBuilder" "count" "I" (.int 0)) (p2 : Fld Z h0 b "java/lang/AbstractStringBuilder" "coder" "B" (.int 0)) (p3 : Fld Z h0 b "java/lang/AbstractStringBuilder" "value" "[B" .null) :
    Py l Z (⟨"java/lang/AbstractStringBuilder", "<init>", "(I)V"⟩ : MethodName) 2 25 1 16 #[(.ref b), .int 16] h0 [b] (fun rv h' => ∃ (v : Addr) (kv : ClassId), rv = none ∧ Exa Z h' b "java/lang/StringBuilder" ∧ Fld Z h' b "java/lang/AbstractStringBuilder" "count" "I" (.int 0) ∧ Fld Z h' b "java/lang/AbstractStringBuilder" "coder" "B" (.int 0) ∧ Fld Z h' b "java/lang/AbstractStringBuilder" "value" "[B" (.ref v) ∧ Arv Z h' v kv .byte (16 : Int32) [.int 0, .int 0, .int 0, .int 0, .int 0, .int 0, .int 0, .int 0, .int 0, .int 0, .int 0, .int 0, .int 0, .int 0, .int 0, .int 0] (.int 0) ∧ (h0.size ≤ v)) := by
  refine Ct.py (by0 := zc32) (ml := 2) (rt := none) (rm := ({ frames := 1, cells := 1, slots := 16, locals := 12 } : Room)) ?_ (hq hw 57 rfl) (hq hw 56 rfl)
  refine Ct.mk (a0 := a0) (Ls := #[.val (.ref b), .val (.int 16)]) (plainFor_of_name pn_java_lang_AbstractStringBuilder) (fun m => by simp [entryFrame, mkF, argsToLocals, Value.category]) ?_
  intro κ C
  show Go l _ Z _ _ _ κ [b] h0 0 #[.val (.ref b), .val (.int 16)] [] 0 0
  refine oc' C 1 d11_0 rfl rfl rfl (oj2' C 4 (W := 0) d11_1 rfl (hq hw 58 rfl) (hq hw 16 rfl) (hq hw 17 rfl) rfl (by decide) (Nat.le_of_eq rfl) (by decide) ?_)
  refine oy1' C 7 d11_4 rfl (hq hw 59 rfl) am.2.1 (ot' C 10 d11_7 rfl (feq (am.2.2.1 : ¬ (cS = (0 : Int32)))).1 ?_)
  refine oc' C 11 d11_10 rfl rfl rfl (od' C 12 d11_11 rfl rfl ?_)
  refine ow1' C 14 1 16 (ty := .byte) (cap := 16) d11_12 rfl rfl rfl rfl (hq hw 23 rfl) (by decide) (by decide) (by decide) (by decide) (by decide) ?_
  intro b1 ph2 k3 g4 E5 V6
  have fx7 : Arv Z ph2 b1 k3 .byte (16 : Int32) [.int 0, .int 0, .int 0, .int 0, .int 0, .int 0, .int 0, .int 0, .int 0, .int 0, .int 0, .int 0, .int 0, .int 0, .int 0, .int 0] (.int 0) := V6
  have fx8 := (Fld.ext E5 p3)
  have fx9 := (Exa.ext E5 p0)
  refine oh1' C 17 (ty := (.array .byte)) d11_14 rfl (hq hw 60 rfl) Via.refl fx8 fx9 (Or.inl (hq hw 61 rfl)) (hq hw 47 rfl) (by decide) rfl rfl (mi 1 rfl) ?_
  intro ph10 W11
  have fx12 : Fld Z ph10 b "java/lang/AbstractStringBuilder" "value" "[B" (.ref b1) := Fld.same W11 fx8
  refine oc' C 18 d11_17 rfl rfl rfl (of' C 19 (0 : Int32) d11_18 rfl (by decide) ?_)
  have fx13 := (Fld.other W11 (Fld.ext E5 p2) (Or.inr (slot_ne (Or.inl (hq hw 63 rfl)) (Or.inl (hq hw 61 rfl)) (by decide) (t := .byte) (t' := (.array .byte)) (by decide) (by decide))))
  have fx14 := (Exa.wr W11 fx9)
  refine ol2' C 22 (ty := .byte) (v' := .int 0) d11_19 rfl (hq hw 62 rfl) Via.refl fx13 fx14 (Or.inl (hq hw 63 rfl)) (hq hw 47 rfl) (by decide) rfl (by decide) (mi 1 rfl) ?_
  intro ph15 W16
  have fx17 : Fld Z ph15 b "java/lang/AbstractStringBuilder" "coder" "B" (.int 0) := Fld.same W16 fx13
  refine om' C (pc' := 38) d11_22 (by decide) (by decide) (oe' C d11_38 rfl (by decide) (by decide) ?_)
  have fx18 := (Exa.wr W16 fx14)
  have fx19 := (Fld.other W16 (Fld.other W11 (Fld.ext E5 p1) (Or.inr (slot_ne (Or.inl (hq hw 86 rfl)) (Or.inl (hq hw 61 rfl)) (by decide) (t := .int) (t' := (.array .byte)) (by decide) (by decide)))) (Or.inr (slot_ne (Or.inl (hq hw 86 rfl)) (Or.inl (hq hw 63 rfl)) (by decide) (t := .int) (t' := .byte) (by decide) (by decide))))
  have fx20 := (Fld.other W16 fx12 (Or.inr (slot_ne (Or.inl (hq hw 61 rfl)) (Or.inl (hq hw 63 rfl)) (by decide) (t := (.array .byte)) (t' := .byte) (by decide) (by decide))))
  have fx21 := ((fx7.other W11 (Ne.symm (Nat.ne_of_lt (nltle (p0).lt (Nat.le_of_eq g4.symm))))).other W16 (Ne.symm (Nat.ne_of_lt (nltle (p0).lt (Nat.le_of_eq g4.symm)))))
  exact ⟨b1, k3, rfl, fx18, fx19, fx17, fx20, fx21, (Nat.le_of_eq g4.symm)⟩
theorem ct_sbi (l : Launch) (Z : State) (a0 : Array Value) (hw : HW a0 Z) {cS : Int32} {fm : Value} (am : Amb Z a0 cS fm) {b : Addr} {h0 : Heap} (p0 : Exa Z h0 b "java/lang/StringBuilder") (p1 : Fld Z h0 b "java/lang/AbstractStringBuilder" "count" "I" (.int 0)) (p2 : Fld Z h0 b "java/lang/AbstractStringBuilder" "coder" "B" (.int 0)) (p3 : Fld Z h0 b "java/lang/AbstractStringBuilder" "value" "[B" .null) :
    Py l Z (⟨"java/lang/StringBuilder", "<init>", "()V"⟩ : MethodName) 3 37 1 16 #[(.ref b)] h0 [b] (fun rv h' => ∃ (v : Addr) (kv : ClassId), rv = none ∧ Exa Z h' b "java/lang/StringBuilder" ∧ Fld Z h' b "java/lang/AbstractStringBuilder" "count" "I" (.int 0) ∧ Fld Z h' b "java/lang/AbstractStringBuilder" "coder" "B" (.int 0) ∧ Fld Z h' b "java/lang/AbstractStringBuilder" "value" "[B" (.ref v) ∧ Arv Z h' v kv .byte (16 : Int32) [.int 0, .int 0, .int 0, .int 0, .int 0, .int 0, .int 0, .int 0, .int 0, .int 0, .int 0, .int 0, .int 0, .int 0, .int 0, .int 0] (.int 0) ∧ (h0.size ≤ v)) := by
  refine Ct.py (by0 := zc27) (ml := 1) (rt := none) (rm := ({ frames := 2, cells := 1, slots := 16, locals := 25 } : Room)) ?_ (hq hw 51 rfl) (hq hw 48 rfl)
  refine Ct.mk (a0 := a0) (Ls := #[.val (.ref b)]) (plainFor_of_name pn_java_lang_StringBuilder) (fun m => by simp [entryFrame, mkF, argsToLocals, Value.category]) ?_
  intro κ C
  show Go l _ Z _ _ _ κ [b] h0 0 #[.val (.ref b)] [] 0 0
  refine oc' C 1 d10_0 rfl rfl rfl (ox' C 3 (16 : Int32) d10_1 rfl (by decide) ?_)
  refine oq1' C (a := b) (argsL := [.int 16]) (W := 0) d10_3 rfl (hq hw 52 rfl) (hq hw 53 rfl) (hq hw 57 rfl) (by decide) pd__I_V (ct_asbi l Z a0 hw am (b := b) p0 p1 p2 p3) rfl (Nat.le_of_eq rfl) rfl (by decide) (memsS (mi 0 rfl) mems0) ?_
  intro fv1 ph2 K3 fq4
  obtain ⟨v5, kv6, rfl, fx7, fx8, fx9, fx10, fx11, fx12⟩ := fq4
  refine ⟨[v5], (freshS ⟨fx12, (fx11).lt⟩ fresh0), ?_⟩
  show Go l _ Z _ _ _ κ [v5, b] _ 6 _ [] 1 16
  refine oe' C d10_6 rfl (by decide) (by decide) ?_
  exact ⟨v5, kv6, rfl, fx7, fx8, fx9, fx10, fx11, fx12⟩
theorem ct_cod0 (l : Launch) (Z : State) (a0 : Array Value) (hw : HW a0 Z) {cS : Int32} {fm : Value} (am : Amb Z a0 cS fm) {s : Addr} {h0 : Heap} (p0 : Fld Z h0 s "java/lang/String" "coder" "B" (.int 0)) :
    Py l Z (⟨"java/lang/String", "coder", "()B"⟩ : MethodName) 1 12 0 0 #[(.ref s)] h0 [] (fun rv h' => rv = some (.int 0) ∧ h' = h0) := by
  refine Ct.py (by0 := zc7) (ml := 1) (rt := (some .byte)) (rm := ({ frames := 0, cells := 0, slots := 0, locals := 0 } : Room)) ?_ (hq hw 84 rfl) (hq hw 6 rfl)
  refine Ct.mk (a0 := a0) (Ls := #[.val (.ref s)]) (plainFor_of_name pn_java_lang_String) (fun m => by simp [entryFrame, mkF, argsToLocals, Value.category]) ?_
  intro κ C
  show Go l _ Z _ _ _ κ [] h0 0 #[.val (.ref s)] [] 0 0
  refine oy1' C 3 d15_0 rfl (hq hw 18 rfl) am.2.1 (ot' C 6 d15_3 rfl (feq (am.2.2.1 : ¬ (cS = (0 : Int32)))).1 ?_)
  refine oc' C 7 d15_6 rfl rfl rfl (ok' C 10 d15_7 rfl (hq hw 30 rfl) Via.refl p0 ?_)
  refine om' C (pc' := 14) d15_10 (by decide) (by decide) (oz' C (t := .byte) (z := (0 : Int32)) d15_14 rfl (by decide) (by decide) (by decide) (by decide) ?_)
  exact ⟨rfl, rfl⟩
theorem ct_len0_6 (l : Launch) (Z : State) (a0 : Array Value) (hw : HW a0 Z) {cS : Int32} {fm : Value} (am : Amb Z a0 cS fm) {s t : Addr} {kB : ClassId} {vs : List Value} {h0 : Heap} (p0 : Exa Z h0 s "java/lang/String") (p1 : Fld Z h0 s "java/lang/String" "coder" "B" (.int 0)) (p2 : Fld Z h0 s "java/lang/String" "value" "[B" (.ref t)) (p3 : Arv Z h0 t kB .byte (6 : Int32) vs (.int 0)) :
    Py l Z (⟨"java/lang/String", "length", "()I"⟩ : MethodName) 2 25 0 0 #[(.ref s)] h0 [] (fun rv h' => rv = some (.int 6) ∧ h' = h0) := by
  refine Ct.py (by0 := zc12) (ml := 1) (rt := (some .int)) (rm := ({ frames := 1, cells := 0, slots := 0, locals := 13 } : Room)) ?_ (hq hw 79 rfl) (hq hw 6 rfl)
  refine Ct.mk (a0 := a0) (Ls := #[.val (.ref s)]) (plainFor_of_name pn_java_lang_String) (fun m => by simp [entryFrame, mkF, argsToLocals, Value.category]) ?_
  intro κ C
  show Go l _ Z _ _ _ κ [] h0 0 #[.val (.ref s)] [] 0 0
  refine oc' C 1 d14_0 rfl rfl rfl (ok' C 4 d14_1 rfl (hq hw 32 rfl) Via.refl p2 ?_)
  refine oj' C 5 d14_4 rfl p3 (oc' C 6 d14_5 rfl rfl rfl ?_)
  refine oo' C (a := s) (argsL := []) (W := 1) d14_6 (hq hw 80 rfl) (hq hw 81 rfl) (nfS (hq hw 83 rfl)) (hq hw 83 rfl) (hq hw 82 rfl) p0 (by decide) pd___B (ct_cod0 l Z a0 hw am (s := s) p1) rfl (Nat.le_of_eq rfl) rfl (by decide) mems0 ?_
  intro fv1 ph2 K3 fq4
  obtain ⟨rfl, rfl⟩ := fq4
  refine ⟨[], fresh0, ?_⟩
  show Go l _ Z _ _ _ κ _ _ 9 _ [.int 0, .int 6] 0 0
  refine om2' C 10 (6 : Int32) d14_9 rfl (by decide) (ol1' C d14_10 rfl (by decide) (by decide) ?_)
  exact ⟨rfl, rfl⟩
theorem ct_ens6 (l : Launch) (Z : State) (a0 : Array Value) (hw : HW a0 Z) {cS : Int32} {fm : Value} (am : Amb Z a0 cS fm) {b v : Addr} {kv : ClassId} {vs : List Value} {h0 : Heap} (p0 : Fld Z h0 b "java/lang/AbstractStringBuilder" "coder" "B" (.int 0)) (p1 : Fld Z h0 b "java/lang/AbstractStringBuilder" "value" "[B" (.ref v)) (p2 : Arv Z h0 v kv .byte (16 : Int32) vs (.int 0)) :
    Py l Z (⟨"java/lang/AbstractStringBuilder", "ensureCapacityInternal", "(I)V"⟩ : MethodName) 1 14 0 0 #[(.ref b), .int 6] h0 [] (fun rv h' => rv = none ∧ h' = h0) := by
  refine Ct.py (by0 := zc38) (ml := 3) (rt := none) (rm := ({ frames := 0, cells := 0, slots := 0, locals := 0 } : Room)) ?_ (hq hw 91 rfl) (hq hw 56 rfl)
  refine Ct.mk (a0 := a0) (Ls := #[.val (.ref b), .val (.int 6), .unset]) (plainFor_of_name pn_java_lang_AbstractStringBuilder) (fun m => by simp [entryFrame, mkF, argsToLocals, Value.category]) ?_
  intro κ C
  show Go l _ Z _ _ _ κ [] h0 0 #[.val (.ref b), .val (.int 6), .unset] [] 0 0
  refine oc' C 1 d16_0 rfl rfl rfl (ok' C 4 d16_1 rfl (hq hw 60 rfl) Via.refl p1 ?_)
  refine oj' C 5 d16_4 rfl p2 (oc' C 6 d16_5 rfl rfl rfl ?_)
  refine ok' C 9 d16_6 rfl (hq hw 62 rfl) Via.refl p0 (om2' C 10 (16 : Int32) d16_9 rfl (by decide) ?_)
  refine op1' C 11 (Ls' := #[.val (.ref b), .val (.int 6), .val (.int 16)]) d16_10 rfl rfl (od' C 12 d16_11 rfl rfl ?_)
  refine od' C 13 d16_12 rfl rfl (oj1' C 14 (-10 : Int32) d16_13 rfl (by decide) ?_)
  refine om1' C (pc' := 38) d16_14 (by decide) (by decide) (by decide) (oe' C d16_38 rfl (by decide) (by decide) ?_)
  exact ⟨rfl, rfl⟩
theorem ct_infl (l : Launch) (Z : State) (a0 : Array Value) (hw : HW a0 Z) {cS : Int32} {fm : Value} (am : Amb Z a0 cS fm) {b s : Addr} {h0 : Heap} (p0 : Fld Z h0 b "java/lang/AbstractStringBuilder" "coder" "B" (.int 0)) (p1 : Exa Z h0 s "java/lang/String") (p2 : Fld Z h0 s "java/lang/String" "coder" "B" (.int 0)) :
    Py l Z (⟨"java/lang/AbstractStringBuilder", "inflateIfNeededFor", "(Ljava/lang/String;)V"⟩ : MethodName) 2 26 0 0 #[(.ref b), (.ref s)] h0 [] (fun rv h' => rv = none ∧ h' = h0) := by
  refine Ct.py (by0 := zc36) (ml := 2) (rt := none) (rm := ({ frames := 1, cells := 0, slots := 0, locals := 13 } : Room)) ?_ (hq hw 101 rfl) (hq hw 56 rfl)
  refine Ct.mk (a0 := a0) (Ls := #[.val (.ref b), .val (.ref s)]) (plainFor_of_name pn_java_lang_AbstractStringBuilder) (fun m => by simp [entryFrame, mkF, argsToLocals, Value.category]) ?_
  intro κ C
  show Go l _ Z _ _ _ κ [] h0 0 #[.val (.ref b), .val (.ref s)] [] 0 0
  refine oy1' C 3 d18_0 rfl (hq hw 59 rfl) am.2.1 (ot' C 6 d18_3 rfl (feq (am.2.2.1 : ¬ (cS = (0 : Int32)))).1 ?_)
  refine oc' C 7 d18_6 rfl rfl rfl (ok' C 10 d18_7 rfl (hq hw 62 rfl) Via.refl p0 ?_)
  refine oc' C 11 d18_10 rfl rfl rfl (oo' C (a := s) (argsL := []) (W := 1) d18_11 (hq hw 102 rfl) (hq hw 81 rfl) (nfS (hq hw 83 rfl)) (hq hw 83 rfl) (hq hw 82 rfl) p1 (by decide) pd___B (ct_cod0 l Z a0 hw am (s := s) p2) rfl (Nat.le_of_eq rfl) rfl (by decide) mems0 ?_)
  intro fv1 ph2 K3 fq4
  obtain ⟨rfl, rfl⟩ := fq4
  refine ⟨[], fresh0, ?_⟩
  show Go l _ Z _ _ _ κ _ _ 14 _ [.int 0, .int 0] 0 0
  refine oh' C (pc' := 21) d18_14 (by decide) (by decide) (by decide) (oe' C d18_21 rfl (by decide) (by decide) ?_)
  exact ⟨rfl, rfl⟩
theorem ct_gb0_6 (l : Launch) (Z : State) (a0 : Array Value) (hw : HW a0 Z) {cS : Int32} {fm : Value} (am : Amb Z a0 cS fm) {v s t : Addr} {kv kt : ClassId} {y0 y1 y2 y3 y4 y5 : Int32} {h0 : Heap} (p0 : Exa Z h0 s "java/lang/String") (p1 : Fld Z h0 s "java/lang/String" "coder" "B" (.int 0)) (p2 : Fld Z h0 s "java/lang/String" "value" "[B" (.ref t)) (p3 : Arv Z h0 t kt .byte (6 : Int32) [.int y0, .int y1, .int y2, .int y3, .int y4, .int y5] (.int 0)) (p4 : Arv Z h0 v kv .byte (16 : Int32) [.int 0, .int 0, .int 0, .int 0, .int 0, .int 0, .int 0, .int 0, .int 0, .int 0, .int 0, .int 0, .int 0, .int 0, .int 0, .int 0] (.int 0)) (htv : t ≠ v) :
    Py l Z (⟨"java/lang/String", "getBytes", "([BIB)V"⟩ : MethodName) 2 33 0 0 #[(.ref s), (.ref v), .int 0, .int 0] h0 [v] (fun rv h' => rv = none ∧ Arv Z h' v kv .byte (16 : Int32) [.int y0, .int y1, .int y2, .int y3, .int y4, .int y5, .int 0, .int 0, .int 0, .int 0, .int 0, .int 0, .int 0, .int 0, .int 0, .int 0] (.int 0)) := by
  refine Ct.py (by0 := zc3) (ml := 4) (rt := none) (rm := ({ frames := 1, cells := 0, slots := 0, locals := 18 } : Room)) ?_ (hq hw 107 rfl) (hq hw 6 rfl)
  refine Ct.mk (a0 := a0) (Ls := #[.val (.ref s), .val (.ref v), .val (.int 0), .val (.int 0)]) (plainFor_of_name pn_java_lang_String) (fun m => by simp [entryFrame, mkF, argsToLocals, Value.category]) ?_
  intro κ C
  show Go l _ Z _ _ _ κ [v] h0 0 #[.val (.ref s), .val (.ref v), .val (.int 0), .val (.int 0)] [] 0 0
  refine oc' C 1 d19_0 rfl rfl rfl (oo' C (a := s) (argsL := []) (W := 0) d19_1 (hq hw 80 rfl) (hq hw 81 rfl) (nfS (hq hw 83 rfl)) (hq hw 83 rfl) (hq hw 82 rfl) p0 (by decide) pd___B (ct_cod0 l Z a0 hw am (s := s) p1) rfl (Nat.le_of_eq rfl) rfl (by decide) mems0 ?_)
  intro fv1 ph2 K3 fq4
  obtain ⟨rfl, rfl⟩ := fq4
  refine ⟨[], fresh0, ?_⟩
  show Go l _ Z _ _ _ κ _ _ 4 _ [.int 0] 0 0
  refine od' C 5 d19_4 rfl rfl (oi' C 8 d19_5 rfl (by decide) ?_)
  refine oc' C 9 d19_8 rfl rfl rfl (ok' C 12 d19_9 rfl (hq hw 32 rfl) Via.refl p2 ?_)
  refine of' C 13 (0 : Int32) d19_12 rfl (by decide) (oc' C 14 d19_13 rfl rfl rfl ?_)
  refine od' C 15 d19_14 rfl rfl (od' C 16 d19_15 rfl rfl ?_)
  refine ob3' C 17 (0 : Int32) d19_16 rfl (by decide) (oc' C 18 d19_17 rfl rfl rfl ?_)
  refine ok' C 21 d19_18 rfl (hq hw 32 rfl) Via.refl p2 (oj' C 22 d19_21 rfl p3 ?_)
  refine on2' C 25 (W := 0) (us := [.int y0, .int y1, .int y2, .int y3, .int y4, .int y5]) (vr := [.int y0, .int y1, .int y2, .int y3, .int y4, .int y5, .int 0, .int 0, .int 0, .int 0, .int 0, .int 0, .int 0, .int 0, .int 0, .int 0]) d19_22 rfl (hq hw 108 rfl) (hq hw 111 rfl) (hq hw 109 rfl) (hq hw 110 rfl) p3 p4 rfl (by decide) (by decide) (by decide) (by decide) (by decide) rfl (nble rfl) rfl rfl (by decide) (Nat.le_of_eq rfl) (by decide) (mi 0 rfl) ?_
  intro ph5 K6 fx7
  refine om' C (pc' := 43) d19_25 (by decide) (by decide) (oe' C d19_43 rfl (by decide) (by decide) ?_)
  exact ⟨rfl, fx7⟩
theorem ct_psa0_6 (l : Launch) (Z : State) (a0 : Array Value) (hw : HW a0 Z) {cS : Int32} {fm : Value} (am : Amb Z a0 cS fm) {b v s t : Addr} {kv kt : ClassId} {y0 y1 y2 y3 y4 y5 : Int32} {h0 : Heap} (p0 : Exa Z h0 b "java/lang/StringBuilder") (p1 : Fld Z h0 b "java/lang/AbstractStringBuilder" "count" "I" (.int 0)) (p2 : Fld Z h0 b "java/lang/AbstractStringBuilder" "coder" "B" (.int 0)) (p3 : Fld Z h0 b "java/lang/AbstractStringBuilder" "value" "[B" (.ref v)) (p4 : Arv Z h0 v kv .byte (16 : Int32) [.int 0, .int 0, .int 0, .int 0, .int 0, .int 0, .int 0, .int 0, .int 0, .int 0, .int 0, .int 0, .int 0, .int 0, .int 0, .int 0] (.int 0)) (p5 : Exa Z h0 s "java/lang/String") (p6 : Fld Z h0 s "java/lang/String" "coder" "B" (.int 0)) (p7 : Fld Z h0 s "java/lang/String" "value" "[B" (.ref t)) (p8 : Arv Z h0 t kt .byte (6 : Int32) [.int y0, .int y1, .int y2, .int y3, .int y4, .int y5] (.int 0)) (htv : t ≠ v) :
    Py l Z (⟨"java/lang/AbstractStringBuilder", "putStringAt", "(ILjava/lang/String;)V"⟩ : MethodName) 3 47 0 0 #[(.ref b), .int 0, (.ref s)] h0 [v] (fun rv h' => rv = none ∧ Arv Z h' v kv .byte (16 : Int32) [.int y0, .int y1, .int y2, .int y3, .int y4, .int y5, .int 0, .int 0, .int 0, .int 0, .int 0, .int 0, .int 0, .int 0, .int 0, .int 0] (.int 0)) := by
  refine Ct.py (by0 := zc37) (ml := 3) (rt := none) (rm := ({ frames := 2, cells := 0, slots := 0, locals := 33 } : Room)) ?_ (hq hw 96 rfl) (hq hw 56 rfl)
  refine Ct.mk (a0 := a0) (Ls := #[.val (.ref b), .val (.int 0), .val (.ref s)]) (plainFor_of_name pn_java_lang_AbstractStringBuilder) (fun m => by simp [entryFrame, mkF, argsToLocals, Value.category]) ?_
  intro κ C
  show Go l _ Z _ _ _ κ [v] h0 0 #[.val (.ref b), .val (.int 0), .val (.ref s)] [] 0 0
  refine oc' C 1 d17_0 rfl rfl rfl (oc' C 2 d17_1 rfl rfl rfl ?_)
  refine oo' C (a := b) (argsL := [(.ref s)]) (W := 0) d17_2 (hq hw 97 rfl) (decl_of (hq hw 98 rfl) (hq hw 101 rfl)) (nfS (hq hw 100 rfl)) (hq hw 100 rfl) (hq hw 98 rfl) p0 (by decide) pd__Ljava_lang_String__V (ct_infl l Z a0 hw am (b := b) (s := s) p2 p5 p6) rfl (Nat.le_of_eq rfl) rfl (by decide) mems0 ?_
  intro fv1 ph2 K3 fq4
  obtain ⟨rfl, rfl⟩ := fq4
  refine ⟨[], fresh0, ?_⟩
  show Go l _ Z _ _ _ κ _ _ 5 _ [] 0 0
  refine oc' C 6 d17_5 rfl rfl rfl (oc' C 7 d17_6 rfl rfl rfl ?_)
  refine ok' C 10 d17_7 rfl (hq hw 60 rfl) Via.refl p3 (od' C 11 d17_10 rfl rfl ?_)
  refine oc' C 12 d17_11 rfl rfl rfl (ok' C 15 d17_12 rfl (hq hw 62 rfl) Via.refl p2 ?_)
  refine oo' C (a := s) (argsL := [(.ref v), .int 0, .int 0]) (W := 0) d17_15 (hq hw 103 rfl) (hq hw 104 rfl) (nfS (hq hw 106 rfl)) (hq hw 106 rfl) (hq hw 105 rfl) p5 (by decide) pd___BIB_V (ct_gb0_6 l Z a0 hw am (v := v) (s := s) (t := t) (kv := kv) (kt := kt) (y0 := y0) (y1 := y1) (y2 := y2) (y3 := y3) (y4 := y4) (y5 := y5) p5 p6 p7 p8 p4 htv) rfl (Nat.le_of_eq rfl) rfl (by decide) (memsS (mi 0 rfl) mems0) ?_
  intro fv5 ph6 K7 fq8
  obtain ⟨rfl, fx9⟩ := fq8
  refine ⟨[], fresh0, ?_⟩
  show Go l _ Z _ _ _ κ _ _ 18 _ [] 0 0
  refine oe' C d17_18 rfl (by decide) (by decide) ?_
  exact ⟨rfl, fx9⟩
theorem ct_aap0_6 (l : Launch) (Z : State) (a0 : Array Value) (hw : HW a0 Z) {cS : Int32} {fm : Value} (am : Amb Z a0 cS fm) {b v s t : Addr} {kv kt : ClassId} {y0 y1 y2 y3 y4 y5 : Int32} {h0 : Heap} (p0 : Exa Z h0 b "java/lang/StringBuilder") (p1 : Fld Z h0 b "java/lang/AbstractStringBuilder" "count" "I" (.int 0)) (p2 : Fld Z h0 b "java/lang/AbstractStringBuilder" "coder" "B" (.int 0)) (p3 : Fld Z h0 b "java/lang/AbstractStringBuilder" "value" "[B" (.ref v)) (p4 : Arv Z h0 v kv .byte (16 : Int32) [.int 0, .int 0, .int 0, .int 0, .int 0, .int 0, .int 0, .int 0, .int 0, .int 0, .int 0, .int 0, .int 0, .int 0, .int 0, .int 0] (.int 0)) (p5 : Exa Z h0 s "java/lang/String") (p6 : Fld Z h0 s "java/lang/String" "coder" "B" (.int 0)) (p7 : Fld Z h0 s "java/lang/String" "value" "[B" (.ref t)) (p8 : Arv Z h0 t kt .byte (6 : Int32) [.int y0, .int y1, .int y2, .int y3, .int y4, .int y5] (.int 0)) (htv : t ≠ v) :
    Py l Z (⟨"java/lang/AbstractStringBuilder", "append", "(Ljava/lang/String;)Ljava/lang/AbstractStringBuilder;"⟩ : MethodName) 4 61 0 0 #[(.ref b), (.ref s)] h0 [b, v] (fun rv h' => rv = some (.ref b) ∧ Exa Z h' b "java/lang/StringBuilder" ∧ Fld Z h' b "java/lang/AbstractStringBuilder" "count" "I" (.int 6) ∧ Fld Z h' b "java/lang/AbstractStringBuilder" "coder" "B" (.int 0) ∧ Fld Z h' b "java/lang/AbstractStringBuilder" "value" "[B" (.ref v) ∧ Arv Z h' v kv .byte (16 : Int32) [.int y0, .int y1, .int y2, .int y3, .int y4, .int y5, .int 0, .int 0, .int 0, .int 0, .int 0, .int 0, .int 0, .int 0, .int 0, .int 0] (.int 0)) := by
  refine Ct.py (by0 := zc31) (ml := 3) (rt := (some (.object "java/lang/AbstractStringBuilder"))) (rm := ({ frames := 3, cells := 0, slots := 0, locals := 47 } : Room)) ?_ (hq hw 74 rfl) (hq hw 56 rfl)
  refine Ct.mk (a0 := a0) (Ls := #[.val (.ref b), .val (.ref s), .unset]) (plainFor_of_name pn_java_lang_AbstractStringBuilder) (fun m => by simp [entryFrame, mkF, argsToLocals, Value.category]) ?_
  intro κ C
  show Go l _ Z _ _ _ κ [b, v] h0 0 #[.val (.ref b), .val (.ref s), .unset] [] 0 0
  refine oc' C 1 d13_0 rfl rfl rfl (oa3' C (pc' := 9) d13_1 (by decide) (by decide) ?_)
  refine oc' C 10 d13_9 rfl rfl rfl (oo' C (a := s) (argsL := []) (W := 0) d13_10 (hq hw 75 rfl) (hq hw 76 rfl) (nfS (hq hw 78 rfl)) (hq hw 78 rfl) (hq hw 77 rfl) p5 (by decide) pd___I (ct_len0_6 l Z a0 hw am (s := s) (t := t) (kB := kt) (vs := [.int y0, .int y1, .int y2, .int y3, .int y4, .int y5]) p5 p6 p7 p8) rfl (Nat.le_of_eq rfl) rfl (by decide) mems0 ?_)
  intro fv1 ph2 K3 fq4
  obtain ⟨rfl, rfl⟩ := fq4
  refine ⟨[], fresh0, ?_⟩
  show Go l _ Z _ _ _ κ _ _ 13 _ [.int 6] 0 0
  refine op1' C 14 (Ls' := #[.val (.ref b), .val (.ref s), .val (.int 6)]) d13_13 rfl rfl (oc' C 15 d13_14 rfl rfl rfl ?_)
  refine oc' C 16 d13_15 rfl rfl rfl (ok' C 19 d13_16 rfl (hq hw 85 rfl) Via.refl p1 ?_)
  refine od' C 20 d13_19 rfl rfl (ox1' C 21 (6 : Int32) d13_20 rfl (by decide) ?_)
  refine oo' C (a := b) (argsL := [.int 6]) (W := 0) d13_21 (hq hw 87 rfl) (decl_of (hq hw 88 rfl) (hq hw 91 rfl)) (nfS (hq hw 90 rfl)) (hq hw 90 rfl) (hq hw 88 rfl) p0 (by decide) pd__I_V (ct_ens6 l Z a0 hw am (b := b) (v := v) (kv := kv) (vs := [.int 0, .int 0, .int 0, .int 0, .int 0, .int 0, .int 0, .int 0, .int 0, .int 0, .int 0, .int 0, .int 0, .int 0, .int 0, .int 0]) p2 p3 p4) rfl (Nat.le_of_eq rfl) rfl (by decide) mems0 ?_
  intro fv5 ph6 K7 fq8
  obtain ⟨rfl, rfl⟩ := fq8
  refine ⟨[], fresh0, ?_⟩
  show Go l _ Z _ _ _ κ _ _ 24 _ [] 0 0
  refine oc' C 25 d13_24 rfl rfl rfl (oc' C 26 d13_25 rfl rfl rfl ?_)
  refine ok' C 29 d13_26 rfl (hq hw 85 rfl) Via.refl p1 (oc' C 30 d13_29 rfl rfl rfl ?_)
  refine oo' C (a := b) (argsL := [.int 0, (.ref s)]) (W := 0) d13_30 (hq hw 92 rfl) (decl_of (hq hw 93 rfl) (hq hw 96 rfl)) (nfS (hq hw 95 rfl)) (hq hw 95 rfl) (hq hw 93 rfl) p0 (by decide) pd__ILjava_lang_String__V (ct_psa0_6 l Z a0 hw am (b := b) (v := v) (s := s) (t := t) (kv := kv) (kt := kt) (y0 := y0) (y1 := y1) (y2 := y2) (y3 := y3) (y4 := y4) (y5 := y5) p0 p1 p2 p3 p4 p5 p6 p7 p8 htv) rfl (Nat.le_of_eq rfl) rfl (by decide) (memsS (mi 1 rfl) mems0) ?_
  intro fv9 ph10 K11 fq12
  obtain ⟨rfl, fx13⟩ := fq12
  refine ⟨[], fresh0, ?_⟩
  show Go l _ Z _ _ _ κ _ _ 33 _ [] 0 0
  refine oc' C 34 d13_33 rfl rfl rfl (ou' C 35 d13_34 rfl rfl ?_)
  have fx14 := (p1.keep K11 (ninS (Exa.neArv (p0.keep K11) fx13 (hq hw 47 rfl)) nin0))
  refine ok' C 38 d13_35 rfl (hq hw 85 rfl) Via.refl fx14 (od' C 39 d13_38 rfl rfl ?_)
  refine ox1' C 40 (6 : Int32) d13_39 rfl (by decide) ?_
  have fx15 := (p0.keep K11)
  refine oh1' C 43 (ty := .int) d13_40 rfl (hq hw 85 rfl) Via.refl fx14 fx15 (Or.inl (hq hw 86 rfl)) (hq hw 47 rfl) (by decide) rfl rfl (mi 0 rfl) ?_
  intro ph16 W17
  have fx18 : Fld Z ph16 b "java/lang/AbstractStringBuilder" "count" "I" (.int 6) := Fld.same W17 fx14
  refine oc' C 44 d13_43 rfl rfl rfl (ov' C (v := (.ref b)) d13_44 rfl rfl rfl (by decide) (by decide) ?_)
  have fx19 := (Exa.wr W17 fx15)
  have fx20 := (Fld.other W17 (p2.keep K11 (ninS (Exa.neArv (p0.keep K11) fx13 (hq hw 47 rfl)) nin0)) (Or.inr (slot_ne (Or.inl (hq hw 63 rfl)) (Or.inl (hq hw 86 rfl)) (by decide) (t := .byte) (t' := .int) (by decide) (by decide))))
  have fx21 := (Fld.other W17 (p3.keep K11 (ninS (Exa.neArv (p0.keep K11) fx13 (hq hw 47 rfl)) nin0)) (Or.inr (slot_ne (Or.inl (hq hw 61 rfl)) (Or.inl (hq hw 86 rfl)) (by decide) (t := (.array .byte)) (t' := .int) (by decide) (by decide))))
  have fx22 := (fx13.other W17 (Ne.symm (Exa.neArv (p0.keep K11) fx13 (hq hw 47 rfl))))
  exact ⟨rfl, fx19, fx18, fx20, fx21, fx22⟩
theorem ct_app0_6 (l : Launch) (Z : State) (a0 : Array Value) (hw : HW a0 Z) {cS : Int32} {fm : Value} (am : Amb Z a0 cS fm) {b v s t : Addr} {kv kt : ClassId} {y0 y1 y2 y3 y4 y5 : Int32} {h0 : Heap} (p0 : Exa Z h0 b "java/lang/StringBuilder") (p1 : Fld Z h0 b "java/lang/AbstractStringBuilder" "count" "I" (.int 0)) (p2 : Fld Z h0 b "java/lang/AbstractStringBuilder" "coder" "B" (.int 0)) (p3 : Fld Z h0 b "java/lang/AbstractStringBuilder" "value" "[B" (.ref v)) (p4 : Arv Z h0 v kv .byte (16 : Int32) [.int 0, .int 0, .int 0, .int 0, .int 0, .int 0, .int 0, .int 0, .int 0, .int 0, .int 0, .int 0, .int 0, .int 0, .int 0, .int 0] (.int 0)) (p5 : Exa Z h0 s "java/lang/String") (p6 : Fld Z h0 s "java/lang/String" "coder" "B" (.int 0)) (p7 : Fld Z h0 s "java/lang/String" "value" "[B" (.ref t)) (p8 : Arv Z h0 t kt .byte (6 : Int32) [.int y0, .int y1, .int y2, .int y3, .int y4, .int y5] (.int 0)) (htv : t ≠ v) :
    Py l Z (⟨"java/lang/StringBuilder", "append", "(Ljava/lang/String;)Ljava/lang/StringBuilder;"⟩ : MethodName) 5 74 0 0 #[(.ref b), (.ref s)] h0 [b, v] (fun rv h' => rv = some (.ref b) ∧ Exa Z h' b "java/lang/StringBuilder" ∧ Fld Z h' b "java/lang/AbstractStringBuilder" "count" "I" (.int 6) ∧ Fld Z h' b "java/lang/AbstractStringBuilder" "coder" "B" (.int 0) ∧ Fld Z h' b "java/lang/AbstractStringBuilder" "value" "[B" (.ref v) ∧ Arv Z h' v kv .byte (16 : Int32) [.int y0, .int y1, .int y2, .int y3, .int y4, .int y5, .int 0, .int 0, .int 0, .int 0, .int 0, .int 0, .int 0, .int 0, .int 0, .int 0] (.int 0)) := by
  refine Ct.py (by0 := zc29) (ml := 2) (rt := (some (.object "java/lang/StringBuilder"))) (rm := ({ frames := 4, cells := 0, slots := 0, locals := 61 } : Room)) ?_ (hq hw 69 rfl) (hq hw 48 rfl)
  refine Ct.mk (a0 := a0) (Ls := #[.val (.ref b), .val (.ref s)]) (plainFor_of_name pn_java_lang_StringBuilder) (fun m => by simp [entryFrame, mkF, argsToLocals, Value.category]) ?_
  intro κ C
  show Go l _ Z _ _ _ κ [b, v] h0 0 #[.val (.ref b), .val (.ref s)] [] 0 0
  refine oc' C 1 d12_0 rfl rfl rfl (oc' C 2 d12_1 rfl rfl rfl ?_)
  refine ov2' C (a := b) (argsL := [(.ref s)]) (W := 0) d12_2 (by decide) (hq hw 70 rfl) (same_of (hq hw 71 rfl) (nf_cls (hq hw 90 rfl) rfl) (by decide)) (hq hw 71 rfl) (hq hw 72 rfl) (hq hw 74 rfl) p0 (by decide) pd__Ljava_lang_String__Ljava_lang_AbstractStringBuilder_ (ct_aap0_6 l Z a0 hw am (b := b) (v := v) (s := s) (t := t) (kv := kv) (kt := kt) (y0 := y0) (y1 := y1) (y2 := y2) (y3 := y3) (y4 := y4) (y5 := y5) p0 p1 p2 p3 p4 p5 p6 p7 p8 htv) rfl (Nat.le_of_eq rfl) rfl (by decide) (memsS (mi 0 rfl) (memsS (mi 1 rfl) mems0)) ?_
  intro fv1 ph2 K3 fq4
  obtain ⟨rfl, fx5, fx6, fx7, fx8, fx9⟩ := fq4
  refine ⟨[], fresh0, ?_⟩
  show Go l _ Z _ _ _ κ _ _ 5 _ [(.ref b)] 0 0
  refine ox2' C 6 d12_5 rfl rfl (oc' C 7 d12_6 rfl rfl rfl ?_)
  refine ov' C (v := (.ref b)) d12_7 rfl rfl rfl (by decide) (by decide) ?_
  exact ⟨rfl, fx5, fx6, fx7, fx8, fx9⟩
theorem ct_len0_0 (l : Launch) (Z : State) (a0 : Array Value) (hw : HW a0 Z) {cS : Int32} {fm : Value} (am : Amb Z a0 cS fm) {s t : Addr} {kB : ClassId} {vs : List Value} {h0 : Heap} (p0 : Exa Z h0 s "java/lang/String") (p1 : Fld Z h0 s "java/lang/String" "coder" "B" (.int 0)) (p2 : Fld Z h0 s "java/lang/String" "value" "[B" (.ref t)) (p3 : Arv Z h0 t kB .byte (0 : Int32) vs (.int 0)) :
    Py l Z (⟨"java/lang/String", "length", "()I"⟩ : MethodName) 2 25 0 0 #[(.ref s)] h0 [] (fun rv h' => rv = some (.int 0) ∧ h' = h0) := by
  refine Ct.py (by0 := zc12) (ml := 1) (rt := (some .int)) (rm := ({ frames := 1, cells := 0, slots := 0, locals := 13 } : Room)) ?_ (hq hw 79 rfl) (hq hw 6 rfl)
  refine Ct.mk (a0 := a0) (Ls := #[.val (.ref s)]) (plainFor_of_name pn_java_lang_String) (fun m => by simp [entryFrame, mkF, argsToLocals, Value.category]) ?_
  intro κ C
  show Go l _ Z _ _ _ κ [] h0 0 #[.val (.ref s)] [] 0 0
  refine oc' C 1 d14_0 rfl rfl rfl (ok' C 4 d14_1 rfl (hq hw 32 rfl) Via.refl p2 ?_)
  refine oj' C 5 d14_4 rfl p3 (oc' C 6 d14_5 rfl rfl rfl ?_)
  refine oo' C (a := s) (argsL := []) (W := 1) d14_6 (hq hw 80 rfl) (hq hw 81 rfl) (nfS (hq hw 83 rfl)) (hq hw 83 rfl) (hq hw 82 rfl) p0 (by decide) pd___B (ct_cod0 l Z a0 hw am (s := s) p1) rfl (Nat.le_of_eq rfl) rfl (by decide) mems0 ?_
  intro fv1 ph2 K3 fq4
  obtain ⟨rfl, rfl⟩ := fq4
  refine ⟨[], fresh0, ?_⟩
  show Go l _ Z _ _ _ κ _ _ 9 _ [.int 0, .int 0] 0 0
  refine om2' C 10 (0 : Int32) d14_9 rfl (by decide) (ol1' C d14_10 rfl (by decide) (by decide) ?_)
  exact ⟨rfl, rfl⟩
theorem ct_gb6_0 (l : Launch) (Z : State) (a0 : Array Value) (hw : HW a0 Z) {cS : Int32} {fm : Value} (am : Amb Z a0 cS fm) {v s t : Addr} {kv kt : ClassId} {x0 x1 x2 x3 x4 x5 : Int32} {h0 : Heap} (p0 : Exa Z h0 s "java/lang/String") (p1 : Fld Z h0 s "java/lang/String" "coder" "B" (.int 0)) (p2 : Fld Z h0 s "java/lang/String" "value" "[B" (.ref t)) (p3 : Arv Z h0 t kt .byte (0 : Int32) [] (.int 0)) (p4 : Arv Z h0 v kv .byte (16 : Int32) [.int x0, .int x1, .int x2, .int x3, .int x4, .int x5, .int 0, .int 0, .int 0, .int 0, .int 0, .int 0, .int 0, .int 0, .int 0, .int 0] (.int 0)) (htv : t ≠ v) :
    Py l Z (⟨"java/lang/String", "getBytes", "([BIB)V"⟩ : MethodName) 2 33 0 0 #[(.ref s), (.ref v), .int 6, .int 0] h0 [v] (fun rv h' => rv = none ∧ Arv Z h' v kv .byte (16 : Int32) [.int x0, .int x1, .int x2, .int x3, .int x4, .int x5, .int 0, .int 0, .int 0, .int 0, .int 0, .int 0, .int 0, .int 0, .int 0, .int 0] (.int 0)) := by
  refine Ct.py (by0 := zc3) (ml := 4) (rt := none) (rm := ({ frames := 1, cells := 0, slots := 0, locals := 18 } : Room)) ?_ (hq hw 107 rfl) (hq hw 6 rfl)
  refine Ct.mk (a0 := a0) (Ls := #[.val (.ref s), .val (.ref v), .val (.int 6), .val (.int 0)]) (plainFor_of_name pn_java_lang_String) (fun m => by simp [entryFrame, mkF, argsToLocals, Value.category]) ?_
  intro κ C
  show Go l _ Z _ _ _ κ [v] h0 0 #[.val (.ref s), .val (.ref v), .val (.int 6), .val (.int 0)] [] 0 0
  refine oc' C 1 d19_0 rfl rfl rfl (oo' C (a := s) (argsL := []) (W := 0) d19_1 (hq hw 80 rfl) (hq hw 81 rfl) (nfS (hq hw 83 rfl)) (hq hw 83 rfl) (hq hw 82 rfl) p0 (by decide) pd___B (ct_cod0 l Z a0 hw am (s := s) p1) rfl (Nat.le_of_eq rfl) rfl (by decide) mems0 ?_)
  intro fv1 ph2 K3 fq4
  obtain ⟨rfl, rfl⟩ := fq4
  refine ⟨[], fresh0, ?_⟩
  show Go l _ Z _ _ _ κ _ _ 4 _ [.int 0] 0 0
  refine od' C 5 d19_4 rfl rfl (oi' C 8 d19_5 rfl (by decide) ?_)
  refine oc' C 9 d19_8 rfl rfl rfl (ok' C 12 d19_9 rfl (hq hw 32 rfl) Via.refl p2 ?_)
  refine of' C 13 (0 : Int32) d19_12 rfl (by decide) (oc' C 14 d19_13 rfl rfl rfl ?_)
  refine od' C 15 d19_14 rfl rfl (od' C 16 d19_15 rfl rfl ?_)
  refine ob3' C 17 (6 : Int32) d19_16 rfl (by decide) (oc' C 18 d19_17 rfl rfl rfl ?_)
  refine ok' C 21 d19_18 rfl (hq hw 32 rfl) Via.refl p2 (oj' C 22 d19_21 rfl p3 ?_)
  refine on2' C 25 (W := 0) (us := []) (vr := [.int x0, .int x1, .int x2, .int x3, .int x4, .int x5, .int 0, .int 0, .int 0, .int 0, .int 0, .int 0, .int 0, .int 0, .int 0, .int 0]) d19_22 rfl (hq hw 108 rfl) (hq hw 111 rfl) (hq hw 109 rfl) (hq hw 110 rfl) p3 p4 rfl (by decide) (by decide) (by decide) (by decide) (by decide) rfl (nble rfl) rfl rfl (by decide) (Nat.le_of_eq rfl) (by decide) (mi 0 rfl) ?_
  intro ph5 K6 fx7
  refine om' C (pc' := 43) d19_25 (by decide) (by decide) (oe' C d19_43 rfl (by decide) (by decide) ?_)
  exact ⟨rfl, fx7⟩
theorem ct_psa6_0 (l : Launch) (Z : State) (a0 : Array Value) (hw : HW a0 Z) {cS : Int32} {fm : Value} (am : Amb Z a0 cS fm) {b v s t : Addr} {kv kt : ClassId} {x0 x1 x2 x3 x4 x5 : Int32} {h0 : Heap} (p0 : Exa Z h0 b "java/lang/StringBuilder") (p1 : Fld Z h0 b "java/lang/AbstractStringBuilder" "count" "I" (.int 6)) (p2 : Fld Z h0 b "java/lang/AbstractStringBuilder" "coder" "B" (.int 0)) (p3 : Fld Z h0 b "java/lang/AbstractStringBuilder" "value" "[B" (.ref v)) (p4 : Arv Z h0 v kv .byte (16 : Int32) [.int x0, .int x1, .int x2, .int x3, .int x4, .int x5, .int 0, .int 0, .int 0, .int 0, .int 0, .int 0, .int 0, .int 0, .int 0, .int 0] (.int 0)) (p5 : Exa Z h0 s "java/lang/String") (p6 : Fld Z h0 s "java/lang/String" "coder" "B" (.int 0)) (p7 : Fld Z h0 s "java/lang/String" "value" "[B" (.ref t)) (p8 : Arv Z h0 t kt .byte (0 : Int32) [] (.int 0)) (htv : t ≠ v) :
    Py l Z (⟨"java/lang/AbstractStringBuilder", "putStringAt", "(ILjava/lang/String;)V"⟩ : MethodName) 3 47 0 0 #[(.ref b), .int 6, (.ref s)] h0 [v] (fun rv h' => rv = none ∧ Arv Z h' v kv .byte (16 : Int32) [.int x0, .int x1, .int x2, .int x3, .int x4, .int x5, .int 0, .int 0, .int 0, .int 0, .int 0, .int 0, .int 0, .int 0, .int 0, .int 0] (.int 0)) := by
  refine Ct.py (by0 := zc37) (ml := 3) (rt := none) (rm := ({ frames := 2, cells := 0, slots := 0, locals := 33 } : Room)) ?_ (hq hw 96 rfl) (hq hw 56 rfl)
  refine Ct.mk (a0 := a0) (Ls := #[.val (.ref b), .val (.int 6), .val (.ref s)]) (plainFor_of_name pn_java_lang_AbstractStringBuilder) (fun m => by simp [entryFrame, mkF, argsToLocals, Value.category]) ?_
  intro κ C
  show Go l _ Z _ _ _ κ [v] h0 0 #[.val (.ref b), .val (.int 6), .val (.ref s)] [] 0 0
  refine oc' C 1 d17_0 rfl rfl rfl (oc' C 2 d17_1 rfl rfl rfl ?_)
  refine oo' C (a := b) (argsL := [(.ref s)]) (W := 0) d17_2 (hq hw 97 rfl) (decl_of (hq hw 98 rfl) (hq hw 101 rfl)) (nfS (hq hw 100 rfl)) (hq hw 100 rfl) (hq hw 98 rfl) p0 (by decide) pd__Ljava_lang_String__V (ct_infl l Z a0 hw am (b := b) (s := s) p2 p5 p6) rfl (Nat.le_of_eq rfl) rfl (by decide) mems0 ?_
  intro fv1 ph2 K3 fq4
  obtain ⟨rfl, rfl⟩ := fq4
  refine ⟨[], fresh0, ?_⟩
  show Go l _ Z _ _ _ κ _ _ 5 _ [] 0 0
  refine oc' C 6 d17_5 rfl rfl rfl (oc' C 7 d17_6 rfl rfl rfl ?_)
  refine ok' C 10 d17_7 rfl (hq hw 60 rfl) Via.refl p3 (od' C 11 d17_10 rfl rfl ?_)
  refine oc' C 12 d17_11 rfl rfl rfl (ok' C 15 d17_12 rfl (hq hw 62 rfl) Via.refl p2 ?_)
  refine oo' C (a := s) (argsL := [(.ref v), .int 6, .int 0]) (W := 0) d17_15 (hq hw 103 rfl) (hq hw 104 rfl) (nfS (hq hw 106 rfl)) (hq hw 106 rfl) (hq hw 105 rfl) p5 (by decide) pd___BIB_V (ct_gb6_0 l Z a0 hw am (v := v) (s := s) (t := t) (kv := kv) (kt := kt) (x0 := x0) (x1 := x1) (x2 := x2) (x3 := x3) (x4 := x4) (x5 := x5) p5 p6 p7 p8 p4 htv) rfl (Nat.le_of_eq rfl) rfl (by decide) (memsS (mi 0 rfl) mems0) ?_
  intro fv5 ph6 K7 fq8
  obtain ⟨rfl, fx9⟩ := fq8
  refine ⟨[], fresh0, ?_⟩
  show Go l _ Z _ _ _ κ _ _ 18 _ [] 0 0
  refine oe' C d17_18 rfl (by decide) (by decide) ?_
  exact ⟨rfl, fx9⟩
theorem ct_aap6_0 (l : Launch) (Z : State) (a0 : Array Value) (hw : HW a0 Z) {cS : Int32} {fm : Value} (am : Amb Z a0 cS fm) {b v s t : Addr} {kv kt : ClassId} {x0 x1 x2 x3 x4 x5 : Int32} {h0 : Heap} (p0 : Exa Z h0 b "java/lang/StringBuilder") (p1 : Fld Z h0 b "java/lang/AbstractStringBuilder" "count" "I" (.int 6)) (p2 : Fld Z h0 b "java/lang/AbstractStringBuilder" "coder" "B" (.int 0)) (p3 : Fld Z h0 b "java/lang/AbstractStringBuilder" "value" "[B" (.ref v)) (p4 : Arv Z h0 v kv .byte (16 : Int32) [.int x0, .int x1, .int x2, .int x3, .int x4, .int x5, .int 0, .int 0, .int 0, .int 0, .int 0, .int 0, .int 0, .int 0, .int 0, .int 0] (.int 0)) (p5 : Exa Z h0 s "java/lang/String") (p6 : Fld Z h0 s "java/lang/String" "coder" "B" (.int 0)) (p7 : Fld Z h0 s "java/lang/String" "value" "[B" (.ref t)) (p8 : Arv Z h0 t kt .byte (0 : Int32) [] (.int 0)) (htv : t ≠ v) :
    Py l Z (⟨"java/lang/AbstractStringBuilder", "append", "(Ljava/lang/String;)Ljava/lang/AbstractStringBuilder;"⟩ : MethodName) 4 61 0 0 #[(.ref b), (.ref s)] h0 [b, v] (fun rv h' => rv = some (.ref b) ∧ Exa Z h' b "java/lang/StringBuilder" ∧ Fld Z h' b "java/lang/AbstractStringBuilder" "count" "I" (.int 6) ∧ Fld Z h' b "java/lang/AbstractStringBuilder" "coder" "B" (.int 0) ∧ Fld Z h' b "java/lang/AbstractStringBuilder" "value" "[B" (.ref v) ∧ Arv Z h' v kv .byte (16 : Int32) [.int x0, .int x1, .int x2, .int x3, .int x4, .int x5, .int 0, .int 0, .int 0, .int 0, .int 0, .int 0, .int 0, .int 0, .int 0, .int 0] (.int 0)) := by
  refine Ct.py (by0 := zc31) (ml := 3) (rt := (some (.object "java/lang/AbstractStringBuilder"))) (rm := ({ frames := 3, cells := 0, slots := 0, locals := 47 } : Room)) ?_ (hq hw 74 rfl) (hq hw 56 rfl)
  refine Ct.mk (a0 := a0) (Ls := #[.val (.ref b), .val (.ref s), .unset]) (plainFor_of_name pn_java_lang_AbstractStringBuilder) (fun m => by simp [entryFrame, mkF, argsToLocals, Value.category]) ?_
  intro κ C
  show Go l _ Z _ _ _ κ [b, v] h0 0 #[.val (.ref b), .val (.ref s), .unset] [] 0 0
  refine oc' C 1 d13_0 rfl rfl rfl (oa3' C (pc' := 9) d13_1 (by decide) (by decide) ?_)
  refine oc' C 10 d13_9 rfl rfl rfl (oo' C (a := s) (argsL := []) (W := 0) d13_10 (hq hw 75 rfl) (hq hw 76 rfl) (nfS (hq hw 78 rfl)) (hq hw 78 rfl) (hq hw 77 rfl) p5 (by decide) pd___I (ct_len0_0 l Z a0 hw am (s := s) (t := t) (kB := kt) (vs := []) p5 p6 p7 p8) rfl (Nat.le_of_eq rfl) rfl (by decide) mems0 ?_)
  intro fv1 ph2 K3 fq4
  obtain ⟨rfl, rfl⟩ := fq4
  refine ⟨[], fresh0, ?_⟩
  show Go l _ Z _ _ _ κ _ _ 13 _ [.int 0] 0 0
  refine op1' C 14 (Ls' := #[.val (.ref b), .val (.ref s), .val (.int 0)]) d13_13 rfl rfl (oc' C 15 d13_14 rfl rfl rfl ?_)
  refine oc' C 16 d13_15 rfl rfl rfl (ok' C 19 d13_16 rfl (hq hw 85 rfl) Via.refl p1 ?_)
  refine od' C 20 d13_19 rfl rfl (ox1' C 21 (6 : Int32) d13_20 rfl (by decide) ?_)
  refine oo' C (a := b) (argsL := [.int 6]) (W := 0) d13_21 (hq hw 87 rfl) (decl_of (hq hw 88 rfl) (hq hw 91 rfl)) (nfS (hq hw 90 rfl)) (hq hw 90 rfl) (hq hw 88 rfl) p0 (by decide) pd__I_V (ct_ens6 l Z a0 hw am (b := b) (v := v) (kv := kv) (vs := [.int x0, .int x1, .int x2, .int x3, .int x4, .int x5, .int 0, .int 0, .int 0, .int 0, .int 0, .int 0, .int 0, .int 0, .int 0, .int 0]) p2 p3 p4) rfl (Nat.le_of_eq rfl) rfl (by decide) mems0 ?_
  intro fv5 ph6 K7 fq8
  obtain ⟨rfl, rfl⟩ := fq8
  refine ⟨[], fresh0, ?_⟩
  show Go l _ Z _ _ _ κ _ _ 24 _ [] 0 0
  refine oc' C 25 d13_24 rfl rfl rfl (oc' C 26 d13_25 rfl rfl rfl ?_)
  refine ok' C 29 d13_26 rfl (hq hw 85 rfl) Via.refl p1 (oc' C 30 d13_29 rfl rfl rfl ?_)
  refine oo' C (a := b) (argsL := [.int 6, (.ref s)]) (W := 0) d13_30 (hq hw 92 rfl) (decl_of (hq hw 93 rfl) (hq hw 96 rfl)) (nfS (hq hw 95 rfl)) (hq hw 95 rfl) (hq hw 93 rfl) p0 (by decide) pd__ILjava_lang_String__V (ct_psa6_0 l Z a0 hw am (b := b) (v := v) (s := s) (t := t) (kv := kv) (kt := kt) (x0 := x0) (x1 := x1) (x2 := x2) (x3 := x3) (x4 := x4) (x5 := x5) p0 p1 p2 p3 p4 p5 p6 p7 p8 htv) rfl (Nat.le_of_eq rfl) rfl (by decide) (memsS (mi 1 rfl) mems0) ?_
  intro fv9 ph10 K11 fq12
  obtain ⟨rfl, fx13⟩ := fq12
  refine ⟨[], fresh0, ?_⟩
  show Go l _ Z _ _ _ κ _ _ 33 _ [] 0 0
  refine oc' C 34 d13_33 rfl rfl rfl (ou' C 35 d13_34 rfl rfl ?_)
  have fx14 := (p1.keep K11 (ninS (Exa.neArv (p0.keep K11) fx13 (hq hw 47 rfl)) nin0))
  refine ok' C 38 d13_35 rfl (hq hw 85 rfl) Via.refl fx14 (od' C 39 d13_38 rfl rfl ?_)
  refine ox1' C 40 (6 : Int32) d13_39 rfl (by decide) ?_
  have fx15 := (p0.keep K11)
  refine oh1' C 43 (ty := .int) d13_40 rfl (hq hw 85 rfl) Via.refl fx14 fx15 (Or.inl (hq hw 86 rfl)) (hq hw 47 rfl) (by decide) rfl rfl (mi 0 rfl) ?_
  intro ph16 W17
  have fx18 : Fld Z ph16 b "java/lang/AbstractStringBuilder" "count" "I" (.int 6) := Fld.same W17 fx14
  refine oc' C 44 d13_43 rfl rfl rfl (ov' C (v := (.ref b)) d13_44 rfl rfl rfl (by decide) (by decide) ?_)
  have fx19 := (Exa.wr W17 fx15)
  have fx20 := (Fld.other W17 (p2.keep K11 (ninS (Exa.neArv (p0.keep K11) fx13 (hq hw 47 rfl)) nin0)) (Or.inr (slot_ne (Or.inl (hq hw 63 rfl)) (Or.inl (hq hw 86 rfl)) (by decide) (t := .byte) (t' := .int) (by decide) (by decide))))
  have fx21 := (Fld.other W17 (p3.keep K11 (ninS (Exa.neArv (p0.keep K11) fx13 (hq hw 47 rfl)) nin0)) (Or.inr (slot_ne (Or.inl (hq hw 61 rfl)) (Or.inl (hq hw 86 rfl)) (by decide) (t := (.array .byte)) (t' := .int) (by decide) (by decide))))
  have fx22 := (fx13.other W17 (Ne.symm (Exa.neArv (p0.keep K11) fx13 (hq hw 47 rfl))))
  exact ⟨rfl, fx19, fx18, fx20, fx21, fx22⟩
theorem ct_app6_0 (l : Launch) (Z : State) (a0 : Array Value) (hw : HW a0 Z) {cS : Int32} {fm : Value} (am : Amb Z a0 cS fm) {b v s t : Addr} {kv kt : ClassId} {x0 x1 x2 x3 x4 x5 : Int32} {h0 : Heap} (p0 : Exa Z h0 b "java/lang/StringBuilder") (p1 : Fld Z h0 b "java/lang/AbstractStringBuilder" "count" "I" (.int 6)) (p2 : Fld Z h0 b "java/lang/AbstractStringBuilder" "coder" "B" (.int 0)) (p3 : Fld Z h0 b "java/lang/AbstractStringBuilder" "value" "[B" (.ref v)) (p4 : Arv Z h0 v kv .byte (16 : Int32) [.int x0, .int x1, .int x2, .int x3, .int x4, .int x5, .int 0, .int 0, .int 0, .int 0, .int 0, .int 0, .int 0, .int 0, .int 0, .int 0] (.int 0)) (p5 : Exa Z h0 s "java/lang/String") (p6 : Fld Z h0 s "java/lang/String" "coder" "B" (.int 0)) (p7 : Fld Z h0 s "java/lang/String" "value" "[B" (.ref t)) (p8 : Arv Z h0 t kt .byte (0 : Int32) [] (.int 0)) (htv : t ≠ v) :
    Py l Z (⟨"java/lang/StringBuilder", "append", "(Ljava/lang/String;)Ljava/lang/StringBuilder;"⟩ : MethodName) 5 74 0 0 #[(.ref b), (.ref s)] h0 [b, v] (fun rv h' => rv = some (.ref b) ∧ Exa Z h' b "java/lang/StringBuilder" ∧ Fld Z h' b "java/lang/AbstractStringBuilder" "count" "I" (.int 6) ∧ Fld Z h' b "java/lang/AbstractStringBuilder" "coder" "B" (.int 0) ∧ Fld Z h' b "java/lang/AbstractStringBuilder" "value" "[B" (.ref v) ∧ Arv Z h' v kv .byte (16 : Int32) [.int x0, .int x1, .int x2, .int x3, .int x4, .int x5, .int 0, .int 0, .int 0, .int 0, .int 0, .int 0, .int 0, .int 0, .int 0, .int 0] (.int 0)) := by
  refine Ct.py (by0 := zc29) (ml := 2) (rt := (some (.object "java/lang/StringBuilder"))) (rm := ({ frames := 4, cells := 0, slots := 0, locals := 61 } : Room)) ?_ (hq hw 69 rfl) (hq hw 48 rfl)
  refine Ct.mk (a0 := a0) (Ls := #[.val (.ref b), .val (.ref s)]) (plainFor_of_name pn_java_lang_StringBuilder) (fun m => by simp [entryFrame, mkF, argsToLocals, Value.category]) ?_
  intro κ C
  show Go l _ Z _ _ _ κ [b, v] h0 0 #[.val (.ref b), .val (.ref s)] [] 0 0
  refine oc' C 1 d12_0 rfl rfl rfl (oc' C 2 d12_1 rfl rfl rfl ?_)
  refine ov2' C (a := b) (argsL := [(.ref s)]) (W := 0) d12_2 (by decide) (hq hw 70 rfl) (same_of (hq hw 71 rfl) (nf_cls (hq hw 90 rfl) rfl) (by decide)) (hq hw 71 rfl) (hq hw 72 rfl) (hq hw 74 rfl) p0 (by decide) pd__Ljava_lang_String__Ljava_lang_AbstractStringBuilder_ (ct_aap6_0 l Z a0 hw am (b := b) (v := v) (s := s) (t := t) (kv := kv) (kt := kt) (x0 := x0) (x1 := x1) (x2 := x2) (x3 := x3) (x4 := x4) (x5 := x5) p0 p1 p2 p3 p4 p5 p6 p7 p8 htv) rfl (Nat.le_of_eq rfl) rfl (by decide) (memsS (mi 0 rfl) (memsS (mi 1 rfl) mems0)) ?_
  intro fv1 ph2 K3 fq4
  obtain ⟨rfl, fx5, fx6, fx7, fx8, fx9⟩ := fq4
  refine ⟨[], fresh0, ?_⟩
  show Go l _ Z _ _ _ κ _ _ 5 _ [(.ref b)] 0 0
  refine ox2' C 6 d12_5 rfl rfl (oc' C 7 d12_6 rfl rfl rfl ?_)
  refine ov' C (v := (.ref b)) d12_7 rfl rfl rfl (by decide) (by decide) ?_
  exact ⟨rfl, fx5, fx6, fx7, fx8, fx9⟩
theorem ct_cl0_6 (l : Launch) (Z : State) (a0 : Array Value) (hw : HW a0 Z) {cS : Int32} {fm : Value} (am : Amb Z a0 cS fm) {h0 : Heap} :
    Py l Z (⟨"java/util/Arrays", "checkLength", "(II)V"⟩ : MethodName) 1 13 0 0 #[.int 0, .int 6] h0 [] (fun rv h' => rv = none ∧ h' = h0) := by
  refine Ct.py (by0 := zc24) (ml := 2) (rt := none) (rm := ({ frames := 0, cells := 0, slots := 0, locals := 0 } : Room)) ?_ (hq hw 151 rfl) (hq hw 144 rfl)
  refine Ct.mk (a0 := a0) (Ls := #[.val (.int 0), .val (.int 6)]) (plainFor_of_name pn_java_util_Arrays) (fun m => by simp [entryFrame, mkF, argsToLocals, Value.category]) ?_
  intro κ C
  show Go l _ Z _ _ _ κ [] h0 0 #[.val (.int 0), .val (.int 6)] [] 0 0
  refine od' C 1 d29_0 rfl rfl (od' C 2 d29_1 rfl rfl ?_)
  refine oh' C (pc' := 37) d29_2 (by decide) (by decide) (by decide) (oe' C d29_37 rfl (by decide) (by decide) ?_)
  exact ⟨rfl, rfl⟩
theorem ct_min16_6 (l : Launch) (Z : State) (a0 : Array Value) (hw : HW a0 Z) {cS : Int32} {fm : Value} (am : Amb Z a0 cS fm) {h0 : Heap} :
    Py l Z (⟨"java/lang/Math", "min", "(II)I"⟩ : MethodName) 1 13 0 0 #[.int 16, .int 6] h0 [] (fun rv h' => rv = some (.int 6) ∧ h' = h0) := by
  refine Ct.py (by0 := zc0) (ml := 2) (rt := (some .int)) (rm := ({ frames := 0, cells := 0, slots := 0, locals := 0 } : Room)) ?_ (hq hw 155 rfl) (hq hw 154 rfl)
  refine Ct.mk (a0 := a0) (Ls := #[.val (.int 16), .val (.int 6)]) (Jvm.Free.JP.mathPlain rfl (by decide +kernel)) (fun m => by simp [entryFrame, mkF, argsToLocals, Value.category]) ?_
  intro κ C
  show Go l _ Z _ _ _ κ [] h0 0 #[.val (.int 16), .val (.int 6)] [] 0 0
  refine od' C 1 d30_0 rfl rfl (od' C 2 d30_1 rfl rfl ?_)
  refine oh' C (pc' := 9) d30_2 (by decide) (by decide) (by decide) (od' C 10 d30_9 rfl rfl ?_)
  refine ol1' C d30_10 rfl (by decide) (by decide) ?_
  exact ⟨rfl, rfl⟩
theorem ct_crb16_0_6 (l : Launch) (Z : State) (a0 : Array Value) (hw : HW a0 Z) {cS : Int32} {fm : Value} (am : Amb Z a0 cS fm) {v : Addr} {kv : ClassId} {x0 x1 x2 x3 x4 x5 x6 x7 x8 x9 x10 x11 x12 x13 x14 x15 : Int32} {h0 : Heap} (p0 : Arv Z h0 v kv .byte (16 : Int32) [.int x0, .int x1, .int x2, .int x3, .int x4, .int x5, .int x6, .int x7, .int x8, .int x9, .int x10, .int x11, .int x12, .int x13, .int x14, .int x15] (.int 0)) :
    Py l Z (⟨"java/util/Arrays", "copyOfRangeByte", "([BII)[B"⟩ : MethodName) 2 34 1 6 #[(.ref v), .int 0, .int 6] h0 [] (fun rv h' => ∃ (t : Addr) (kt : ClassId), rv = some (.ref t) ∧ Arv Z h' t kt .byte (6 : Int32) [.int x0, .int x1, .int x2, .int x3, .int x4, .int x5] (.int 0) ∧ (h0.size ≤ t)) := by
  refine Ct.py (by0 := zc26) (ml := 5) (rt := (some (.array .byte))) (rm := ({ frames := 1, cells := 1, slots := 6, locals := 18 } : Room)) ?_ (hq hw 148 rfl) (hq hw 144 rfl)
  refine Ct.mk (a0 := a0) (Ls := #[.val (.ref v), .val (.int 0), .val (.int 6), .unset, .unset]) (plainFor_of_name pn_java_util_Arrays) (fun m => by simp [entryFrame, mkF, argsToLocals, Value.category]) ?_
  intro κ C
  show Go l _ Z _ _ _ κ [] h0 0 #[.val (.ref v), .val (.int 0), .val (.int 6), .unset, .unset] [] 0 0
  refine od' C 1 d28_0 rfl rfl (od' C 2 d28_1 rfl rfl ?_)
  refine or' C (argsL := [.int 0, .int 6]) (W := 0) d28_2 (hq hw 149 rfl) (hq hw 150 rfl) (hq hw 144 rfl) (hq hw 151 rfl) (by decide) pd__II_V (ct_cl0_6 l Z a0 hw am) rfl (Nat.le_of_eq rfl) rfl (by decide) mems0 ?_
  intro fv1 ph2 K3 fq4
  obtain ⟨rfl, rfl⟩ := fq4
  refine ⟨[], fresh0, ?_⟩
  show Go l _ Z _ _ _ κ _ _ 5 _ [] 0 0
  refine od' C 6 d28_5 rfl rfl (od' C 7 d28_6 rfl rfl ?_)
  refine oj1' C 8 (6 : Int32) d28_7 rfl (by decide) (op1' C 9 (Ls' := #[.val (.ref v), .val (.int 0), .val (.int 6), .val (.int 6), .unset]) d28_8 rfl rfl ?_)
  refine od' C 10 d28_9 rfl rfl (ow1' C 12 1 6 (ty := .byte) (cap := 6) d28_10 rfl rfl rfl rfl (hq hw 23 rfl) (by decide) (by decide) (by decide) (by decide) (by decide) ?_)
  intro b5 ph6 k7 g8 E9 V10
  have fx11 : Arv Z ph6 b5 k7 .byte (6 : Int32) [.int 0, .int 0, .int 0, .int 0, .int 0, .int 0] (.int 0) := V10
  refine ob1' C 14 (Ls' := #[.val (.ref v), .val (.int 0), .val (.int 6), .val (.int 6), .val (.ref b5)]) d28_12 rfl rfl rfl (oc' C 15 d28_14 rfl rfl rfl ?_)
  refine od' C 16 d28_15 rfl rfl (ob' C 18 d28_16 rfl rfl rfl ?_)
  refine of' C 19 (0 : Int32) d28_18 rfl (by decide) (oc' C 20 d28_19 rfl rfl rfl ?_)
  have fx12 := (p0.ext E9)
  refine oj' C 21 d28_20 rfl fx12 (od' C 22 d28_21 rfl rfl ?_)
  refine oj1' C 23 (16 : Int32) d28_22 rfl (by decide) (od' C 24 d28_23 rfl rfl ?_)
  refine or' C (argsL := [.int 16, .int 6]) (W := 4) d28_24 (hq hw 152 rfl) (hq hw 153 rfl) (hq hw 154 rfl) (hq hw 155 rfl) (by decide) pd__II_I (ct_min16_6 l Z a0 hw am) rfl (Nat.le_of_eq rfl) rfl (by decide) mems0 ?_
  intro fv13 ph14 K15 fq16
  obtain ⟨rfl, rfl⟩ := fq16
  refine ⟨[], fresh0, ?_⟩
  show Go l _ Z _ _ _ κ _ _ 27 _ [.int 6, .int 0, (.ref b5), .int 0, (.ref v)] 1 6
  refine on2' C 30 (W := 0) (us := [.int x0, .int x1, .int x2, .int x3, .int x4, .int x5]) (vr := [.int x0, .int x1, .int x2, .int x3, .int x4, .int x5]) d28_27 rfl (hq hw 156 rfl) (hq hw 111 rfl) (hq hw 109 rfl) (hq hw 110 rfl) fx12 fx11 rfl (by decide) (by decide) (by decide) (by decide) (by decide) rfl (nble rfl) rfl rfl (by decide) (Nat.le_of_eq rfl) (by decide) (mi 0 rfl) ?_
  intro ph17 K18 fx19
  refine ob' C 32 d28_30 rfl rfl rfl (ov' C (v := (.ref b5)) d28_32 rfl rfl rfl (by decide) (by decide) ?_)
  exact ⟨b5, k7, rfl, fx19, (Nat.le_of_eq g8.symm)⟩
theorem ct_cor16_0_6 (l : Launch) (Z : State) (a0 : Array Value) (hw : HW a0 Z) {cS : Int32} {fm : Value} (am : Amb Z a0 cS fm) {v : Addr} {kv : ClassId} {x0 x1 x2 x3 x4 x5 x6 x7 x8 x9 x10 x11 x12 x13 x14 x15 : Int32} {h0 : Heap} (p0 : Arv Z h0 v kv .byte (16 : Int32) [.int x0, .int x1, .int x2, .int x3, .int x4, .int x5, .int x6, .int x7, .int x8, .int x9, .int x10, .int x11, .int x12, .int x13, .int x14, .int x15] (.int 0)) :
    Py l Z (⟨"java/util/Arrays", "copyOfRange", "([BII)[B"⟩ : MethodName) 3 48 1 6 #[(.ref v), .int 0, .int 6] h0 [] (fun rv h' => ∃ (t : Addr) (kt : ClassId), rv = some (.ref t) ∧ Arv Z h' t kt .byte (6 : Int32) [.int x0, .int x1, .int x2, .int x3, .int x4, .int x5] (.int 0) ∧ (h0.size ≤ t)) := by
  refine Ct.py (by0 := zc25) (ml := 3) (rt := (some (.array .byte))) (rm := ({ frames := 2, cells := 1, slots := 6, locals := 34 } : Room)) ?_ (hq hw 145 rfl) (hq hw 144 rfl)
  refine Ct.mk (a0 := a0) (Ls := #[.val (.ref v), .val (.int 0), .val (.int 6)]) (plainFor_of_name pn_java_util_Arrays) (fun m => by simp [entryFrame, mkF, argsToLocals, Value.category]) ?_
  intro κ C
  show Go l _ Z _ _ _ κ [] h0 0 #[.val (.ref v), .val (.int 0), .val (.int 6)] [] 0 0
  refine od' C 1 d27_0 rfl rfl (ot' C 4 d27_1 rfl (by decide) ?_)
  refine od' C 5 d27_4 rfl rfl (oc' C 6 d27_5 rfl rfl rfl ?_)
  refine oj' C 7 d27_6 rfl p0 (oi' C 10 d27_7 rfl (by decide) ?_)
  refine oc' C 11 d27_10 rfl rfl rfl (od' C 12 d27_11 rfl rfl ?_)
  refine od' C 13 d27_12 rfl rfl (or' C (argsL := [(.ref v), .int 0, .int 6]) (W := 0) d27_13 (hq hw 146 rfl) (hq hw 147 rfl) (hq hw 144 rfl) (hq hw 148 rfl) (by decide) pd___BII__B (ct_crb16_0_6 l Z a0 hw am (v := v) (kv := kv) (x0 := x0) (x1 := x1) (x2 := x2) (x3 := x3) (x4 := x4) (x5 := x5) (x6 := x6) (x7 := x7) (x8 := x8) (x9 := x9) (x10 := x10) (x11 := x11) (x12 := x12) (x13 := x13) (x14 := x14) (x15 := x15) p0) rfl (Nat.le_of_eq rfl) rfl (by decide) mems0 ?_)
  intro fv1 ph2 K3 fq4
  obtain ⟨t5, kt6, rfl, fx7, fx8⟩ := fq4
  refine ⟨[t5], (freshS ⟨fx8, (fx7).lt⟩ fresh0), ?_⟩
  show Go l _ Z _ _ _ κ [t5] _ 16 _ [(.ref t5)] 1 6
  refine ov' C (v := (.ref t5)) d27_16 rfl rfl rfl (by decide) (by decide) ?_
  exact ⟨t5, kt6, rfl, fx7, fx8⟩
theorem ct_gv (l : Launch) (Z : State) (a0 : Array Value) (hw : HW a0 Z) {cS : Int32} {fm : Value} (am : Amb Z a0 cS fm) {b v : Addr} {h0 : Heap} (p0 : Fld Z h0 b "java/lang/AbstractStringBuilder" "value" "[B" (.ref v)) :
    Py l Z (⟨"java/lang/AbstractStringBuilder", "getValue", "()[B"⟩ : MethodName) 1 12 0 0 #[(.ref b)] h0 [] (fun rv h' => rv = some (.ref v) ∧ h' = h0) := by
  refine Ct.py (by0 := zc33) (ml := 1) (rt := (some (.array .byte))) (rm := ({ frames := 0, cells := 0, slots := 0, locals := 0 } : Room)) ?_ (hq hw 128 rfl) (hq hw 56 rfl)
  refine Ct.mk (a0 := a0) (Ls := #[.val (.ref b)]) (plainFor_of_name pn_java_lang_AbstractStringBuilder) (fun m => by simp [entryFrame, mkF, argsToLocals, Value.category]) ?_
  intro κ C
  show Go l _ Z _ _ _ κ [] h0 0 #[.val (.ref b)] [] 0 0
  refine oc' C 1 d23_0 rfl rfl rfl (ok' C 4 d23_1 rfl (hq hw 60 rfl) Via.refl p0 ?_)
  refine ov' C (v := (.ref v)) d23_4 rfl rfl rfl (by decide) (by decide) ?_
  exact ⟨rfl, rfl⟩
theorem ct_ail (l : Launch) (Z : State) (a0 : Array Value) (hw : HW a0 Z) {cS : Int32} {fm : Value} (am : Amb Z a0 cS fm) {b : Addr} {h0 : Heap} (p0 : Fld Z h0 b "java/lang/AbstractStringBuilder" "coder" "B" (.int 0)) :
    Py l Z (⟨"java/lang/AbstractStringBuilder", "isLatin1", "()Z"⟩ : MethodName) 1 12 0 0 #[(.ref b)] h0 [] (fun rv h' => rv = some (.int 1) ∧ h' = h0) := by
  refine Ct.py (by0 := zc34) (ml := 1) (rt := (some .boolean)) (rm := ({ frames := 0, cells := 0, slots := 0, locals := 0 } : Room)) ?_ (hq hw 141 rfl) (hq hw 56 rfl)
  refine Ct.mk (a0 := a0) (Ls := #[.val (.ref b)]) (plainFor_of_name pn_java_lang_AbstractStringBuilder) (fun m => by simp [entryFrame, mkF, argsToLocals, Value.category]) ?_
  intro κ C
  show Go l _ Z _ _ _ κ [] h0 0 #[.val (.ref b)] [] 0 0
  refine oy1' C 3 d26_0 rfl (hq hw 59 rfl) am.2.1 (ot' C 6 d26_3 rfl (feq (am.2.2.1 : ¬ (cS = (0 : Int32)))).1 ?_)
  refine oc' C 7 d26_6 rfl rfl rfl (ok' C 10 d26_7 rfl (hq hw 62 rfl) Via.refl p0 ?_)
  refine ot' C 13 d26_10 rfl (by decide) (of' C 14 (1 : Int32) d26_13 rfl (by decide) ?_)
  refine om' C (pc' := 18) d26_14 (by decide) (by decide) (oz' C (t := .boolean) (z := (1 : Int32)) d26_18 rfl (by decide) (by decide) (by decide) (by decide) ?_)
  exact ⟨rfl, rfl⟩
theorem ct_aln (l : Launch) (Z : State) (a0 : Array Value) (hw : HW a0 Z) {cS : Int32} {fm : Value} (am : Amb Z a0 cS fm) {b : Addr} {n : Int32} {h0 : Heap} (p0 : Fld Z h0 b "java/lang/AbstractStringBuilder" "count" "I" (.int n)) :
    Py l Z (⟨"java/lang/AbstractStringBuilder", "length", "()I"⟩ : MethodName) 1 12 0 0 #[(.ref b)] h0 [] (fun rv h' => rv = some (.int n) ∧ h' = h0) := by
  refine Ct.py (by0 := zc35) (ml := 1) (rt := (some .int)) (rm := ({ frames := 0, cells := 0, slots := 0, locals := 0 } : Room)) ?_ (hq hw 136 rfl) (hq hw 56 rfl)
  refine Ct.mk (a0 := a0) (Ls := #[.val (.ref b)]) (plainFor_of_name pn_java_lang_AbstractStringBuilder) (fun m => by simp [entryFrame, mkF, argsToLocals, Value.category]) ?_
  intro κ C
  show Go l _ Z _ _ _ κ [] h0 0 #[.val (.ref b)] [] 0 0
  refine oc' C 1 d25_0 rfl rfl rfl (ok' C 4 d25_1 rfl (hq hw 85 rfl) Via.refl p0 ?_)
  refine ol1' C d25_4 rfl (by decide) (by decide) ?_
  exact ⟨rfl, rfl⟩
theorem ct_sln (l : Launch) (Z : State) (a0 : Array Value) (hw : HW a0 Z) {cS : Int32} {fm : Value} (am : Amb Z a0 cS fm) {b : Addr} {n : Int32} {h0 : Heap} (p0 : Exa Z h0 b "java/lang/StringBuilder") (p1 : Fld Z h0 b "java/lang/AbstractStringBuilder" "count" "I" (.int n)) :
    Py l Z (⟨"java/lang/StringBuilder", "length", "()I"⟩ : MethodName) 2 24 0 0 #[(.ref b)] h0 [] (fun rv h' => rv = some (.int n) ∧ h' = h0) := by
  refine Ct.py (by0 := zc30) (ml := 1) (rt := (some .int)) (rm := ({ frames := 1, cells := 0, slots := 0, locals := 12 } : Room)) ?_ (hq hw 134 rfl) (hq hw 48 rfl)
  refine Ct.mk (a0 := a0) (Ls := #[.val (.ref b)]) (plainFor_of_name pn_java_lang_StringBuilder) (fun m => by simp [entryFrame, mkF, argsToLocals, Value.category]) ?_
  intro κ C
  show Go l _ Z _ _ _ κ [] h0 0 #[.val (.ref b)] [] 0 0
  refine oc' C 1 d24_0 rfl rfl rfl (ov2' C (a := b) (argsL := []) (W := 0) d24_1 (by decide) (hq hw 135 rfl) (same_of (hq hw 131 rfl) (nf_cls (hq hw 90 rfl) rfl) (by decide)) (hq hw 131 rfl) (hq hw 72 rfl) (hq hw 136 rfl) p0 (by decide) pd___I (ct_aln l Z a0 hw am (b := b) (n := n) p1) rfl (Nat.le_of_eq rfl) rfl (by decide) mems0 ?_)
  intro fv1 ph2 K3 fq4
  obtain ⟨rfl, rfl⟩ := fq4
  refine ⟨[], fresh0, ?_⟩
  show Go l _ Z _ _ _ κ _ _ 4 _ [.int n] 0 0
  refine ol1' C d24_4 rfl (by decide) (by decide) ?_
  exact ⟨rfl, rfl⟩
theorem ct_sv6 (l : Launch) (Z : State) (a0 : Array Value) (hw : HW a0 Z) {cS : Int32} {fm : Value} (am : Amb Z a0 cS fm) {a b v : Addr} {kv : ClassId} {x0 x1 x2 x3 x4 x5 x6 x7 x8 x9 x10 x11 x12 x13 x14 x15 : Int32} {h0 : Heap} (p0 : Exa Z h0 a "java/lang/String") (p1 : Fld Z h0 a "java/lang/String" "value" "[B" .null) (p2 : Fld Z h0 a "java/lang/String" "coder" "B" (.int 0)) (p3 : Exa Z h0 b "java/lang/StringBuilder") (p4 : Fld Z h0 b "java/lang/AbstractStringBuilder" "count" "I" (.int 6)) (p5 : Fld Z h0 b "java/lang/AbstractStringBuilder" "coder" "B" (.int 0)) (p6 : Fld Z h0 b "java/lang/AbstractStringBuilder" "value" "[B" (.ref v)) (p7 : Arv Z h0 v kv .byte (16 : Int32) [.int x0, .int x1, .int x2, .int x3, .int x4, .int x5, .int x6, .int x7, .int x8, .int x9, .int x10, .int x11, .int x12, .int x13, .int x14, .int x15] (.int 0)) :
    Py l Z (⟨"java/lang/String", "<init>", "(Ljava/lang/AbstractStringBuilder;Ljava/lang/Void;)V"⟩ : MethodName) 4 65 1 6 #[(.ref a), (.ref b), .null] h0 [a] (fun rv h' => ∃ (t : Addr) (kt : ClassId), rv = none ∧ Exa Z h' a "java/lang/String" ∧ Fld Z h' a "java/lang/String" "coder" "B" (.int 0) ∧ Fld Z h' a "java/lang/String" "value" "[B" (.ref t) ∧ Arv Z h' t kt .byte (6 : Int32) [.int x0, .int x1, .int x2, .int x3, .int x4, .int x5] (.int 0) ∧ (h0.size ≤ t)) := by
  refine Ct.py (by0 := zc5) (ml := 5) (rt := none) (rm := ({ frames := 3, cells := 1, slots := 6, locals := 49 } : Room)) ?_ (hq hw 123 rfl) (hq hw 6 rfl)
  refine Ct.mk (a0 := a0) (Ls := #[.val (.ref a), .val (.ref b), .val .null, .unset, .unset]) (plainFor_of_name pn_java_lang_String) (fun m => by simp [entryFrame, mkF, argsToLocals, Value.category]) ?_
  intro κ C
  show Go l _ Z _ _ _ κ [a] h0 0 #[.val (.ref a), .val (.ref b), .val .null, .unset, .unset] [] 0 0
  refine oc' C 1 d22_0 rfl rfl rfl (oj2' C 4 (W := 0) d22_1 rfl (hq hw 15 rfl) (hq hw 16 rfl) (hq hw 17 rfl) rfl (by decide) (Nat.le_of_eq rfl) (by decide) ?_)
  refine oc' C 5 d22_4 rfl rfl rfl (oo' C (a := b) (argsL := []) (W := 0) d22_5 (hq hw 124 rfl) (hq hw 125 rfl) (nfS (hq hw 127 rfl)) (hq hw 127 rfl) (hq hw 126 rfl) p3 (by decide) pd____B (ct_gv l Z a0 hw am (b := b) (v := v) p6) rfl (Nat.le_of_eq rfl) rfl (by decide) mems0 ?_)
  intro fv1 ph2 K3 fq4
  obtain ⟨rfl, rfl⟩ := fq4
  refine ⟨[], fresh0, ?_⟩
  show Go l _ Z _ _ _ κ _ _ 8 _ [(.ref v)] 0 0
  refine ov1' C 9 (Ls' := #[.val (.ref a), .val (.ref b), .val .null, .val (.ref v), .unset]) d22_8 rfl rfl rfl (oc' C 10 d22_9 rfl rfl rfl ?_)
  refine oo' C (a := b) (argsL := []) (W := 0) d22_10 (hq hw 129 rfl) (hq hw 130 rfl) (fun _ hZ => nf_cls (a0 := #[]) (mvT hZ (hq hw 90 rfl)) rfl) (hq hw 132 rfl) (hq hw 133 rfl) p3 (by decide) pd___I (ct_sln l Z a0 hw am (b := b) (n := (6 : Int32)) p3 p4) rfl (Nat.le_of_eq rfl) rfl (by decide) mems0 ?_
  intro fv5 ph6 K7 fq8
  obtain ⟨rfl, rfl⟩ := fq8
  refine ⟨[], fresh0, ?_⟩
  show Go l _ Z _ _ _ κ _ _ 13 _ [.int 6] 0 0
  refine ol' C 15 (Ls' := #[.val (.ref a), .val (.ref b), .val .null, .val (.ref v), .val (.int 6)]) d22_13 rfl rfl (oc' C 16 d22_15 rfl rfl rfl ?_)
  refine oo' C (a := b) (argsL := []) (W := 0) d22_16 (hq hw 137 rfl) (hq hw 138 rfl) (nfS (hq hw 140 rfl)) (hq hw 140 rfl) (hq hw 139 rfl) p3 (by decide) pd___Z (ct_ail l Z a0 hw am (b := b) p5) rfl (Nat.le_of_eq rfl) rfl (by decide) mems0 ?_
  intro fv9 ph10 K11 fq12
  obtain ⟨rfl, rfl⟩ := fq12
  refine ⟨[], fresh0, ?_⟩
  show Go l _ Z _ _ _ κ _ _ 19 _ [.int 1] 0 0
  refine ot' C 22 d22_19 rfl (by decide) (oc' C 23 d22_22 rfl rfl rfl ?_)
  refine of' C 24 (0 : Int32) d22_23 rfl (by decide) (ol2' C 27 (ty := .byte) (v' := .int 0) d22_24 rfl (hq hw 30 rfl) Via.refl p2 p0 (Or.inr ⟨(hq hw 31 rfl), rfl, rfl⟩) (hq hw 5 rfl) (by decide) rfl (by decide) (mi 0 rfl) ?_)
  intro ph13 W14
  have fx15 : Fld Z ph13 a "java/lang/String" "coder" "B" (.int 0) := Fld.same W14 p2
  refine oc' C 28 d22_27 rfl rfl rfl (oc' C 29 d22_28 rfl rfl rfl ?_)
  refine of' C 30 (0 : Int32) d22_29 rfl (by decide) (oa' C 32 d22_30 rfl rfl ?_)
  have fx16 := (p7.other W14 (Ne.symm (Exa.neArv p0 p7 (hq hw 5 rfl))))
  refine or' C (argsL := [(.ref v), .int 0, .int 6]) (W := 1) d22_32 (hq hw 142 rfl) (hq hw 143 rfl) (hq hw 144 rfl) (hq hw 145 rfl) (by decide) pd___BII__B (ct_cor16_0_6 l Z a0 hw am (v := v) (kv := kv) (x0 := x0) (x1 := x1) (x2 := x2) (x3 := x3) (x4 := x4) (x5 := x5) (x6 := x6) (x7 := x7) (x8 := x8) (x9 := x9) (x10 := x10) (x11 := x11) (x12 := x12) (x13 := x13) (x14 := x14) (x15 := x15) fx16) rfl (Nat.le_of_eq rfl) rfl (by decide) mems0 ?_
  intro fv17 ph18 K19 fq20
  obtain ⟨t21, kt22, rfl, fx23, fx24⟩ := fq20
  refine ⟨[t21], (freshS ⟨fx24, (fx23).lt⟩ fresh0), ?_⟩
  show Go l _ Z _ _ _ κ [t21, a] _ 35 _ [(.ref t21), (.ref a)] 1 6
  have fx25 := ((Fld.other W14 p1 (Or.inr (slot_ne (Or.inr (hq hw 33 rfl)) (Or.inr (hq hw 31 rfl)) (by decide) (t := (.array .byte)) (t' := .byte) (by decide) (by decide)))).keep K19 nin0)
  have fx26 := ((Exa.wr W14 p0).keep K19)
  refine oh1' C 38 (ty := (.array .byte)) d22_35 rfl (hq hw 32 rfl) Via.refl fx25 fx26 (Or.inr ⟨(hq hw 33 rfl), rfl, rfl⟩) (hq hw 5 rfl) (by decide) rfl rfl (mi 1 rfl) ?_
  intro ph27 W28
  have fx29 : Fld Z ph27 a "java/lang/String" "value" "[B" (.ref t21) := Fld.same W28 fx25
  refine om' C (pc' := 97) d22_38 (by decide) (by decide) (oe' C d22_97 rfl (by decide) (by decide) ?_)
  have fx30 := (Exa.wr W28 fx26)
  have fx31 := (Fld.other W28 (fx15.keep K19 nin0) (Or.inr (slot_ne (Or.inr (hq hw 31 rfl)) (Or.inr (hq hw 33 rfl)) (by decide) (t := .byte) (t' := (.array .byte)) (by decide) (by decide))))
  have fx32 := (fx23.other W28 (Ne.symm (Nat.ne_of_lt (nltle (nltle (p0).lt (Nat.le_of_eq W14.size.symm)) fx24))))
  exact ⟨t21, kt22, rfl, fx30, fx31, fx29, fx32, (Nat.le_trans (Nat.le_of_eq W14.size.symm) fx24)⟩
theorem ct_sb6 (l : Launch) (Z : State) (a0 : Array Value) (hw : HW a0 Z) {cS : Int32} {fm : Value} (am : Amb Z a0 cS fm) {a b v : Addr} {kv : ClassId} {x0 x1 x2 x3 x4 x5 x6 x7 x8 x9 x10 x11 x12 x13 x14 x15 : Int32} {h0 : Heap} (p0 : Exa Z h0 a "java/lang/String") (p1 : Fld Z h0 a "java/lang/String" "value" "[B" .null) (p2 : Fld Z h0 a "java/lang/String" "coder" "B" (.int 0)) (p3 : Exa Z h0 b "java/lang/StringBuilder") (p4 : Fld Z h0 b "java/lang/AbstractStringBuilder" "count" "I" (.int 6)) (p5 : Fld Z h0 b "java/lang/AbstractStringBuilder" "coder" "B" (.int 0)) (p6 : Fld Z h0 b "java/lang/AbstractStringBuilder" "value" "[B" (.ref v)) (p7 : Arv Z h0 v kv .byte (16 : Int32) [.int x0, .int x1, .int x2, .int x3, .int x4, .int x5, .int x6, .int x7, .int x8, .int x9, .int x10, .int x11, .int x12, .int x13, .int x14, .int x15] (.int 0)) :
    Py l Z (⟨"java/lang/String", "<init>", "(Ljava/lang/StringBuilder;)V"⟩ : MethodName) 5 78 1 6 #[(.ref a), (.ref b)] h0 [a] (fun rv h' => ∃ (t : Addr) (kt : ClassId), rv = none ∧ Exa Z h' a "java/lang/String" ∧ Fld Z h' a "java/lang/String" "coder" "B" (.int 0) ∧ Fld Z h' a "java/lang/String" "value" "[B" (.ref t) ∧ Arv Z h' t kt .byte (6 : Int32) [.int x0, .int x1, .int x2, .int x3, .int x4, .int x5] (.int 0) ∧ (h0.size ≤ t)) := by
  refine Ct.py (by0 := zc11) (ml := 2) (rt := none) (rm := ({ frames := 4, cells := 1, slots := 6, locals := 65 } : Room)) ?_ (hq hw 120 rfl) (hq hw 6 rfl)
  refine Ct.mk (a0 := a0) (Ls := #[.val (.ref a), .val (.ref b)]) (plainFor_of_name pn_java_lang_String) (fun m => by simp [entryFrame, mkF, argsToLocals, Value.category]) ?_
  intro κ C
  show Go l _ Z _ _ _ κ [a] h0 0 #[.val (.ref a), .val (.ref b)] [] 0 0
  refine oc' C 1 d21_0 rfl rfl rfl (oc' C 2 d21_1 rfl rfl rfl ?_)
  refine oo2' C 3 d21_2 rfl (oq1' C (a := a) (argsL := [(.ref b), .null]) (W := 0) d21_3 rfl (hq hw 121 rfl) (hq hw 122 rfl) (hq hw 123 rfl) (by decide) pd__Ljava_lang_AbstractStringBuilder_Ljava_lang_Void__V (ct_sv6 l Z a0 hw am (a := a) (b := b) (v := v) (kv := kv) (x0 := x0) (x1 := x1) (x2 := x2) (x3 := x3) (x4 := x4) (x5 := x5) (x6 := x6) (x7 := x7) (x8 := x8) (x9 := x9) (x10 := x10) (x11 := x11) (x12 := x12) (x13 := x13) (x14 := x14) (x15 := x15) p0 p1 p2 p3 p4 p5 p6 p7) rfl (Nat.le_of_eq rfl) rfl (by decide) (memsS (mi 0 rfl) mems0) ?_)
  intro fv1 ph2 K3 fq4
  obtain ⟨t5, kt6, rfl, fx7, fx8, fx9, fx10, fx11⟩ := fq4
  refine ⟨[t5], (freshS ⟨fx11, (fx10).lt⟩ fresh0), ?_⟩
  show Go l _ Z _ _ _ κ [t5, a] _ 6 _ [] 1 6
  refine oe' C d21_6 rfl (by decide) (by decide) ?_
  exact ⟨t5, kt6, rfl, fx7, fx8, fx9, fx10, fx11⟩
theorem ct_ts6 (l : Launch) (Z : State) (a0 : Array Value) (hw : HW a0 Z) {cS : Int32} {fm : Value} (am : Amb Z a0 cS fm) {b v : Addr} {kv : ClassId} {x0 x1 x2 x3 x4 x5 x6 x7 x8 x9 x10 x11 x12 x13 x14 x15 : Int32} {h0 : Heap} (p0 : Exa Z h0 b "java/lang/StringBuilder") (p1 : Fld Z h0 b "java/lang/AbstractStringBuilder" "count" "I" (.int 6)) (p2 : Fld Z h0 b "java/lang/AbstractStringBuilder" "coder" "B" (.int 0)) (p3 : Fld Z h0 b "java/lang/AbstractStringBuilder" "value" "[B" (.ref v)) (p4 : Arv Z h0 v kv .byte (16 : Int32) [.int x0, .int x1, .int x2, .int x3, .int x4, .int x5, .int x6, .int x7, .int x8, .int x9, .int x10, .int x11, .int x12, .int x13, .int x14, .int x15] (.int 0)) :
    Py l Z (⟨"java/lang/StringBuilder", "toString", "()Ljava/lang/String;"⟩ : MethodName) 6 91 2 10 #[(.ref b)] h0 [] (fun rv h' => ∃ (a : Addr) (t : Addr) (kt : ClassId), rv = some (.ref a) ∧ Exa Z h' a "java/lang/String" ∧ Fld Z h' a "java/lang/String" "coder" "B" (.int 0) ∧ Fld Z h' a "java/lang/String" "value" "[B" (.ref t) ∧ Arv Z h' t kt .byte (6 : Int32) [.int x0, .int x1, .int x2, .int x3, .int x4, .int x5] (.int 0) ∧ (h0.size ≤ t) ∧ (h0.size ≤ a)) := by
  refine Ct.py (by0 := zc28) (ml := 1) (rt := (some (.object "java/lang/String"))) (rm := ({ frames := 5, cells := 2, slots := 10, locals := 79 } : Room)) ?_ (hq hw 116 rfl) (hq hw 48 rfl)
  refine Ct.mk (a0 := a0) (Ls := #[.val (.ref b)]) (plainFor_of_name pn_java_lang_StringBuilder) (fun m => by simp [entryFrame, mkF, argsToLocals, Value.category]) ?_
  intro κ C
  show Go l _ Z _ _ _ κ [] h0 0 #[.val (.ref b)] [] 0 0
  refine oc1' C 3 1 4 d20_0 rfl rfl rfl (hq hw 117 rfl) (hq hw 5 rfl) (hq hw 6 rfl) (by decide) (by decide) ?_
  intro b1 ph2 g3 E4 A5 D6
  have fx7 : Fld Z ph2 b1 "java/lang/String" "coder" "B" (.int 0) := D6 (Or.inr (hq hw 31 rfl)) (ty := .byte) (by decide)
  have fx8 : Fld Z ph2 b1 "java/lang/String" "value" "[B" .null := D6 (Or.inr (hq hw 33 rfl)) (ty := (.array .byte)) (by decide)
  refine ou' C 4 d20_3 rfl rfl (oc' C 5 d20_4 rfl rfl rfl ?_)
  have fx9 := (Exa.ext E4 p0)
  have fx10 := (Fld.ext E4 p1)
  have fx11 := (Fld.ext E4 p2)
  have fx12 := (Fld.ext E4 p3)
  have fx13 := (p4.ext E4)
  refine oq1' C (a := b1) (argsL := [(.ref b)]) (W := 1) d20_5 rfl (hq hw 118 rfl) (hq hw 119 rfl) (hq hw 120 rfl) (by decide) pd__Ljava_lang_StringBuilder__V (ct_sb6 l Z a0 hw am (a := b1) (b := b) (v := v) (kv := kv) (x0 := x0) (x1 := x1) (x2 := x2) (x3 := x3) (x4 := x4) (x5 := x5) (x6 := x6) (x7 := x7) (x8 := x8) (x9 := x9) (x10 := x10) (x11 := x11) (x12 := x12) (x13 := x13) (x14 := x14) (x15 := x15) A5 fx8 fx7 fx9 fx10 fx11 fx12 fx13) rfl (Nat.le_of_eq rfl) rfl (by decide) (memsS (mi 0 rfl) mems0) ?_
  intro fv14 ph15 K16 fq17
  obtain ⟨t18, kt19, rfl, fx20, fx21, fx22, fx23, fx24⟩ := fq17
  refine ⟨[t18], (freshS ⟨fx24, (fx23).lt⟩ fresh0), ?_⟩
  show Go l _ Z _ _ _ κ [t18, b1] _ 8 _ [(.ref b1)] 2 10
  refine ov' C (v := (.ref b1)) d20_8 rfl rfl rfl (by decide) (by decide) ?_
  exact ⟨b1, t18, kt19, rfl, fx20, fx21, fx22, fx23, (Nat.le_trans E4.1 fx24), (Nat.le_of_eq g3.symm)⟩
theorem ct_len0_1 (l : Launch) (Z : State) (a0 : Array Value) (hw : HW a0 Z) {cS : Int32} {fm : Value} (am : Amb Z a0 cS fm) {s t : Addr} {kB : ClassId} {vs : List Value} {h0 : Heap} (p0 : Exa Z h0 s "java/lang/String") (p1 : Fld Z h0 s "java/lang/String" "coder" "B" (.int 0)) (p2 : Fld Z h0 s "java/lang/String" "value" "[B" (.ref t)) (p3 : Arv Z h0 t kB .byte (1 : Int32) vs (.int 0)) :
    Py l Z (⟨"java/lang/String", "length", "()I"⟩ : MethodName) 2 25 0 0 #[(.ref s)] h0 [] (fun rv h' => rv = some (.int 1) ∧ h' = h0) := by
  refine Ct.py (by0 := zc12) (ml := 1) (rt := (some .int)) (rm := ({ frames := 1, cells := 0, slots := 0, locals := 13 } : Room)) ?_ (hq hw 79 rfl) (hq hw 6 rfl)
  refine Ct.mk (a0 := a0) (Ls := #[.val (.ref s)]) (plainFor_of_name pn_java_lang_String) (fun m => by simp [entryFrame, mkF, argsToLocals, Value.category]) ?_
  intro κ C
  show Go l _ Z _ _ _ κ [] h0 0 #[.val (.ref s)] [] 0 0
  refine oc' C 1 d14_0 rfl rfl rfl (ok' C 4 d14_1 rfl (hq hw 32 rfl) Via.refl p2 ?_)
  refine oj' C 5 d14_4 rfl p3 (oc' C 6 d14_5 rfl rfl rfl ?_)
  refine oo' C (a := s) (argsL := []) (W := 1) d14_6 (hq hw 80 rfl) (hq hw 81 rfl) (nfS (hq hw 83 rfl)) (hq hw 83 rfl) (hq hw 82 rfl) p0 (by decide) pd___B (ct_cod0 l Z a0 hw am (s := s) p1) rfl (Nat.le_of_eq rfl) rfl (by decide) mems0 ?_
  intro fv1 ph2 K3 fq4
  obtain ⟨rfl, rfl⟩ := fq4
  refine ⟨[], fresh0, ?_⟩
  show Go l _ Z _ _ _ κ _ _ 9 _ [.int 0, .int 1] 0 0
  refine om2' C 10 (1 : Int32) d14_9 rfl (by decide) (ol1' C d14_10 rfl (by decide) (by decide) ?_)
  exact ⟨rfl, rfl⟩
theorem ct_ens7 (l : Launch) (Z : State) (a0 : Array Value) (hw : HW a0 Z) {cS : Int32} {fm : Value} (am : Amb Z a0 cS fm) {b v : Addr} {kv : ClassId} {vs : List Value} {h0 : Heap} (p0 : Fld Z h0 b "java/lang/AbstractStringBuilder" "coder" "B" (.int 0)) (p1 : Fld Z h0 b "java/lang/AbstractStringBuilder" "value" "[B" (.ref v)) (p2 : Arv Z h0 v kv .byte (16 : Int32) vs (.int 0)) :
    Py l Z (⟨"java/lang/AbstractStringBuilder", "ensureCapacityInternal", "(I)V"⟩ : MethodName) 1 14 0 0 #[(.ref b), .int 7] h0 [] (fun rv h' => rv = none ∧ h' = h0) := by
  refine Ct.py (by0 := zc38) (ml := 3) (rt := none) (rm := ({ frames := 0, cells := 0, slots := 0, locals := 0 } : Room)) ?_ (hq hw 91 rfl) (hq hw 56 rfl)
  refine Ct.mk (a0 := a0) (Ls := #[.val (.ref b), .val (.int 7), .unset]) (plainFor_of_name pn_java_lang_AbstractStringBuilder) (fun m => by simp [entryFrame, mkF, argsToLocals, Value.category]) ?_
  intro κ C
  show Go l _ Z _ _ _ κ [] h0 0 #[.val (.ref b), .val (.int 7), .unset] [] 0 0
  refine oc' C 1 d16_0 rfl rfl rfl (ok' C 4 d16_1 rfl (hq hw 60 rfl) Via.refl p1 ?_)
  refine oj' C 5 d16_4 rfl p2 (oc' C 6 d16_5 rfl rfl rfl ?_)
  refine ok' C 9 d16_6 rfl (hq hw 62 rfl) Via.refl p0 (om2' C 10 (16 : Int32) d16_9 rfl (by decide) ?_)
  refine op1' C 11 (Ls' := #[.val (.ref b), .val (.int 7), .val (.int 16)]) d16_10 rfl rfl (od' C 12 d16_11 rfl rfl ?_)
  refine od' C 13 d16_12 rfl rfl (oj1' C 14 (-9 : Int32) d16_13 rfl (by decide) ?_)
  refine om1' C (pc' := 38) d16_14 (by decide) (by decide) (by decide) (oe' C d16_38 rfl (by decide) (by decide) ?_)
  exact ⟨rfl, rfl⟩
theorem ct_gb6_1 (l : Launch) (Z : State) (a0 : Array Value) (hw : HW a0 Z) {cS : Int32} {fm : Value} (am : Amb Z a0 cS fm) {v s t : Addr} {kv kt : ClassId} {x0 x1 x2 x3 x4 x5 y0 : Int32} {h0 : Heap} (p0 : Exa Z h0 s "java/lang/String") (p1 : Fld Z h0 s "java/lang/String" "coder" "B" (.int 0)) (p2 : Fld Z h0 s "java/lang/String" "value" "[B" (.ref t)) (p3 : Arv Z h0 t kt .byte (1 : Int32) [.int y0] (.int 0)) (p4 : Arv Z h0 v kv .byte (16 : Int32) [.int x0, .int x1, .int x2, .int x3, .int x4, .int x5, .int 0, .int 0, .int 0, .int 0, .int 0, .int 0, .int 0, .int 0, .int 0, .int 0] (.int 0)) (htv : t ≠ v) :
    Py l Z (⟨"java/lang/String", "getBytes", "([BIB)V"⟩ : MethodName) 2 33 0 0 #[(.ref s), (.ref v), .int 6, .int 0] h0 [v] (fun rv h' => rv = none ∧ Arv Z h' v kv .byte (16 : Int32) [.int x0, .int x1, .int x2, .int x3, .int x4, .int x5, .int y0, .int 0, .int 0, .int 0, .int 0, .int 0, .int 0, .int 0, .int 0, .int 0] (.int 0)) := by
  refine Ct.py (by0 := zc3) (ml := 4) (rt := none) (rm := ({ frames := 1, cells := 0, slots := 0, locals := 18 } : Room)) ?_ (hq hw 107 rfl) (hq hw 6 rfl)
  refine Ct.mk (a0 := a0) (Ls := #[.val (.ref s), .val (.ref v), .val (.int 6), .val (.int 0)]) (plainFor_of_name pn_java_lang_String) (fun m => by simp [entryFrame, mkF, argsToLocals, Value.category]) ?_
  intro κ C
  show Go l _ Z _ _ _ κ [v] h0 0 #[.val (.ref s), .val (.ref v), .val (.int 6), .val (.int 0)] [] 0 0
  refine oc' C 1 d19_0 rfl rfl rfl (oo' C (a := s) (argsL := []) (W := 0) d19_1 (hq hw 80 rfl) (hq hw 81 rfl) (nfS (hq hw 83 rfl)) (hq hw 83 rfl) (hq hw 82 rfl) p0 (by decide) pd___B (ct_cod0 l Z a0 hw am (s := s) p1) rfl (Nat.le_of_eq rfl) rfl (by decide) mems0 ?_)
  intro fv1 ph2 K3 fq4
  obtain ⟨rfl, rfl⟩ := fq4
  refine ⟨[], fresh0, ?_⟩
  show Go l _ Z _ _ _ κ _ _ 4 _ [.int 0] 0 0
  refine od' C 5 d19_4 rfl rfl (oi' C 8 d19_5 rfl (by decide) ?_)
  refine oc' C 9 d19_8 rfl rfl rfl (ok' C 12 d19_9 rfl (hq hw 32 rfl) Via.refl p2 ?_)
  refine of' C 13 (0 : Int32) d19_12 rfl (by decide) (oc' C 14 d19_13 rfl rfl rfl ?_)
  refine od' C 15 d19_14 rfl rfl (od' C 16 d19_15 rfl rfl ?_)
  refine ob3' C 17 (6 : Int32) d19_16 rfl (by decide) (oc' C 18 d19_17 rfl rfl rfl ?_)
  refine ok' C 21 d19_18 rfl (hq hw 32 rfl) Via.refl p2 (oj' C 22 d19_21 rfl p3 ?_)
  refine on2' C 25 (W := 0) (us := [.int y0]) (vr := [.int x0, .int x1, .int x2, .int x3, .int x4, .int x5, .int y0, .int 0, .int 0, .int 0, .int 0, .int 0, .int 0, .int 0, .int 0, .int 0]) d19_22 rfl (hq hw 108 rfl) (hq hw 111 rfl) (hq hw 109 rfl) (hq hw 110 rfl) p3 p4 rfl (by decide) (by decide) (by decide) (by decide) (by decide) rfl (nble rfl) rfl rfl (by decide) (Nat.le_of_eq rfl) (by decide) (mi 0 rfl) ?_
  intro ph5 K6 fx7
  refine om' C (pc' := 43) d19_25 (by decide) (by decide) (oe' C d19_43 rfl (by decide) (by decide) ?_)
  exact ⟨rfl, fx7⟩
theorem ct_psa6_1 (l : Launch) (Z : State) (a0 : Array Value) (hw : HW a0 Z) {cS : Int32} {fm : Value} (am : Amb Z a0 cS fm) {b v s t : Addr} {kv kt : ClassId} {x0 x1 x2 x3 x4 x5 y0 : Int32} {h0 : Heap} (p0 : Exa Z h0 b "java/lang/StringBuilder") (p1 : Fld Z h0 b "java/lang/AbstractStringBuilder" "count" "I" (.int 6)) (p2 : Fld Z h0 b "java/lang/AbstractStringBuilder" "coder" "B" (.int 0)) (p3 : Fld Z h0 b "java/lang/AbstractStringBuilder" "value" "[B" (.ref v)) (p4 : Arv Z h0 v kv .byte (16 : Int32) [.int x0, .int x1, .int x2, .int x3, .int x4, .int x5, .int 0, .int 0, .int 0, .int 0, .int 0, .int 0, .int 0, .int 0, .int 0, .int 0] (.int 0)) (p5 : Exa Z h0 s "java/lang/String") (p6 : Fld Z h0 s "java/lang/String" "coder" "B" (.int 0)) (p7 : Fld Z h0 s "java/lang/String" "value" "[B" (.ref t)) (p8 : Arv Z h0 t kt .byte (1 : Int32) [.int y0] (.int 0)) (htv : t ≠ v) :
    Py l Z (⟨"java/lang/AbstractStringBuilder", "putStringAt", "(ILjava/lang/String;)V"⟩ : MethodName) 3 47 0 0 #[(.ref b), .int 6, (.ref s)] h0 [v] (fun rv h' => rv = none ∧ Arv Z h' v kv .byte (16 : Int32) [.int x0, .int x1, .int x2, .int x3, .int x4, .int x5, .int y0, .int 0, .int 0, .int 0, .int 0, .int 0, .int 0, .int 0, .int 0, .int 0] (.int 0)) := by
  refine Ct.py (by0 := zc37) (ml := 3) (rt := none) (rm := ({ frames := 2, cells := 0, slots := 0, locals := 33 } : Room)) ?_ (hq hw 96 rfl) (hq hw 56 rfl)
  refine Ct.mk (a0 := a0) (Ls := #[.val (.ref b), .val (.int 6), .val (.ref s)]) (plainFor_of_name pn_java_lang_AbstractStringBuilder) (fun m => by simp [entryFrame, mkF, argsToLocals, Value.category]) ?_
  intro κ C
  show Go l _ Z _ _ _ κ [v] h0 0 #[.val (.ref b), .val (.int 6), .val (.ref s)] [] 0 0
  refine oc' C 1 d17_0 rfl rfl rfl (oc' C 2 d17_1 rfl rfl rfl ?_)
  refine oo' C (a := b) (argsL := [(.ref s)]) (W := 0) d17_2 (hq hw 97 rfl) (decl_of (hq hw 98 rfl) (hq hw 101 rfl)) (nfS (hq hw 100 rfl)) (hq hw 100 rfl) (hq hw 98 rfl) p0 (by decide) pd__Ljava_lang_String__V (ct_infl l Z a0 hw am (b := b) (s := s) p2 p5 p6) rfl (Nat.le_of_eq rfl) rfl (by decide) mems0 ?_
  intro fv1 ph2 K3 fq4
  obtain ⟨rfl, rfl⟩ := fq4
  refine ⟨[], fresh0, ?_⟩
  show Go l _ Z _ _ _ κ _ _ 5 _ [] 0 0
  refine oc' C 6 d17_5 rfl rfl rfl (oc' C 7 d17_6 rfl rfl rfl ?_)
  refine ok' C 10 d17_7 rfl (hq hw 60 rfl) Via.refl p3 (od' C 11 d17_10 rfl rfl ?_)
  refine oc' C 12 d17_11 rfl rfl rfl (ok' C 15 d17_12 rfl (hq hw 62 rfl) Via.refl p2 ?_)
  refine oo' C (a := s) (argsL := [(.ref v), .int 6, .int 0]) (W := 0) d17_15 (hq hw 103 rfl) (hq hw 104 rfl) (nfS (hq hw 106 rfl)) (hq hw 106 rfl) (hq hw 105 rfl) p5 (by decide) pd___BIB_V (ct_gb6_1 l Z a0 hw am (v := v) (s := s) (t := t) (kv := kv) (kt := kt) (x0 := x0) (x1 := x1) (x2 := x2) (x3 := x3) (x4 := x4) (x5 := x5) (y0 := y0) p5 p6 p7 p8 p4 htv) rfl (Nat.le_of_eq rfl) rfl (by decide) (memsS (mi 0 rfl) mems0) ?_
  intro fv5 ph6 K7 fq8
  obtain ⟨rfl, fx9⟩ := fq8
  refine ⟨[], fresh0, ?_⟩
  show Go l _ Z _ _ _ κ _ _ 18 _ [] 0 0
  refine oe' C d17_18 rfl (by decide) (by decide) ?_
  exact ⟨rfl, fx9⟩
theorem ct_aap6_1 (l : Launch) (Z : State) (a0 : Array Value) (hw : HW a0 Z) {cS : Int32} {fm : Value} (am : Amb Z a0 cS fm) {b v s t : Addr} {kv kt : ClassId} {x0 x1 x2 x3 x4 x5 y0 : Int32} {h0 : Heap} (p0 : Exa Z h0 b "java/lang/StringBuilder") (p1 : Fld Z h0 b "java/lang/AbstractStringBuilder" "count" "I" (.int 6)) (p2 : Fld Z h0 b "java/lang/AbstractStringBuilder" "coder" "B" (.int 0)) (p3 : Fld Z h0 b "java/lang/AbstractStringBuilder" "value" "[B" (.ref v)) (p4 : Arv Z h0 v kv .byte (16 : Int32) [.int x0, .int x1, .int x2, .int x3, .int x4, .int x5, .int 0, .int 0, .int 0, .int 0, .int 0, .int 0, .int 0, .int 0, .int 0, .int 0] (.int 0)) (p5 : Exa Z h0 s "java/lang/String") (p6 : Fld Z h0 s "java/lang/String" "coder" "B" (.int 0)) (p7 : Fld Z h0 s "java/lang/String" "value" "[B" (.ref t)) (p8 : Arv Z h0 t kt .byte (1 : Int32) [.int y0] (.int 0)) (htv : t ≠ v) :
    Py l Z (⟨"java/lang/AbstractStringBuilder", "append", "(Ljava/lang/String;)Ljava/lang/AbstractStringBuilder;"⟩ : MethodName) 4 61 0 0 #[(.ref b), (.ref s)] h0 [b, v] (fun rv h' => rv = some (.ref b) ∧ Exa Z h' b "java/lang/StringBuilder" ∧ Fld Z h' b "java/lang/AbstractStringBuilder" "count" "I" (.int 7) ∧ Fld Z h' b "java/lang/AbstractStringBuilder" "coder" "B" (.int 0) ∧ Fld Z h' b "java/lang/AbstractStringBuilder" "value" "[B" (.ref v) ∧ Arv Z h' v kv .byte (16 : Int32) [.int x0, .int x1, .int x2, .int x3, .int x4, .int x5, .int y0, .int 0, .int 0, .int 0, .int 0, .int 0, .int 0, .int 0, .int 0, .int 0] (.int 0)) := by
  refine Ct.py (by0 := zc31) (ml := 3) (rt := (some (.object "java/lang/AbstractStringBuilder"))) (rm := ({ frames := 3, cells := 0, slots := 0, locals := 47 } : Room)) ?_ (hq hw 74 rfl) (hq hw 56 rfl)
  refine Ct.mk (a0 := a0) (Ls := #[.val (.ref b), .val (.ref s), .unset]) (plainFor_of_name pn_java_lang_AbstractStringBuilder) (fun m => by simp [entryFrame, mkF, argsToLocals, Value.category]) ?_
  intro κ C
  show Go l _ Z _ _ _ κ [b, v] h0 0 #[.val (.ref b), .val (.ref s), .unset] [] 0 0
  refine oc' C 1 d13_0 rfl rfl rfl (oa3' C (pc' := 9) d13_1 (by decide) (by decide) ?_)
  refine oc' C 10 d13_9 rfl rfl rfl (oo' C (a := s) (argsL := []) (W := 0) d13_10 (hq hw 75 rfl) (hq hw 76 rfl) (nfS (hq hw 78 rfl)) (hq hw 78 rfl) (hq hw 77 rfl) p5 (by decide) pd___I (ct_len0_1 l Z a0 hw am (s := s) (t := t) (kB := kt) (vs := [.int y0]) p5 p6 p7 p8) rfl (Nat.le_of_eq rfl) rfl (by decide) mems0 ?_)
  intro fv1 ph2 K3 fq4
  obtain ⟨rfl, rfl⟩ := fq4
  refine ⟨[], fresh0, ?_⟩
  show Go l _ Z _ _ _ κ _ _ 13 _ [.int 1] 0 0
  refine op1' C 14 (Ls' := #[.val (.ref b), .val (.ref s), .val (.int 1)]) d13_13 rfl rfl (oc' C 15 d13_14 rfl rfl rfl ?_)
  refine oc' C 16 d13_15 rfl rfl rfl (ok' C 19 d13_16 rfl (hq hw 85 rfl) Via.refl p1 ?_)
  refine od' C 20 d13_19 rfl rfl (ox1' C 21 (7 : Int32) d13_20 rfl (by decide) ?_)
  refine oo' C (a := b) (argsL := [.int 7]) (W := 0) d13_21 (hq hw 87 rfl) (decl_of (hq hw 88 rfl) (hq hw 91 rfl)) (nfS (hq hw 90 rfl)) (hq hw 90 rfl) (hq hw 88 rfl) p0 (by decide) pd__I_V (ct_ens7 l Z a0 hw am (b := b) (v := v) (kv := kv) (vs := [.int x0, .int x1, .int x2, .int x3, .int x4, .int x5, .int 0, .int 0, .int 0, .int 0, .int 0, .int 0, .int 0, .int 0, .int 0, .int 0]) p2 p3 p4) rfl (Nat.le_of_eq rfl) rfl (by decide) mems0 ?_
  intro fv5 ph6 K7 fq8
  obtain ⟨rfl, rfl⟩ := fq8
  refine ⟨[], fresh0, ?_⟩
  show Go l _ Z _ _ _ κ _ _ 24 _ [] 0 0
  refine oc' C 25 d13_24 rfl rfl rfl (oc' C 26 d13_25 rfl rfl rfl ?_)
  refine ok' C 29 d13_26 rfl (hq hw 85 rfl) Via.refl p1 (oc' C 30 d13_29 rfl rfl rfl ?_)
  refine oo' C (a := b) (argsL := [.int 6, (.ref s)]) (W := 0) d13_30 (hq hw 92 rfl) (decl_of (hq hw 93 rfl) (hq hw 96 rfl)) (nfS (hq hw 95 rfl)) (hq hw 95 rfl) (hq hw 93 rfl) p0 (by decide) pd__ILjava_lang_String__V (ct_psa6_1 l Z a0 hw am (b := b) (v := v) (s := s) (t := t) (kv := kv) (kt := kt) (x0 := x0) (x1 := x1) (x2 := x2) (x3 := x3) (x4 := x4) (x5 := x5) (y0 := y0) p0 p1 p2 p3 p4 p5 p6 p7 p8 htv) rfl (Nat.le_of_eq rfl) rfl (by decide) (memsS (mi 1 rfl) mems0) ?_
  intro fv9 ph10 K11 fq12
  obtain ⟨rfl, fx13⟩ := fq12
  refine ⟨[], fresh0, ?_⟩
  show Go l _ Z _ _ _ κ _ _ 33 _ [] 0 0
  refine oc' C 34 d13_33 rfl rfl rfl (ou' C 35 d13_34 rfl rfl ?_)
  have fx14 := (p1.keep K11 (ninS (Exa.neArv (p0.keep K11) fx13 (hq hw 47 rfl)) nin0))
  refine ok' C 38 d13_35 rfl (hq hw 85 rfl) Via.refl fx14 (od' C 39 d13_38 rfl rfl ?_)
  refine ox1' C 40 (7 : Int32) d13_39 rfl (by decide) ?_
  have fx15 := (p0.keep K11)
  refine oh1' C 43 (ty := .int) d13_40 rfl (hq hw 85 rfl) Via.refl fx14 fx15 (Or.inl (hq hw 86 rfl)) (hq hw 47 rfl) (by decide) rfl rfl (mi 0 rfl) ?_
  intro ph16 W17
  have fx18 : Fld Z ph16 b "java/lang/AbstractStringBuilder" "count" "I" (.int 7) := Fld.same W17 fx14
  refine oc' C 44 d13_43 rfl rfl rfl (ov' C (v := (.ref b)) d13_44 rfl rfl rfl (by decide) (by decide) ?_)
  have fx19 := (Exa.wr W17 fx15)
  have fx20 := (Fld.other W17 (p2.keep K11 (ninS (Exa.neArv (p0.keep K11) fx13 (hq hw 47 rfl)) nin0)) (Or.inr (slot_ne (Or.inl (hq hw 63 rfl)) (Or.inl (hq hw 86 rfl)) (by decide) (t := .byte) (t' := .int) (by decide) (by decide))))
  have fx21 := (Fld.other W17 (p3.keep K11 (ninS (Exa.neArv (p0.keep K11) fx13 (hq hw 47 rfl)) nin0)) (Or.inr (slot_ne (Or.inl (hq hw 61 rfl)) (Or.inl (hq hw 86 rfl)) (by decide) (t := (.array .byte)) (t' := .int) (by decide) (by decide))))
  have fx22 := (fx13.other W17 (Ne.symm (Exa.neArv (p0.keep K11) fx13 (hq hw 47 rfl))))
  exact ⟨rfl, fx19, fx18, fx20, fx21, fx22⟩
theorem ct_app6_1 (l : Launch) (Z : State) (a0 : Array Value) (hw : HW a0 Z) {cS : Int32} {fm : Value} (am : Amb Z a0 cS fm) {b v s t : Addr} {kv kt : ClassId} {x0 x1 x2 x3 x4 x5 y0 : Int32} {h0 : Heap} (p0 : Exa Z h0 b "java/lang/StringBuilder") (p1 : Fld Z h0 b "java/lang/AbstractStringBuilder" "count" "I" (.int 6)) (p2 : Fld Z h0 b "java/lang/AbstractStringBuilder" "coder" "B" (.int 0)) (p3 : Fld Z h0 b "java/lang/AbstractStringBuilder" "value" "[B" (.ref v)) (p4 : Arv Z h0 v kv .byte (16 : Int32) [.int x0, .int x1, .int x2, .int x3, .int x4, .int x5, .int 0, .int 0, .int 0, .int 0, .int 0, .int 0, .int 0, .int 0, .int 0, .int 0] (.int 0)) (p5 : Exa Z h0 s "java/lang/String") (p6 : Fld Z h0 s "java/lang/String" "coder" "B" (.int 0)) (p7 : Fld Z h0 s "java/lang/String" "value" "[B" (.ref t)) (p8 : Arv Z h0 t kt .byte (1 : Int32) [.int y0] (.int 0)) (htv : t ≠ v) :
    Py l Z (⟨"java/lang/StringBuilder", "append", "(Ljava/lang/String;)Ljava/lang/StringBuilder;"⟩ : MethodName) 5 74 0 0 #[(.ref b), (.ref s)] h0 [b, v] (fun rv h' => rv = some (.ref b) ∧ Exa Z h' b "java/lang/StringBuilder" ∧ Fld Z h' b "java/lang/AbstractStringBuilder" "count" "I" (.int 7) ∧ Fld Z h' b "java/lang/AbstractStringBuilder" "coder" "B" (.int 0) ∧ Fld Z h' b "java/lang/AbstractStringBuilder" "value" "[B" (.ref v) ∧ Arv Z h' v kv .byte (16 : Int32) [.int x0, .int x1, .int x2, .int x3, .int x4, .int x5, .int y0, .int 0, .int 0, .int 0, .int 0, .int 0, .int 0, .int 0, .int 0, .int 0] (.int 0)) := by
  refine Ct.py (by0 := zc29) (ml := 2) (rt := (some (.object "java/lang/StringBuilder"))) (rm := ({ frames := 4, cells := 0, slots := 0, locals := 61 } : Room)) ?_ (hq hw 69 rfl) (hq hw 48 rfl)
  refine Ct.mk (a0 := a0) (Ls := #[.val (.ref b), .val (.ref s)]) (plainFor_of_name pn_java_lang_StringBuilder) (fun m => by simp [entryFrame, mkF, argsToLocals, Value.category]) ?_
  intro κ C
  show Go l _ Z _ _ _ κ [b, v] h0 0 #[.val (.ref b), .val (.ref s)] [] 0 0
  refine oc' C 1 d12_0 rfl rfl rfl (oc' C 2 d12_1 rfl rfl rfl ?_)
  refine ov2' C (a := b) (argsL := [(.ref s)]) (W := 0) d12_2 (by decide) (hq hw 70 rfl) (same_of (hq hw 71 rfl) (nf_cls (hq hw 90 rfl) rfl) (by decide)) (hq hw 71 rfl) (hq hw 72 rfl) (hq hw 74 rfl) p0 (by decide) pd__Ljava_lang_String__Ljava_lang_AbstractStringBuilder_ (ct_aap6_1 l Z a0 hw am (b := b) (v := v) (s := s) (t := t) (kv := kv) (kt := kt) (x0 := x0) (x1 := x1) (x2 := x2) (x3 := x3) (x4 := x4) (x5 := x5) (y0 := y0) p0 p1 p2 p3 p4 p5 p6 p7 p8 htv) rfl (Nat.le_of_eq rfl) rfl (by decide) (memsS (mi 0 rfl) (memsS (mi 1 rfl) mems0)) ?_
  intro fv1 ph2 K3 fq4
  obtain ⟨rfl, fx5, fx6, fx7, fx8, fx9⟩ := fq4
  refine ⟨[], fresh0, ?_⟩
  show Go l _ Z _ _ _ κ _ _ 5 _ [(.ref b)] 0 0
  refine ox2' C 6 d12_5 rfl rfl (oc' C 7 d12_6 rfl rfl rfl ?_)
  refine ov' C (v := (.ref b)) d12_7 rfl rfl rfl (by decide) (by decide) ?_
  exact ⟨rfl, fx5, fx6, fx7, fx8, fx9⟩
theorem ct_cl0_7 (l : Launch) (Z : State) (a0 : Array Value) (hw : HW a0 Z) {cS : Int32} {fm : Value} (am : Amb Z a0 cS fm) {h0 : Heap} :
    Py l Z (⟨"java/util/Arrays", "checkLength", "(II)V"⟩ : MethodName) 1 13 0 0 #[.int 0, .int 7] h0 [] (fun rv h' => rv = none ∧ h' = h0) := by
  refine Ct.py (by0 := zc24) (ml := 2) (rt := none) (rm := ({ frames := 0, cells := 0, slots := 0, locals := 0 } : Room)) ?_ (hq hw 151 rfl) (hq hw 144 rfl)
  refine Ct.mk (a0 := a0) (Ls := #[.val (.int 0), .val (.int 7)]) (plainFor_of_name pn_java_util_Arrays) (fun m => by simp [entryFrame, mkF, argsToLocals, Value.category]) ?_
  intro κ C
  show Go l _ Z _ _ _ κ [] h0 0 #[.val (.int 0), .val (.int 7)] [] 0 0
  refine od' C 1 d29_0 rfl rfl (od' C 2 d29_1 rfl rfl ?_)
  refine oh' C (pc' := 37) d29_2 (by decide) (by decide) (by decide) (oe' C d29_37 rfl (by decide) (by decide) ?_)
  exact ⟨rfl, rfl⟩
theorem ct_min16_7 (l : Launch) (Z : State) (a0 : Array Value) (hw : HW a0 Z) {cS : Int32} {fm : Value} (am : Amb Z a0 cS fm) {h0 : Heap} :
    Py l Z (⟨"java/lang/Math", "min", "(II)I"⟩ : MethodName) 1 13 0 0 #[.int 16, .int 7] h0 [] (fun rv h' => rv = some (.int 7) ∧ h' = h0) := by
  refine Ct.py (by0 := zc0) (ml := 2) (rt := (some .int)) (rm := ({ frames := 0, cells := 0, slots := 0, locals := 0 } : Room)) ?_ (hq hw 155 rfl) (hq hw 154 rfl)
  refine Ct.mk (a0 := a0) (Ls := #[.val (.int 16), .val (.int 7)]) (Jvm.Free.JP.mathPlain rfl (by decide +kernel)) (fun m => by simp [entryFrame, mkF, argsToLocals, Value.category]) ?_
  intro κ C
  show Go l _ Z _ _ _ κ [] h0 0 #[.val (.int 16), .val (.int 7)] [] 0 0
  refine od' C 1 d30_0 rfl rfl (od' C 2 d30_1 rfl rfl ?_)
  refine oh' C (pc' := 9) d30_2 (by decide) (by decide) (by decide) (od' C 10 d30_9 rfl rfl ?_)
  refine ol1' C d30_10 rfl (by decide) (by decide) ?_
  exact ⟨rfl, rfl⟩
theorem ct_crb16_0_7 (l : Launch) (Z : State) (a0 : Array Value) (hw : HW a0 Z) {cS : Int32} {fm : Value} (am : Amb Z a0 cS fm) {v : Addr} {kv : ClassId} {x0 x1 x2 x3 x4 x5 x6 x7 x8 x9 x10 x11 x12 x13 x14 x15 : Int32} {h0 : Heap} (p0 : Arv Z h0 v kv .byte (16 : Int32) [.int x0, .int x1, .int x2, .int x3, .int x4, .int x5, .int x6, .int x7, .int x8, .int x9, .int x10, .int x11, .int x12, .int x13, .int x14, .int x15] (.int 0)) :
    Py l Z (⟨"java/util/Arrays", "copyOfRangeByte", "([BII)[B"⟩ : MethodName) 2 34 1 7 #[(.ref v), .int 0, .int 7] h0 [] (fun rv h' => ∃ (t : Addr) (kt : ClassId), rv = some (.ref t) ∧ Arv Z h' t kt .byte (7 : Int32) [.int x0, .int x1, .int x2, .int x3, .int x4, .int x5, .int x6] (.int 0) ∧ (h0.size ≤ t)) := by
  refine Ct.py (by0 := zc26) (ml := 5) (rt := (some (.array .byte))) (rm := ({ frames := 1, cells := 1, slots := 7, locals := 18 } : Room)) ?_ (hq hw 148 rfl) (hq hw 144 rfl)
  refine Ct.mk (a0 := a0) (Ls := #[.val (.ref v), .val (.int 0), .val (.int 7), .unset, .unset]) (plainFor_of_name pn_java_util_Arrays) (fun m => by simp [entryFrame, mkF, argsToLocals, Value.category]) ?_
  intro κ C
  show Go l _ Z _ _ _ κ [] h0 0 #[.val (.ref v), .val (.int 0), .val (.int 7), .unset, .unset] [] 0 0
  refine od' C 1 d28_0 rfl rfl (od' C 2 d28_1 rfl rfl ?_)
  refine or' C (argsL := [.int 0, .int 7]) (W := 0) d28_2 (hq hw 149 rfl) (hq hw 150 rfl) (hq hw 144 rfl) (hq hw 151 rfl) (by decide) pd__II_V (ct_cl0_7 l Z a0 hw am) rfl (Nat.le_of_eq rfl) rfl (by decide) mems0 ?_
  intro fv1 ph2 K3 fq4
  obtain ⟨rfl, rfl⟩ := fq4
  refine ⟨[], fresh0, ?_⟩
  show Go l _ Z _ _ _ κ _ _ 5 _ [] 0 0
  refine od' C 6 d28_5 rfl rfl (od' C 7 d28_6 rfl rfl ?_)
  refine oj1' C 8 (7 : Int32) d28_7 rfl (by decide) (op1' C 9 (Ls' := #[.val (.ref v), .val (.int 0), .val (.int 7), .val (.int 7), .unset]) d28_8 rfl rfl ?_)
  refine od' C 10 d28_9 rfl rfl (ow1' C 12 1 7 (ty := .byte) (cap := 7) d28_10 rfl rfl rfl rfl (hq hw 23 rfl) (by decide) (by decide) (by decide) (by decide) (by decide) ?_)
  intro b5 ph6 k7 g8 E9 V10
  have fx11 : Arv Z ph6 b5 k7 .byte (7 : Int32) [.int 0, .int 0, .int 0, .int 0, .int 0, .int 0, .int 0] (.int 0) := V10
  refine ob1' C 14 (Ls' := #[.val (.ref v), .val (.int 0), .val (.int 7), .val (.int 7), .val (.ref b5)]) d28_12 rfl rfl rfl (oc' C 15 d28_14 rfl rfl rfl ?_)
  refine od' C 16 d28_15 rfl rfl (ob' C 18 d28_16 rfl rfl rfl ?_)
  refine of' C 19 (0 : Int32) d28_18 rfl (by decide) (oc' C 20 d28_19 rfl rfl rfl ?_)
  have fx12 := (p0.ext E9)
  refine oj' C 21 d28_20 rfl fx12 (od' C 22 d28_21 rfl rfl ?_)
  refine oj1' C 23 (16 : Int32) d28_22 rfl (by decide) (od' C 24 d28_23 rfl rfl ?_)
  refine or' C (argsL := [.int 16, .int 7]) (W := 4) d28_24 (hq hw 152 rfl) (hq hw 153 rfl) (hq hw 154 rfl) (hq hw 155 rfl) (by decide) pd__II_I (ct_min16_7 l Z a0 hw am) rfl (Nat.le_of_eq rfl) rfl (by decide) mems0 ?_
  intro fv13 ph14 K15 fq16
  obtain ⟨rfl, rfl⟩ := fq16
  refine ⟨[], fresh0, ?_⟩
  show Go l _ Z _ _ _ κ _ _ 27 _ [.int 7, .int 0, (.ref b5), .int 0, (.ref v)] 1 7
  refine on2' C 30 (W := 0) (us := [.int x0, .int x1, .int x2, .int x3, .int x4, .int x5, .int x6]) (vr := [.int x0, .int x1, .int x2, .int x3, .int x4, .int x5, .int x6]) d28_27 rfl (hq hw 156 rfl) (hq hw 111 rfl) (hq hw 109 rfl) (hq hw 110 rfl) fx12 fx11 rfl (by decide) (by decide) (by decide) (by decide) (by decide) rfl (nble rfl) rfl rfl (by decide) (Nat.le_of_eq rfl) (by decide) (mi 0 rfl) ?_
  intro ph17 K18 fx19
  refine ob' C 32 d28_30 rfl rfl rfl (ov' C (v := (.ref b5)) d28_32 rfl rfl rfl (by decide) (by decide) ?_)
  exact ⟨b5, k7, rfl, fx19, (Nat.le_of_eq g8.symm)⟩
theorem ct_cor16_0_7 (l : Launch) (Z : State) (a0 : Array Value) (hw : HW a0 Z) {cS : Int32} {fm : Value} (am : Amb Z a0 cS fm) {v : Addr} {kv : ClassId} {x0 x1 x2 x3 x4 x5 x6 x7 x8 x9 x10 x11 x12 x13 x14 x15 : Int32} {h0 : Heap} (p0 : Arv Z h0 v kv .byte (16 : Int32) [.int x0, .int x1, .int x2, .int x3, .int x4, .int x5, .int x6, .int x7, .int x8, .int x9, .int x10, .int x11, .int x12, .int x13, .int x14, .int x15] (.int 0)) :
    Py l Z (⟨"java/util/Arrays", "copyOfRange", "([BII)[B"⟩ : MethodName) 3 48 1 7 #[(.ref v), .int 0, .int 7] h0 [] (fun rv h' => ∃ (t : Addr) (kt : ClassId), rv = some (.ref t) ∧ Arv Z h' t kt .byte (7 : Int32) [.int x0, .int x1, .int x2, .int x3, .int x4, .int x5, .int x6] (.int 0) ∧ (h0.size ≤ t)) := by
  refine Ct.py (by0 := zc25) (ml := 3) (rt := (some (.array .byte))) (rm := ({ frames := 2, cells := 1, slots := 7, locals := 34 } : Room)) ?_ (hq hw 145 rfl) (hq hw 144 rfl)
  refine Ct.mk (a0 := a0) (Ls := #[.val (.ref v), .val (.int 0), .val (.int 7)]) (plainFor_of_name pn_java_util_Arrays) (fun m => by simp [entryFrame, mkF, argsToLocals, Value.category]) ?_
  intro κ C
  show Go l _ Z _ _ _ κ [] h0 0 #[.val (.ref v), .val (.int 0), .val (.int 7)] [] 0 0
  refine od' C 1 d27_0 rfl rfl (ot' C 4 d27_1 rfl (by decide) ?_)
  refine od' C 5 d27_4 rfl rfl (oc' C 6 d27_5 rfl rfl rfl ?_)
  refine oj' C 7 d27_6 rfl p0 (oi' C 10 d27_7 rfl (by decide) ?_)
  refine oc' C 11 d27_10 rfl rfl rfl (od' C 12 d27_11 rfl rfl ?_)
  refine od' C 13 d27_12 rfl rfl (or' C (argsL := [(.ref v), .int 0, .int 7]) (W := 0) d27_13 (hq hw 146 rfl) (hq hw 147 rfl) (hq hw 144 rfl) (hq hw 148 rfl) (by decide) pd___BII__B (ct_crb16_0_7 l Z a0 hw am (v := v) (kv := kv) (x0 := x0) (x1 := x1) (x2 := x2) (x3 := x3) (x4 := x4) (x5 := x5) (x6 := x6) (x7 := x7) (x8 := x8) (x9 := x9) (x10 := x10) (x11 := x11) (x12 := x12) (x13 := x13) (x14 := x14) (x15 := x15) p0) rfl (Nat.le_of_eq rfl) rfl (by decide) mems0 ?_)
  intro fv1 ph2 K3 fq4
  obtain ⟨t5, kt6, rfl, fx7, fx8⟩ := fq4
  refine ⟨[t5], (freshS ⟨fx8, (fx7).lt⟩ fresh0), ?_⟩
  show Go l _ Z _ _ _ κ [t5] _ 16 _ [(.ref t5)] 1 7
  refine ov' C (v := (.ref t5)) d27_16 rfl rfl rfl (by decide) (by decide) ?_
  exact ⟨t5, kt6, rfl, fx7, fx8⟩
theorem ct_sv7 (l : Launch) (Z : State) (a0 : Array Value) (hw : HW a0 Z) {cS : Int32} {fm : Value} (am : Amb Z a0 cS fm) {a b v : Addr} {kv : ClassId} {x0 x1 x2 x3 x4 x5 x6 x7 x8 x9 x10 x11 x12 x13 x14 x15 : Int32} {h0 : Heap} (p0 : Exa Z h0 a "java/lang/String") (p1 : Fld Z h0 a "java/lang/String" "value" "[B" .null) (p2 : Fld Z h0 a "java/lang/String" "coder" "B" (.int 0)) (p3 : Exa Z h0 b "java/lang/StringBuilder") (p4 : Fld Z h0 b "java/lang/AbstractStringBuilder" "count" "I" (.int 7)) (p5 : Fld Z h0 b "java/lang/AbstractStringBuilder" "coder" "B" (.int 0)) (p6 : Fld Z h0 b "java/lang/AbstractStringBuilder" "value" "[B" (.ref v)) (p7 : Arv Z h0 v kv .byte (16 : Int32) [.int x0, .int x1, .int x2, .int x3, .int x4, .int x5, .int x6, .int x7, .int x8, .int x9, .int x10, .int x11, .int x12, .int x13, .int x14, .int x15] (.int 0)) :
    Py l Z (⟨"java/lang/String", "<init>", "(Ljava/lang/AbstractStringBuilder;Ljava/lang/Void;)V"⟩ : MethodName) 4 65 1 7 #[(.ref a), (.ref b), .null] h0 [a] (fun rv h' => ∃ (t : Addr) (kt : ClassId), rv = none ∧ Exa Z h' a "java/lang/String" ∧ Fld Z h' a "java/lang/String" "coder" "B" (.int 0) ∧ Fld Z h' a "java/lang/String" "value" "[B" (.ref t) ∧ Arv Z h' t kt .byte (7 : Int32) [.int x0, .int x1, .int x2, .int x3, .int x4, .int x5, .int x6] (.int 0) ∧ (h0.size ≤ t)) := by
  refine Ct.py (by0 := zc5) (ml := 5) (rt := none) (rm := ({ frames := 3, cells := 1, slots := 7, locals := 49 } : Room)) ?_ (hq hw 123 rfl) (hq hw 6 rfl)
  refine Ct.mk (a0 := a0) (Ls := #[.val (.ref a), .val (.ref b), .val .null, .unset, .unset]) (plainFor_of_name pn_java_lang_String) (fun m => by simp [entryFrame, mkF, argsToLocals, Value.category]) ?_
  intro κ C
  show Go l _ Z _ _ _ κ [a] h0 0 #[.val (.ref a), .val (.ref b), .val .null, .unset, .unset] [] 0 0
  refine oc' C 1 d22_0 rfl rfl rfl (oj2' C 4 (W := 0) d22_1 rfl (hq hw 15 rfl) (hq hw 16 rfl) (hq hw 17 rfl) rfl (by decide) (Nat.le_of_eq rfl) (by decide) ?_)
  refine oc' C 5 d22_4 rfl rfl rfl (oo' C (a := b) (argsL := []) (W := 0) d22_5 (hq hw 124 rfl) (hq hw 125 rfl) (nfS (hq hw 127 rfl)) (hq hw 127 rfl) (hq hw 126 rfl) p3 (by decide) pd____B (ct_gv l Z a0 hw am (b := b) (v := v) p6) rfl (Nat.le_of_eq rfl) rfl (by decide) mems0 ?_)
  intro fv1 ph2 K3 fq4
  obtain ⟨rfl, rfl⟩ := fq4
  refine ⟨[], fresh0, ?_⟩
  show Go l _ Z _ _ _ κ _ _ 8 _ [(.ref v)] 0 0
  refine ov1' C 9 (Ls' := #[.val (.ref a), .val (.ref b), .val .null, .val (.ref v), .unset]) d22_8 rfl rfl rfl (oc' C 10 d22_9 rfl rfl rfl ?_)
  refine oo' C (a := b) (argsL := []) (W := 0) d22_10 (hq hw 129 rfl) (hq hw 130 rfl) (fun _ hZ => nf_cls (a0 := #[]) (mvT hZ (hq hw 90 rfl)) rfl) (hq hw 132 rfl) (hq hw 133 rfl) p3 (by decide) pd___I (ct_sln l Z a0 hw am (b := b) (n := (7 : Int32)) p3 p4) rfl (Nat.le_of_eq rfl) rfl (by decide) mems0 ?_
  intro fv5 ph6 K7 fq8
  obtain ⟨rfl, rfl⟩ := fq8
  refine ⟨[], fresh0, ?_⟩
  show Go l _ Z _ _ _ κ _ _ 13 _ [.int 7] 0 0
  refine ol' C 15 (Ls' := #[.val (.ref a), .val (.ref b), .val .null, .val (.ref v), .val (.int 7)]) d22_13 rfl rfl (oc' C 16 d22_15 rfl rfl rfl ?_)
  refine oo' C (a := b) (argsL := []) (W := 0) d22_16 (hq hw 137 rfl) (hq hw 138 rfl) (nfS (hq hw 140 rfl)) (hq hw 140 rfl) (hq hw 139 rfl) p3 (by decide) pd___Z (ct_ail l Z a0 hw am (b := b) p5) rfl (Nat.le_of_eq rfl) rfl (by decide) mems0 ?_
  intro fv9 ph10 K11 fq12
  obtain ⟨rfl, rfl⟩ := fq12
  refine ⟨[], fresh0, ?_⟩
  show Go l _ Z _ _ _ κ _ _ 19 _ [.int 1] 0 0
  refine ot' C 22 d22_19 rfl (by decide) (oc' C 23 d22_22 rfl rfl rfl ?_)
  refine of' C 24 (0 : Int32) d22_23 rfl (by decide) (ol2' C 27 (ty := .byte) (v' := .int 0) d22_24 rfl (hq hw 30 rfl) Via.refl p2 p0 (Or.inr ⟨(hq hw 31 rfl), rfl, rfl⟩) (hq hw 5 rfl) (by decide) rfl (by decide) (mi 0 rfl) ?_)
  intro ph13 W14
  have fx15 : Fld Z ph13 a "java/lang/String" "coder" "B" (.int 0) := Fld.same W14 p2
  refine oc' C 28 d22_27 rfl rfl rfl (oc' C 29 d22_28 rfl rfl rfl ?_)
  refine of' C 30 (0 : Int32) d22_29 rfl (by decide) (oa' C 32 d22_30 rfl rfl ?_)
  have fx16 := (p7.other W14 (Ne.symm (Exa.neArv p0 p7 (hq hw 5 rfl))))
  refine or' C (argsL := [(.ref v), .int 0, .int 7]) (W := 1) d22_32 (hq hw 142 rfl) (hq hw 143 rfl) (hq hw 144 rfl) (hq hw 145 rfl) (by decide) pd___BII__B (ct_cor16_0_7 l Z a0 hw am (v := v) (kv := kv) (x0 := x0) (x1 := x1) (x2 := x2) (x3 := x3) (x4 := x4) (x5 := x5) (x6 := x6) (x7 := x7) (x8 := x8) (x9 := x9) (x10 := x10) (x11 := x11) (x12 := x12) (x13 := x13) (x14 := x14) (x15 := x15) fx16) rfl (Nat.le_of_eq rfl) rfl (by decide) mems0 ?_
  intro fv17 ph18 K19 fq20
  obtain ⟨t21, kt22, rfl, fx23, fx24⟩ := fq20
  refine ⟨[t21], (freshS ⟨fx24, (fx23).lt⟩ fresh0), ?_⟩
  show Go l _ Z _ _ _ κ [t21, a] _ 35 _ [(.ref t21), (.ref a)] 1 7
  have fx25 := ((Fld.other W14 p1 (Or.inr (slot_ne (Or.inr (hq hw 33 rfl)) (Or.inr (hq hw 31 rfl)) (by decide) (t := (.array .byte)) (t' := .byte) (by decide) (by decide)))).keep K19 nin0)
  have fx26 := ((Exa.wr W14 p0).keep K19)
  refine oh1' C 38 (ty := (.array .byte)) d22_35 rfl (hq hw 32 rfl) Via.refl fx25 fx26 (Or.inr ⟨(hq hw 33 rfl), rfl, rfl⟩) (hq hw 5 rfl) (by decide) rfl rfl (mi 1 rfl) ?_
  intro ph27 W28
  have fx29 : Fld Z ph27 a "java/lang/String" "value" "[B" (.ref t21) := Fld.same W28 fx25
  refine om' C (pc' := 97) d22_38 (by decide) (by decide) (oe' C d22_97 rfl (by decide) (by decide) ?_)
  have fx30 := (Exa.wr W28 fx26)
  have fx31 := (Fld.other W28 (fx15.keep K19 nin0) (Or.inr (slot_ne (Or.inr (hq hw 31 rfl)) (Or.inr (hq hw 33 rfl)) (by decide) (t := .byte) (t' := (.array .byte)) (by decide) (by decide))))
  have fx32 := (fx23.other W28 (Ne.symm (Nat.ne_of_lt (nltle (nltle (p0).lt (Nat.le_of_eq W14.size.symm)) fx24))))
  exact ⟨t21, kt22, rfl, fx30, fx31, fx29, fx32, (Nat.le_trans (Nat.le_of_eq W14.size.symm) fx24)⟩
theorem ct_sb7 (l : Launch) (Z : State) (a0 : Array Value) (hw : HW a0 Z) {cS : Int32} {fm : Value} (am : Amb Z a0 cS fm) {a b v : Addr} {kv : ClassId} {x0 x1 x2 x3 x4 x5 x6 x7 x8 x9 x10 x11 x12 x13 x14 x15 : Int32} {h0 : Heap} (p0 : Exa Z h0 a "java/lang/String") (p1 : Fld Z h0 a "java/lang/String" "value" "[B" .null) (p2 : Fld Z h0 a "java/lang/String" "coder" "B" (.int 0)) (p3 : Exa Z h0 b "java/lang/StringBuilder") (p4 : Fld Z h0 b "java/lang/AbstractStringBuilder" "count" "I" (.int 7)) (p5 : Fld Z h0 b "java/lang/AbstractStringBuilder" "coder" "B" (.int 0)) (p6 : Fld Z h0 b "java/lang/AbstractStringBuilder" "value" "[B" (.ref v)) (p7 : Arv Z h0 v kv .byte (16 : Int32) [.int x0, .int x1, .int x2, .int x3, .int x4, .int x5, .int x6, .int x7, .int x8, .int x9, .int x10, .int x11, .int x12, .int x13, .int x14, .int x15] (.int 0)) :
    Py l Z (⟨"java/lang/String", "<init>", "(Ljava/lang/StringBuilder;)V"⟩ : MethodName) 5 78 1 7 #[(.ref a), (.ref b)] h0 [a] (fun rv h' => ∃ (t : Addr) (kt : ClassId), rv = none ∧ Exa Z h' a "java/lang/String" ∧ Fld Z h' a "java/lang/String" "coder" "B" (.int 0) ∧ Fld Z h' a "java/lang/String" "value" "[B" (.ref t) ∧ Arv Z h' t kt .byte (7 : Int32) [.int x0, .int x1, .int x2, .int x3, .int x4, .int x5, .int x6] (.int 0) ∧ (h0.size ≤ t)) := by
  refine Ct.py (by0 := zc11) (ml := 2) (rt := none) (rm := ({ frames := 4, cells := 1, slots := 7, locals := 65 } : Room)) ?_ (hq hw 120 rfl) (hq hw 6 rfl)
  refine Ct.mk (a0 := a0) (Ls := #[.val (.ref a), .val (.ref b)]) (plainFor_of_name pn_java_lang_String) (fun m => by simp [entryFrame, mkF, argsToLocals, Value.category]) ?_
  intro κ C
  show Go l _ Z _ _ _ κ [a] h0 0 #[.val (.ref a), .val (.ref b)] [] 0 0
  refine oc' C 1 d21_0 rfl rfl rfl (oc' C 2 d21_1 rfl rfl rfl ?_)
  refine oo2' C 3 d21_2 rfl (oq1' C (a := a) (argsL := [(.ref b), .null]) (W := 0) d21_3 rfl (hq hw 121 rfl) (hq hw 122 rfl) (hq hw 123 rfl) (by decide) pd__Ljava_lang_AbstractStringBuilder_Ljava_lang_Void__V (ct_sv7 l Z a0 hw am (a := a) (b := b) (v := v) (kv := kv) (x0 := x0) (x1 := x1) (x2 := x2) (x3 := x3) (x4 := x4) (x5 := x5) (x6 := x6) (x7 := x7) (x8 := x8) (x9 := x9) (x10 := x10) (x11 := x11) (x12 := x12) (x13 := x13) (x14 := x14) (x15 := x15) p0 p1 p2 p3 p4 p5 p6 p7) rfl (Nat.le_of_eq rfl) rfl (by decide) (memsS (mi 0 rfl) mems0) ?_)
  intro fv1 ph2 K3 fq4
  obtain ⟨t5, kt6, rfl, fx7, fx8, fx9, fx10, fx11⟩ := fq4
  refine ⟨[t5], (freshS ⟨fx11, (fx10).lt⟩ fresh0), ?_⟩
  show Go l _ Z _ _ _ κ [t5, a] _ 6 _ [] 1 7
  refine oe' C d21_6 rfl (by decide) (by decide) ?_
  exact ⟨t5, kt6, rfl, fx7, fx8, fx9, fx10, fx11⟩
theorem ct_ts7 (l : Launch) (Z : State) (a0 : Array Value) (hw : HW a0 Z) {cS : Int32} {fm : Value} (am : Amb Z a0 cS fm) {b v : Addr} {kv : ClassId} {x0 x1 x2 x3 x4 x5 x6 x7 x8 x9 x10 x11 x12 x13 x14 x15 : Int32} {h0 : Heap} (p0 : Exa Z h0 b "java/lang/StringBuilder") (p1 : Fld Z h0 b "java/lang/AbstractStringBuilder" "count" "I" (.int 7)) (p2 : Fld Z h0 b "java/lang/AbstractStringBuilder" "coder" "B" (.int 0)) (p3 : Fld Z h0 b "java/lang/AbstractStringBuilder" "value" "[B" (.ref v)) (p4 : Arv Z h0 v kv .byte (16 : Int32) [.int x0, .int x1, .int x2, .int x3, .int x4, .int x5, .int x6, .int x7, .int x8, .int x9, .int x10, .int x11, .int x12, .int x13, .int x14, .int x15] (.int 0)) :
    Py l Z (⟨"java/lang/StringBuilder", "toString", "()Ljava/lang/String;"⟩ : MethodName) 6 91 2 11 #[(.ref b)] h0 [] (fun rv h' => ∃ (a : Addr) (t : Addr) (kt : ClassId), rv = some (.ref a) ∧ Exa Z h' a "java/lang/String" ∧ Fld Z h' a "java/lang/String" "coder" "B" (.int 0) ∧ Fld Z h' a "java/lang/String" "value" "[B" (.ref t) ∧ Arv Z h' t kt .byte (7 : Int32) [.int x0, .int x1, .int x2, .int x3, .int x4, .int x5, .int x6] (.int 0) ∧ (h0.size ≤ t) ∧ (h0.size ≤ a)) := by
  refine Ct.py (by0 := zc28) (ml := 1) (rt := (some (.object "java/lang/String"))) (rm := ({ frames := 5, cells := 2, slots := 11, locals := 79 } : Room)) ?_ (hq hw 116 rfl) (hq hw 48 rfl)
  refine Ct.mk (a0 := a0) (Ls := #[.val (.ref b)]) (plainFor_of_name pn_java_lang_StringBuilder) (fun m => by simp [entryFrame, mkF, argsToLocals, Value.category]) ?_
  intro κ C
  show Go l _ Z _ _ _ κ [] h0 0 #[.val (.ref b)] [] 0 0
  refine oc1' C 3 1 4 d20_0 rfl rfl rfl (hq hw 117 rfl) (hq hw 5 rfl) (hq hw 6 rfl) (by decide) (by decide) ?_
  intro b1 ph2 g3 E4 A5 D6
  have fx7 : Fld Z ph2 b1 "java/lang/String" "coder" "B" (.int 0) := D6 (Or.inr (hq hw 31 rfl)) (ty := .byte) (by decide)
  have fx8 : Fld Z ph2 b1 "java/lang/String" "value" "[B" .null := D6 (Or.inr (hq hw 33 rfl)) (ty := (.array .byte)) (by decide)
  refine ou' C 4 d20_3 rfl rfl (oc' C 5 d20_4 rfl rfl rfl ?_)
  have fx9 := (Exa.ext E4 p0)
  have fx10 := (Fld.ext E4 p1)
  have fx11 := (Fld.ext E4 p2)
  have fx12 := (Fld.ext E4 p3)
  have fx13 := (p4.ext E4)
  refine oq1' C (a := b1) (argsL := [(.ref b)]) (W := 1) d20_5 rfl (hq hw 118 rfl) (hq hw 119 rfl) (hq hw 120 rfl) (by decide) pd__Ljava_lang_StringBuilder__V (ct_sb7 l Z a0 hw am (a := b1) (b := b) (v := v) (kv := kv) (x0 := x0) (x1 := x1) (x2 := x2) (x3 := x3) (x4 := x4) (x5 := x5) (x6 := x6) (x7 := x7) (x8 := x8) (x9 := x9) (x10 := x10) (x11 := x11) (x12 := x12) (x13 := x13) (x14 := x14) (x15 := x15) A5 fx8 fx7 fx9 fx10 fx11 fx12 fx13) rfl (Nat.le_of_eq rfl) rfl (by decide) (memsS (mi 0 rfl) mems0) ?_
  intro fv14 ph15 K16 fq17
  obtain ⟨t18, kt19, rfl, fx20, fx21, fx22, fx23, fx24⟩ := fq17
  refine ⟨[t18], (freshS ⟨fx24, (fx23).lt⟩ fresh0), ?_⟩
  show Go l _ Z _ _ _ κ [t18, b1] _ 8 _ [(.ref b1)] 2 11
  refine ov' C (v := (.ref b1)) d20_8 rfl rfl rfl (by decide) (by decide) ?_
  exact ⟨b1, t18, kt19, rfl, fx20, fx21, fx22, fx23, (Nat.le_trans E4.1 fx24), (Nat.le_of_eq g3.symm)⟩
theorem ct_len0_2 (l : Launch) (Z : State) (a0 : Array Value) (hw : HW a0 Z) {cS : Int32} {fm : Value} (am : Amb Z a0 cS fm) {s t : Addr} {kB : ClassId} {vs : List Value} {h0 : Heap} (p0 : Exa Z h0 s "java/lang/String") (p1 : Fld Z h0 s "java/lang/String" "coder" "B" (.int 0)) (p2 : Fld Z h0 s "java/lang/String" "value" "[B" (.ref t)) (p3 : Arv Z h0 t kB .byte (2 : Int32) vs (.int 0)) :
    Py l Z (⟨"java/lang/String", "length", "()I"⟩ : MethodName) 2 25 0 0 #[(.ref s)] h0 [] (fun rv h' => rv = some (.int 2) ∧ h' = h0) := by
  refine Ct.py (by0 := zc12) (ml := 1) (rt := (some .int)) (rm := ({ frames := 1, cells := 0, slots := 0, locals := 13 } : Room)) ?_ (hq hw 79 rfl) (hq hw 6 rfl)
  refine Ct.mk (a0 := a0) (Ls := #[.val (.ref s)]) (plainFor_of_name pn_java_lang_String) (fun m => by simp [entryFrame, mkF, argsToLocals, Value.category]) ?_
  intro κ C
  show Go l _ Z _ _ _ κ [] h0 0 #[.val (.ref s)] [] 0 0
  refine oc' C 1 d14_0 rfl rfl rfl (ok' C 4 d14_1 rfl (hq hw 32 rfl) Via.refl p2 ?_)
  refine oj' C 5 d14_4 rfl p3 (oc' C 6 d14_5 rfl rfl rfl ?_)
  refine oo' C (a := s) (argsL := []) (W := 1) d14_6 (hq hw 80 rfl) (hq hw 81 rfl) (nfS (hq hw 83 rfl)) (hq hw 83 rfl) (hq hw 82 rfl) p0 (by decide) pd___B (ct_cod0 l Z a0 hw am (s := s) p1) rfl (Nat.le_of_eq rfl) rfl (by decide) mems0 ?_
  intro fv1 ph2 K3 fq4
  obtain ⟨rfl, rfl⟩ := fq4
  refine ⟨[], fresh0, ?_⟩
  show Go l _ Z _ _ _ κ _ _ 9 _ [.int 0, .int 2] 0 0
  refine om2' C 10 (2 : Int32) d14_9 rfl (by decide) (ol1' C d14_10 rfl (by decide) (by decide) ?_)
  exact ⟨rfl, rfl⟩
theorem ct_ens8 (l : Launch) (Z : State) (a0 : Array Value) (hw : HW a0 Z) {cS : Int32} {fm : Value} (am : Amb Z a0 cS fm) {b v : Addr} {kv : ClassId} {vs : List Value} {h0 : Heap} (p0 : Fld Z h0 b "java/lang/AbstractStringBuilder" "coder" "B" (.int 0)) (p1 : Fld Z h0 b "java/lang/AbstractStringBuilder" "value" "[B" (.ref v)) (p2 : Arv Z h0 v kv .byte (16 : Int32) vs (.int 0)) :
    Py l Z (⟨"java/lang/AbstractStringBuilder", "ensureCapacityInternal", "(I)V"⟩ : MethodName) 1 14 0 0 #[(.ref b), .int 8] h0 [] (fun rv h' => rv = none ∧ h' = h0) := by
  refine Ct.py (by0 := zc38) (ml := 3) (rt := none) (rm := ({ frames := 0, cells := 0, slots := 0, locals := 0 } : Room)) ?_ (hq hw 91 rfl) (hq hw 56 rfl)
  refine Ct.mk (a0 := a0) (Ls := #[.val (.ref b), .val (.int 8), .unset]) (plainFor_of_name pn_java_lang_AbstractStringBuilder) (fun m => by simp [entryFrame, mkF, argsToLocals, Value.category]) ?_
  intro κ C
  show Go l _ Z _ _ _ κ [] h0 0 #[.val (.ref b), .val (.int 8), .unset] [] 0 0
  refine oc' C 1 d16_0 rfl rfl rfl (ok' C 4 d16_1 rfl (hq hw 60 rfl) Via.refl p1 ?_)
  refine oj' C 5 d16_4 rfl p2 (oc' C 6 d16_5 rfl rfl rfl ?_)
  refine ok' C 9 d16_6 rfl (hq hw 62 rfl) Via.refl p0 (om2' C 10 (16 : Int32) d16_9 rfl (by decide) ?_)
  refine op1' C 11 (Ls' := #[.val (.ref b), .val (.int 8), .val (.int 16)]) d16_10 rfl rfl (od' C 12 d16_11 rfl rfl ?_)
  refine od' C 13 d16_12 rfl rfl (oj1' C 14 (-8 : Int32) d16_13 rfl (by decide) ?_)
  refine om1' C (pc' := 38) d16_14 (by decide) (by decide) (by decide) (oe' C d16_38 rfl (by decide) (by decide) ?_)
  exact ⟨rfl, rfl⟩
theorem ct_gb6_2 (l : Launch) (Z : State) (a0 : Array Value) (hw : HW a0 Z) {cS : Int32} {fm : Value} (am : Amb Z a0 cS fm) {v s t : Addr} {kv kt : ClassId} {x0 x1 x2 x3 x4 x5 y0 y1 : Int32} {h0 : Heap} (p0 : Exa Z h0 s "java/lang/String") (p1 : Fld Z h0 s "java/lang/String" "coder" "B" (.int 0)) (p2 : Fld Z h0 s "java/lang/String" "value" "[B" (.ref t)) (p3 : Arv Z h0 t kt .byte (2 : Int32) [.int y0, .int y1] (.int 0)) (p4 : Arv Z h0 v kv .byte (16 : Int32) [.int x0, .int x1, .int x2, .int x3, .int x4, .int x5, .int 0, .int 0, .int 0, .int 0, .int 0, .int 0, .int 0, .int 0, .int 0, .int 0] (.int 0)) (htv : t ≠ v) :
    Py l Z (⟨"java/lang/String", "getBytes", "([BIB)V"⟩ : MethodName) 2 33 0 0 #[(.ref s), (.ref v), .int 6, .int 0] h0 [v] (fun rv h' => rv = none ∧ Arv Z h' v kv .byte (16 : Int32) [.int x0, .int x1, .int x2, .int x3, .int x4, .int x5, .int y0, .int y1, .int 0, .int 0, .int 0, .int 0, .int 0, .int 0, .int 0, .int 0] (.int 0)) := by
  refine Ct.py (by0 := zc3) (ml := 4) (rt := none) (rm := ({ frames := 1, cells := 0, slots := 0, locals := 18 } : Room)) ?_ (hq hw 107 rfl) (hq hw 6 rfl)
  refine Ct.mk (a0 := a0) (Ls := #[.val (.ref s), .val (.ref v), .val (.int 6), .val (.int 0)]) (plainFor_of_name pn_java_lang_String) (fun m => by simp [entryFrame, mkF, argsToLocals, Value.category]) ?_
  intro κ C
  show Go l _ Z _ _ _ κ [v] h0 0 #[.val (.ref s), .val (.ref v), .val (.int 6), .val (.int 0)] [] 0 0
  refine oc' C 1 d19_0 rfl rfl rfl (oo' C (a := s) (argsL := []) (W := 0) d19_1 (hq hw 80 rfl) (hq hw 81 rfl) (nfS (hq hw 83 rfl)) (hq hw 83 rfl) (hq hw 82 rfl) p0 (by decide) pd___B (ct_cod0 l Z a0 hw am (s := s) p1) rfl (Nat.le_of_eq rfl) rfl (by decide) mems0 ?_)
  intro fv1 ph2 K3 fq4
  obtain ⟨rfl, rfl⟩ := fq4
  refine ⟨[], fresh0, ?_⟩
  show Go l _ Z _ _ _ κ _ _ 4 _ [.int 0] 0 0
  refine od' C 5 d19_4 rfl rfl (oi' C 8 d19_5 rfl (by decide) ?_)
  refine oc' C 9 d19_8 rfl rfl rfl (ok' C 12 d19_9 rfl (hq hw 32 rfl) Via.refl p2 ?_)
  refine of' C 13 (0 : Int32) d19_12 rfl (by decide) (oc' C 14 d19_13 rfl rfl rfl ?_)
  refine od' C 15 d19_14 rfl rfl (od' C 16 d19_15 rfl rfl ?_)
  refine ob3' C 17 (6 : Int32) d19_16 rfl (by decide) (oc' C 18 d19_17 rfl rfl rfl ?_)
  refine ok' C 21 d19_18 rfl (hq hw 32 rfl) Via.refl p2 (oj' C 22 d19_21 rfl p3 ?_)
  refine on2' C 25 (W := 0) (us := [.int y0, .int y1]) (vr := [.int x0, .int x1, .int x2, .int x3, .int x4, .int x5, .int y0, .int y1, .int 0, .int 0, .int 0, .int 0, .int 0, .int 0, .int 0, .int 0]) d19_22 rfl (hq hw 108 rfl) (hq hw 111 rfl) (hq hw 109 rfl) (hq hw 110 rfl) p3 p4 rfl (by decide) (by decide) (by decide) (by decide) (by decide) rfl (nble rfl) rfl rfl (by decide) (Nat.le_of_eq rfl) (by decide) (mi 0 rfl) ?_
  intro ph5 K6 fx7
  refine om' C (pc' := 43) d19_25 (by decide) (by decide) (oe' C d19_43 rfl (by decide) (by decide) ?_)
  exact ⟨rfl, fx7⟩
theorem ct_psa6_2 (l : Launch) (Z : State) (a0 : Array Value) (hw : HW a0 Z) {cS : Int32} {fm : Value} (am : Amb Z a0 cS fm) {b v s t : Addr} {kv kt : ClassId} {x0 x1 x2 x3 x4 x5 y0 y1 : Int32} {h0 : Heap} (p0 : Exa Z h0 b "java/lang/StringBuilder") (p1 : Fld Z h0 b "java/lang/AbstractStringBuilder" "count" "I" (.int 6)) (p2 : Fld Z h0 b "java/lang/AbstractStringBuilder" "coder" "B" (.int 0)) (p3 : Fld Z h0 b "java/lang/AbstractStringBuilder" "value" "[B" (.ref v)) (p4 : Arv Z h0 v kv .byte (16 : Int32) [.int x0, .int x1, .int x2, .int x3, .int x4, .int x5, .int 0, .int 0, .int 0, .int 0, .int 0, .int 0, .int 0, .int 0, .int 0, .int 0] (.int 0)) (p5 : Exa Z h0 s "java/lang/String") (p6 : Fld Z h0 s "java/lang/String" "coder" "B" (.int 0)) (p7 : Fld Z h0 s "java/lang/String" "value" "[B" (.ref t)) (p8 : Arv Z h0 t kt .byte (2 : Int32) [.int y0, .int y1] (.int 0)) (htv : t ≠ v) :
    Py l Z (⟨"java/lang/AbstractStringBuilder", "putStringAt", "(ILjava/lang/String;)V"⟩ : MethodName) 3 47 0 0 #[(.ref b), .int 6, (.ref s)] h0 [v] (fun rv h' => rv = none ∧ Arv Z h' v kv .byte (16 : Int32) [.int x0, .int x1, .int x2, .int x3, .int x4, .int x5, .int y0, .int y1, .int 0, .int 0, .int 0, .int 0, .int 0, .int 0, .int 0, .int 0] (.int 0)) := by
  refine Ct.py (by0 := zc37) (ml := 3) (rt := none) (rm := ({ frames := 2, cells := 0, slots := 0, locals := 33 } : Room)) ?_ (hq hw 96 rfl) (hq hw 56 rfl)
  refine Ct.mk (a0 := a0) (Ls := #[.val (.ref b), .val (.int 6), .val (.ref s)]) (plainFor_of_name pn_java_lang_AbstractStringBuilder) (fun m => by simp [entryFrame, mkF, argsToLocals, Value.category]) ?_
  intro κ C
  show Go l _ Z _ _ _ κ [v] h0 0 #[.val (.ref b), .val (.int 6), .val (.ref s)] [] 0 0
  refine oc' C 1 d17_0 rfl rfl rfl (oc' C 2 d17_1 rfl rfl rfl ?_)
  refine oo' C (a := b) (argsL := [(.ref s)]) (W := 0) d17_2 (hq hw 97 rfl) (decl_of (hq hw 98 rfl) (hq hw 101 rfl)) (nfS (hq hw 100 rfl)) (hq hw 100 rfl) (hq hw 98 rfl) p0 (by decide) pd__Ljava_lang_String__V (ct_infl l Z a0 hw am (b := b) (s := s) p2 p5 p6) rfl (Nat.le_of_eq rfl) rfl (by decide) mems0 ?_
  intro fv1 ph2 K3 fq4
  obtain ⟨rfl, rfl⟩ := fq4
  refine ⟨[], fresh0, ?_⟩
  show Go l _ Z _ _ _ κ _ _ 5 _ [] 0 0
  refine oc' C 6 d17_5 rfl rfl rfl (oc' C 7 d17_6 rfl rfl rfl ?_)
  refine ok' C 10 d17_7 rfl (hq hw 60 rfl) Via.refl p3 (od' C 11 d17_10 rfl rfl ?_)
  refine oc' C 12 d17_11 rfl rfl rfl (ok' C 15 d17_12 rfl (hq hw 62 rfl) Via.refl p2 ?_)
  refine oo' C (a := s) (argsL := [(.ref v), .int 6, .int 0]) (W := 0) d17_15 (hq hw 103 rfl) (hq hw 104 rfl) (nfS (hq hw 106 rfl)) (hq hw 106 rfl) (hq hw 105 rfl) p5 (by decide) pd___BIB_V (ct_gb6_2 l Z a0 hw am (v := v) (s := s) (t := t) (kv := kv) (kt := kt) (x0 := x0) (x1 := x1) (x2 := x2) (x3 := x3) (x4 := x4) (x5 := x5) (y0 := y0) (y1 := y1) p5 p6 p7 p8 p4 htv) rfl (Nat.le_of_eq rfl) rfl (by decide) (memsS (mi 0 rfl) mems0) ?_
  intro fv5 ph6 K7 fq8
  obtain ⟨rfl, fx9⟩ := fq8
  refine ⟨[], fresh0, ?_⟩
  show Go l _ Z _ _ _ κ _ _ 18 _ [] 0 0
  refine oe' C d17_18 rfl (by decide) (by decide) ?_
  exact ⟨rfl, fx9⟩
theorem ct_aap6_2 (l : Launch) (Z : State) (a0 : Array Value) (hw : HW a0 Z) {cS : Int32} {fm : Value} (am : Amb Z a0 cS fm) {b v s t : Addr} {kv kt : ClassId} {x0 x1 x2 x3 x4 x5 y0 y1 : Int32} {h0 : Heap} (p0 : Exa Z h0 b "java/lang/StringBuilder") (p1 : Fld Z h0 b "java/lang/AbstractStringBuilder" "count" "I" (.int 6)) (p2 : Fld Z h0 b "java/lang/AbstractStringBuilder" "coder" "B" (.int 0)) (p3 : Fld Z h0 b "java/lang/AbstractStringBuilder" "value" "[B" (.ref v)) (p4 : Arv Z h0 v kv .byte (16 : Int32) [.int x0, .int x1, .int x2, .int x3, .int x4, .int x5, .int 0, .int 0, .int 0, .int 0, .int 0, .int 0, .int 0, .int 0, .int 0, .int 0] (.int 0)) (p5 : Exa Z h0 s "java/lang/String") (p6 : Fld Z h0 s "java/lang/String" "coder" "B" (.int 0)) (p7 : Fld Z h0 s "java/lang/String" "value" "[B" (.ref t)) (p8 : Arv Z h0 t kt .byte (2 : Int32) [.int y0, .int y1] (.int 0)) (htv : t ≠ v) :
    Py l Z (⟨"java/lang/AbstractStringBuilder", "append", "(Ljava/lang/String;)Ljava/lang/AbstractStringBuilder;"⟩ : MethodName) 4 61 0 0 #[(.ref b), (.ref s)] h0 [b, v] (fun rv h' => rv = some (.ref b) ∧ Exa Z h' b "java/lang/StringBuilder" ∧ Fld Z h' b "java/lang/AbstractStringBuilder" "count" "I" (.int 8) ∧ Fld Z h' b "java/lang/AbstractStringBuilder" "coder" "B" (.int 0) ∧ Fld Z h' b "java/lang/AbstractStringBuilder" "value" "[B" (.ref v) ∧ Arv Z h' v kv .byte (16 : Int32) [.int x0, .int x1, .int x2, .int x3, .int x4, .int x5, .int y0, .int y1, .int 0, .int 0, .int 0, .int 0, .int 0, .int 0, .int 0, .int 0] (.int 0)) := by
  refine Ct.py (by0 := zc31) (ml := 3) (rt := (some (.object "java/lang/AbstractStringBuilder"))) (rm := ({ frames := 3, cells := 0, slots := 0, locals := 47 } : Room)) ?_ (hq hw 74 rfl) (hq hw 56 rfl)
  refine Ct.mk (a0 := a0) (Ls := #[.val (.ref b), .val (.ref s), .unset]) (plainFor_of_name pn_java_lang_AbstractStringBuilder) (fun m => by simp [entryFrame, mkF, argsToLocals, Value.category]) ?_
  intro κ C
  show Go l _ Z _ _ _ κ [b, v] h0 0 #[.val (.ref b), .val (.ref s), .unset] [] 0 0
  refine oc' C 1 d13_0 rfl rfl rfl (oa3' C (pc' := 9) d13_1 (by decide) (by decide) ?_)
  refine oc' C 10 d13_9 rfl rfl rfl (oo' C (a := s) (argsL := []) (W := 0) d13_10 (hq hw 75 rfl) (hq hw 76 rfl) (nfS (hq hw 78 rfl)) (hq hw 78 rfl) (hq hw 77 rfl) p5 (by decide) pd___I (ct_len0_2 l Z a0 hw am (s := s) (t := t) (kB := kt) (vs := [.int y0, .int y1]) p5 p6 p7 p8) rfl (Nat.le_of_eq rfl) rfl (by decide) mems0 ?_)
  intro fv1 ph2 K3 fq4
  obtain ⟨rfl, rfl⟩ := fq4
  refine ⟨[], fresh0, ?_⟩
  show Go l _ Z _ _ _ κ _ _ 13 _ [.int 2] 0 0
  refine op1' C 14 (Ls' := #[.val (.ref b), .val (.ref s), .val (.int 2)]) d13_13 rfl rfl (oc' C 15 d13_14 rfl rfl rfl ?_)
  refine oc' C 16 d13_15 rfl rfl rfl (ok' C 19 d13_16 rfl (hq hw 85 rfl) Via.refl p1 ?_)
  refine od' C 20 d13_19 rfl rfl (ox1' C 21 (8 : Int32) d13_20 rfl (by decide) ?_)
  refine oo' C (a := b) (argsL := [.int 8]) (W := 0) d13_21 (hq hw 87 rfl) (decl_of (hq hw 88 rfl) (hq hw 91 rfl)) (nfS (hq hw 90 rfl)) (hq hw 90 rfl) (hq hw 88 rfl) p0 (by decide) pd__I_V (ct_ens8 l Z a0 hw am (b := b) (v := v) (kv := kv) (vs := [.int x0, .int x1, .int x2, .int x3, .int x4, .int x5, .int 0, .int 0, .int 0, .int 0, .int 0, .int 0, .int 0, .int 0, .int 0, .int 0]) p2 p3 p4) rfl (Nat.le_of_eq rfl) rfl (by decide) mems0 ?_
  intro fv5 ph6 K7 fq8
  obtain ⟨rfl, rfl⟩ := fq8
  refine ⟨[], fresh0, ?_⟩
  show Go l _ Z _ _ _ κ _ _ 24 _ [] 0 0
  refine oc' C 25 d13_24 rfl rfl rfl (oc' C 26 d13_25 rfl rfl rfl ?_)
  refine ok' C 29 d13_26 rfl (hq hw 85 rfl) Via.refl p1 (oc' C 30 d13_29 rfl rfl rfl ?_)
  refine oo' C (a := b) (argsL := [.int 6, (.ref s)]) (W := 0) d13_30 (hq hw 92 rfl) (decl_of (hq hw 93 rfl) (hq hw 96 rfl)) (nfS (hq hw 95 rfl)) (hq hw 95 rfl) (hq hw 93 rfl) p0 (by decide) pd__ILjava_lang_String__V (ct_psa6_2 l Z a0 hw am (b := b) (v := v) (s := s) (t := t) (kv := kv) (kt := kt) (x0 := x0) (x1 := x1) (x2 := x2) (x3 := x3) (x4 := x4) (x5 := x5) (y0 := y0) (y1 := y1) p0 p1 p2 p3 p4 p5 p6 p7 p8 htv) rfl (Nat.le_of_eq rfl) rfl (by decide) (memsS (mi 1 rfl) mems0) ?_
  intro fv9 ph10 K11 fq12
  obtain ⟨rfl, fx13⟩ := fq12
  refine ⟨[], fresh0, ?_⟩
  show Go l _ Z _ _ _ κ _ _ 33 _ [] 0 0
  refine oc' C 34 d13_33 rfl rfl rfl (ou' C 35 d13_34 rfl rfl ?_)
  have fx14 := (p1.keep K11 (ninS (Exa.neArv (p0.keep K11) fx13 (hq hw 47 rfl)) nin0))
  refine ok' C 38 d13_35 rfl (hq hw 85 rfl) Via.refl fx14 (od' C 39 d13_38 rfl rfl ?_)
  refine ox1' C 40 (8 : Int32) d13_39 rfl (by decide) ?_
  have fx15 := (p0.keep K11)
  refine oh1' C 43 (ty := .int) d13_40 rfl (hq hw 85 rfl) Via.refl fx14 fx15 (Or.inl (hq hw 86 rfl)) (hq hw 47 rfl) (by decide) rfl rfl (mi 0 rfl) ?_
  intro ph16 W17
  have fx18 : Fld Z ph16 b "java/lang/AbstractStringBuilder" "count" "I" (.int 8) := Fld.same W17 fx14
  refine oc' C 44 d13_43 rfl rfl rfl (ov' C (v := (.ref b)) d13_44 rfl rfl rfl (by decide) (by decide) ?_)
  have fx19 := (Exa.wr W17 fx15)
  have fx20 := (Fld.other W17 (p2.keep K11 (ninS (Exa.neArv (p0.keep K11) fx13 (hq hw 47 rfl)) nin0)) (Or.inr (slot_ne (Or.inl (hq hw 63 rfl)) (Or.inl (hq hw 86 rfl)) (by decide) (t := .byte) (t' := .int) (by decide) (by decide))))
  have fx21 := (Fld.other W17 (p3.keep K11 (ninS (Exa.neArv (p0.keep K11) fx13 (hq hw 47 rfl)) nin0)) (Or.inr (slot_ne (Or.inl (hq hw 61 rfl)) (Or.inl (hq hw 86 rfl)) (by decide) (t := (.array .byte)) (t' := .int) (by decide) (by decide))))
  have fx22 := (fx13.other W17 (Ne.symm (Exa.neArv (p0.keep K11) fx13 (hq hw 47 rfl))))
  exact ⟨rfl, fx19, fx18, fx20, fx21, fx22⟩
theorem ct_app6_2 (l : Launch) (Z : State) (a0 : Array Value) (hw : HW a0 Z) {cS : Int32} {fm : Value} (am : Amb Z a0 cS fm) {b v s t : Addr} {kv kt : ClassId} {x0 x1 x2 x3 x4 x5 y0 y1 : Int32} {h0 : Heap} (p0 : Exa Z h0 b "java/lang/StringBuilder") (p1 : Fld Z h0 b "java/lang/AbstractStringBuilder" "count" "I" (.int 6)) (p2 : Fld Z h0 b "java/lang/AbstractStringBuilder" "coder" "B" (.int 0)) (p3 : Fld Z h0 b "java/lang/AbstractStringBuilder" "value" "[B" (.ref v)) (p4 : Arv Z h0 v kv .byte (16 : Int32) [.int x0, .int x1, .int x2, .int x3, .int x4, .int x5, .int 0, .int 0, .int 0, .int 0, .int 0, .int 0, .int 0, .int 0, .int 0, .int 0] (.int 0)) (p5 : Exa Z h0 s "java/lang/String") (p6 : Fld Z h0 s "java/lang/String" "coder" "B" (.int 0)) (p7 : Fld Z h0 s "java/lang/String" "value" "[B" (.ref t)) (p8 : Arv Z h0 t kt .byte (2 : Int32) [.int y0, .int y1] (.int 0)) (htv : t ≠ v) :
    Py l Z (⟨"java/lang/StringBuilder", "append", "(Ljava/lang/String;)Ljava/lang/StringBuilder;"⟩ : MethodName) 5 74 0 0 #[(.ref b), (.ref s)] h0 [b, v] (fun rv h' => rv = some (.ref b) ∧ Exa Z h' b "java/lang/StringBuilder" ∧ Fld Z h' b "java/lang/AbstractStringBuilder" "count" "I" (.int 8) ∧ Fld Z h' b "java/lang/AbstractStringBuilder" "coder" "B" (.int 0) ∧ Fld Z h' b "java/lang/AbstractStringBuilder" "value" "[B" (.ref v) ∧ Arv Z h' v kv .byte (16 : Int32) [.int x0, .int x1, .int x2, .int x3, .int x4, .int x5, .int y0, .int y1, .int 0, .int 0, .int 0, .int 0, .int 0, .int 0, .int 0, .int 0] (.int 0)) := by
  refine Ct.py (by0 := zc29) (ml := 2) (rt := (some (.object "java/lang/StringBuilder"))) (rm := ({ frames := 4, cells := 0, slots := 0, locals := 61 } : Room)) ?_ (hq hw 69 rfl) (hq hw 48 rfl)
  refine Ct.mk (a0 := a0) (Ls := #[.val (.ref b), .val (.ref s)]) (plainFor_of_name pn_java_lang_StringBuilder) (fun m => by simp [entryFrame, mkF, argsToLocals, Value.category]) ?_
  intro κ C
  show Go l _ Z _ _ _ κ [b, v] h0 0 #[.val (.ref b), .val (.ref s)] [] 0 0
  refine oc' C 1 d12_0 rfl rfl rfl (oc' C 2 d12_1 rfl rfl rfl ?_)
  refine ov2' C (a := b) (argsL := [(.ref s)]) (W := 0) d12_2 (by decide) (hq hw 70 rfl) (same_of (hq hw 71 rfl) (nf_cls (hq hw 90 rfl) rfl) (by decide)) (hq hw 71 rfl) (hq hw 72 rfl) (hq hw 74 rfl) p0 (by decide) pd__Ljava_lang_String__Ljava_lang_AbstractStringBuilder_ (ct_aap6_2 l Z a0 hw am (b := b) (v := v) (s := s) (t := t) (kv := kv) (kt := kt) (x0 := x0) (x1 := x1) (x2 := x2) (x3 := x3) (x4 := x4) (x5 := x5) (y0 := y0) (y1 := y1) p0 p1 p2 p3 p4 p5 p6 p7 p8 htv) rfl (Nat.le_of_eq rfl) rfl (by decide) (memsS (mi 0 rfl) (memsS (mi 1 rfl) mems0)) ?_
  intro fv1 ph2 K3 fq4
  obtain ⟨rfl, fx5, fx6, fx7, fx8, fx9⟩ := fq4
  refine ⟨[], fresh0, ?_⟩
  show Go l _ Z _ _ _ κ _ _ 5 _ [(.ref b)] 0 0
  refine ox2' C 6 d12_5 rfl rfl (oc' C 7 d12_6 rfl rfl rfl ?_)
  refine ov' C (v := (.ref b)) d12_7 rfl rfl rfl (by decide) (by decide) ?_
  exact ⟨rfl, fx5, fx6, fx7, fx8, fx9⟩
theorem ct_cl0_8 (l : Launch) (Z : State) (a0 : Array Value) (hw : HW a0 Z) {cS : Int32} {fm : Value} (am : Amb Z a0 cS fm) {h0 : Heap} :
    Py l Z (⟨"java/util/Arrays", "checkLength", "(II)V"⟩ : MethodName) 1 13 0 0 #[.int 0, .int 8] h0 [] (fun rv h' => rv = none ∧ h' = h0) := by
  refine Ct.py (by0 := zc24) (ml := 2) (rt := none) (rm := ({ frames := 0, cells := 0, slots := 0, locals := 0 } : Room)) ?_ (hq hw 151 rfl) (hq hw 144 rfl)
  refine Ct.mk (a0 := a0) (Ls := #[.val (.int 0), .val (.int 8)]) (plainFor_of_name pn_java_util_Arrays) (fun m => by simp [entryFrame, mkF, argsToLocals, Value.category]) ?_
  intro κ C
  show Go l _ Z _ _ _ κ [] h0 0 #[.val (.int 0), .val (.int 8)] [] 0 0
  refine od' C 1 d29_0 rfl rfl (od' C 2 d29_1 rfl rfl ?_)
  refine oh' C (pc' := 37) d29_2 (by decide) (by decide) (by decide) (oe' C d29_37 rfl (by decide) (by decide) ?_)
  exact ⟨rfl, rfl⟩
theorem ct_min16_8 (l : Launch) (Z : State) (a0 : Array Value) (hw : HW a0 Z) {cS : Int32} {fm : Value} (am : Amb Z a0 cS fm) {h0 : Heap} :
    Py l Z (⟨"java/lang/Math", "min", "(II)I"⟩ : MethodName) 1 13 0 0 #[.int 16, .int 8] h0 [] (fun rv h' => rv = some (.int 8) ∧ h' = h0) := by
  refine Ct.py (by0 := zc0) (ml := 2) (rt := (some .int)) (rm := ({ frames := 0, cells := 0, slots := 0, locals := 0 } : Room)) ?_ (hq hw 155 rfl) (hq hw 154 rfl)
  refine Ct.mk (a0 := a0) (Ls := #[.val (.int 16), .val (.int 8)]) (Jvm.Free.JP.mathPlain rfl (by decide +kernel)) (fun m => by simp [entryFrame, mkF, argsToLocals, Value.category]) ?_
  intro κ C
  show Go l _ Z _ _ _ κ [] h0 0 #[.val (.int 16), .val (.int 8)] [] 0 0
  refine od' C 1 d30_0 rfl rfl (od' C 2 d30_1 rfl rfl ?_)
  refine oh' C (pc' := 9) d30_2 (by decide) (by decide) (by decide) (od' C 10 d30_9 rfl rfl ?_)
  refine ol1' C d30_10 rfl (by decide) (by decide) ?_
  exact ⟨rfl, rfl⟩
theorem ct_crb16_0_8 (l : Launch) (Z : State) (a0 : Array Value) (hw : HW a0 Z) {cS : Int32} {fm : Value} (am : Amb Z a0 cS fm) {v : Addr} {kv : ClassId} {x0 x1 x2 x3 x4 x5 x6 x7 x8 x9 x10 x11 x12 x13 x14 x15 : Int32} {h0 : Heap} (p0 : Arv Z h0 v kv .byte (16 : Int32) [.int x0, .int x1, .int x2, .int x3, .int x4, .int x5, .int x6, .int x7, .int x8, .int x9, .int x10, .int x11, .int x12, .int x13, .int x14, .int x15] (.int 0)) :
    Py l Z (⟨"java/util/Arrays", "copyOfRangeByte", "([BII)[B"⟩ : MethodName) 2 34 1 8 #[(.ref v), .int 0, .int 8] h0 [] (fun rv h' => ∃ (t : Addr) (kt : ClassId), rv = some (.ref t) ∧ Arv Z h' t kt .byte (8 : Int32) [.int x0, .int x1, .int x2, .int x3, .int x4, .int x5, .int x6, .int x7] (.int 0) ∧ (h0.size ≤ t)) := by
  refine Ct.py (by0 := zc26) (ml := 5) (rt := (some (.array .byte))) (rm := ({ frames := 1, cells := 1, slots := 8, locals := 18 } : Room)) ?_ (hq hw 148 rfl) (hq hw 144 rfl)
  refine Ct.mk (a0 := a0) (Ls := #[.val (.ref v), .val (.int 0), .val (.int 8), .unset, .unset]) (plainFor_of_name pn_java_util_Arrays) (fun m => by simp [entryFrame, mkF, argsToLocals, Value.category]) ?_
  intro κ C
  show Go l _ Z _ _ _ κ [] h0 0 #[.val (.ref v), .val (.int 0), .val (.int 8), .unset, .unset] [] 0 0
  refine od' C 1 d28_0 rfl rfl (od' C 2 d28_1 rfl rfl ?_)
  refine or' C (argsL := [.int 0, .int 8]) (W := 0) d28_2 (hq hw 149 rfl) (hq hw 150 rfl) (hq hw 144 rfl) (hq hw 151 rfl) (by decide) pd__II_V (ct_cl0_8 l Z a0 hw am) rfl (Nat.le_of_eq rfl) rfl (by decide) mems0 ?_
  intro fv1 ph2 K3 fq4
  obtain ⟨rfl, rfl⟩ := fq4
  refine ⟨[], fresh0, ?_⟩
  show Go l _ Z _ _ _ κ _ _ 5 _ [] 0 0
  refine od' C 6 d28_5 rfl rfl (od' C 7 d28_6 rfl rfl ?_)
  refine oj1' C 8 (8 : Int32) d28_7 rfl (by decide) (op1' C 9 (Ls' := #[.val (.ref v), .val (.int 0), .val (.int 8), .val (.int 8), .unset]) d28_8 rfl rfl ?_)
  refine od' C 10 d28_9 rfl rfl (ow1' C 12 1 8 (ty := .byte) (cap := 8) d28_10 rfl rfl rfl rfl (hq hw 23 rfl) (by decide) (by decide) (by decide) (by decide) (by decide) ?_)
  intro b5 ph6 k7 g8 E9 V10
  have fx11 : Arv Z ph6 b5 k7 .byte (8 : Int32) [.int 0, .int 0, .int 0, .int 0, .int 0, .int 0, .int 0, .int 0] (.int 0) := V10
  refine ob1' C 14 (Ls' := #[.val (.ref v), .val (.int 0), .val (.int 8), .val (.int 8), .val (.ref b5)]) d28_12 rfl rfl rfl (oc' C 15 d28_14 rfl rfl rfl ?_)
  refine od' C 16 d28_15 rfl rfl (ob' C 18 d28_16 rfl rfl rfl ?_)
  refine of' C 19 (0 : Int32) d28_18 rfl (by decide) (oc' C 20 d28_19 rfl rfl rfl ?_)
  have fx12 := (p0.ext E9)
  refine oj' C 21 d28_20 rfl fx12 (od' C 22 d28_21 rfl rfl ?_)
  refine oj1' C 23 (16 : Int32) d28_22 rfl (by decide) (od' C 24 d28_23 rfl rfl ?_)
  refine or' C (argsL := [.int 16, .int 8]) (W := 4) d28_24 (hq hw 152 rfl) (hq hw 153 rfl) (hq hw 154 rfl) (hq hw 155 rfl) (by decide) pd__II_I (ct_min16_8 l Z a0 hw am) rfl (Nat.le_of_eq rfl) rfl (by decide) mems0 ?_
  intro fv13 ph14 K15 fq16
  obtain ⟨rfl, rfl⟩ := fq16
  refine ⟨[], fresh0, ?_⟩
  show Go l _ Z _ _ _ κ _ _ 27 _ [.int 8, .int 0, (.ref b5), .int 0, (.ref v)] 1 8
  refine on2' C 30 (W := 0) (us := [.int x0, .int x1, .int x2, .int x3, .int x4, .int x5, .int x6, .int x7]) (vr := [.int x0, .int x1, .int x2, .int x3, .int x4, .int x5, .int x6, .int x7]) d28_27 rfl (hq hw 156 rfl) (hq hw 111 rfl) (hq hw 109 rfl) (hq hw 110 rfl) fx12 fx11 rfl (by decide) (by decide) (by decide) (by decide) (by decide) rfl (nble rfl) rfl rfl (by decide) (Nat.le_of_eq rfl) (by decide) (mi 0 rfl) ?_
  intro ph17 K18 fx19
  refine ob' C 32 d28_30 rfl rfl rfl (ov' C (v := (.ref b5)) d28_32 rfl rfl rfl (by decide) (by decide) ?_)
  exact ⟨b5, k7, rfl, fx19, (Nat.le_of_eq g8.symm)⟩
theorem ct_cor16_0_8 (l : Launch) (Z : State) (a0 : Array Value) (hw : HW a0 Z) {cS : Int32} {fm : Value} (am : Amb Z a0 cS fm) {v : Addr} {kv : ClassId} {x0 x1 x2 x3 x4 x5 x6 x7 x8 x9 x10 x11 x12 x13 x14 x15 : Int32} {h0 : Heap} (p0 : Arv Z h0 v kv .byte (16 : Int32) [.int x0, .int x1, .int x2, .int x3, .int x4, .int x5, .int x6, .int x7, .int x8, .int x9, .int x10, .int x11, .int x12, .int x13, .int x14, .int x15] (.int 0)) :
    Py l Z (⟨"java/util/Arrays", "copyOfRange", "([BII)[B"⟩ : MethodName) 3 48 1 8 #[(.ref v), .int 0, .int 8] h0 [] (fun rv h' => ∃ (t : Addr) (kt : ClassId), rv = some (.ref t) ∧ Arv Z h' t kt .byte (8 : Int32) [.int x0, .int x1, .int x2, .int x3, .int x4, .int x5, .int x6, .int x7] (.int 0) ∧ (h0.size ≤ t)) := by
  refine Ct.py (by0 := zc25) (ml := 3) (rt := (some (.array .byte))) (rm := ({ frames := 2, cells := 1, slots := 8, locals := 34 } : Room)) ?_ (hq hw 145 rfl) (hq hw 144 rfl)
  refine Ct.mk (a0 := a0) (Ls := #[.val (.ref v), .val (.int 0), .val (.int 8)]) (plainFor_of_name pn_java_util_Arrays) (fun m => by simp [entryFrame, mkF, argsToLocals, Value.category]) ?_
  intro κ C
  show Go l _ Z _ _ _ κ [] h0 0 #[.val (.ref v), .val (.int 0), .val (.int 8)] [] 0 0
  refine od' C 1 d27_0 rfl rfl (ot' C 4 d27_1 rfl (by decide) ?_)
  refine od' C 5 d27_4 rfl rfl (oc' C 6 d27_5 rfl rfl rfl ?_)
  refine oj' C 7 d27_6 rfl p0 (oi' C 10 d27_7 rfl (by decide) ?_)
  refine oc' C 11 d27_10 rfl rfl rfl (od' C 12 d27_11 rfl rfl ?_)
  refine od' C 13 d27_12 rfl rfl (or' C (argsL := [(.ref v), .int 0, .int 8]) (W := 0) d27_13 (hq hw 146 rfl) (hq hw 147 rfl) (hq hw 144 rfl) (hq hw 148 rfl) (by decide) pd___BII__B (ct_crb16_0_8 l Z a0 hw am (v := v) (kv := kv) (x0 := x0) (x1 := x1) (x2 := x2) (x3 := x3) (x4 := x4) (x5 := x5) (x6 := x6) (x7 := x7) (x8 := x8) (x9 := x9) (x10 := x10) (x11 := x11) (x12 := x12) (x13 := x13) (x14 := x14) (x15 := x15) p0) rfl (Nat.le_of_eq rfl) rfl (by decide) mems0 ?_)
  intro fv1 ph2 K3 fq4
  obtain ⟨t5, kt6, rfl, fx7, fx8⟩ := fq4
  refine ⟨[t5], (freshS ⟨fx8, (fx7).lt⟩ fresh0), ?_⟩
  show Go l _ Z _ _ _ κ [t5] _ 16 _ [(.ref t5)] 1 8
  refine ov' C (v := (.ref t5)) d27_16 rfl rfl rfl (by decide) (by decide) ?_
  exact ⟨t5, kt6, rfl, fx7, fx8⟩
theorem ct_sv8 (l : Launch) (Z : State) (a0 : Array Value) (hw : HW a0 Z) {cS : Int32} {fm : Value} (am : Amb Z a0 cS fm) {a b v : Addr} {kv : ClassId} {x0 x1 x2 x3 x4 x5 x6 x7 x8 x9 x10 x11 x12 x13 x14 x15 : Int32} {h0 : Heap} (p0 : Exa Z h0 a "java/lang/String") (p1 : Fld Z h0 a "java/lang/String" "value" "[B" .null) (p2 : Fld Z h0 a "java/lang/String" "coder" "B" (.int 0)) (p3 : Exa Z h0 b "java/lang/StringBuilder") (p4 : Fld Z h0 b "java/lang/AbstractStringBuilder" "count" "I" (.int 8)) (p5 : Fld Z h0 b "java/lang/AbstractStringBuilder" "coder" "B" (.int 0)) (p6 : Fld Z h0 b "java/lang/AbstractStringBuilder" "value" "[B" (.ref v)) (p7 : Arv Z h0 v kv .byte (16 : Int32) [.int x0, .int x1, .int x2, .int x3, .int x4, .int x5, .int x6, .int x7, .int x8, .int x9, .int x10, .int x11, .int x12, .int x13, .int x14, .int x15] (.int 0)) :
    Py l Z (⟨"java/lang/String", "<init>", "(Ljava/lang/AbstractStringBuilder;Ljava/lang/Void;)V"⟩ : MethodName) 4 65 1 8 #[(.ref a), (.ref b), .null] h0 [a] (fun rv h' => ∃ (t : Addr) (kt : ClassId), rv = none ∧ Exa Z h' a "java/lang/String" ∧ Fld Z h' a "java/lang/String" "coder" "B" (.int 0) ∧ Fld Z h' a "java/lang/String" "value" "[B" (.ref t) ∧ Arv Z h' t kt .byte (8 : Int32) [.int x0, .int x1, .int x2, .int x3, .int x4, .int x5, .int x6, .int x7] (.int 0) ∧ (h0.size ≤ t)) := by
  refine Ct.py (by0 := zc5) (ml := 5) (rt := none) (rm := ({ frames := 3, cells := 1, slots := 8, locals := 49 } : Room)) ?_ (hq hw 123 rfl) (hq hw 6 rfl)
  refine Ct.mk (a0 := a0) (Ls := #[.val (.ref a), .val (.ref b), .val .null, .unset, .unset]) (plainFor_of_name pn_java_lang_String) (fun m => by simp [entryFrame, mkF, argsToLocals, Value.category]) ?_
  intro κ C
  show Go l _ Z _ _ _ κ [a] h0 0 #[.val (.ref a), .val (.ref b), .val .null, .unset, .unset] [] 0 0
  refine oc' C 1 d22_0 rfl rfl rfl (oj2' C 4 (W := 0) d22_1 rfl (hq hw 15 rfl) (hq hw 16 rfl) (hq hw 17 rfl) rfl (by decide) (Nat.le_of_eq rfl) (by decide) ?_)
  refine oc' C 5 d22_4 rfl rfl rfl (oo' C (a := b) (argsL := []) (W := 0) d22_5 (hq hw 124 rfl) (hq hw 125 rfl) (nfS (hq hw 127 rfl)) (hq hw 127 rfl) (hq hw 126 rfl) p3 (by decide) pd____B (ct_gv l Z a0 hw am (b := b) (v := v) p6) rfl (Nat.le_of_eq rfl) rfl (by decide) mems0 ?_)
  intro fv1 ph2 K3 fq4
  obtain ⟨rfl, rfl⟩ := fq4
  refine ⟨[], fresh0, ?_⟩
  show Go l _ Z _ _ _ κ _ _ 8 _ [(.ref v)] 0 0
  refine ov1' C 9 (Ls' := #[.val (.ref a), .val (.ref b), .val .null, .val (.ref v), .unset]) d22_8 rfl rfl rfl (oc' C 10 d22_9 rfl rfl rfl ?_)
  refine oo' C (a := b) (argsL := []) (W := 0) d22_10 (hq hw 129 rfl) (hq hw 130 rfl) (fun _ hZ => nf_cls (a0 := #[]) (mvT hZ (hq hw 90 rfl)) rfl) (hq hw 132 rfl) (hq hw 133 rfl) p3 (by decide) pd___I (ct_sln l Z a0 hw am (b := b) (n := (8 : Int32)) p3 p4) rfl (Nat.le_of_eq rfl) rfl (by decide) mems0 ?_
  intro fv5 ph6 K7 fq8
  obtain ⟨rfl, rfl⟩ := fq8
  refine ⟨[], fresh0, ?_⟩
  show Go l _ Z _ _ _ κ _ _ 13 _ [.int 8] 0 0
  refine ol' C 15 (Ls' := #[.val (.ref a), .val (.ref b), .val .null, .val (.ref v), .val (.int 8)]) d22_13 rfl rfl (oc' C 16 d22_15 rfl rfl rfl ?_)
  refine oo' C (a := b) (argsL := []) (W := 0) d22_16 (hq hw 137 rfl) (hq hw 138 rfl) (nfS (hq hw 140 rfl)) (hq hw 140 rfl) (hq hw 139 rfl) p3 (by decide) pd___Z (ct_ail l Z a0 hw am (b := b) p5) rfl (Nat.le_of_eq rfl) rfl (by decide) mems0 ?_
  intro fv9 ph10 K11 fq12
  obtain ⟨rfl, rfl⟩ := fq12
  refine ⟨[], fresh0, ?_⟩
  show Go l _ Z _ _ _ κ _ _ 19 _ [.int 1] 0 0
  refine ot' C 22 d22_19 rfl (by decide) (oc' C 23 d22_22 rfl rfl rfl ?_)
  refine of' C 24 (0 : Int32) d22_23 rfl (by decide) (ol2' C 27 (ty := .byte) (v' := .int 0) d22_24 rfl (hq hw 30 rfl) Via.refl p2 p0 (Or.inr ⟨(hq hw 31 rfl), rfl, rfl⟩) (hq hw 5 rfl) (by decide) rfl (by decide) (mi 0 rfl) ?_)
  intro ph13 W14
  have fx15 : Fld Z ph13 a "java/lang/String" "coder" "B" (.int 0) := Fld.same W14 p2
  refine oc' C 28 d22_27 rfl rfl rfl (oc' C 29 d22_28 rfl rfl rfl ?_)
  refine of' C 30 (0 : Int32) d22_29 rfl (by decide) (oa' C 32 d22_30 rfl rfl ?_)
  have fx16 := (p7.other W14 (Ne.symm (Exa.neArv p0 p7 (hq hw 5 rfl))))
  refine or' C (argsL := [(.ref v), .int 0, .int 8]) (W := 1) d22_32 (hq hw 142 rfl) (hq hw 143 rfl) (hq hw 144 rfl) (hq hw 145 rfl) (by decide) pd___BII__B (ct_cor16_0_8 l Z a0 hw am (v := v) (kv := kv) (x0 := x0) (x1 := x1) (x2 := x2) (x3 := x3) (x4 := x4) (x5 := x5) (x6 := x6) (x7 := x7) (x8 := x8) (x9 := x9) (x10 := x10) (x11 := x11) (x12 := x12) (x13 := x13) (x14 := x14) (x15 := x15) fx16) rfl (Nat.le_of_eq rfl) rfl (by decide) mems0 ?_
  intro fv17 ph18 K19 fq20
  obtain ⟨t21, kt22, rfl, fx23, fx24⟩ := fq20
  refine ⟨[t21], (freshS ⟨fx24, (fx23).lt⟩ fresh0), ?_⟩
  show Go l _ Z _ _ _ κ [t21, a] _ 35 _ [(.ref t21), (.ref a)] 1 8
  have fx25 := ((Fld.other W14 p1 (Or.inr (slot_ne (Or.inr (hq hw 33 rfl)) (Or.inr (hq hw 31 rfl)) (by decide) (t := (.array .byte)) (t' := .byte) (by decide) (by decide)))).keep K19 nin0)
  have fx26 := ((Exa.wr W14 p0).keep K19)
  refine oh1' C 38 (ty := (.array .byte)) d22_35 rfl (hq hw 32 rfl) Via.refl fx25 fx26 (Or.inr ⟨(hq hw 33 rfl), rfl, rfl⟩) (hq hw 5 rfl) (by decide) rfl rfl (mi 1 rfl) ?_
  intro ph27 W28
  have fx29 : Fld Z ph27 a "java/lang/String" "value" "[B" (.ref t21) := Fld.same W28 fx25
  refine om' C (pc' := 97) d22_38 (by decide) (by decide) (oe' C d22_97 rfl (by decide) (by decide) ?_)
  have fx30 := (Exa.wr W28 fx26)
  have fx31 := (Fld.other W28 (fx15.keep K19 nin0) (Or.inr (slot_ne (Or.inr (hq hw 31 rfl)) (Or.inr (hq hw 33 rfl)) (by decide) (t := .byte) (t' := (.array .byte)) (by decide) (by decide))))
  have fx32 := (fx23.other W28 (Ne.symm (Nat.ne_of_lt (nltle (nltle (p0).lt (Nat.le_of_eq W14.size.symm)) fx24))))
  exact ⟨t21, kt22, rfl, fx30, fx31, fx29, fx32, (Nat.le_trans (Nat.le_of_eq W14.size.symm) fx24)⟩
theorem ct_sb8 (l : Launch) (Z : State) (a0 : Array Value) (hw : HW a0 Z) {cS : Int32} {fm : Value} (am : Amb Z a0 cS fm) {a b v : Addr} {kv : ClassId} {x0 x1 x2 x3 x4 x5 x6 x7 x8 x9 x10 x11 x12 x13 x14 x15 : Int32} {h0 : Heap} (p0 : Exa Z h0 a "java/lang/String") (p1 : Fld Z h0 a "java/lang/String" "value" "[B" .null) (p2 : Fld Z h0 a "java/lang/String" "coder" "B" (.int 0)) (p3 : Exa Z h0 b "java/lang/StringBuilder") (p4 : Fld Z h0 b "java/lang/AbstractStringBuilder" "count" "I" (.int 8)) (p5 : Fld Z h0 b "java/lang/AbstractStringBuilder" "coder" "B" (.int 0)) (p6 : Fld Z h0 b "java/lang/AbstractStringBuilder" "value" "[B" (.ref v)) (p7 : Arv Z h0 v kv .byte (16 : Int32) [.int x0, .int x1, .int x2, .int x3, .int x4, .int x5, .int x6, .int x7, .int x8, .int x9, .int x10, .int x11, .int x12, .int x13, .int x14, .int x15] (.int 0)) :
    Py l Z (⟨"java/lang/String", "<init>", "(Ljava/lang/StringBuilder;)V"⟩ : MethodName) 5 78 1 8 #[(.ref a), (.ref b)] h0 [a] (fun rv h' => ∃ (t : Addr) (kt : ClassId), rv = none ∧ Exa Z h' a "java/lang/String" ∧ Fld Z h' a "java/lang/String" "coder" "B" (.int 0) ∧ Fld Z h' a "java/lang/String" "value" "[B" (.ref t) ∧ Arv Z h' t kt .byte (8 : Int32) [.int x0, .int x1, .int x2, .int x3, .int x4, .int x5, .int x6, .int x7] (.int 0) ∧ (h0.size ≤ t)) := by
  refine Ct.py (by0 := zc11) (ml := 2) (rt := none) (rm := ({ frames := 4, cells := 1, slots := 8, locals := 65 } : Room)) ?_ (hq hw 120 rfl) (hq hw 6 rfl)
  refine Ct.mk (a0 := a0) (Ls := #[.val (.ref a), .val (.ref b)]) (plainFor_of_name pn_java_lang_String) (fun m => by simp [entryFrame, mkF, argsToLocals, Value.category]) ?_
  intro κ C
  show Go l _ Z _ _ _ κ [a] h0 0 #[.val (.ref a), .val (.ref b)] [] 0 0
  refine oc' C 1 d21_0 rfl rfl rfl (oc' C 2 d21_1 rfl rfl rfl ?_)
  refine oo2' C 3 d21_2 rfl (oq1' C (a := a) (argsL := [(.ref b), .null]) (W := 0) d21_3 rfl (hq hw 121 rfl) (hq hw 122 rfl) (hq hw 123 rfl) (by decide) pd__Ljava_lang_AbstractStringBuilder_Ljava_lang_Void__V (ct_sv8 l Z a0 hw am (a := a) (b := b) (v := v) (kv := kv) (x0 := x0) (x1 := x1) (x2 := x2) (x3 := x3) (x4 := x4) (x5 := x5) (x6 := x6) (x7 := x7) (x8 := x8) (x9 := x9) (x10 := x10) (x11 := x11) (x12 := x12) (x13 := x13) (x14 := x14) (x15 := x15) p0 p1 p2 p3 p4 p5 p6 p7) rfl (Nat.le_of_eq rfl) rfl (by decide) (memsS (mi 0 rfl) mems0) ?_)
  intro fv1 ph2 K3 fq4
  obtain ⟨t5, kt6, rfl, fx7, fx8, fx9, fx10, fx11⟩ := fq4
  refine ⟨[t5], (freshS ⟨fx11, (fx10).lt⟩ fresh0), ?_⟩
  show Go l _ Z _ _ _ κ [t5, a] _ 6 _ [] 1 8
  refine oe' C d21_6 rfl (by decide) (by decide) ?_
  exact ⟨t5, kt6, rfl, fx7, fx8, fx9, fx10, fx11⟩
theorem ct_ts8 (l : Launch) (Z : State) (a0 : Array Value) (hw : HW a0 Z) {cS : Int32} {fm : Value} (am : Amb Z a0 cS fm) {b v : Addr} {kv : ClassId} {x0 x1 x2 x3 x4 x5 x6 x7 x8 x9 x10 x11 x12 x13 x14 x15 : Int32} {h0 : Heap} (p0 : Exa Z h0 b "java/lang/StringBuilder") (p1 : Fld Z h0 b "java/lang/AbstractStringBuilder" "count" "I" (.int 8)) (p2 : Fld Z h0 b "java/lang/AbstractStringBuilder" "coder" "B" (.int 0)) (p3 : Fld Z h0 b "java/lang/AbstractStringBuilder" "value" "[B" (.ref v)) (p4 : Arv Z h0 v kv .byte (16 : Int32) [.int x0, .int x1, .int x2, .int x3, .int x4, .int x5, .int x6, .int x7, .int x8, .int x9, .int x10, .int x11, .int x12, .int x13, .int x14, .int x15] (.int 0)) :
    Py l Z (⟨"java/lang/StringBuilder", "toString", "()Ljava/lang/String;"⟩ : MethodName) 6 91 2 12 #[(.ref b)] h0 [] (fun rv h' => ∃ (a : Addr) (t : Addr) (kt : ClassId), rv = some (.ref a) ∧ Exa Z h' a "java/lang/String" ∧ Fld Z h' a "java/lang/String" "coder" "B" (.int 0) ∧ Fld Z h' a "java/lang/String" "value" "[B" (.ref t) ∧ Arv Z h' t kt .byte (8 : Int32) [.int x0, .int x1, .int x2, .int x3, .int x4, .int x5, .int x6, .int x7] (.int 0) ∧ (h0.size ≤ t) ∧ (h0.size ≤ a)) := by
  refine Ct.py (by0 := zc28) (ml := 1) (rt := (some (.object "java/lang/String"))) (rm := ({ frames := 5, cells := 2, slots := 12, locals := 79 } : Room)) ?_ (hq hw 116 rfl) (hq hw 48 rfl)
  refine Ct.mk (a0 := a0) (Ls := #[.val (.ref b)]) (plainFor_of_name pn_java_lang_StringBuilder) (fun m => by simp [entryFrame, mkF, argsToLocals, Value.category]) ?_
  intro κ C
  show Go l _ Z _ _ _ κ [] h0 0 #[.val (.ref b)] [] 0 0
  refine oc1' C 3 1 4 d20_0 rfl rfl rfl (hq hw 117 rfl) (hq hw 5 rfl) (hq hw 6 rfl) (by decide) (by decide) ?_
  intro b1 ph2 g3 E4 A5 D6
  have fx7 : Fld Z ph2 b1 "java/lang/String" "coder" "B" (.int 0) := D6 (Or.inr (hq hw 31 rfl)) (ty := .byte) (by decide)
  have fx8 : Fld Z ph2 b1 "java/lang/String" "value" "[B" .null := D6 (Or.inr (hq hw 33 rfl)) (ty := (.array .byte)) (by decide)
  refine ou' C 4 d20_3 rfl rfl (oc' C 5 d20_4 rfl rfl rfl ?_)
  have fx9 := (Exa.ext E4 p0)
  have fx10 := (Fld.ext E4 p1)
  have fx11 := (Fld.ext E4 p2)
  have fx12 := (Fld.ext E4 p3)
  have fx13 := (p4.ext E4)
  refine oq1' C (a := b1) (argsL := [(.ref b)]) (W := 1) d20_5 rfl (hq hw 118 rfl) (hq hw 119 rfl) (hq hw 120 rfl) (by decide) pd__Ljava_lang_StringBuilder__V (ct_sb8 l Z a0 hw am (a := b1) (b := b) (v := v) (kv := kv) (x0 := x0) (x1 := x1) (x2 := x2) (x3 := x3) (x4 := x4) (x5 := x5) (x6 := x6) (x7 := x7) (x8 := x8) (x9 := x9) (x10 := x10) (x11 := x11) (x12 := x12) (x13 := x13) (x14 := x14) (x15 := x15) A5 fx8 fx7 fx9 fx10 fx11 fx12 fx13) rfl (Nat.le_of_eq rfl) rfl (by decide) (memsS (mi 0 rfl) mems0) ?_
  intro fv14 ph15 K16 fq17
  obtain ⟨t18, kt19, rfl, fx20, fx21, fx22, fx23, fx24⟩ := fq17
  refine ⟨[t18], (freshS ⟨fx24, (fx23).lt⟩ fresh0), ?_⟩
  show Go l _ Z _ _ _ κ [t18, b1] _ 8 _ [(.ref b1)] 2 12
  refine ov' C (v := (.ref b1)) d20_8 rfl rfl rfl (by decide) (by decide) ?_
  exact ⟨b1, t18, kt19, rfl, fx20, fx21, fx22, fx23, (Nat.le_trans E4.1 fx24), (Nat.le_of_eq g3.symm)⟩
theorem ct_len0_3 (l : Launch) (Z : State) (a0 : Array Value) (hw : HW a0 Z) {cS : Int32} {fm : Value} (am : Amb Z a0 cS fm) {s t : Addr} {kB : ClassId} {vs : List Value} {h0 : Heap} (p0 : Exa Z h0 s "java/lang/String") (p1 : Fld Z h0 s "java/lang/String" "coder" "B" (.int 0)) (p2 : Fld Z h0 s "java/lang/String" "value" "[B" (.ref t)) (p3 : Arv Z h0 t kB .byte (3 : Int32) vs (.int 0)) :
    Py l Z (⟨"java/lang/String", "length", "()I"⟩ : MethodName) 2 25 0 0 #[(.ref s)] h0 [] (fun rv h' => rv = some (.int 3) ∧ h' = h0) := by
  refine Ct.py (by0 := zc12) (ml := 1) (rt := (some .int)) (rm := ({ frames := 1, cells := 0, slots := 0, locals := 13 } : Room)) ?_ (hq hw 79 rfl) (hq hw 6 rfl)
  refine Ct.mk (a0 := a0) (Ls := #[.val (.ref s)]) (plainFor_of_name pn_java_lang_String) (fun m => by simp [entryFrame, mkF, argsToLocals, Value.category]) ?_
  intro κ C
  show Go l _ Z _ _ _ κ [] h0 0 #[.val (.ref s)] [] 0 0
  refine oc' C 1 d14_0 rfl rfl rfl (ok' C 4 d14_1 rfl (hq hw 32 rfl) Via.refl p2 ?_)
  refine oj' C 5 d14_4 rfl p3 (oc' C 6 d14_5 rfl rfl rfl ?_)
  refine oo' C (a := s) (argsL := []) (W := 1) d14_6 (hq hw 80 rfl) (hq hw 81 rfl) (nfS (hq hw 83 rfl)) (hq hw 83 rfl) (hq hw 82 rfl) p0 (by decide) pd___B (ct_cod0 l Z a0 hw am (s := s) p1) rfl (Nat.le_of_eq rfl) rfl (by decide) mems0 ?_
  intro fv1 ph2 K3 fq4
  obtain ⟨rfl, rfl⟩ := fq4
  refine ⟨[], fresh0, ?_⟩
  show Go l _ Z _ _ _ κ _ _ 9 _ [.int 0, .int 3] 0 0
  refine om2' C 10 (3 : Int32) d14_9 rfl (by decide) (ol1' C d14_10 rfl (by decide) (by decide) ?_)
  exact ⟨rfl, rfl⟩
theorem ct_ens9 (l : Launch) (Z : State) (a0 : Array Value) (hw : HW a0 Z) {cS : Int32} {fm : Value} (am : Amb Z a0 cS fm) {b v : Addr} {kv : ClassId} {vs : List Value} {h0 : Heap} (p0 : Fld Z h0 b "java/lang/AbstractStringBuilder" "coder" "B" (.int 0)) (p1 : Fld Z h0 b "java/lang/AbstractStringBuilder" "value" "[B" (.ref v)) (p2 : Arv Z h0 v kv .byte (16 : Int32) vs (.int 0)) :
    Py l Z (⟨"java/lang/AbstractStringBuilder", "ensureCapacityInternal", "(I)V"⟩ : MethodName) 1 14 0 0 #[(.ref b), .int 9] h0 [] (fun rv h' => rv = none ∧ h' = h0) := by
  refine Ct.py (by0 := zc38) (ml := 3) (rt := none) (rm := ({ frames := 0, cells := 0, slots := 0, locals := 0 } : Room)) ?_ (hq hw 91 rfl) (hq hw 56 rfl)
  refine Ct.mk (a0 := a0) (Ls := #[.val (.ref b), .val (.int 9), .unset]) (plainFor_of_name pn_java_lang_AbstractStringBuilder) (fun m => by simp [entryFrame, mkF, argsToLocals, Value.category]) ?_
  intro κ C
  show Go l _ Z _ _ _ κ [] h0 0 #[.val (.ref b), .val (.int 9), .unset] [] 0 0
  refine oc' C 1 d16_0 rfl rfl rfl (ok' C 4 d16_1 rfl (hq hw 60 rfl) Via.refl p1 ?_)
  refine oj' C 5 d16_4 rfl p2 (oc' C 6 d16_5 rfl rfl rfl ?_)
  refine ok' C 9 d16_6 rfl (hq hw 62 rfl) Via.refl p0 (om2' C 10 (16 : Int32) d16_9 rfl (by decide) ?_)
  refine op1' C 11 (Ls' := #[.val (.ref b), .val (.int 9), .val (.int 16)]) d16_10 rfl rfl (od' C 12 d16_11 rfl rfl ?_)
  refine od' C 13 d16_12 rfl rfl (oj1' C 14 (-7 : Int32) d16_13 rfl (by decide) ?_)
  refine om1' C (pc' := 38) d16_14 (by decide) (by decide) (by decide) (oe' C d16_38 rfl (by decide) (by decide) ?_)
  exact ⟨rfl, rfl⟩
theorem ct_gb6_3 (l : Launch) (Z : State) (a0 : Array Value) (hw : HW a0 Z) {cS : Int32} {fm : Value} (am : Amb Z a0 cS fm) {v s t : Addr} {kv kt : ClassId} {x0 x1 x2 x3 x4 x5 y0 y1 y2 : Int32} {h0 : Heap} (p0 : Exa Z h0 s "java/lang/String") (p1 : Fld Z h0 s "java/lang/String" "coder" "B" (.int 0)) (p2 : Fld Z h0 s "java/lang/String" "value" "[B" (.ref t)) (p3 : Arv Z h0 t kt .byte (3 : Int32) [.int y0, .int y1, .int y2] (.int 0)) (p4 : Arv Z h0 v kv .byte (16 : Int32) [.int x0, .int x1, .int x2, .int x3, .int x4, .int x5, .int 0, .int 0, .int 0, .int 0, .int 0, .int 0, .int 0, .int 0, .int 0, .int 0] (.int 0)) (htv : t ≠ v) :
    Py l Z (⟨"java/lang/String", "getBytes", "([BIB)V"⟩ : MethodName) 2 33 0 0 #[(.ref s), (.ref v), .int 6, .int 0] h0 [v] (fun rv h' => rv = none ∧ Arv Z h' v kv .byte (16 : Int32) [.int x0, .int x1, .int x2, .int x3, .int x4, .int x5, .int y0, .int y1, .int y2, .int 0, .int 0, .int 0, .int 0, .int 0, .int 0, .int 0] (.int 0)) := by
  refine Ct.py (by0 := zc3) (ml := 4) (rt := none) (rm := ({ frames := 1, cells := 0, slots := 0, locals := 18 } : Room)) ?_ (hq hw 107 rfl) (hq hw 6 rfl)
  refine Ct.mk (a0 := a0) (Ls := #[.val (.ref s), .val (.ref v), .val (.int 6), .val (.int 0)]) (plainFor_of_name pn_java_lang_String) (fun m => by simp [entryFrame, mkF, argsToLocals, Value.category]) ?_
  intro κ C
  show Go l _ Z _ _ _ κ [v] h0 0 #[.val (.ref s), .val (.ref v), .val (.int 6), .val (.int 0)] [] 0 0
  refine oc' C 1 d19_0 rfl rfl rfl (oo' C (a := s) (argsL := []) (W := 0) d19_1 (hq hw 80 rfl) (hq hw 81 rfl) (nfS (hq hw 83 rfl)) (hq hw 83 rfl) (hq hw 82 rfl) p0 (by decide) pd___B (ct_cod0 l Z a0 hw am (s := s) p1) rfl (Nat.le_of_eq rfl) rfl (by decide) mems0 ?_)
  intro fv1 ph2 K3 fq4
  obtain ⟨rfl, rfl⟩ := fq4
  refine ⟨[], fresh0, ?_⟩
  show Go l _ Z _ _ _ κ _ _ 4 _ [.int 0] 0 0
  refine od' C 5 d19_4 rfl rfl (oi' C 8 d19_5 rfl (by decide) ?_)
  refine oc' C 9 d19_8 rfl rfl rfl (ok' C 12 d19_9 rfl (hq hw 32 rfl) Via.refl p2 ?_)
  refine of' C 13 (0 : Int32) d19_12 rfl (by decide) (oc' C 14 d19_13 rfl rfl rfl ?_)
  refine od' C 15 d19_14 rfl rfl (od' C 16 d19_15 rfl rfl ?_)
  refine ob3' C 17 (6 : Int32) d19_16 rfl (by decide) (oc' C 18 d19_17 rfl rfl rfl ?_)
  refine ok' C 21 d19_18 rfl (hq hw 32 rfl) Via.refl p2 (oj' C 22 d19_21 rfl p3 ?_)
  refine on2' C 25 (W := 0) (us := [.int y0, .int y1, .int y2]) (vr := [.int x0, .int x1, .int x2, .int x3, .int x4, .int x5, .int y0, .int y1, .int y2, .int 0, .int 0, .int 0, .int 0, .int 0, .int 0, .int 0]) d19_22 rfl (hq hw 108 rfl) (hq hw 111 rfl) (hq hw 109 rfl) (hq hw 110 rfl) p3 p4 rfl (by decide) (by decide) (by decide) (by decide) (by decide) rfl (nble rfl) rfl rfl (by decide) (Nat.le_of_eq rfl) (by decide) (mi 0 rfl) ?_
  intro ph5 K6 fx7
  refine om' C (pc' := 43) d19_25 (by decide) (by decide) (oe' C d19_43 rfl (by decide) (by decide) ?_)
  exact ⟨rfl, fx7⟩
theorem ct_psa6_3 (l : Launch) (Z : State) (a0 : Array Value) (hw : HW a0 Z) {cS : Int32} {fm : Value} (am : Amb Z a0 cS fm) {b v s t : Addr} {kv kt : ClassId} {x0 x1 x2 x3 x4 x5 y0 y1 y2 : Int32} {h0 : Heap} (p0 : Exa Z h0 b "java/lang/StringBuilder") (p1 : Fld Z h0 b "java/lang/AbstractStringBuilder" "count" "I" (.int 6)) (p2 : Fld Z h0 b "java/lang/AbstractStringBuilder" "coder" "B" (.int 0)) (p3 : Fld Z h0 b "java/lang/AbstractStringBuilder" "value" "[B" (.ref v)) (p4 : Arv Z h0 v kv .byte (16 : Int32) [.int x0, .int x1, .int x2, .int x3, .int x4, .int x5, .int 0, .int 0, .int 0, .int 0, .int 0, .int 0, .int 0, .int 0, .int 0, .int 0] (.int 0)) (p5 : Exa Z h0 s "java/lang/String") (p6 : Fld Z h0 s "java/lang/String" "coder" "B" (.int 0)) (p7 : Fld Z h0 s "java/lang/String" "value" "[B" (.ref t)) (p8 : Arv Z h0 t kt .byte (3 : Int32) [.int y0, .int y1, .int y2] (.int 0)) (htv : t ≠ v) :
    Py l Z (⟨"java/lang/AbstractStringBuilder", "putStringAt", "(ILjava/lang/String;)V"⟩ : MethodName) 3 47 0 0 #[(.ref b), .int 6, (.ref s)] h0 [v] (fun rv h' => rv = none ∧ Arv Z h' v kv .byte (16 : Int32) [.int x0, .int x1, .int x2, .int x3, .int x4, .int x5, .int y0, .int y1, .int y2, .int 0, .int 0, .int 0, .int 0, .int 0, .int 0, .int 0] (.int 0)) := by
  refine Ct.py (by0 := zc37) (ml := 3) (rt := none) (rm := ({ frames := 2, cells := 0, slots := 0, locals := 33 } : Room)) ?_ (hq hw 96 rfl) (hq hw 56 rfl)
  refine Ct.mk (a0 := a0) (Ls := #[.val (.ref b), .val (.int 6), .val (.ref s)]) (plainFor_of_name pn_java_lang_AbstractStringBuilder) (fun m => by simp [entryFrame, mkF, argsToLocals, Value.category]) ?_
  intro κ C
  show Go l _ Z _ _ _ κ [v] h0 0 #[.val (.ref b), .val (.int 6), .val (.ref s)] [] 0 0
  refine oc' C 1 d17_0 rfl rfl rfl (oc' C 2 d17_1 rfl rfl rfl ?_)
  refine oo' C (a := b) (argsL := [(.ref s)]) (W := 0) d17_2 (hq hw 97 rfl) (decl_of (hq hw 98 rfl) (hq hw 101 rfl)) (nfS (hq hw 100 rfl)) (hq hw 100 rfl) (hq hw 98 rfl) p0 (by decide) pd__Ljava_lang_String__V (ct_infl l Z a0 hw am (b := b) (s := s) p2 p5 p6) rfl (Nat.le_of_eq rfl) rfl (by decide) mems0 ?_
  intro fv1 ph2 K3 fq4
  obtain ⟨rfl, rfl⟩ := fq4
  refine ⟨[], fresh0, ?_⟩
  show Go l _ Z _ _ _ κ _ _ 5 _ [] 0 0
  refine oc' C 6 d17_5 rfl rfl rfl (oc' C 7 d17_6 rfl rfl rfl ?_)
  refine ok' C 10 d17_7 rfl (hq hw 60 rfl) Via.refl p3 (od' C 11 d17_10 rfl rfl ?_)
  refine oc' C 12 d17_11 rfl rfl rfl (ok' C 15 d17_12 rfl (hq hw 62 rfl) Via.refl p2 ?_)
  refine oo' C (a := s) (argsL := [(.ref v), .int 6, .int 0]) (W := 0) d17_15 (hq hw 103 rfl) (hq hw 104 rfl) (nfS (hq hw 106 rfl)) (hq hw 106 rfl) (hq hw 105 rfl) p5 (by decide) pd___BIB_V (ct_gb6_3 l Z a0 hw am (v := v) (s := s) (t := t) (kv := kv) (kt := kt) (x0 := x0) (x1 := x1) (x2 := x2) (x3 := x3) (x4 := x4) (x5 := x5) (y0 := y0) (y1 := y1) (y2 := y2) p5 p6 p7 p8 p4 htv) rfl (Nat.le_of_eq rfl) rfl (by decide) (memsS (mi 0 rfl) mems0) ?_
  intro fv5 ph6 K7 fq8
  obtain ⟨rfl, fx9⟩ := fq8
  refine ⟨[], fresh0, ?_⟩
  show Go l _ Z _ _ _ κ _ _ 18 _ [] 0 0
  refine oe' C d17_18 rfl (by decide) (by decide) ?_
  exact ⟨rfl, fx9⟩
theorem ct_aap6_3 (l : Launch) (Z : State) (a0 : Array Value) (hw : HW a0 Z) {cS : Int32} {fm : Value} (am : Amb Z a0 cS fm) {b v s t : Addr} {kv kt : ClassId} {x0 x1 x2 x3 x4 x5 y0 y1 y2 : Int32} {h0 : Heap} (p0 : Exa Z h0 b "java/lang/StringBuilder") (p1 : Fld Z h0 b "java/lang/AbstractStringBuilder" "count" "I" (.int 6)) (p2 : Fld Z h0 b "java/lang/AbstractStringBuilder" "coder" "B" (.int 0)) (p3 : Fld Z h0 b "java/lang/AbstractStringBuilder" "value" "[B" (.ref v)) (p4 : Arv Z h0 v kv .byte (16 : Int32) [.int x0, .int x1, .int x2, .int x3, .int x4, .int x5, .int 0, .int 0, .int 0, .int 0, .int 0, .int 0, .int 0, .int 0, .int 0, .int 0] (.int 0)) (p5 : Exa Z h0 s "java/lang/String") (p6 : Fld Z h0 s "java/lang/String" "coder" "B" (.int 0)) (p7 : Fld Z h0 s "java/lang/String" "value" "[B" (.ref t)) (p8 : Arv Z h0 t kt .byte (3 : Int32) [.int y0, .int y1, .int y2] (.int 0)) (htv : t ≠ v) :
    Py l Z (⟨"java/lang/AbstractStringBuilder", "append", "(Ljava/lang/String;)Ljava/lang/AbstractStringBuilder;"⟩ : MethodName) 4 61 0 0 #[(.ref b), (.ref s)] h0 [b, v] (fun rv h' => rv = some (.ref b) ∧ Exa Z h' b "java/lang/StringBuilder" ∧ Fld Z h' b "java/lang/AbstractStringBuilder" "count" "I" (.int 9) ∧ Fld Z h' b "java/lang/AbstractStringBuilder" "coder" "B" (.int 0) ∧ Fld Z h' b "java/lang/AbstractStringBuilder" "value" "[B" (.ref v) ∧ Arv Z h' v kv .byte (16 : Int32) [.int x0, .int x1, .int x2, .int x3, .int x4, .int x5, .int y0, .int y1, .int y2, .int 0, .int 0, .int 0, .int 0, .int 0, .int 0, .int 0] (.int 0)) := by
  refine Ct.py (by0 := zc31) (ml := 3) (rt := (some (.object "java/lang/AbstractStringBuilder"))) (rm := ({ frames := 3, cells := 0, slots := 0, locals := 47 } : Room)) ?_ (hq hw 74 rfl) (hq hw 56 rfl)
  refine Ct.mk (a0 := a0) (Ls := #[.val (.ref b), .val (.ref s), .unset]) (plainFor_of_name pn_java_lang_AbstractStringBuilder) (fun m => by simp [entryFrame, mkF, argsToLocals, Value.category]) ?_
  intro κ C
  show Go l _ Z _ _ _ κ [b, v] h0 0 #[.val (.ref b), .val (.ref s), .unset] [] 0 0
  refine oc' C 1 d13_0 rfl rfl rfl (oa3' C (pc' := 9) d13_1 (by decide) (by decide) ?_)
  refine oc' C 10 d13_9 rfl rfl rfl (oo' C (a := s) (argsL := []) (W := 0) d13_10 (hq hw 75 rfl) (hq hw 76 rfl) (nfS (hq hw 78 rfl)) (hq hw 78 rfl) (hq hw 77 rfl) p5 (by decide) pd___I (ct_len0_3 l Z a0 hw am (s := s) (t := t) (kB := kt) (vs := [.int y0, .int y1, .int y2]) p5 p6 p7 p8) rfl (Nat.le_of_eq rfl) rfl (by decide) mems0 ?_)
  intro fv1 ph2 K3 fq4
  obtain ⟨rfl, rfl⟩ := fq4
  refine ⟨[], fresh0, ?_⟩
  show Go l _ Z _ _ _ κ _ _ 13 _ [.int 3] 0 0
  refine op1' C 14 (Ls' := #[.val (.ref b), .val (.ref s), .val (.int 3)]) d13_13 rfl rfl (oc' C 15 d13_14 rfl rfl rfl ?_)
  refine oc' C 16 d13_15 rfl rfl rfl (ok' C 19 d13_16 rfl (hq hw 85 rfl) Via.refl p1 ?_)
  refine od' C 20 d13_19 rfl rfl (ox1' C 21 (9 : Int32) d13_20 rfl (by decide) ?_)
  refine oo' C (a := b) (argsL := [.int 9]) (W := 0) d13_21 (hq hw 87 rfl) (decl_of (hq hw 88 rfl) (hq hw 91 rfl)) (nfS (hq hw 90 rfl)) (hq hw 90 rfl) (hq hw 88 rfl) p0 (by decide) pd__I_V (ct_ens9 l Z a0 hw am (b := b) (v := v) (kv := kv) (vs := [.int x0, .int x1, .int x2, .int x3, .int x4, .int x5, .int 0, .int 0, .int 0, .int 0, .int 0, .int 0, .int 0, .int 0, .int 0, .int 0]) p2 p3 p4) rfl (Nat.le_of_eq rfl) rfl (by decide) mems0 ?_
  intro fv5 ph6 K7 fq8
  obtain ⟨rfl, rfl⟩ := fq8
  refine ⟨[], fresh0, ?_⟩
  show Go l _ Z _ _ _ κ _ _ 24 _ [] 0 0
  refine oc' C 25 d13_24 rfl rfl rfl (oc' C 26 d13_25 rfl rfl rfl ?_)
  refine ok' C 29 d13_26 rfl (hq hw 85 rfl) Via.refl p1 (oc' C 30 d13_29 rfl rfl rfl ?_)
  refine oo' C (a := b) (argsL := [.int 6, (.ref s)]) (W := 0) d13_30 (hq hw 92 rfl) (decl_of (hq hw 93 rfl) (hq hw 96 rfl)) (nfS (hq hw 95 rfl)) (hq hw 95 rfl) (hq hw 93 rfl) p0 (by decide) pd__ILjava_lang_String__V (ct_psa6_3 l Z a0 hw am (b := b) (v := v) (s := s) (t := t) (kv := kv) (kt := kt) (x0 := x0) (x1 := x1) (x2 := x2) (x3 := x3) (x4 := x4) (x5 := x5) (y0 := y0) (y1 := y1) (y2 := y2) p0 p1 p2 p3 p4 p5 p6 p7 p8 htv) rfl (Nat.le_of_eq rfl) rfl (by decide) (memsS (mi 1 rfl) mems0) ?_
  intro fv9 ph10 K11 fq12
  obtain ⟨rfl, fx13⟩ := fq12
  refine ⟨[], fresh0, ?_⟩
  show Go l _ Z _ _ _ κ _ _ 33 _ [] 0 0
  refine oc' C 34 d13_33 rfl rfl rfl (ou' C 35 d13_34 rfl rfl ?_)
  have fx14 := (p1.keep K11 (ninS (Exa.neArv (p0.keep K11) fx13 (hq hw 47 rfl)) nin0))
  refine ok' C 38 d13_35 rfl (hq hw 85 rfl) Via.refl fx14 (od' C 39 d13_38 rfl rfl ?_)
  refine ox1' C 40 (9 : Int32) d13_39 rfl (by decide) ?_
  have fx15 := (p0.keep K11)
  refine oh1' C 43 (ty := .int) d13_40 rfl (hq hw 85 rfl) Via.refl fx14 fx15 (Or.inl (hq hw 86 rfl)) (hq hw 47 rfl) (by decide) rfl rfl (mi 0 rfl) ?_
  intro ph16 W17
  have fx18 : Fld Z ph16 b "java/lang/AbstractStringBuilder" "count" "I" (.int 9) := Fld.same W17 fx14
  refine oc' C 44 d13_43 rfl rfl rfl (ov' C (v := (.ref b)) d13_44 rfl rfl rfl (by decide) (by decide) ?_)
  have fx19 := (Exa.wr W17 fx15)
  have fx20 := (Fld.other W17 (p2.keep K11 (ninS (Exa.neArv (p0.keep K11) fx13 (hq hw 47 rfl)) nin0)) (Or.inr (slot_ne (Or.inl (hq hw 63 rfl)) (Or.inl (hq hw 86 rfl)) (by decide) (t := .byte) (t' := .int) (by decide) (by decide))))
  have fx21 := (Fld.other W17 (p3.keep K11 (ninS (Exa.neArv (p0.keep K11) fx13 (hq hw 47 rfl)) nin0)) (Or.inr (slot_ne (Or.inl (hq hw 61 rfl)) (Or.inl (hq hw 86 rfl)) (by decide) (t := (.array .byte)) (t' := .int) (by decide) (by decide))))
  have fx22 := (fx13.other W17 (Ne.symm (Exa.neArv (p0.keep K11) fx13 (hq hw 47 rfl))))
  exact ⟨rfl, fx19, fx18, fx20, fx21, fx22⟩
theorem ct_app6_3 (l : Launch) (Z : State) (a0 : Array Value) (hw : HW a0 Z) {cS : Int32} {fm : Value} (am : Amb Z a0 cS fm) {b v s t : Addr} {kv kt : ClassId} {x0 x1 x2 x3 x4 x5 y0 y1 y2 : Int32} {h0 : Heap} (p0 : Exa Z h0 b "java/lang/StringBuilder") (p1 : Fld Z h0 b "java/lang/AbstractStringBuilder" "count" "I" (.int 6)) (p2 : Fld Z h0 b "java/lang/AbstractStringBuilder" "coder" "B" (.int 0)) (p3 : Fld Z h0 b "java/lang/AbstractStringBuilder" "value" "[B" (.ref v)) (p4 : Arv Z h0 v kv .byte (16 : Int32) [.int x0, .int x1, .int x2, .int x3, .int x4, .int x5, .int 0, .int 0, .int 0, .int 0, .int 0, .int 0, .int 0, .int 0, .int 0, .int 0] (.int 0)) (p5 : Exa Z h0 s "java/lang/String") (p6 : Fld Z h0 s "java/lang/String" "coder" "B" (.int 0)) (p7 : Fld Z h0 s "java/lang/String" "value" "[B" (.ref t)) (p8 : Arv Z h0 t kt .byte (3 : Int32) [.int y0, .int y1, .int y2] (.int 0)) (htv : t ≠ v) :
    Py l Z (⟨"java/lang/StringBuilder", "append", "(Ljava/lang/String;)Ljava/lang/StringBuilder;"⟩ : MethodName) 5 74 0 0 #[(.ref b), (.ref s)] h0 [b, v] (fun rv h' => rv = some (.ref b) ∧ Exa Z h' b "java/lang/StringBuilder" ∧ Fld Z h' b "java/lang/AbstractStringBuilder" "count" "I" (.int 9) ∧ Fld Z h' b "java/lang/AbstractStringBuilder" "coder" "B" (.int 0) ∧ Fld Z h' b "java/lang/AbstractStringBuilder" "value" "[B" (.ref v) ∧ Arv Z h' v kv .byte (16 : Int32) [.int x0, .int x1, .int x2, .int x3, .int x4, .int x5, .int y0, .int y1, .int y2, .int 0, .int 0, .int 0, .int 0, .int 0, .int 0, .int 0] (.int 0)) := by
  refine Ct.py (by0 := zc29) (ml := 2) (rt := (some (.object "java/lang/StringBuilder"))) (rm := ({ frames := 4, cells := 0, slots := 0, locals := 61 } : Room)) ?_ (hq hw 69 rfl) (hq hw 48 rfl)
  refine Ct.mk (a0 := a0) (Ls := #[.val (.ref b), .val (.ref s)]) (plainFor_of_name pn_java_lang_StringBuilder) (fun m => by simp [entryFrame, mkF, argsToLocals, Value.category]) ?_
  intro κ C
  show Go l _ Z _ _ _ κ [b, v] h0 0 #[.val (.ref b), .val (.ref s)] [] 0 0
  refine oc' C 1 d12_0 rfl rfl rfl (oc' C 2 d12_1 rfl rfl rfl ?_)
  refine ov2' C (a := b) (argsL := [(.ref s)]) (W := 0) d12_2 (by decide) (hq hw 70 rfl) (same_of (hq hw 71 rfl) (nf_cls (hq hw 90 rfl) rfl) (by decide)) (hq hw 71 rfl) (hq hw 72 rfl) (hq hw 74 rfl) p0 (by decide) pd__Ljava_lang_String__Ljava_lang_AbstractStringBuilder_ (ct_aap6_3 l Z a0 hw am (b := b) (v := v) (s := s) (t := t) (kv := kv) (kt := kt) (x0 := x0) (x1 := x1) (x2 := x2) (x3 := x3) (x4 := x4) (x5 := x5) (y0 := y0) (y1 := y1) (y2 := y2) p0 p1 p2 p3 p4 p5 p6 p7 p8 htv) rfl (Nat.le_of_eq rfl) rfl (by decide) (memsS (mi 0 rfl) (memsS (mi 1 rfl) mems0)) ?_
  intro fv1 ph2 K3 fq4
  obtain ⟨rfl, fx5, fx6, fx7, fx8, fx9⟩ := fq4
  refine ⟨[], fresh0, ?_⟩
  show Go l _ Z _ _ _ κ _ _ 5 _ [(.ref b)] 0 0
  refine ox2' C 6 d12_5 rfl rfl (oc' C 7 d12_6 rfl rfl rfl ?_)
  refine ov' C (v := (.ref b)) d12_7 rfl rfl rfl (by decide) (by decide) ?_
  exact ⟨rfl, fx5, fx6, fx7, fx8, fx9⟩
theorem ct_cl0_9 (l : Launch) (Z : State) (a0 : Array Value) (hw : HW a0 Z) {cS : Int32} {fm : Value} (am : Amb Z a0 cS fm) {h0 : Heap} :
    Py l Z (⟨"java/util/Arrays", "checkLength", "(II)V"⟩ : MethodName) 1 13 0 0 #[.int 0, .int 9] h0 [] (fun rv h' => rv = none ∧ h' = h0) := by
  refine Ct.py (by0 := zc24) (ml := 2) (rt := none) (rm := ({ frames := 0, cells := 0, slots := 0, locals := 0 } : Room)) ?_ (hq hw 151 rfl) (hq hw 144 rfl)
  refine Ct.mk (a0 := a0) (Ls := #[.val (.int 0), .val (.int 9)]) (plainFor_of_name pn_java_util_Arrays) (fun m => by simp [entryFrame, mkF, argsToLocals, Value.category]) ?_
  intro κ C
  show Go l _ Z _ _ _ κ [] h0 0 #[.val (.int 0), .val (.int 9)] [] 0 0
  refine od' C 1 d29_0 rfl rfl (od' C 2 d29_1 rfl rfl ?_)
  refine oh' C (pc' := 37) d29_2 (by decide) (by decide) (by decide) (oe' C d29_37 rfl (by decide) (by decide) ?_)
  exact ⟨rfl, rfl⟩
theorem ct_min16_9 (l : Launch) (Z : State) (a0 : Array Value) (hw : HW a0 Z) {cS : Int32} {fm : Value} (am : Amb Z a0 cS fm) {h0 : Heap} :
    Py l Z (⟨"java/lang/Math", "min", "(II)I"⟩ : MethodName) 1 13 0 0 #[.int 16, .int 9] h0 [] (fun rv h' => rv = some (.int 9) ∧ h' = h0) := by
  refine Ct.py (by0 := zc0) (ml := 2) (rt := (some .int)) (rm := ({ frames := 0, cells := 0, slots := 0, locals := 0 } : Room)) ?_ (hq hw 155 rfl) (hq hw 154 rfl)
  refine Ct.mk (a0 := a0) (Ls := #[.val (.int 16), .val (.int 9)]) (Jvm.Free.JP.mathPlain rfl (by decide +kernel)) (fun m => by simp [entryFrame, mkF, argsToLocals, Value.category]) ?_
  intro κ C
  show Go l _ Z _ _ _ κ [] h0 0 #[.val (.int 16), .val (.int 9)] [] 0 0
  refine od' C 1 d30_0 rfl rfl (od' C 2 d30_1 rfl rfl ?_)
  refine oh' C (pc' := 9) d30_2 (by decide) (by decide) (by decide) (od' C 10 d30_9 rfl rfl ?_)
  refine ol1' C d30_10 rfl (by decide) (by decide) ?_
  exact ⟨rfl, rfl⟩
theorem ct_crb16_0_9 (l : Launch) (Z : State) (a0 : Array Value) (hw : HW a0 Z) {cS : Int32} {fm : Value} (am : Amb Z a0 cS fm) {v : Addr} {kv : ClassId} {x0 x1 x2 x3 x4 x5 x6 x7 x8 x9 x10 x11 x12 x13 x14 x15 : Int32} {h0 : Heap} (p0 : Arv Z h0 v kv .byte (16 : Int32) [.int x0, .int x1, .int x2, .int x3, .int x4, .int x5, .int x6, .int x7, .int x8, .int x9, .int x10, .int x11, .int x12, .int x13, .int x14, .int x15] (.int 0)) :
    Py l Z (⟨"java/util/Arrays", "copyOfRangeByte", "([BII)[B"⟩ : MethodName) 2 34 1 9 #[(.ref v), .int 0, .int 9] h0 [] (fun rv h' => ∃ (t : Addr) (kt : ClassId), rv = some (.ref t) ∧ Arv Z h' t kt .byte (9 : Int32) [.int x0, .int x1, .int x2, .int x3, .int x4, .int x5, .int x6, .int x7, .int x8] (.int 0) ∧ (h0.size ≤ t)) := by
  refine Ct.py (by0 := zc26) (ml := 5) (rt := (some (.array .byte))) (rm := ({ frames := 1, cells := 1, slots := 9, locals := 18 } : Room)) ?_ (hq hw 148 rfl) (hq hw 144 rfl)
  refine Ct.mk (a0 := a0) (Ls := #[.val (.ref v), .val (.int 0), .val (.int 9), .unset, .unset]) (plainFor_of_name pn_java_util_Arrays) (fun m => by simp [entryFrame, mkF, argsToLocals, Value.category]) ?_
  intro κ C
  show Go l _ Z _ _ _ κ [] h0 0 #[.val (.ref v), .val (.int 0), .val (.int 9), .unset, .unset] [] 0 0
  refine od' C 1 d28_0 rfl rfl (od' C 2 d28_1 rfl rfl ?_)
  refine or' C (argsL := [.int 0, .int 9]) (W := 0) d28_2 (hq hw 149 rfl) (hq hw 150 rfl) (hq hw 144 rfl) (hq hw 151 rfl) (by decide) pd__II_V (ct_cl0_9 l Z a0 hw am) rfl (Nat.le_of_eq rfl) rfl (by decide) mems0 ?_
  intro fv1 ph2 K3 fq4
  obtain ⟨rfl, rfl⟩ := fq4
  refine ⟨[], fresh0, ?_⟩
  show Go l _ Z _ _ _ κ _ _ 5 _ [] 0 0
  refine od' C 6 d28_5 rfl rfl (od' C 7 d28_6 rfl rfl ?_)
  refine oj1' C 8 (9 : Int32) d28_7 rfl (by decide) (op1' C 9 (Ls' := #[.val (.ref v), .val (.int 0), .val (.int 9), .val (.int 9), .unset]) d28_8 rfl rfl ?_)
  refine od' C 10 d28_9 rfl rfl (ow1' C 12 1 9 (ty := .byte) (cap := 9) d28_10 rfl rfl rfl rfl (hq hw 23 rfl) (by decide) (by decide) (by decide) (by decide) (by decide) ?_)
  intro b5 ph6 k7 g8 E9 V10
  have fx11 : Arv Z ph6 b5 k7 .byte (9 : Int32) [.int 0, .int 0, .int 0, .int 0, .int 0, .int 0, .int 0, .int 0, .int 0] (.int 0) := V10
  refine ob1' C 14 (Ls' := #[.val (.ref v), .val (.int 0), .val (.int 9), .val (.int 9), .val (.ref b5)]) d28_12 rfl rfl rfl (oc' C 15 d28_14 rfl rfl rfl ?_)
  refine od' C 16 d28_15 rfl rfl (ob' C 18 d28_16 rfl rfl rfl ?_)
  refine of' C 19 (0 : Int32) d28_18 rfl (by decide) (oc' C 20 d28_19 rfl rfl rfl ?_)
  have fx12 := (p0.ext E9)
  refine oj' C 21 d28_20 rfl fx12 (od' C 22 d28_21 rfl rfl ?_)
  refine oj1' C 23 (16 : Int32) d28_22 rfl (by decide) (od' C 24 d28_23 rfl rfl ?_)
  refine or' C (argsL := [.int 16, .int 9]) (W := 4) d28_24 (hq hw 152 rfl) (hq hw 153 rfl) (hq hw 154 rfl) (hq hw 155 rfl) (by decide) pd__II_I (ct_min16_9 l Z a0 hw am) rfl (Nat.le_of_eq rfl) rfl (by decide) mems0 ?_
  intro fv13 ph14 K15 fq16
  obtain ⟨rfl, rfl⟩ := fq16
  refine ⟨[], fresh0, ?_⟩
  show Go l _ Z _ _ _ κ _ _ 27 _ [.int 9, .int 0, (.ref b5), .int 0, (.ref v)] 1 9
  refine on2' C 30 (W := 0) (us := [.int x0, .int x1, .int x2, .int x3, .int x4, .int x5, .int x6, .int x7, .int x8]) (vr := [.int x0, .int x1, .int x2, .int x3, .int x4, .int x5, .int x6, .int x7, .int x8]) d28_27 rfl (hq hw 156 rfl) (hq hw 111 rfl) (hq hw 109 rfl) (hq hw 110 rfl) fx12 fx11 rfl (by decide) (by decide) (by decide) (by decide) (by decide) rfl (nble rfl) rfl rfl (by decide) (Nat.le_of_eq rfl) (by decide) (mi 0 rfl) ?_
  intro ph17 K18 fx19
  refine ob' C 32 d28_30 rfl rfl rfl (ov' C (v := (.ref b5)) d28_32 rfl rfl rfl (by decide) (by decide) ?_)
  exact ⟨b5, k7, rfl, fx19, (Nat.le_of_eq g8.symm)⟩
theorem ct_cor16_0_9 (l : Launch) (Z : State) (a0 : Array Value) (hw : HW a0 Z) {cS : Int32} {fm : Value} (am : Amb Z a0 cS fm) {v : Addr} {kv : ClassId} {x0 x1 x2 x3 x4 x5 x6 x7 x8 x9 x10 x11 x12 x13 x14 x15 : Int32} {h0 : Heap} (p0 : Arv Z h0 v kv .byte (16 : Int32) [.int x0, .int x1, .int x2, .int x3, .int x4, .int x5, .int x6, .int x7, .int x8, .int x9, .int x10, .int x11, .int x12, .int x13, .int x14, .int x15] (.int 0)) :
    Py l Z (⟨"java/util/Arrays", "copyOfRange", "([BII)[B"⟩ : MethodName) 3 48 1 9 #[(.ref v), .int 0, .int 9] h0 [] (fun rv h' => ∃ (t : Addr) (kt : ClassId), rv = some (.ref t) ∧ Arv Z h' t kt .byte (9 : Int32) [.int x0, .int x1, .int x2, .int x3, .int x4, .int x5, .int x6, .int x7, .int x8] (.int 0) ∧ (h0.size ≤ t)) := by
  refine Ct.py (by0 := zc25) (ml := 3) (rt := (some (.array .byte))) (rm := ({ frames := 2, cells := 1, slots := 9, locals := 34 } : Room)) ?_ (hq hw 145 rfl) (hq hw 144 rfl)
  refine Ct.mk (a0 := a0) (Ls := #[.val (.ref v), .val (.int 0), .val (.int 9)]) (plainFor_of_name pn_java_util_Arrays) (fun m => by simp [entryFrame, mkF, argsToLocals, Value.category]) ?_
  intro κ C
  show Go l _ Z _ _ _ κ [] h0 0 #[.val (.ref v), .val (.int 0), .val (.int 9)] [] 0 0
  refine od' C 1 d27_0 rfl rfl (ot' C 4 d27_1 rfl (by decide) ?_)
  refine od' C 5 d27_4 rfl rfl (oc' C 6 d27_5 rfl rfl rfl ?_)
  refine oj' C 7 d27_6 rfl p0 (oi' C 10 d27_7 rfl (by decide) ?_)
  refine oc' C 11 d27_10 rfl rfl rfl (od' C 12 d27_11 rfl rfl ?_)
  refine od' C 13 d27_12 rfl rfl (or' C (argsL := [(.ref v), .int 0, .int 9]) (W := 0) d27_13 (hq hw 146 rfl) (hq hw 147 rfl) (hq hw 144 rfl) (hq hw 148 rfl) (by decide) pd___BII__B (ct_crb16_0_9 l Z a0 hw am (v := v) (kv := kv) (x0 := x0) (x1 := x1) (x2 := x2) (x3 := x3) (x4 := x4) (x5 := x5) (x6 := x6) (x7 := x7) (x8 := x8) (x9 := x9) (x10 := x10) (x11 := x11) (x12 := x12) (x13 := x13) (x14 := x14) (x15 := x15) p0) rfl (Nat.le_of_eq rfl) rfl (by decide) mems0 ?_)
  intro fv1 ph2 K3 fq4
  obtain ⟨t5, kt6, rfl, fx7, fx8⟩ := fq4
  refine ⟨[t5], (freshS ⟨fx8, (fx7).lt⟩ fresh0), ?_⟩
  show Go l _ Z _ _ _ κ [t5] _ 16 _ [(.ref t5)] 1 9
  refine ov' C (v := (.ref t5)) d27_16 rfl rfl rfl (by decide) (by decide) ?_
  exact ⟨t5, kt6, rfl, fx7, fx8⟩
theorem ct_sv9 (l : Launch) (Z : State) (a0 : Array Value) (hw : HW a0 Z) {cS : Int32} {fm : Value} (am : Amb Z a0 cS fm) {a b v : Addr} {kv : ClassId} {x0 x1 x2 x3 x4 x5 x6 x7 x8 x9 x10 x11 x12 x13 x14 x15 : Int32} {h0 : Heap} (p0 : Exa Z h0 a "java/lang/String") (p1 : Fld Z h0 a "java/lang/String" "value" "[B" .null) (p2 : Fld Z h0 a "java/lang/String" "coder" "B" (.int 0)) (p3 : Exa Z h0 b "java/lang/StringBuilder") (p4 : Fld Z h0 b "java/lang/AbstractStringBuilder" "count" "I" (.int 9)) (p5 : Fld Z h0 b "java/lang/AbstractStringBuilder" "coder" "B" (.int 0)) (p6 : Fld Z h0 b "java/lang/AbstractStringBuilder" "value" "[B" (.ref v)) (p7 : Arv Z h0 v kv .byte (16 : Int32) [.int x0, .int x1, .int x2, .int x3, .int x4, .int x5, .int x6, .int x7, .int x8, .int x9, .int x10, .int x11, .int x12, .int x13, .int x14, .int x15] (.int 0)) :
    Py l Z (⟨"java/lang/String", "<init>", "(Ljava/lang/AbstractStringBuilder;Ljava/lang/Void;)V"⟩ : MethodName) 4 65 1 9 #[(.ref a), (.ref b), .null] h0 [a] (fun rv h' => ∃ (t : Addr) (kt : ClassId), rv = none ∧ Exa Z h' a "java/lang/String" ∧ Fld Z h' a "java/lang/String" "coder" "B" (.int 0) ∧ Fld Z h' a "java/lang/String" "value" "[B" (.ref t) ∧ Arv Z h' t kt .byte (9 : Int32) [.int x0, .int x1, .int x2, .int x3, .int x4, .int x5, .int x6, .int x7, .int x8] (.int 0) ∧ (h0.size ≤ t)) := by
  refine Ct.py (by0 := zc5) (ml := 5) (rt := none) (rm := ({ frames := 3, cells := 1, slots := 9, locals := 49 } : Room)) ?_ (hq hw 123 rfl) (hq hw 6 rfl)
  refine Ct.mk (a0 := a0) (Ls := #[.val (.ref a), .val (.ref b), .val .null, .unset, .unset]) (plainFor_of_name pn_java_lang_String) (fun m => by simp [entryFrame, mkF, argsToLocals, Value.category]) ?_
  intro κ C
  show Go l _ Z _ _ _ κ [a] h0 0 #[.val (.ref a), .val (.ref b), .val .null, .unset, .unset] [] 0 0
  refine oc' C 1 d22_0 rfl rfl rfl (oj2' C 4 (W := 0) d22_1 rfl (hq hw 15 rfl) (hq hw 16 rfl) (hq hw 17 rfl) rfl (by decide) (Nat.le_of_eq rfl) (by decide) ?_)
  refine oc' C 5 d22_4 rfl rfl rfl (oo' C (a := b) (argsL := []) (W := 0) d22_5 (hq hw 124 rfl) (hq hw 125 rfl) (nfS (hq hw 127 rfl)) (hq hw 127 rfl) (hq hw 126 rfl) p3 (by decide) pd____B (ct_gv l Z a0 hw am (b := b) (v := v) p6) rfl (Nat.le_of_eq rfl) rfl (by decide) mems0 ?_)
  intro fv1 ph2 K3 fq4
  obtain ⟨rfl, rfl⟩ := fq4
  refine ⟨[], fresh0, ?_⟩
  show Go l _ Z _ _ _ κ _ _ 8 _ [(.ref v)] 0 0
  refine ov1' C 9 (Ls' := #[.val (.ref a), .val (.ref b), .val .null, .val (.ref v), .unset]) d22_8 rfl rfl rfl (oc' C 10 d22_9 rfl rfl rfl ?_)
  refine oo' C (a := b) (argsL := []) (W := 0) d22_10 (hq hw 129 rfl) (hq hw 130 rfl) (fun _ hZ => nf_cls (a0 := #[]) (mvT hZ (hq hw 90 rfl)) rfl) (hq hw 132 rfl) (hq hw 133 rfl) p3 (by decide) pd___I (ct_sln l Z a0 hw am (b := b) (n := (9 : Int32)) p3 p4) rfl (Nat.le_of_eq rfl) rfl (by decide) mems0 ?_
  intro fv5 ph6 K7 fq8
  obtain ⟨rfl, rfl⟩ := fq8
  refine ⟨[], fresh0, ?_⟩
  show Go l _ Z _ _ _ κ _ _ 13 _ [.int 9] 0 0
  refine ol' C 15 (Ls' := #[.val (.ref a), .val (.ref b), .val .null, .val (.ref v), .val (.int 9)]) d22_13 rfl rfl (oc' C 16 d22_15 rfl rfl rfl ?_)
  refine oo' C (a := b) (argsL := []) (W := 0) d22_16 (hq hw 137 rfl) (hq hw 138 rfl) (nfS (hq hw 140 rfl)) (hq hw 140 rfl) (hq hw 139 rfl) p3 (by decide) pd___Z (ct_ail l Z a0 hw am (b := b) p5) rfl (Nat.le_of_eq rfl) rfl (by decide) mems0 ?_
  intro fv9 ph10 K11 fq12
  obtain ⟨rfl, rfl⟩ := fq12
  refine ⟨[], fresh0, ?_⟩
  show Go l _ Z _ _ _ κ _ _ 19 _ [.int 1] 0 0
  refine ot' C 22 d22_19 rfl (by decide) (oc' C 23 d22_22 rfl rfl rfl ?_)
  refine of' C 24 (0 : Int32) d22_23 rfl (by decide) (ol2' C 27 (ty := .byte) (v' := .int 0) d22_24 rfl (hq hw 30 rfl) Via.refl p2 p0 (Or.inr ⟨(hq hw 31 rfl), rfl, rfl⟩) (hq hw 5 rfl) (by decide) rfl (by decide) (mi 0 rfl) ?_)
  intro ph13 W14
  have fx15 : Fld Z ph13 a "java/lang/String" "coder" "B" (.int 0) := Fld.same W14 p2
  refine oc' C 28 d22_27 rfl rfl rfl (oc' C 29 d22_28 rfl rfl rfl ?_)
  refine of' C 30 (0 : Int32) d22_29 rfl (by decide) (oa' C 32 d22_30 rfl rfl ?_)
  have fx16 := (p7.other W14 (Ne.symm (Exa.neArv p0 p7 (hq hw 5 rfl))))
  refine or' C (argsL := [(.ref v), .int 0, .int 9]) (W := 1) d22_32 (hq hw 142 rfl) (hq hw 143 rfl) (hq hw 144 rfl) (hq hw 145 rfl) (by decide) pd___BII__B (ct_cor16_0_9 l Z a0 hw am (v := v) (kv := kv) (x0 := x0) (x1 := x1) (x2 := x2) (x3 := x3) (x4 := x4) (x5 := x5) (x6 := x6) (x7 := x7) (x8 := x8) (x9 := x9) (x10 := x10) (x11 := x11) (x12 := x12) (x13 := x13) (x14 := x14) (x15 := x15) fx16) rfl (Nat.le_of_eq rfl) rfl (by decide) mems0 ?_
  intro fv17 ph18 K19 fq20
  obtain ⟨t21, kt22, rfl, fx23, fx24⟩ := fq20
  refine ⟨[t21], (freshS ⟨fx24, (fx23).lt⟩ fresh0), ?_⟩
  show Go l _ Z _ _ _ κ [t21, a] _ 35 _ [(.ref t21), (.ref a)] 1 9
  have fx25 := ((Fld.other W14 p1 (Or.inr (slot_ne (Or.inr (hq hw 33 rfl)) (Or.inr (hq hw 31 rfl)) (by decide) (t := (.array .byte)) (t' := .byte) (by decide) (by decide)))).keep K19 nin0)
  have fx26 := ((Exa.wr W14 p0).keep K19)
  refine oh1' C 38 (ty := (.array .byte)) d22_35 rfl (hq hw 32 rfl) Via.refl fx25 fx26 (Or.inr ⟨(hq hw 33 rfl), rfl, rfl⟩) (hq hw 5 rfl) (by decide) rfl rfl (mi 1 rfl) ?_
  intro ph27 W28
  have fx29 : Fld Z ph27 a "java/lang/String" "value" "[B" (.ref t21) := Fld.same W28 fx25
  refine om' C (pc' := 97) d22_38 (by decide) (by decide) (oe' C d22_97 rfl (by decide) (by decide) ?_)
  have fx30 := (Exa.wr W28 fx26)
  have fx31 := (Fld.other W28 (fx15.keep K19 nin0) (Or.inr (slot_ne (Or.inr (hq hw 31 rfl)) (Or.inr (hq hw 33 rfl)) (by decide) (t := .byte) (t' := (.array .byte)) (by decide) (by decide))))
  have fx32 := (fx23.other W28 (Ne.symm (Nat.ne_of_lt (nltle (nltle (p0).lt (Nat.le_of_eq W14.size.symm)) fx24))))
  exact ⟨t21, kt22, rfl, fx30, fx31, fx29, fx32, (Nat.le_trans (Nat.le_of_eq W14.size.symm) fx24)⟩
theorem ct_sb9 (l : Launch) (Z : State) (a0 : Array Value) (hw : HW a0 Z) {cS : Int32} {fm : Value} (am : Amb Z a0 cS fm) {a b v : Addr} {kv : ClassId} {x0 x1 x2 x3 x4 x5 x6 x7 x8 x9 x10 x11 x12 x13 x14 x15 : Int32} {h0 : Heap} (p0 : Exa Z h0 a "java/lang/String") (p1 : Fld Z h0 a "java/lang/String" "value" "[B" .null) (p2 : Fld Z h0 a "java/lang/String" "coder" "B" (.int 0)) (p3 : Exa Z h0 b "java/lang/StringBuilder") (p4 : Fld Z h0 b "java/lang/AbstractStringBuilder" "count" "I" (.int 9)) (p5 : Fld Z h0 b "java/lang/AbstractStringBuilder" "coder" "B" (.int 0)) (p6 : Fld Z h0 b "java/lang/AbstractStringBuilder" "value" "[B" (.ref v)) (p7 : Arv Z h0 v kv .byte (16 : Int32) [.int x0, .int x1, .int x2, .int x3, .int x4, .int x5, .int x6, .int x7, .int x8, .int x9, .int x10, .int x11, .int x12, .int x13, .int x14, .int x15] (.int 0)) :
    Py l Z (⟨"java/lang/String", "<init>", "(Ljava/lang/StringBuilder;)V"⟩ : MethodName) 5 78 1 9 #[(.ref a), (.ref b)] h0 [a] (fun rv h' => ∃ (t : Addr) (kt : ClassId), rv = none ∧ Exa Z h' a "java/lang/String" ∧ Fld Z h' a "java/lang/String" "coder" "B" (.int 0) ∧ Fld Z h' a "java/lang/String" "value" "[B" (.ref t) ∧ Arv Z h' t kt .byte (9 : Int32) [.int x0, .int x1, .int x2, .int x3, .int x4, .int x5, .int x6, .int x7, .int x8] (.int 0) ∧ (h0.size ≤ t)) := by
  refine Ct.py (by0 := zc11) (ml := 2) (rt := none) (rm := ({ frames := 4, cells := 1, slots := 9, locals := 65 } : Room)) ?_ (hq hw 120 rfl) (hq hw 6 rfl)
  refine Ct.mk (a0 := a0) (Ls := #[.val (.ref a), .val (.ref b)]) (plainFor_of_name pn_java_lang_String) (fun m => by simp [entryFrame, mkF, argsToLocals, Value.category]) ?_
  intro κ C
  show Go l _ Z _ _ _ κ [a] h0 0 #[.val (.ref a), .val (.ref b)] [] 0 0
  refine oc' C 1 d21_0 rfl rfl rfl (oc' C 2 d21_1 rfl rfl rfl ?_)
  refine oo2' C 3 d21_2 rfl (oq1' C (a := a) (argsL := [(.ref b), .null]) (W := 0) d21_3 rfl (hq hw 121 rfl) (hq hw 122 rfl) (hq hw 123 rfl) (by decide) pd__Ljava_lang_AbstractStringBuilder_Ljava_lang_Void__V (ct_sv9 l Z a0 hw am (a := a) (b := b) (v := v) (kv := kv) (x0 := x0) (x1 := x1) (x2 := x2) (x3 := x3) (x4 := x4) (x5 := x5) (x6 := x6) (x7 := x7) (x8 := x8) (x9 := x9) (x10 := x10) (x11 := x11) (x12 := x12) (x13 := x13) (x14 := x14) (x15 := x15) p0 p1 p2 p3 p4 p5 p6 p7) rfl (Nat.le_of_eq rfl) rfl (by decide) (memsS (mi 0 rfl) mems0) ?_)
  intro fv1 ph2 K3 fq4
  obtain ⟨t5, kt6, rfl, fx7, fx8, fx9, fx10, fx11⟩ := fq4
  refine ⟨[t5], (freshS ⟨fx11, (fx10).lt⟩ fresh0), ?_⟩
  show Go l _ Z _ _ _ κ [t5, a] _ 6 _ [] 1 9
  refine oe' C d21_6 rfl (by decide) (by decide) ?_
  exact ⟨t5, kt6, rfl, fx7, fx8, fx9, fx10, fx11⟩
theorem ct_ts9 (l : Launch) (Z : State) (a0 : Array Value) (hw : HW a0 Z) {cS : Int32} {fm : Value} (am : Amb Z a0 cS fm) {b v : Addr} {kv : ClassId} {x0 x1 x2 x3 x4 x5 x6 x7 x8 x9 x10 x11 x12 x13 x14 x15 : Int32} {h0 : Heap} (p0 : Exa Z h0 b "java/lang/StringBuilder") (p1 : Fld Z h0 b "java/lang/AbstractStringBuilder" "count" "I" (.int 9)) (p2 : Fld Z h0 b "java/lang/AbstractStringBuilder" "coder" "B" (.int 0)) (p3 : Fld Z h0 b "java/lang/AbstractStringBuilder" "value" "[B" (.ref v)) (p4 : Arv Z h0 v kv .byte (16 : Int32) [.int x0, .int x1, .int x2, .int x3, .int x4, .int x5, .int x6, .int x7, .int x8, .int x9, .int x10, .int x11, .int x12, .int x13, .int x14, .int x15] (.int 0)) :
    Py l Z (⟨"java/lang/StringBuilder", "toString", "()Ljava/lang/String;"⟩ : MethodName) 6 91 2 13 #[(.ref b)] h0 [] (fun rv h' => ∃ (a : Addr) (t : Addr) (kt : ClassId), rv = some (.ref a) ∧ Exa Z h' a "java/lang/String" ∧ Fld Z h' a "java/lang/String" "coder" "B" (.int 0) ∧ Fld Z h' a "java/lang/String" "value" "[B" (.ref t) ∧ Arv Z h' t kt .byte (9 : Int32) [.int x0, .int x1, .int x2, .int x3, .int x4, .int x5, .int x6, .int x7, .int x8] (.int 0) ∧ (h0.size ≤ t) ∧ (h0.size ≤ a)) := by
  refine Ct.py (by0 := zc28) (ml := 1) (rt := (some (.object "java/lang/String"))) (rm := ({ frames := 5, cells := 2, slots := 13, locals := 79 } : Room)) ?_ (hq hw 116 rfl) (hq hw 48 rfl)
  refine Ct.mk (a0 := a0) (Ls := #[.val (.ref b)]) (plainFor_of_name pn_java_lang_StringBuilder) (fun m => by simp [entryFrame, mkF, argsToLocals, Value.category]) ?_
  intro κ C
  show Go l _ Z _ _ _ κ [] h0 0 #[.val (.ref b)] [] 0 0
  refine oc1' C 3 1 4 d20_0 rfl rfl rfl (hq hw 117 rfl) (hq hw 5 rfl) (hq hw 6 rfl) (by decide) (by decide) ?_
  intro b1 ph2 g3 E4 A5 D6
  have fx7 : Fld Z ph2 b1 "java/lang/String" "coder" "B" (.int 0) := D6 (Or.inr (hq hw 31 rfl)) (ty := .byte) (by decide)
  have fx8 : Fld Z ph2 b1 "java/lang/String" "value" "[B" .null := D6 (Or.inr (hq hw 33 rfl)) (ty := (.array .byte)) (by decide)
  refine ou' C 4 d20_3 rfl rfl (oc' C 5 d20_4 rfl rfl rfl ?_)
  have fx9 := (Exa.ext E4 p0)
  have fx10 := (Fld.ext E4 p1)
  have fx11 := (Fld.ext E4 p2)
  have fx12 := (Fld.ext E4 p3)
  have fx13 := (p4.ext E4)
  refine oq1' C (a := b1) (argsL := [(.ref b)]) (W := 1) d20_5 rfl (hq hw 118 rfl) (hq hw 119 rfl) (hq hw 120 rfl) (by decide) pd__Ljava_lang_StringBuilder__V (ct_sb9 l Z a0 hw am (a := b1) (b := b) (v := v) (kv := kv) (x0 := x0) (x1 := x1) (x2 := x2) (x3 := x3) (x4 := x4) (x5 := x5) (x6 := x6) (x7 := x7) (x8 := x8) (x9 := x9) (x10 := x10) (x11 := x11) (x12 := x12) (x13 := x13) (x14 := x14) (x15 := x15) A5 fx8 fx7 fx9 fx10 fx11 fx12 fx13) rfl (Nat.le_of_eq rfl) rfl (by decide) (memsS (mi 0 rfl) mems0) ?_
  intro fv14 ph15 K16 fq17
  obtain ⟨t18, kt19, rfl, fx20, fx21, fx22, fx23, fx24⟩ := fq17
  refine ⟨[t18], (freshS ⟨fx24, (fx23).lt⟩ fresh0), ?_⟩
  show Go l _ Z _ _ _ κ [t18, b1] _ 8 _ [(.ref b1)] 2 13
  refine ov' C (v := (.ref b1)) d20_8 rfl rfl rfl (by decide) (by decide) ?_
  exact ⟨b1, t18, kt19, rfl, fx20, fx21, fx22, fx23, (Nat.le_trans E4.1 fx24), (Nat.le_of_eq g3.symm)⟩
theorem ct_recinit (l : Launch) (Z : State) (a0 : Array Value) (hw : HW a0 Z) {cS : Int32} {fm : Value} (am : Amb Z a0 cS fm) {a : Addr} {h0 : Heap} :
    Py l Z (⟨"java/lang/Record", "<init>", "()V"⟩ : MethodName) 2 24 0 0 #[(.ref a)] h0 [] (fun rv h' => rv = none ∧ h' = h0) := by
  refine Ct.py (by0 := zc1) (ml := 1) (rt := none) (rm := ({ frames := 1, cells := 0, slots := 0, locals := 12 } : Room)) ?_ (hq hw 164 rfl) (hq hw 163 rfl)
  refine Ct.mk (a0 := a0) (Ls := #[.val (.ref a)]) (plainFor_of_name pn_java_lang_Record) (fun m => by simp [entryFrame, mkF, argsToLocals, Value.category]) ?_
  intro κ C
  show Go l _ Z _ _ _ κ [] h0 0 #[.val (.ref a)] [] 0 0
  refine oc' C 1 d32_0 rfl rfl rfl (oj2' C 4 (W := 0) d32_1 rfl (hq hw 165 rfl) (hq hw 16 rfl) (hq hw 17 rfl) rfl (by decide) (Nat.le_of_eq rfl) (by decide) ?_)
  refine oe' C d32_4 rfl (by decide) (by decide) ?_
  exact ⟨rfl, rfl⟩
theorem ct_soi (l : Launch) (Z : State) (a0 : Array Value) (hw : HW a0 Z) {cS : Int32} {fm : Value} (am : Amb Z a0 cS fm) {q f m : Addr} {n : Int32} {h0 : Heap} (p0 : Exa Z h0 q "com/example/evenlot/evenlot/Source") (p1 : Fld Z h0 q "com/example/evenlot/evenlot/Source" "fg" "Ljava/lang/String;" .null) (p2 : Fld Z h0 q "com/example/evenlot/evenlot/Source" "name" "Ljava/lang/String;" .null) (p3 : Fld Z h0 q "com/example/evenlot/evenlot/Source" "period" "I" (.int 0)) :
    Py l Z (⟨"com/example/evenlot/evenlot/Source", "<init>", "(Ljava/lang/String;Ljava/lang/String;I)V"⟩ : MethodName) 3 39 0 0 #[(.ref q), (.ref f), (.ref m), .int n] h0 [q] (fun rv h' => rv = none ∧ Exa Z h' q "com/example/evenlot/evenlot/Source" ∧ Fld Z h' q "com/example/evenlot/evenlot/Source" "fg" "Ljava/lang/String;" (.ref f) ∧ Fld Z h' q "com/example/evenlot/evenlot/Source" "name" "Ljava/lang/String;" (.ref m) ∧ Fld Z h' q "com/example/evenlot/evenlot/Source" "period" "I" (.int n)) := by
  refine Ct.py (by0 := zc44) (ml := 4) (rt := none) (rm := ({ frames := 2, cells := 0, slots := 0, locals := 24 } : Room)) ?_ (hq hw 159 rfl) (hq hw 42 rfl)
  refine Ct.mk (a0 := a0) (Ls := #[.val (.ref q), .val (.ref f), .val (.ref m), .val (.int n)]) (plainFor_of_name pn_com_example_evenlot_evenlot_Source) (fun m => by simp [entryFrame, mkF, argsToLocals, Value.category]) ?_
  intro κ C
  show Go l _ Z _ _ _ κ [q] h0 0 #[.val (.ref q), .val (.ref f), .val (.ref m), .val (.int n)] [] 0 0
  refine oc' C 1 d31_0 rfl rfl rfl (oq1' C (a := q) (argsL := []) (W := 0) d31_1 rfl (hq hw 160 rfl) (hq hw 161 rfl) (hq hw 164 rfl) (by decide) pd___V (ct_recinit l Z a0 hw am (a := q)) rfl (Nat.le_of_eq rfl) rfl (by decide) mems0 ?_)
  intro fv1 ph2 K3 fq4
  obtain ⟨rfl, rfl⟩ := fq4
  refine ⟨[], fresh0, ?_⟩
  show Go l _ Z _ _ _ κ _ _ 4 _ [] 0 0
  refine oc' C 5 d31_4 rfl rfl rfl (oc' C 6 d31_5 rfl rfl rfl ?_)
  refine oh1' C 9 (ty := (.object "java/lang/String")) d31_6 rfl (hq hw 166 rfl) Via.refl p1 p0 (Or.inr ⟨(hq hw 167 rfl), rfl, rfl⟩) (hq hw 45 rfl) (by decide) rfl rfl (mi 0 rfl) ?_
  intro ph5 W6
  have fx7 : Fld Z ph5 q "com/example/evenlot/evenlot/Source" "fg" "Ljava/lang/String;" (.ref f) := Fld.same W6 p1
  refine oc' C 10 d31_9 rfl rfl rfl (oc' C 11 d31_10 rfl rfl rfl ?_)
  have fx8 := (Fld.other W6 p2 (Or.inr (slot_ne (Or.inr (hq hw 169 rfl)) (Or.inr (hq hw 167 rfl)) (by decide) (t := (.object "java/lang/String")) (t' := (.object "java/lang/String")) (by decide) (by decide))))
  have fx9 := (Exa.wr W6 p0)
  refine oh1' C 14 (ty := (.object "java/lang/String")) d31_11 rfl (hq hw 168 rfl) Via.refl fx8 fx9 (Or.inr ⟨(hq hw 169 rfl), rfl, rfl⟩) (hq hw 45 rfl) (by decide) rfl rfl (mi 0 rfl) ?_
  intro ph10 W11
  have fx12 : Fld Z ph10 q "com/example/evenlot/evenlot/Source" "name" "Ljava/lang/String;" (.ref m) := Fld.same W11 fx8
  refine oc' C 15 d31_14 rfl rfl rfl (od' C 16 d31_15 rfl rfl ?_)
  have fx13 := (Fld.other W11 (Fld.other W6 p3 (Or.inr (slot_ne (Or.inr (hq hw 171 rfl)) (Or.inr (hq hw 167 rfl)) (by decide) (t := .int) (t' := (.object "java/lang/String")) (by decide) (by decide)))) (Or.inr (slot_ne (Or.inr (hq hw 171 rfl)) (Or.inr (hq hw 169 rfl)) (by decide) (t := .int) (t' := (.object "java/lang/String")) (by decide) (by decide))))
  have fx14 := (Exa.wr W11 fx9)
  refine oh1' C 19 (ty := .int) d31_16 rfl (hq hw 170 rfl) Via.refl fx13 fx14 (Or.inr ⟨(hq hw 171 rfl), rfl, rfl⟩) (hq hw 45 rfl) (by decide) rfl rfl (mi 0 rfl) ?_
  intro ph15 W16
  have fx17 : Fld Z ph15 q "com/example/evenlot/evenlot/Source" "period" "I" (.int n) := Fld.same W16 fx13
  refine oe' C d31_19 rfl (by decide) (by decide) ?_
  have fx18 := (Exa.wr W16 fx14)
  have fx19 := (Fld.other W16 (Fld.other W11 fx7 (Or.inr (slot_ne (Or.inr (hq hw 167 rfl)) (Or.inr (hq hw 169 rfl)) (by decide) (t := (.object "java/lang/String")) (t' := (.object "java/lang/String")) (by decide) (by decide)))) (Or.inr (slot_ne (Or.inr (hq hw 167 rfl)) (Or.inr (hq hw 171 rfl)) (by decide) (t := (.object "java/lang/String")) (t' := .int) (by decide) (by decide))))
  have fx20 := (Fld.other W16 fx12 (Or.inr (slot_ne (Or.inr (hq hw 169 rfl)) (Or.inr (hq hw 171 rfl)) (by decide) (t := (.object "java/lang/String")) (t' := .int) (by decide) (by decide))))
  exact ⟨rfl, fx18, fx19, fx20, fx17⟩
theorem ct_stock0 (l : Launch) (Z : State) (a0 : Array Value) (hw : HW a0 Z) {cS : Int32} {fm : Value} (am : Amb Z a0 cS fm) {f s t : Addr} {kt : ClassId} {h0 : Heap} (p0 : Exa Z h0 s "java/lang/String") (p1 : Fld Z h0 s "java/lang/String" "coder" "B" (.int 0)) (p2 : Fld Z h0 s "java/lang/String" "value" "[B" (.ref t)) (p3 : Arv Z h0 t kt .byte (0 : Int32) [] (.int 0)) :
    PyW l Z consts_1 a0 (⟨"com/example/evenlot/evenlot/Source", "stock", "(Ljava/lang/String;Ljava/lang/String;)Lcom/example/evenlot/evenlot/Source;"⟩ : MethodName) 7 107 7 61 #[(.ref f), (.ref s)] h0 [] (fun rv h' => ∃ (q : Addr) (m : Addr) (u : Addr) (ku : ClassId), rv = some (.ref q) ∧ Exa Z h' q "com/example/evenlot/evenlot/Source" ∧ Fld Z h' q "com/example/evenlot/evenlot/Source" "fg" "Ljava/lang/String;" (.ref f) ∧ Fld Z h' q "com/example/evenlot/evenlot/Source" "name" "Ljava/lang/String;" (.ref m) ∧ Fld Z h' q "com/example/evenlot/evenlot/Source" "period" "I" (.int 0) ∧ Exa Z h' m "java/lang/String" ∧ Fld Z h' m "java/lang/String" "coder" "B" (.int 0) ∧ Fld Z h' m "java/lang/String" "value" "[B" (.ref u) ∧ Arv Z h' u ku .byte (6 : Int32) [.int 115, .int 116, .int 111, .int 99, .int 107, .int 47] (.int 0)) := by
  have hEL := am.1
  refine CtW.py (by0 := zc45) (ml := 2) (rt := (some (.object "com/example/evenlot/evenlot/Source"))) (rm := ({ frames := 6, cells := 7, slots := 61, locals := 94 } : Room)) ?_ (hq hw 43 rfl) (hq hw 42 rfl)
  refine CtW.mk (a0 := a0) (Ls := #[.val (.ref f), .val (.ref s)]) (plainFor_of_name pn_com_example_evenlot_evenlot_Source) (fun m => by simp [entryFrame, mkF, argsToLocals, Value.category]) ?_
  intro κ C
  show GoW l _ Z _ _ _ _ _ κ [] h0 0 #[.val (.ref f), .val (.ref s)] [] 0 0
  refine wb2' C 3 1 3 d9_0 rfl rfl rfl (hq hw 44 rfl) (hq hw 45 rfl) (hq hw 42 rfl) (by decide) (by decide) ?_
  intro b1 ph2 g3 E4 A5 D6
  have fx7 : Fld Z ph2 b1 "com/example/evenlot/evenlot/Source" "fg" "Ljava/lang/String;" .null := D6 (Or.inr (hq hw 167 rfl)) (ty := (.object "java/lang/String")) (by decide)
  have fx8 : Fld Z ph2 b1 "com/example/evenlot/evenlot/Source" "name" "Ljava/lang/String;" .null := D6 (Or.inr (hq hw 169 rfl)) (ty := (.object "java/lang/String")) (by decide)
  have fx9 : Fld Z ph2 b1 "com/example/evenlot/evenlot/Source" "period" "I" (.int 0) := D6 (Or.inr (hq hw 171 rfl)) (ty := .int) (by decide)
  refine wa2' C 4 d9_3 rfl rfl (wk1' C 5 d9_4 rfl rfl rfl ?_)
  refine wb2' C 8 2 7 d9_5 rfl rfl rfl (hq hw 46 rfl) (hq hw 47 rfl) (hq hw 48 rfl) (by decide) (by decide) ?_
  intro b10 ph11 g12 E13 A14 D15
  have fx16 : Fld Z ph11 b10 "java/lang/AbstractStringBuilder" "value" "[B" .null := D15 (Or.inl (hq hw 61 rfl)) (ty := (.array .byte)) (by decide)
  have fx17 : Fld Z ph11 b10 "java/lang/AbstractStringBuilder" "coder" "B" (.int 0) := D15 (Or.inl (hq hw 63 rfl)) (ty := .byte) (by decide)
  have fx18 : Fld Z ph11 b10 "java/lang/AbstractStringBuilder" "count" "I" (.int 0) := D15 (Or.inl (hq hw 86 rfl)) (ty := .int) (by decide)
  refine wa2' C 9 d9_8 rfl rfl (wh2' C (a := b10) (argsL := []) (W := 4) d9_9 rfl (hq hw 49 rfl) (hq hw 50 rfl) (hq hw 51 rfl) (by decide) pd___V (ct_sbi l Z a0 hw am (b := b10) A14 fx18 fx17 fx16) rfl (Nat.le_of_eq rfl) rfl (by decide) (memsS (mi 0 rfl) mems0) ?_)
  intro fv19 ph20 K21 fq22
  obtain ⟨v23, kv24, rfl, fx25, fx26, fx27, fx28, fx29, fx30⟩ := fq22
  refine ⟨[v23], (freshS ⟨fx30, (fx29).lt⟩ fresh0), ?_⟩
  show GoW l _ Z _ _ _ _ _ κ [v23, b10, b1] _ 12 _ [(.ref b10), (.ref f), (.ref b1), (.ref b1)] 3 23
  refine wi2' C hEL 14 5 51 (n := 24) (vs := [.int 115, .int 116, .int 111, .int 99, .int 107, .int 47]) (zn := (6 : Int32)) d9_12 rfl rfl rfl (hq hw 64 rfl) (wS hw) (List.mem_of_getElem? (i := 0) rfl) (by decide) (by decide) rfl (by decide) (by decide) (by decide) (by decide) ?_
  intro sa31 sb32 k33 ph34 E35 fx36 fx37 fx38 fx39 fn40
  have fe41 : v23 ≠ sa31 := (fn40 _ (List.mem_of_getElem? (i := 0) rfl)).1
  have fe42 : v23 ≠ sb32 := (fn40 _ (List.mem_of_getElem? (i := 0) rfl)).2
  have fe43 : b10 ≠ sa31 := (fn40 _ (List.mem_of_getElem? (i := 1) rfl)).1
  have fe44 : b10 ≠ sb32 := (fn40 _ (List.mem_of_getElem? (i := 1) rfl)).2
  have fe45 : b1 ≠ sa31 := (fn40 _ (List.mem_of_getElem? (i := 2) rfl)).1
  have fe46 : b1 ≠ sb32 := (fn40 _ (List.mem_of_getElem? (i := 2) rfl)).2
  have fx47 := (Exa.ext E35 fx25)
  have fx48 := (Fld.ext E35 fx26)
  have fx49 := (Fld.ext E35 fx27)
  have fx50 := (Fld.ext E35 fx28)
  have fx51 := (fx29.ext E35)
  refine ws' C (a := b10) (argsL := [(.ref sa31)]) (W := 3) d9_14 (hq hw 65 rfl) (hq hw 66 rfl) (nfS (hq hw 68 rfl)) (hq hw 68 rfl) (hq hw 67 rfl) fx47 (by decide) pd__Ljava_lang_String__Ljava_lang_StringBuilder_ (ct_app0_6 l Z a0 hw am (b := b10) (v := v23) (s := sa31) (t := sb32) (kv := kv24) (kt := k33) (y0 := (115 : Int32)) (y1 := (116 : Int32)) (y2 := (111 : Int32)) (y3 := (99 : Int32)) (y4 := (107 : Int32)) (y5 := (47 : Int32)) fx47 fx48 fx49 fx50 fx51 fx36 fx37 fx38 fx39 (Ne.symm fe42)) rfl (Nat.le_of_eq rfl) rfl (by decide) (memsS (mi 1 rfl) (memsS (mi 0 rfl) mems0)) ?_
  intro fv52 ph53 K54 fq55
  obtain ⟨rfl, fx56, fx57, fx58, fx59, fx60⟩ := fq55
  refine ⟨[], fresh0, ?_⟩
  show GoW l _ Z _ _ _ _ _ κ _ _ 17 _ [(.ref b10), (.ref f), (.ref b1), (.ref b1)] 5 51
  refine wk1' C 18 d9_17 rfl rfl rfl ?_
  have fx61 := ((Exa.ext E35 ((Exa.ext E13 (Exa.ext E4 p0)).keep K21)).keep K54)
  have fx62 := ((Fld.ext E35 ((Fld.ext E13 (Fld.ext E4 p1)).keep K21 (ninS (Nat.ne_of_lt (nltle (nltle (p0).lt E4.1) (Nat.le_of_eq g12.symm))) nin0))).keep K54 (ninS (Nat.ne_of_lt (nltle (nltle (p0).lt E4.1) (Nat.le_of_eq g12.symm))) (ninS (Nat.ne_of_lt (nltle (nltle (nltle (p0).lt E4.1) E13.1) fx30)) nin0)))
  have fx63 := ((Fld.ext E35 ((Fld.ext E13 (Fld.ext E4 p2)).keep K21 (ninS (Nat.ne_of_lt (nltle (nltle (p0).lt E4.1) (Nat.le_of_eq g12.symm))) nin0))).keep K54 (ninS (Nat.ne_of_lt (nltle (nltle (p0).lt E4.1) (Nat.le_of_eq g12.symm))) (ninS (Nat.ne_of_lt (nltle (nltle (nltle (p0).lt E4.1) E13.1) fx30)) nin0)))
  have fx64 := (((((p3.ext E4).ext E13).keep K21 (ninS (Nat.ne_of_lt (nltle (nltle (p3).lt E4.1) (Nat.le_of_eq g12.symm))) nin0)).ext E35).keep K54 (ninS (Nat.ne_of_lt (nltle (nltle (p3).lt E4.1) (Nat.le_of_eq g12.symm))) (ninS (Nat.ne_of_lt (nltle (nltle (nltle (p3).lt E4.1) E13.1) fx30)) nin0)))
  refine ws' C (a := b10) (argsL := [(.ref s)]) (W := 3) d9_18 (hq hw 65 rfl) (hq hw 66 rfl) (nfS (hq hw 68 rfl)) (hq hw 68 rfl) (hq hw 67 rfl) fx56 (by decide) pd__Ljava_lang_String__Ljava_lang_StringBuilder_ (ct_app6_0 l Z a0 hw am (b := b10) (v := v23) (s := s) (t := t) (kv := kv24) (kt := kt) (x0 := (115 : Int32)) (x1 := (116 : Int32)) (x2 := (111 : Int32)) (x3 := (99 : Int32)) (x4 := (107 : Int32)) (x5 := (47 : Int32)) fx56 fx57 fx58 fx59 fx60 fx61 fx62 fx63 fx64 (Nat.ne_of_lt (nltle (nltle (nltle (p3).lt E4.1) E13.1) fx30))) rfl (Nat.le_of_eq rfl) rfl (by decide) (memsS (mi 1 rfl) (memsS (mi 0 rfl) mems0)) ?_
  intro fv65 ph66 K67 fq68
  obtain ⟨rfl, fx69, fx70, fx71, fx72, fx73⟩ := fq68
  refine ⟨[], fresh0, ?_⟩
  show GoW l _ Z _ _ _ _ _ κ _ _ 21 _ [(.ref b10), (.ref f), (.ref b1), (.ref b1)] 5 51
  refine ws' C (a := b10) (argsL := []) (W := 3) d9_21 (hq hw 112 rfl) (hq hw 113 rfl) (nfS (hq hw 115 rfl)) (hq hw 115 rfl) (hq hw 114 rfl) fx69 (by decide) pd___Ljava_lang_String_ (ct_ts6 l Z a0 hw am (b := b10) (v := v23) (kv := kv24) (x0 := (115 : Int32)) (x1 := (116 : Int32)) (x2 := (111 : Int32)) (x3 := (99 : Int32)) (x4 := (107 : Int32)) (x5 := (47 : Int32)) (x6 := (0 : Int32)) (x7 := (0 : Int32)) (x8 := (0 : Int32)) (x9 := (0 : Int32)) (x10 := (0 : Int32)) (x11 := (0 : Int32)) (x12 := (0 : Int32)) (x13 := (0 : Int32)) (x14 := (0 : Int32)) (x15 := (0 : Int32)) fx69 fx70 fx71 fx72 fx73) rfl (Nat.le_of_eq rfl) rfl (by decide) mems0 ?_
  intro fv74 ph75 K76 fq77
  obtain ⟨a78, t79, kt80, rfl, fx81, fx82, fx83, fx84, fx85, fx86⟩ := fq77
  refine ⟨[t79, a78], (freshS ⟨fx85, (fx84).lt⟩ (freshS ⟨fx86, (fx81).lt⟩ fresh0)), ?_⟩
  show GoW l _ Z _ _ _ _ _ κ [t79, a78, v23, b10, b1] _ 24 _ [(.ref a78), (.ref f), (.ref b1), (.ref b1)] 7 61
  refine wr1' C 25 (0 : Int32) d9_24 rfl (by decide) ?_
  have fx87 := ((((Exa.ext E35 ((Exa.ext E13 A5).keep K21)).keep K54).keep K67).keep K76)
  have fx88 := ((((Fld.ext E35 ((Fld.ext E13 fx7).keep K21 (ninS (Nat.ne_of_lt (nltle (A5).lt (Nat.le_of_eq g12.symm))) nin0))).keep K54 (ninS (Nat.ne_of_lt (nltle (A5).lt (Nat.le_of_eq g12.symm))) (ninS (Nat.ne_of_lt (nltle (nltle (A5).lt E13.1) fx30)) nin0))).keep K67 (ninS (Nat.ne_of_lt (nltle (A5).lt (Nat.le_of_eq g12.symm))) (ninS (Nat.ne_of_lt (nltle (nltle (A5).lt E13.1) fx30)) nin0))).keep K76 nin0)
  have fx89 := ((((Fld.ext E35 ((Fld.ext E13 fx8).keep K21 (ninS (Nat.ne_of_lt (nltle (A5).lt (Nat.le_of_eq g12.symm))) nin0))).keep K54 (ninS (Nat.ne_of_lt (nltle (A5).lt (Nat.le_of_eq g12.symm))) (ninS (Nat.ne_of_lt (nltle (nltle (A5).lt E13.1) fx30)) nin0))).keep K67 (ninS (Nat.ne_of_lt (nltle (A5).lt (Nat.le_of_eq g12.symm))) (ninS (Nat.ne_of_lt (nltle (nltle (A5).lt E13.1) fx30)) nin0))).keep K76 nin0)
  have fx90 := ((((Fld.ext E35 ((Fld.ext E13 fx9).keep K21 (ninS (Nat.ne_of_lt (nltle (A5).lt (Nat.le_of_eq g12.symm))) nin0))).keep K54 (ninS (Nat.ne_of_lt (nltle (A5).lt (Nat.le_of_eq g12.symm))) (ninS (Nat.ne_of_lt (nltle (nltle (A5).lt E13.1) fx30)) nin0))).keep K67 (ninS (Nat.ne_of_lt (nltle (A5).lt (Nat.le_of_eq g12.symm))) (ninS (Nat.ne_of_lt (nltle (nltle (A5).lt E13.1) fx30)) nin0))).keep K76 nin0)
  refine wh2' C (a := b1) (argsL := [(.ref f), (.ref a78), .int 0]) (W := 1) d9_25 rfl (hq hw 157 rfl) (hq hw 158 rfl) (hq hw 159 rfl) (by decide) pd__Ljava_lang_String_Ljava_lang_String_I_V (ct_soi l Z a0 hw am (q := b1) (f := f) (m := a78) (n := (0 : Int32)) fx87 fx88 fx89 fx90) rfl (Nat.le_of_eq rfl) rfl (by decide) (memsS (mi 4 rfl) mems0) ?_
  intro fv91 ph92 K93 fq94
  obtain ⟨rfl, fx95, fx96, fx97, fx98⟩ := fq94
  refine ⟨[], fresh0, ?_⟩
  show GoW l _ Z _ _ _ _ _ κ _ _ 28 _ [(.ref b1)] 7 61
  refine wg2' C hEL (v := (.ref b1)) d9_28 rfl rfl rfl (by decide) (by decide) ?_
  have fx99 := (fx81.keep K93)
  have fx100 := (fx82.keep K93 (ninS (Ne.symm (Nat.ne_of_lt (nltle (nltle (nltle (nltle (nltle (nltle (A5).lt E13.1) K21.1) E35.1) K54.1) K67.1) fx86))) nin0))
  have fx101 := (fx83.keep K93 (ninS (Ne.symm (Nat.ne_of_lt (nltle (nltle (nltle (nltle (nltle (nltle (A5).lt E13.1) K21.1) E35.1) K54.1) K67.1) fx86))) nin0))
  have fx102 := (fx84.keep K93 (ninS (Ne.symm (Nat.ne_of_lt (nltle (nltle (nltle (nltle (nltle (nltle (A5).lt E13.1) K21.1) E35.1) K54.1) K67.1) fx85))) nin0))
  exact ⟨b1, a78, t79, kt80, rfl, fx95, fx96, fx97, fx98, fx99, fx100, fx101, fx102⟩
theorem ct_stock1 (l : Launch) (Z : State) (a0 : Array Value) (hw : HW a0 Z) {cS : Int32} {fm : Value} (am : Amb Z a0 cS fm) {f s t : Addr} {kt : ClassId} {y0 : Int32} {h0 : Heap} (p0 : Exa Z h0 s "java/lang/String") (p1 : Fld Z h0 s "java/lang/String" "coder" "B" (.int 0)) (p2 : Fld Z h0 s "java/lang/String" "value" "[B" (.ref t)) (p3 : Arv Z h0 t kt .byte (1 : Int32) [.int y0] (.int 0)) :
    PyW l Z consts_1 a0 (⟨"com/example/evenlot/evenlot/Source", "stock", "(Ljava/lang/String;Ljava/lang/String;)Lcom/example/evenlot/evenlot/Source;"⟩ : MethodName) 7 107 7 62 #[(.ref f), (.ref s)] h0 [] (fun rv h' => ∃ (q : Addr) (m : Addr) (u : Addr) (ku : ClassId), rv = some (.ref q) ∧ Exa Z h' q "com/example/evenlot/evenlot/Source" ∧ Fld Z h' q "com/example/evenlot/evenlot/Source" "fg" "Ljava/lang/String;" (.ref f) ∧ Fld Z h' q "com/example/evenlot/evenlot/Source" "name" "Ljava/lang/String;" (.ref m) ∧ Fld Z h' q "com/example/evenlot/evenlot/Source" "period" "I" (.int 0) ∧ Exa Z h' m "java/lang/String" ∧ Fld Z h' m "java/lang/String" "coder" "B" (.int 0) ∧ Fld Z h' m "java/lang/String" "value" "[B" (.ref u) ∧ Arv Z h' u ku .byte (7 : Int32) [.int 115, .int 116, .int 111, .int 99, .int 107, .int 47, .int y0] (.int 0)) := by
  have hEL := am.1
  refine CtW.py (by0 := zc45) (ml := 2) (rt := (some (.object "com/example/evenlot/evenlot/Source"))) (rm := ({ frames := 6, cells := 7, slots := 62, locals := 94 } : Room)) ?_ (hq hw 43 rfl) (hq hw 42 rfl)
  refine CtW.mk (a0 := a0) (Ls := #[.val (.ref f), .val (.ref s)]) (plainFor_of_name pn_com_example_evenlot_evenlot_Source) (fun m => by simp [entryFrame, mkF, argsToLocals, Value.category]) ?_
  intro κ C
  show GoW l _ Z _ _ _ _ _ κ [] h0 0 #[.val (.ref f), .val (.ref s)] [] 0 0
  refine wb2' C 3 1 3 d9_0 rfl rfl rfl (hq hw 44 rfl) (hq hw 45 rfl) (hq hw 42 rfl) (by decide) (by decide) ?_
  intro b1 ph2 g3 E4 A5 D6
  have fx7 : Fld Z ph2 b1 "com/example/evenlot/evenlot/Source" "fg" "Ljava/lang/String;" .null := D6 (Or.inr (hq hw 167 rfl)) (ty := (.object "java/lang/String")) (by decide)
  have fx8 : Fld Z ph2 b1 "com/example/evenlot/evenlot/Source" "name" "Ljava/lang/String;" .null := D6 (Or.inr (hq hw 169 rfl)) (ty := (.object "java/lang/String")) (by decide)
  have fx9 : Fld Z ph2 b1 "com/example/evenlot/evenlot/Source" "period" "I" (.int 0) := D6 (Or.inr (hq hw 171 rfl)) (ty := .int) (by decide)
  refine wa2' C 4 d9_3 rfl rfl (wk1' C 5 d9_4 rfl rfl rfl ?_)
  refine wb2' C 8 2 7 d9_5 rfl rfl rfl (hq hw 46 rfl) (hq hw 47 rfl) (hq hw 48 rfl) (by decide) (by decide) ?_
  intro b10 ph11 g12 E13 A14 D15
  have fx16 : Fld Z ph11 b10 "java/lang/AbstractStringBuilder" "value" "[B" .null := D15 (Or.inl (hq hw 61 rfl)) (ty := (.array .byte)) (by decide)
  have fx17 : Fld Z ph11 b10 "java/lang/AbstractStringBuilder" "coder" "B" (.int 0) := D15 (Or.inl (hq hw 63 rfl)) (ty := .byte) (by decide)
  have fx18 : Fld Z ph11 b10 "java/lang/AbstractStringBuilder" "count" "I" (.int 0) := D15 (Or.inl (hq hw 86 rfl)) (ty := .int) (by decide)
  refine wa2' C 9 d9_8 rfl rfl (wh2' C (a := b10) (argsL := []) (W := 4) d9_9 rfl (hq hw 49 rfl) (hq hw 50 rfl) (hq hw 51 rfl) (by decide) pd___V (ct_sbi l Z a0 hw am (b := b10) A14 fx18 fx17 fx16) rfl (Nat.le_of_eq rfl) rfl (by decide) (memsS (mi 0 rfl) mems0) ?_)
  intro fv19 ph20 K21 fq22
  obtain ⟨v23, kv24, rfl, fx25, fx26, fx27, fx28, fx29, fx30⟩ := fq22
  refine ⟨[v23], (freshS ⟨fx30, (fx29).lt⟩ fresh0), ?_⟩
  show GoW l _ Z _ _ _ _ _ κ [v23, b10, b1] _ 12 _ [(.ref b10), (.ref f), (.ref b1), (.ref b1)] 3 23
  refine wi2' C hEL 14 5 51 (n := 24) (vs := [.int 115, .int 116, .int 111, .int 99, .int 107, .int 47]) (zn := (6 : Int32)) d9_12 rfl rfl rfl (hq hw 64 rfl) (wS hw) (List.mem_of_getElem? (i := 0) rfl) (by decide) (by decide) rfl (by decide) (by decide) (by decide) (by decide) ?_
  intro sa31 sb32 k33 ph34 E35 fx36 fx37 fx38 fx39 fn40
  have fe41 : v23 ≠ sa31 := (fn40 _ (List.mem_of_getElem? (i := 0) rfl)).1
  have fe42 : v23 ≠ sb32 := (fn40 _ (List.mem_of_getElem? (i := 0) rfl)).2
  have fe43 : b10 ≠ sa31 := (fn40 _ (List.mem_of_getElem? (i := 1) rfl)).1
  have fe44 : b10 ≠ sb32 := (fn40 _ (List.mem_of_getElem? (i := 1) rfl)).2
  have fe45 : b1 ≠ sa31 := (fn40 _ (List.mem_of_getElem? (i := 2) rfl)).1
  have fe46 : b1 ≠ sb32 := (fn40 _ (List.mem_of_getElem? (i := 2) rfl)).2
  have fx47 := (Exa.ext E35 fx25)
  have fx48 := (Fld.ext E35 fx26)
  have fx49 := (Fld.ext E35 fx27)
  have fx50 := (Fld.ext E35 fx28)
  have fx51 := (fx29.ext E35)
  refine ws' C (a := b10) (argsL := [(.ref sa31)]) (W := 3) d9_14 (hq hw 65 rfl) (hq hw 66 rfl) (nfS (hq hw 68 rfl)) (hq hw 68 rfl) (hq hw 67 rfl) fx47 (by decide) pd__Ljava_lang_String__Ljava_lang_StringBuilder_ (ct_app0_6 l Z a0 hw am (b := b10) (v := v23) (s := sa31) (t := sb32) (kv := kv24) (kt := k33) (y0 := (115 : Int32)) (y1 := (116 : Int32)) (y2 := (111 : Int32)) (y3 := (99 : Int32)) (y4 := (107 : Int32)) (y5 := (47 : Int32)) fx47 fx48 fx49 fx50 fx51 fx36 fx37 fx38 fx39 (Ne.symm fe42)) rfl (Nat.le_of_eq rfl) rfl (by decide) (memsS (mi 1 rfl) (memsS (mi 0 rfl) mems0)) ?_
  intro fv52 ph53 K54 fq55
  obtain ⟨rfl, fx56, fx57, fx58, fx59, fx60⟩ := fq55
  refine ⟨[], fresh0, ?_⟩
  show GoW l _ Z _ _ _ _ _ κ _ _ 17 _ [(.ref b10), (.ref f), (.ref b1), (.ref b1)] 5 51
  refine wk1' C 18 d9_17 rfl rfl rfl ?_
  have fx61 := ((Exa.ext E35 ((Exa.ext E13 (Exa.ext E4 p0)).keep K21)).keep K54)
  have fx62 := ((Fld.ext E35 ((Fld.ext E13 (Fld.ext E4 p1)).keep K21 (ninS (Nat.ne_of_lt (nltle (nltle (p0).lt E4.1) (Nat.le_of_eq g12.symm))) nin0))).keep K54 (ninS (Nat.ne_of_lt (nltle (nltle (p0).lt E4.1) (Nat.le_of_eq g12.symm))) (ninS (Nat.ne_of_lt (nltle (nltle (nltle (p0).lt E4.1) E13.1) fx30)) nin0)))
  have fx63 := ((Fld.ext E35 ((Fld.ext E13 (Fld.ext E4 p2)).keep K21 (ninS (Nat.ne_of_lt (nltle (nltle (p0).lt E4.1) (Nat.le_of_eq g12.symm))) nin0))).keep K54 (ninS (Nat.ne_of_lt (nltle (nltle (p0).lt E4.1) (Nat.le_of_eq g12.symm))) (ninS (Nat.ne_of_lt (nltle (nltle (nltle (p0).lt E4.1) E13.1) fx30)) nin0)))
  have fx64 := (((((p3.ext E4).ext E13).keep K21 (ninS (Nat.ne_of_lt (nltle (nltle (p3).lt E4.1) (Nat.le_of_eq g12.symm))) nin0)).ext E35).keep K54 (ninS (Nat.ne_of_lt (nltle (nltle (p3).lt E4.1) (Nat.le_of_eq g12.symm))) (ninS (Nat.ne_of_lt (nltle (nltle (nltle (p3).lt E4.1) E13.1) fx30)) nin0)))
  refine ws' C (a := b10) (argsL := [(.ref s)]) (W := 3) d9_18 (hq hw 65 rfl) (hq hw 66 rfl) (nfS (hq hw 68 rfl)) (hq hw 68 rfl) (hq hw 67 rfl) fx56 (by decide) pd__Ljava_lang_String__Ljava_lang_StringBuilder_ (ct_app6_1 l Z a0 hw am (b := b10) (v := v23) (s := s) (t := t) (kv := kv24) (kt := kt) (x0 := (115 : Int32)) (x1 := (116 : Int32)) (x2 := (111 : Int32)) (x3 := (99 : Int32)) (x4 := (107 : Int32)) (x5 := (47 : Int32)) (y0 := y0) fx56 fx57 fx58 fx59 fx60 fx61 fx62 fx63 fx64 (Nat.ne_of_lt (nltle (nltle (nltle (p3).lt E4.1) E13.1) fx30))) rfl (Nat.le_of_eq rfl) rfl (by decide) (memsS (mi 1 rfl) (memsS (mi 0 rfl) mems0)) ?_
  intro fv65 ph66 K67 fq68
  obtain ⟨rfl, fx69, fx70, fx71, fx72, fx73⟩ := fq68
  refine ⟨[], fresh0, ?_⟩
  show GoW l _ Z _ _ _ _ _ κ _ _ 21 _ [(.ref b10), (.ref f), (.ref b1), (.ref b1)] 5 51
  refine ws' C (a := b10) (argsL := []) (W := 3) d9_21 (hq hw 112 rfl) (hq hw 113 rfl) (nfS (hq hw 115 rfl)) (hq hw 115 rfl) (hq hw 114 rfl) fx69 (by decide) pd___Ljava_lang_String_ (ct_ts7 l Z a0 hw am (b := b10) (v := v23) (kv := kv24) (x0 := (115 : Int32)) (x1 := (116 : Int32)) (x2 := (111 : Int32)) (x3 := (99 : Int32)) (x4 := (107 : Int32)) (x5 := (47 : Int32)) (x6 := y0) (x7 := (0 : Int32)) (x8 := (0 : Int32)) (x9 := (0 : Int32)) (x10 := (0 : Int32)) (x11 := (0 : Int32)) (x12 := (0 : Int32)) (x13 := (0 : Int32)) (x14 := (0 : Int32)) (x15 := (0 : Int32)) fx69 fx70 fx71 fx72 fx73) rfl (Nat.le_of_eq rfl) rfl (by decide) mems0 ?_
  intro fv74 ph75 K76 fq77
  obtain ⟨a78, t79, kt80, rfl, fx81, fx82, fx83, fx84, fx85, fx86⟩ := fq77
  refine ⟨[t79, a78], (freshS ⟨fx85, (fx84).lt⟩ (freshS ⟨fx86, (fx81).lt⟩ fresh0)), ?_⟩
  show GoW l _ Z _ _ _ _ _ κ [t79, a78, v23, b10, b1] _ 24 _ [(.ref a78), (.ref f), (.ref b1), (.ref b1)] 7 62
  refine wr1' C 25 (0 : Int32) d9_24 rfl (by decide) ?_
  have fx87 := ((((Exa.ext E35 ((Exa.ext E13 A5).keep K21)).keep K54).keep K67).keep K76)
  have fx88 := ((((Fld.ext E35 ((Fld.ext E13 fx7).keep K21 (ninS (Nat.ne_of_lt (nltle (A5).lt (Nat.le_of_eq g12.symm))) nin0))).keep K54 (ninS (Nat.ne_of_lt (nltle (A5).lt (Nat.le_of_eq g12.symm))) (ninS (Nat.ne_of_lt (nltle (nltle (A5).lt E13.1) fx30)) nin0))).keep K67 (ninS (Nat.ne_of_lt (nltle (A5).lt (Nat.le_of_eq g12.symm))) (ninS (Nat.ne_of_lt (nltle (nltle (A5).lt E13.1) fx30)) nin0))).keep K76 nin0)
  have fx89 := ((((Fld.ext E35 ((Fld.ext E13 fx8).keep K21 (ninS (Nat.ne_of_lt (nltle (A5).lt (Nat.le_of_eq g12.symm))) nin0))).keep K54 (ninS (Nat.ne_of_lt (nltle (A5).lt (Nat.le_of_eq g12.symm))) (ninS (Nat.ne_of_lt (nltle (nltle (A5).lt E13.1) fx30)) nin0))).keep K67 (ninS (Nat.ne_of_lt (nltle (A5).lt (Nat.le_of_eq g12.symm))) (ninS (Nat.ne_of_lt (nltle (nltle (A5).lt E13.1) fx30)) nin0))).keep K76 nin0)
  have fx90 := ((((Fld.ext E35 ((Fld.ext E13 fx9).keep K21 (ninS (Nat.ne_of_lt (nltle (A5).lt (Nat.le_of_eq g12.symm))) nin0))).keep K54 (ninS (Nat.ne_of_lt (nltle (A5).lt (Nat.le_of_eq g12.symm))) (ninS (Nat.ne_of_lt (nltle (nltle (A5).lt E13.1) fx30)) nin0))).keep K67 (ninS (Nat.ne_of_lt (nltle (A5).lt (Nat.le_of_eq g12.symm))) (ninS (Nat.ne_of_lt (nltle (nltle (A5).lt E13.1) fx30)) nin0))).keep K76 nin0)
  refine wh2' C (a := b1) (argsL := [(.ref f), (.ref a78), .int 0]) (W := 1) d9_25 rfl (hq hw 157 rfl) (hq hw 158 rfl) (hq hw 159 rfl) (by decide) pd__Ljava_lang_String_Ljava_lang_String_I_V (ct_soi l Z a0 hw am (q := b1) (f := f) (m := a78) (n := (0 : Int32)) fx87 fx88 fx89 fx90) rfl (Nat.le_of_eq rfl) rfl (by decide) (memsS (mi 4 rfl) mems0) ?_
  intro fv91 ph92 K93 fq94
  obtain ⟨rfl, fx95, fx96, fx97, fx98⟩ := fq94
  refine ⟨[], fresh0, ?_⟩
  show GoW l _ Z _ _ _ _ _ κ _ _ 28 _ [(.ref b1)] 7 62
  refine wg2' C hEL (v := (.ref b1)) d9_28 rfl rfl rfl (by decide) (by decide) ?_
  have fx99 := (fx81.keep K93)
  have fx100 := (fx82.keep K93 (ninS (Ne.symm (Nat.ne_of_lt (nltle (nltle (nltle (nltle (nltle (nltle (A5).lt E13.1) K21.1) E35.1) K54.1) K67.1) fx86))) nin0))
  have fx101 := (fx83.keep K93 (ninS (Ne.symm (Nat.ne_of_lt (nltle (nltle (nltle (nltle (nltle (nltle (A5).lt E13.1) K21.1) E35.1) K54.1) K67.1) fx86))) nin0))
  have fx102 := (fx84.keep K93 (ninS (Ne.symm (Nat.ne_of_lt (nltle (nltle (nltle (nltle (nltle (nltle (A5).lt E13.1) K21.1) E35.1) K54.1) K67.1) fx85))) nin0))
  exact ⟨b1, a78, t79, kt80, rfl, fx95, fx96, fx97, fx98, fx99, fx100, fx101, fx102⟩
theorem ct_stock2 (l : Launch) (Z : State) (a0 : Array Value) (hw : HW a0 Z) {cS : Int32} {fm : Value} (am : Amb Z a0 cS fm) {f s t : Addr} {kt : ClassId} {y0 y1 : Int32} {h0 : Heap} (p0 : Exa Z h0 s "java/lang/String") (p1 : Fld Z h0 s "java/lang/String" "coder" "B" (.int 0)) (p2 : Fld Z h0 s "java/lang/String" "value" "[B" (.ref t)) (p3 : Arv Z h0 t kt .byte (2 : Int32) [.int y0, .int y1] (.int 0)) :
    PyW l Z consts_1 a0 (⟨"com/example/evenlot/evenlot/Source", "stock", "(Ljava/lang/String;Ljava/lang/String;)Lcom/example/evenlot/evenlot/Source;"⟩ : MethodName) 7 107 7 63 #[(.ref f), (.ref s)] h0 [] (fun rv h' => ∃ (q : Addr) (m : Addr) (u : Addr) (ku : ClassId), rv = some (.ref q) ∧ Exa Z h' q "com/example/evenlot/evenlot/Source" ∧ Fld Z h' q "com/example/evenlot/evenlot/Source" "fg" "Ljava/lang/String;" (.ref f) ∧ Fld Z h' q "com/example/evenlot/evenlot/Source" "name" "Ljava/lang/String;" (.ref m) ∧ Fld Z h' q "com/example/evenlot/evenlot/Source" "period" "I" (.int 0) ∧ Exa Z h' m "java/lang/String" ∧ Fld Z h' m "java/lang/String" "coder" "B" (.int 0) ∧ Fld Z h' m "java/lang/String" "value" "[B" (.ref u) ∧ Arv Z h' u ku .byte (8 : Int32) [.int 115, .int 116, .int 111, .int 99, .int 107, .int 47, .int y0, .int y1] (.int 0)) := by
  have hEL := am.1
  refine CtW.py (by0 := zc45) (ml := 2) (rt := (some (.object "com/example/evenlot/evenlot/Source"))) (rm := ({ frames := 6, cells := 7, slots := 63, locals := 94 } : Room)) ?_ (hq hw 43 rfl) (hq hw 42 rfl)
  refine CtW.mk (a0 := a0) (Ls := #[.val (.ref f), .val (.ref s)]) (plainFor_of_name pn_com_example_evenlot_evenlot_Source) (fun m => by simp [entryFrame, mkF, argsToLocals, Value.category]) ?_
  intro κ C
  show GoW l _ Z _ _ _ _ _ κ [] h0 0 #[.val (.ref f), .val (.ref s)] [] 0 0
  refine wb2' C 3 1 3 d9_0 rfl rfl rfl (hq hw 44 rfl) (hq hw 45 rfl) (hq hw 42 rfl) (by decide) (by decide) ?_
  intro b1 ph2 g3 E4 A5 D6
  have fx7 : Fld Z ph2 b1 "com/example/evenlot/evenlot/Source" "fg" "Ljava/lang/String;" .null := D6 (Or.inr (hq hw 167 rfl)) (ty := (.object "java/lang/String")) (by decide)
  have fx8 : Fld Z ph2 b1 "com/example/evenlot/evenlot/Source" "name" "Ljava/lang/String;" .null := D6 (Or.inr (hq hw 169 rfl)) (ty := (.object "java/lang/String")) (by decide)
  have fx9 : Fld Z ph2 b1 "com/example/evenlot/evenlot/Source" "period" "I" (.int 0) := D6 (Or.inr (hq hw 171 rfl)) (ty := .int) (by decide)
  refine wa2' C 4 d9_3 rfl rfl (wk1' C 5 d9_4 rfl rfl rfl ?_)
  refine wb2' C 8 2 7 d9_5 rfl rfl rfl (hq hw 46 rfl) (hq hw 47 rfl) (hq hw 48 rfl) (by decide) (by decide) ?_
  intro b10 ph11 g12 E13 A14 D15
  have fx16 : Fld Z ph11 b10 "java/lang/AbstractStringBuilder" "value" "[B" .null := D15 (Or.inl (hq hw 61 rfl)) (ty := (.array .byte)) (by decide)
  have fx17 : Fld Z ph11 b10 "java/lang/AbstractStringBuilder" "coder" "B" (.int 0) := D15 (Or.inl (hq hw 63 rfl)) (ty := .byte) (by decide)
  have fx18 : Fld Z ph11 b10 "java/lang/AbstractStringBuilder" "count" "I" (.int 0) := D15 (Or.inl (hq hw 86 rfl)) (ty := .int) (by decide)
  refine wa2' C 9 d9_8 rfl rfl (wh2' C (a := b10) (argsL := []) (W := 4) d9_9 rfl (hq hw 49 rfl) (hq hw 50 rfl) (hq hw 51 rfl) (by decide) pd___V (ct_sbi l Z a0 hw am (b := b10) A14 fx18 fx17 fx16) rfl (Nat.le_of_eq rfl) rfl (by decide) (memsS (mi 0 rfl) mems0) ?_)
  intro fv19 ph20 K21 fq22
  obtain ⟨v23, kv24, rfl, fx25, fx26, fx27, fx28, fx29, fx30⟩ := fq22
  refine ⟨[v23], (freshS ⟨fx30, (fx29).lt⟩ fresh0), ?_⟩
  show GoW l _ Z _ _ _ _ _ κ [v23, b10, b1] _ 12 _ [(.ref b10), (.ref f), (.ref b1), (.ref b1)] 3 23
  refine wi2' C hEL 14 5 51 (n := 24) (vs := [.int 115, .int 116, .int 111, .int 99, .int 107, .int 47]) (zn := (6 : Int32)) d9_12 rfl rfl rfl (hq hw 64 rfl) (wS hw) (List.mem_of_getElem? (i := 0) rfl) (by decide) (by decide) rfl (by decide) (by decide) (by decide) (by decide) ?_
  intro sa31 sb32 k33 ph34 E35 fx36 fx37 fx38 fx39 fn40
  have fe41 : v23 ≠ sa31 := (fn40 _ (List.mem_of_getElem? (i := 0) rfl)).1
  have fe42 : v23 ≠ sb32 := (fn40 _ (List.mem_of_getElem? (i := 0) rfl)).2
  have fe43 : b10 ≠ sa31 := (fn40 _ (List.mem_of_getElem? (i := 1) rfl)).1
  have fe44 : b10 ≠ sb32 := (fn40 _ (List.mem_of_getElem? (i := 1) rfl)).2
  have fe45 : b1 ≠ sa31 := (fn40 _ (List.mem_of_getElem? (i := 2) rfl)).1
  have fe46 : b1 ≠ sb32 := (fn40 _ (List.mem_of_getElem? (i := 2) rfl)).2
  have fx47 := (Exa.ext E35 fx25)
  have fx48 := (Fld.ext E35 fx26)
  have fx49 := (Fld.ext E35 fx27)
  have fx50 := (Fld.ext E35 fx28)
  have fx51 := (fx29.ext E35)
  refine ws' C (a := b10) (argsL := [(.ref sa31)]) (W := 3) d9_14 (hq hw 65 rfl) (hq hw 66 rfl) (nfS (hq hw 68 rfl)) (hq hw 68 rfl) (hq hw 67 rfl) fx47 (by decide) pd__Ljava_lang_String__Ljava_lang_StringBuilder_ (ct_app0_6 l Z a0 hw am (b := b10) (v := v23) (s := sa31) (t := sb32) (kv := kv24) (kt := k33) (y0 := (115 : Int32)) (y1 := (116 : Int32)) (y2 := (111 : Int32)) (y3 := (99 : Int32)) (y4 := (107 : Int32)) (y5 := (47 : Int32)) fx47 fx48 fx49 fx50 fx51 fx36 fx37 fx38 fx39 (Ne.symm fe42)) rfl (Nat.le_of_eq rfl) rfl (by decide) (memsS (mi 1 rfl) (memsS (mi 0 rfl) mems0)) ?_
  intro fv52 ph53 K54 fq55
  obtain ⟨rfl, fx56, fx57, fx58, fx59, fx60⟩ := fq55
  refine ⟨[], fresh0, ?_⟩
  show GoW l _ Z _ _ _ _ _ κ _ _ 17 _ [(.ref b10), (.ref f), (.ref b1), (.ref b1)] 5 51
  refine wk1' C 18 d9_17 rfl rfl rfl ?_
  have fx61 := ((Exa.ext E35 ((Exa.ext E13 (Exa.ext E4 p0)).keep K21)).keep K54)
  have fx62 := ((Fld.ext E35 ((Fld.ext E13 (Fld.ext E4 p1)).keep K21 (ninS (Nat.ne_of_lt (nltle (nltle (p0).lt E4.1) (Nat.le_of_eq g12.symm))) nin0))).keep K54 (ninS (Nat.ne_of_lt (nltle (nltle (p0).lt E4.1) (Nat.le_of_eq g12.symm))) (ninS (Nat.ne_of_lt (nltle (nltle (nltle (p0).lt E4.1) E13.1) fx30)) nin0)))
  have fx63 := ((Fld.ext E35 ((Fld.ext E13 (Fld.ext E4 p2)).keep K21 (ninS (Nat.ne_of_lt (nltle (nltle (p0).lt E4.1) (Nat.le_of_eq g12.symm))) nin0))).keep K54 (ninS (Nat.ne_of_lt (nltle (nltle (p0).lt E4.1) (Nat.le_of_eq g12.symm))) (ninS (Nat.ne_of_lt (nltle (nltle (nltle (p0).lt E4.1) E13.1) fx30)) nin0)))
  have fx64 := (((((p3.ext E4).ext E13).keep K21 (ninS (Nat.ne_of_lt (nltle (nltle (p3).lt E4.1) (Nat.le_of_eq g12.symm))) nin0)).ext E35).keep K54 (ninS (Nat.ne_of_lt (nltle (nltle (p3).lt E4.1) (Nat.le_of_eq g12.symm))) (ninS (Nat.ne_of_lt (nltle (nltle (nltle (p3).lt E4.1) E13.1) fx30)) nin0)))
  refine ws' C (a := b10) (argsL := [(.ref s)]) (W := 3) d9_18 (hq hw 65 rfl) (hq hw 66 rfl) (nfS (hq hw 68 rfl)) (hq hw 68 rfl) (hq hw 67 rfl) fx56 (by decide) pd__Ljava_lang_String__Ljava_lang_StringBuilder_ (ct_app6_2 l Z a0 hw am (b := b10) (v := v23) (s := s) (t := t) (kv := kv24) (kt := kt) (x0 := (115 : Int32)) (x1 := (116 : Int32)) (x2 := (111 : Int32)) (x3 := (99 : Int32)) (x4 := (107 : Int32)) (x5 := (47 : Int32)) (y0 := y0) (y1 := y1) fx56 fx57 fx58 fx59 fx60 fx61 fx62 fx63 fx64 (Nat.ne_of_lt (nltle (nltle (nltle (p3).lt E4.1) E13.1) fx30))) rfl (Nat.le_of_eq rfl) rfl (by decide) (memsS (mi 1 rfl) (memsS (mi 0 rfl) mems0)) ?_
  intro fv65 ph66 K67 fq68
  obtain ⟨rfl, fx69, fx70, fx71, fx72, fx73⟩ := fq68
  refine ⟨[], fresh0, ?_⟩
  show GoW l _ Z _ _ _ _ _ κ _ _ 21 _ [(.ref b10), (.ref f), (.ref b1), (.ref b1)] 5 51
  refine ws' C (a := b10) (argsL := []) (W := 3) d9_21 (hq hw 112 rfl) (hq hw 113 rfl) (nfS (hq hw 115 rfl)) (hq hw 115 rfl) (hq hw 114 rfl) fx69 (by decide) pd___Ljava_lang_String_ (ct_ts8 l Z a0 hw am (b := b10) (v := v23) (kv := kv24) (x0 := (115 : Int32)) (x1 := (116 : Int32)) (x2 := (111 : Int32)) (x3 := (99 : Int32)) (x4 := (107 : Int32)) (x5 := (47 : Int32)) (x6 := y0) (x7 := y1) (x8 := (0 : Int32)) (x9 := (0 : Int32)) (x10 := (0 : Int32)) (x11 := (0 : Int32)) (x12 := (0 : Int32)) (x13 := (0 : Int32)) (x14 := (0 : Int32)) (x15 := (0 : Int32)) fx69 fx70 fx71 fx72 fx73) rfl (Nat.le_of_eq rfl) rfl (by decide) mems0 ?_
  intro fv74 ph75 K76 fq77
  obtain ⟨a78, t79, kt80, rfl, fx81, fx82, fx83, fx84, fx85, fx86⟩ := fq77
  refine ⟨[t79, a78], (freshS ⟨fx85, (fx84).lt⟩ (freshS ⟨fx86, (fx81).lt⟩ fresh0)), ?_⟩
  show GoW l _ Z _ _ _ _ _ κ [t79, a78, v23, b10, b1] _ 24 _ [(.ref a78), (.ref f), (.ref b1), (.ref b1)] 7 63
  refine wr1' C 25 (0 : Int32) d9_24 rfl (by decide) ?_
  have fx87 := ((((Exa.ext E35 ((Exa.ext E13 A5).keep K21)).keep K54).keep K67).keep K76)
  have fx88 := ((((Fld.ext E35 ((Fld.ext E13 fx7).keep K21 (ninS (Nat.ne_of_lt (nltle (A5).lt (Nat.le_of_eq g12.symm))) nin0))).keep K54 (ninS (Nat.ne_of_lt (nltle (A5).lt (Nat.le_of_eq g12.symm))) (ninS (Nat.ne_of_lt (nltle (nltle (A5).lt E13.1) fx30)) nin0))).keep K67 (ninS (Nat.ne_of_lt (nltle (A5).lt (Nat.le_of_eq g12.symm))) (ninS (Nat.ne_of_lt (nltle (nltle (A5).lt E13.1) fx30)) nin0))).keep K76 nin0)
  have fx89 := ((((Fld.ext E35 ((Fld.ext E13 fx8).keep K21 (ninS (Nat.ne_of_lt (nltle (A5).lt (Nat.le_of_eq g12.symm))) nin0))).keep K54 (ninS (Nat.ne_of_lt (nltle (A5).lt (Nat.le_of_eq g12.symm))) (ninS (Nat.ne_of_lt (nltle (nltle (A5).lt E13.1) fx30)) nin0))).keep K67 (ninS (Nat.ne_of_lt (nltle (A5).lt (Nat.le_of_eq g12.symm))) (ninS (Nat.ne_of_lt (nltle (nltle (A5).lt E13.1) fx30)) nin0))).keep K76 nin0)
  have fx90 := ((((Fld.ext E35 ((Fld.ext E13 fx9).keep K21 (ninS (Nat.ne_of_lt (nltle (A5).lt (Nat.le_of_eq g12.symm))) nin0))).keep K54 (ninS (Nat.ne_of_lt (nltle (A5).lt (Nat.le_of_eq g12.symm))) (ninS (Nat.ne_of_lt (nltle (nltle (A5).lt E13.1) fx30)) nin0))).keep K67 (ninS (Nat.ne_of_lt (nltle (A5).lt (Nat.le_of_eq g12.symm))) (ninS (Nat.ne_of_lt (nltle (nltle (A5).lt E13.1) fx30)) nin0))).keep K76 nin0)
  refine wh2' C (a := b1) (argsL := [(.ref f), (.ref a78), .int 0]) (W := 1) d9_25 rfl (hq hw 157 rfl) (hq hw 158 rfl) (hq hw 159 rfl) (by decide) pd__Ljava_lang_String_Ljava_lang_String_I_V (ct_soi l Z a0 hw am (q := b1) (f := f) (m := a78) (n := (0 : Int32)) fx87 fx88 fx89 fx90) rfl (Nat.le_of_eq rfl) rfl (by decide) (memsS (mi 4 rfl) mems0) ?_
  intro fv91 ph92 K93 fq94
  obtain ⟨rfl, fx95, fx96, fx97, fx98⟩ := fq94
  refine ⟨[], fresh0, ?_⟩
  show GoW l _ Z _ _ _ _ _ κ _ _ 28 _ [(.ref b1)] 7 63
  refine wg2' C hEL (v := (.ref b1)) d9_28 rfl rfl rfl (by decide) (by decide) ?_
  have fx99 := (fx81.keep K93)
  have fx100 := (fx82.keep K93 (ninS (Ne.symm (Nat.ne_of_lt (nltle (nltle (nltle (nltle (nltle (nltle (A5).lt E13.1) K21.1) E35.1) K54.1) K67.1) fx86))) nin0))
  have fx101 := (fx83.keep K93 (ninS (Ne.symm (Nat.ne_of_lt (nltle (nltle (nltle (nltle (nltle (nltle (A5).lt E13.1) K21.1) E35.1) K54.1) K67.1) fx86))) nin0))
  have fx102 := (fx84.keep K93 (ninS (Ne.symm (Nat.ne_of_lt (nltle (nltle (nltle (nltle (nltle (nltle (A5).lt E13.1) K21.1) E35.1) K54.1) K67.1) fx85))) nin0))
  exact ⟨b1, a78, t79, kt80, rfl, fx95, fx96, fx97, fx98, fx99, fx100, fx101, fx102⟩
theorem ct_stock3 (l : Launch) (Z : State) (a0 : Array Value) (hw : HW a0 Z) {cS : Int32} {fm : Value} (am : Amb Z a0 cS fm) {f s t : Addr} {kt : ClassId} {y0 y1 y2 : Int32} {h0 : Heap} (p0 : Exa Z h0 s "java/lang/String") (p1 : Fld Z h0 s "java/lang/String" "coder" "B" (.int 0)) (p2 : Fld Z h0 s "java/lang/String" "value" "[B" (.ref t)) (p3 : Arv Z h0 t kt .byte (3 : Int32) [.int y0, .int y1, .int y2] (.int 0)) :
    PyW l Z consts_1 a0 (⟨"com/example/evenlot/evenlot/Source", "stock", "(Ljava/lang/String;Ljava/lang/String;)Lcom/example/evenlot/evenlot/Source;"⟩ : MethodName) 7 107 7 64 #[(.ref f), (.ref s)] h0 [] (fun rv h' => ∃ (q : Addr) (m : Addr) (u : Addr) (ku : ClassId), rv = some (.ref q) ∧ Exa Z h' q "com/example/evenlot/evenlot/Source" ∧ Fld Z h' q "com/example/evenlot/evenlot/Source" "fg" "Ljava/lang/String;" (.ref f) ∧ Fld Z h' q "com/example/evenlot/evenlot/Source" "name" "Ljava/lang/String;" (.ref m) ∧ Fld Z h' q "com/example/evenlot/evenlot/Source" "period" "I" (.int 0) ∧ Exa Z h' m "java/lang/String" ∧ Fld Z h' m "java/lang/String" "coder" "B" (.int 0) ∧ Fld Z h' m "java/lang/String" "value" "[B" (.ref u) ∧ Arv Z h' u ku .byte (9 : Int32) [.int 115, .int 116, .int 111, .int 99, .int 107, .int 47, .int y0, .int y1, .int y2] (.int 0)) := by
  have hEL := am.1
  refine CtW.py (by0 := zc45) (ml := 2) (rt := (some (.object "com/example/evenlot/evenlot/Source"))) (rm := ({ frames := 6, cells := 7, slots := 64, locals := 94 } : Room)) ?_ (hq hw 43 rfl) (hq hw 42 rfl)
  refine CtW.mk (a0 := a0) (Ls := #[.val (.ref f), .val (.ref s)]) (plainFor_of_name pn_com_example_evenlot_evenlot_Source) (fun m => by simp [entryFrame, mkF, argsToLocals, Value.category]) ?_
  intro κ C
  show GoW l _ Z _ _ _ _ _ κ [] h0 0 #[.val (.ref f), .val (.ref s)] [] 0 0
  refine wb2' C 3 1 3 d9_0 rfl rfl rfl (hq hw 44 rfl) (hq hw 45 rfl) (hq hw 42 rfl) (by decide) (by decide) ?_
  intro b1 ph2 g3 E4 A5 D6
  have fx7 : Fld Z ph2 b1 "com/example/evenlot/evenlot/Source" "fg" "Ljava/lang/String;" .null := D6 (Or.inr (hq hw 167 rfl)) (ty := (.object "java/lang/String")) (by decide)
  have fx8 : Fld Z ph2 b1 "com/example/evenlot/evenlot/Source" "name" "Ljava/lang/String;" .null := D6 (Or.inr (hq hw 169 rfl)) (ty := (.object "java/lang/String")) (by decide)
  have fx9 : Fld Z ph2 b1 "com/example/evenlot/evenlot/Source" "period" "I" (.int 0) := D6 (Or.inr (hq hw 171 rfl)) (ty := .int) (by decide)
  refine wa2' C 4 d9_3 rfl rfl (wk1' C 5 d9_4 rfl rfl rfl ?_)
  refine wb2' C 8 2 7 d9_5 rfl rfl rfl (hq hw 46 rfl) (hq hw 47 rfl) (hq hw 48 rfl) (by decide) (by decide) ?_
  intro b10 ph11 g12 E13 A14 D15
  have fx16 : Fld Z ph11 b10 "java/lang/AbstractStringBuilder" "value" "[B" .null := D15 (Or.inl (hq hw 61 rfl)) (ty := (.array .byte)) (by decide)
  have fx17 : Fld Z ph11 b10 "java/lang/AbstractStringBuilder" "coder" "B" (.int 0) := D15 (Or.inl (hq hw 63 rfl)) (ty := .byte) (by decide)
  have fx18 : Fld Z ph11 b10 "java/lang/AbstractStringBuilder" "count" "I" (.int 0) := D15 (Or.inl (hq hw 86 rfl)) (ty := .int) (by decide)
  refine wa2' C 9 d9_8 rfl rfl (wh2' C (a := b10) (argsL := []) (W := 4) d9_9 rfl (hq hw 49 rfl) (hq hw 50 rfl) (hq hw 51 rfl) (by decide) pd___V (ct_sbi l Z a0 hw am (b := b10) A14 fx18 fx17 fx16) rfl (Nat.le_of_eq rfl) rfl (by decide) (memsS (mi 0 rfl) mems0) ?_)
  intro fv19 ph20 K21 fq22
  obtain ⟨v23, kv24, rfl, fx25, fx26, fx27, fx28, fx29, fx30⟩ := fq22
  refine ⟨[v23], (freshS ⟨fx30, (fx29).lt⟩ fresh0), ?_⟩
  show GoW l _ Z _ _ _ _ _ κ [v23, b10, b1] _ 12 _ [(.ref b10), (.ref f), (.ref b1), (.ref b1)] 3 23
  refine wi2' C hEL 14 5 51 (n := 24) (vs := [.int 115, .int 116, .int 111, .int 99, .int 107, .int 47]) (zn := (6 : Int32)) d9_12 rfl rfl rfl (hq hw 64 rfl) (wS hw) (List.mem_of_getElem? (i := 0) rfl) (by decide) (by decide) rfl (by decide) (by decide) (by decide) (by decide) ?_
  intro sa31 sb32 k33 ph34 E35 fx36 fx37 fx38 fx39 fn40
  have fe41 : v23 ≠ sa31 := (fn40 _ (List.mem_of_getElem? (i := 0) rfl)).1
  have fe42 : v23 ≠ sb32 := (fn40 _ (List.mem_of_getElem? (i := 0) rfl)).2
  have fe43 : b10 ≠ sa31 := (fn40 _ (List.mem_of_getElem? (i := 1) rfl)).1
  have fe44 : b10 ≠ sb32 := (fn40 _ (List.mem_of_getElem? (i := 1) rfl)).2
  have fe45 : b1 ≠ sa31 := (fn40 _ (List.mem_of_getElem? (i := 2) rfl)).1
  have fe46 : b1 ≠ sb32 := (fn40 _ (List.mem_of_getElem? (i := 2) rfl)).2
  have fx47 := (Exa.ext E35 fx25)
  have fx48 := (Fld.ext E35 fx26)
  have fx49 := (Fld.ext E35 fx27)
  have fx50 := (Fld.ext E35 fx28)
  have fx51 := (fx29.ext E35)
  refine ws' C (a := b10) (argsL := [(.ref sa31)]) (W := 3) d9_14 (hq hw 65 rfl) (hq hw 66 rfl) (nfS (hq hw 68 rfl)) (hq hw 68 rfl) (hq hw 67 rfl) fx47 (by decide) pd__Ljava_lang_String__Ljava_lang_StringBuilder_ (ct_app0_6 l Z a0 hw am (b := b10) (v := v23) (s := sa31) (t := sb32) (kv := kv24) (kt := k33) (y0 := (115 : Int32)) (y1 := (116 : Int32)) (y2 := (111 : Int32)) (y3 := (99 : Int32)) (y4 := (107 : Int32)) (y5 := (47 : Int32)) fx47 fx48 fx49 fx50 fx51 fx36 fx37 fx38 fx39 (Ne.symm fe42)) rfl (Nat.le_of_eq rfl) rfl (by decide) (memsS (mi 1 rfl) (memsS (mi 0 rfl) mems0)) ?_
  intro fv52 ph53 K54 fq55
  obtain ⟨rfl, fx56, fx57, fx58, fx59, fx60⟩ := fq55
  refine ⟨[], fresh0, ?_⟩
  show GoW l _ Z _ _ _ _ _ κ _ _ 17 _ [(.ref b10), (.ref f), (.ref b1), (.ref b1)] 5 51
  refine wk1' C 18 d9_17 rfl rfl rfl ?_
  have fx61 := ((Exa.ext E35 ((Exa.ext E13 (Exa.ext E4 p0)).keep K21)).keep K54)
  have fx62 := ((Fld.ext E35 ((Fld.ext E13 (Fld.ext E4 p1)).keep K21 (ninS (Nat.ne_of_lt (nltle (nltle (p0).lt E4.1) (Nat.le_of_eq g12.symm))) nin0))).keep K54 (ninS (Nat.ne_of_lt (nltle (nltle (p0).lt E4.1) (Nat.le_of_eq g12.symm))) (ninS (Nat.ne_of_lt (nltle (nltle (nltle (p0).lt E4.1) E13.1) fx30)) nin0)))
  have fx63 := ((Fld.ext E35 ((Fld.ext E13 (Fld.ext E4 p2)).keep K21 (ninS (Nat.ne_of_lt (nltle (nltle (p0).lt E4.1) (Nat.le_of_eq g12.symm))) nin0))).keep K54 (ninS (Nat.ne_of_lt (nltle (nltle (p0).lt E4.1) (Nat.le_of_eq g12.symm))) (ninS (Nat.ne_of_lt (nltle (nltle (nltle (p0).lt E4.1) E13.1) fx30)) nin0)))
  have fx64 := (((((p3.ext E4).ext E13).keep K21 (ninS (Nat.ne_of_lt (nltle (nltle (p3).lt E4.1) (Nat.le_of_eq g12.symm))) nin0)).ext E35).keep K54 (ninS (Nat.ne_of_lt (nltle (nltle (p3).lt E4.1) (Nat.le_of_eq g12.symm))) (ninS (Nat.ne_of_lt (nltle (nltle (nltle (p3).lt E4.1) E13.1) fx30)) nin0)))
  refine ws' C (a := b10) (argsL := [(.ref s)]) (W := 3) d9_18 (hq hw 65 rfl) (hq hw 66 rfl) (nfS (hq hw 68 rfl)) (hq hw 68 rfl) (hq hw 67 rfl) fx56 (by decide) pd__Ljava_lang_String__Ljava_lang_StringBuilder_ (ct_app6_3 l Z a0 hw am (b := b10) (v := v23) (s := s) (t := t) (kv := kv24) (kt := kt) (x0 := (115 : Int32)) (x1 := (116 : Int32)) (x2 := (111 : Int32)) (x3 := (99 : Int32)) (x4 := (107 : Int32)) (x5 := (47 : Int32)) (y0 := y0) (y1 := y1) (y2 := y2) fx56 fx57 fx58 fx59 fx60 fx61 fx62 fx63 fx64 (Nat.ne_of_lt (nltle (nltle (nltle (p3).lt E4.1) E13.1) fx30))) rfl (Nat.le_of_eq rfl) rfl (by decide) (memsS (mi 1 rfl) (memsS (mi 0 rfl) mems0)) ?_
  intro fv65 ph66 K67 fq68
  obtain ⟨rfl, fx69, fx70, fx71, fx72, fx73⟩ := fq68
  refine ⟨[], fresh0, ?_⟩
  show GoW l _ Z _ _ _ _ _ κ _ _ 21 _ [(.ref b10), (.ref f), (.ref b1), (.ref b1)] 5 51
  refine ws' C (a := b10) (argsL := []) (W := 3) d9_21 (hq hw 112 rfl) (hq hw 113 rfl) (nfS (hq hw 115 rfl)) (hq hw 115 rfl) (hq hw 114 rfl) fx69 (by decide) pd___Ljava_lang_String_ (ct_ts9 l Z a0 hw am (b := b10) (v := v23) (kv := kv24) (x0 := (115 : Int32)) (x1 := (116 : Int32)) (x2 := (111 : Int32)) (x3 := (99 : Int32)) (x4 := (107 : Int32)) (x5 := (47 : Int32)) (x6 := y0) (x7 := y1) (x8 := y2) (x9 := (0 : Int32)) (x10 := (0 : Int32)) (x11 := (0 : Int32)) (x12 := (0 : Int32)) (x13 := (0 : Int32)) (x14 := (0 : Int32)) (x15 := (0 : Int32)) fx69 fx70 fx71 fx72 fx73) rfl (Nat.le_of_eq rfl) rfl (by decide) mems0 ?_
  intro fv74 ph75 K76 fq77
  obtain ⟨a78, t79, kt80, rfl, fx81, fx82, fx83, fx84, fx85, fx86⟩ := fq77
  refine ⟨[t79, a78], (freshS ⟨fx85, (fx84).lt⟩ (freshS ⟨fx86, (fx81).lt⟩ fresh0)), ?_⟩
  show GoW l _ Z _ _ _ _ _ κ [t79, a78, v23, b10, b1] _ 24 _ [(.ref a78), (.ref f), (.ref b1), (.ref b1)] 7 64
  refine wr1' C 25 (0 : Int32) d9_24 rfl (by decide) ?_
  have fx87 := ((((Exa.ext E35 ((Exa.ext E13 A5).keep K21)).keep K54).keep K67).keep K76)
  have fx88 := ((((Fld.ext E35 ((Fld.ext E13 fx7).keep K21 (ninS (Nat.ne_of_lt (nltle (A5).lt (Nat.le_of_eq g12.symm))) nin0))).keep K54 (ninS (Nat.ne_of_lt (nltle (A5).lt (Nat.le_of_eq g12.symm))) (ninS (Nat.ne_of_lt (nltle (nltle (A5).lt E13.1) fx30)) nin0))).keep K67 (ninS (Nat.ne_of_lt (nltle (A5).lt (Nat.le_of_eq g12.symm))) (ninS (Nat.ne_of_lt (nltle (nltle (A5).lt E13.1) fx30)) nin0))).keep K76 nin0)
  have fx89 := ((((Fld.ext E35 ((Fld.ext E13 fx8).keep K21 (ninS (Nat.ne_of_lt (nltle (A5).lt (Nat.le_of_eq g12.symm))) nin0))).keep K54 (ninS (Nat.ne_of_lt (nltle (A5).lt (Nat.le_of_eq g12.symm))) (ninS (Nat.ne_of_lt (nltle (nltle (A5).lt E13.1) fx30)) nin0))).keep K67 (ninS (Nat.ne_of_lt (nltle (A5).lt (Nat.le_of_eq g12.symm))) (ninS (Nat.ne_of_lt (nltle (nltle (A5).lt E13.1) fx30)) nin0))).keep K76 nin0)
  have fx90 := ((((Fld.ext E35 ((Fld.ext E13 fx9).keep K21 (ninS (Nat.ne_of_lt (nltle (A5).lt (Nat.le_of_eq g12.symm))) nin0))).keep K54 (ninS (Nat.ne_of_lt (nltle (A5).lt (Nat.le_of_eq g12.symm))) (ninS (Nat.ne_of_lt (nltle (nltle (A5).lt E13.1) fx30)) nin0))).keep K67 (ninS (Nat.ne_of_lt (nltle (A5).lt (Nat.le_of_eq g12.symm))) (ninS (Nat.ne_of_lt (nltle (nltle (A5).lt E13.1) fx30)) nin0))).keep K76 nin0)
  refine wh2' C (a := b1) (argsL := [(.ref f), (.ref a78), .int 0]) (W := 1) d9_25 rfl (hq hw 157 rfl) (hq hw 158 rfl) (hq hw 159 rfl) (by decide) pd__Ljava_lang_String_Ljava_lang_String_I_V (ct_soi l Z a0 hw am (q := b1) (f := f) (m := a78) (n := (0 : Int32)) fx87 fx88 fx89 fx90) rfl (Nat.le_of_eq rfl) rfl (by decide) (memsS (mi 4 rfl) mems0) ?_
  intro fv91 ph92 K93 fq94
  obtain ⟨rfl, fx95, fx96, fx97, fx98⟩ := fq94
  refine ⟨[], fresh0, ?_⟩
  show GoW l _ Z _ _ _ _ _ κ _ _ 28 _ [(.ref b1)] 7 64
  refine wg2' C hEL (v := (.ref b1)) d9_28 rfl rfl rfl (by decide) (by decide) ?_
  have fx99 := (fx81.keep K93)
  have fx100 := (fx82.keep K93 (ninS (Ne.symm (Nat.ne_of_lt (nltle (nltle (nltle (nltle (nltle (nltle (A5).lt E13.1) K21.1) E35.1) K54.1) K67.1) fx86))) nin0))
  have fx101 := (fx83.keep K93 (ninS (Ne.symm (Nat.ne_of_lt (nltle (nltle (nltle (nltle (nltle (nltle (A5).lt E13.1) K21.1) E35.1) K54.1) K67.1) fx86))) nin0))
  have fx102 := (fx84.keep K93 (ninS (Ne.symm (Nat.ne_of_lt (nltle (nltle (nltle (nltle (nltle (nltle (A5).lt E13.1) K21.1) E35.1) K54.1) K67.1) fx85))) nin0))
  exact ⟨b1, a78, t79, kt80, rfl, fx95, fx96, fx97, fx98, fx99, fx100, fx101, fx102⟩
theorem ct_fg (l : Launch) (Z : State) (a0 : Array Value) (hw : HW a0 Z) {cS : Int32} {fm : Value} (am : Amb Z a0 cS fm) {q f : Addr} {h0 : Heap} (p0 : Fld Z h0 q "com/example/evenlot/evenlot/Source" "fg" "Ljava/lang/String;" (.ref f)) :
    Py l Z (⟨"com/example/evenlot/evenlot/Source", "fg", "()Ljava/lang/String;"⟩ : MethodName) 1 12 0 0 #[(.ref q)] h0 [] (fun rv h' => rv = some (.ref f) ∧ h' = h0) := by
  refine Ct.py (by0 := zc41) (ml := 1) (rt := (some (.object "java/lang/String"))) (rm := ({ frames := 0, cells := 0, slots := 0, locals := 0 } : Room)) ?_ (hq hw 176 rfl) (hq hw 42 rfl)
  refine Ct.mk (a0 := a0) (Ls := #[.val (.ref q)]) (plainFor_of_name pn_com_example_evenlot_evenlot_Source) (fun m => by simp [entryFrame, mkF, argsToLocals, Value.category]) ?_
  intro κ C
  show Go l _ Z _ _ _ κ [] h0 0 #[.val (.ref q)] [] 0 0
  refine oc' C 1 d33_0 rfl rfl rfl (ok' C 4 d33_1 rfl (hq hw 166 rfl) Via.refl p0 ?_)
  refine ov' C (v := (.ref f)) d33_4 rfl rfl rfl (by decide) (by decide) ?_
  exact ⟨rfl, rfl⟩
theorem ct_nm (l : Launch) (Z : State) (a0 : Array Value) (hw : HW a0 Z) {cS : Int32} {fm : Value} (am : Amb Z a0 cS fm) {q f : Addr} {h0 : Heap} (p0 : Fld Z h0 q "com/example/evenlot/evenlot/Source" "name" "Ljava/lang/String;" (.ref f)) :
    Py l Z (⟨"com/example/evenlot/evenlot/Source", "name", "()Ljava/lang/String;"⟩ : MethodName) 1 12 0 0 #[(.ref q)] h0 [] (fun rv h' => rv = some (.ref f) ∧ h' = h0) := by
  refine Ct.py (by0 := zc42) (ml := 1) (rt := (some (.object "java/lang/String"))) (rm := ({ frames := 0, cells := 0, slots := 0, locals := 0 } : Room)) ?_ (hq hw 186 rfl) (hq hw 42 rfl)
  refine Ct.mk (a0 := a0) (Ls := #[.val (.ref q)]) (plainFor_of_name pn_com_example_evenlot_evenlot_Source) (fun m => by simp [entryFrame, mkF, argsToLocals, Value.category]) ?_
  intro κ C
  show Go l _ Z _ _ _ κ [] h0 0 #[.val (.ref q)] [] 0 0
  refine oc' C 1 d35_0 rfl rfl rfl (ok' C 4 d35_1 rfl (hq hw 168 rfl) Via.refl p0 ?_)
  refine ov' C (v := (.ref f)) d35_4 rfl rfl rfl (by decide) (by decide) ?_
  exact ⟨rfl, rfl⟩
theorem ct_pe (l : Launch) (Z : State) (a0 : Array Value) (hw : HW a0 Z) {cS : Int32} {fm : Value} (am : Amb Z a0 cS fm) {q : Addr} {n : Int32} {h0 : Heap} (p0 : Fld Z h0 q "com/example/evenlot/evenlot/Source" "period" "I" (.int n)) :
    Py l Z (⟨"com/example/evenlot/evenlot/Source", "period", "()I"⟩ : MethodName) 1 12 0 0 #[(.ref q)] h0 [] (fun rv h' => rv = some (.int n) ∧ h' = h0) := by
  refine Ct.py (by0 := zc43) (ml := 1) (rt := (some .int)) (rm := ({ frames := 0, cells := 0, slots := 0, locals := 0 } : Room)) ?_ (hq hw 196 rfl) (hq hw 42 rfl)
  refine Ct.mk (a0 := a0) (Ls := #[.val (.ref q)]) (plainFor_of_name pn_com_example_evenlot_evenlot_Source) (fun m => by simp [entryFrame, mkF, argsToLocals, Value.category]) ?_
  intro κ C
  show Go l _ Z _ _ _ κ [] h0 0 #[.val (.ref q)] [] 0 0
  refine oc' C 1 d37_0 rfl rfl rfl (ok' C 4 d37_1 rfl (hq hw 170 rfl) Via.refl p0 ?_)
  refine ol1' C d37_4 rfl (by decide) (by decide) ?_
  exact ⟨rfl, rfl⟩
theorem ct_eqs (l : Launch) (Z : State) (a0 : Array Value) (hw : HW a0 Z) {cS : Int32} {fm : Value} (am : Amb Z a0 cS fm) {a : Addr} {h0 : Heap} :
    Py l Z (⟨"java/lang/String", "equals", "(Ljava/lang/Object;)Z"⟩ : MethodName) 1 14 0 0 #[(.ref a), (.ref a)] h0 [] (fun rv h' => rv = some (.int 1) ∧ h' = h0) := by
  refine Ct.py (by0 := zc13) (ml := 3) (rt := (some .boolean)) (rm := ({ frames := 0, cells := 0, slots := 0, locals := 0 } : Room)) ?_ (hq hw 181 rfl) (hq hw 6 rfl)
  refine Ct.mk (a0 := a0) (Ls := #[.val (.ref a), .val (.ref a), .unset]) (plainFor_of_name pn_java_lang_String) (fun m => by simp [entryFrame, mkF, argsToLocals, Value.category]) ?_
  intro κ C
  show Go l _ Z _ _ _ κ [] h0 0 #[.val (.ref a), .val (.ref a), .unset] [] 0 0
  refine oc' C 1 d34_0 rfl rfl rfl (oc' C 2 d34_1 rfl rfl rfl ?_)
  refine oc2' C (b := true) (pc' := 5) d34_2 rfl rfl (decide_eq_true rfl) (by decide) (by decide) (of' C 6 (1 : Int32) d34_5 rfl (by decide) ?_)
  refine oz' C (t := .boolean) (z := (1 : Int32)) d34_6 rfl (by decide) (by decide) (by decide) (by decide) ?_
  exact ⟨rfl, rfl⟩
theorem ct_leq6 (l : Launch) (Z : State) (a0 : Array Value) (hw : HW a0 Z) {cS : Int32} {fm : Value} (am : Amb Z a0 cS fm) {t u : Addr} {kt ku : ClassId} {x0 x1 x2 x3 x4 x5 y0 y1 y2 y3 y4 y5 : Int32} {h0 : Heap} (p0 : Arv Z h0 t kt .byte (6 : Int32) [.int x0, .int x1, .int x2, .int x3, .int x4, .int x5] (.int 0)) (p1 : Arv Z h0 u ku .byte (6 : Int32) [.int y0, .int y1, .int y2, .int y3, .int y4, .int y5] (.int 0)) (e0 : x0 = y0) (e1 : x1 = y1) (e2 : x2 = y2) (e3 : x3 = y3) (e4 : x4 = y4) (e5 : x5 = y5) :
    Py l Z (⟨"java/lang/StringLatin1", "equals", "([B[B)Z"⟩ : MethodName) 1 14 0 0 #[(.ref t), (.ref u)] h0 [] (fun rv h' => rv = some (.int 1) ∧ h' = h0) := by
  refine Ct.py (by0 := zc18) (ml := 3) (rt := (some .boolean)) (rm := ({ frames := 0, cells := 0, slots := 0, locals := 0 } : Room)) ?_ (hq hw 191 rfl) (hq hw 190 rfl)
  refine Ct.mk (a0 := a0) (Ls := #[.val (.ref t), .val (.ref u), .unset]) (plainFor_of_name pn_java_lang_StringLatin1) (fun m => by simp [entryFrame, mkF, argsToLocals, Value.category]) ?_
  intro κ C
  show Go l _ Z _ _ _ κ [] h0 0 #[.val (.ref t), .val (.ref u), .unset] [] 0 0
  refine oc' C 1 d36_0 rfl rfl rfl (oj' C 2 d36_1 rfl p0 ?_)
  refine oc' C 3 d36_2 rfl rfl rfl (oj' C 4 d36_3 rfl p1 ?_)
  refine oi' C 7 d36_4 rfl (by decide) (of' C 8 (0 : Int32) d36_7 rfl (by decide) ?_)
  refine op1' C 9 (Ls' := #[.val (.ref t), .val (.ref u), .val (.int 0)]) d36_8 rfl rfl (od' C 10 d36_9 rfl rfl ?_)
  refine oc' C 11 d36_10 rfl rfl rfl (oj' C 12 d36_11 rfl p0 ?_)
  refine oi' C 15 d36_12 rfl (by decide) (oc' C 16 d36_15 rfl rfl rfl ?_)
  refine od' C 17 d36_16 rfl rfl (op' C 18 (v := (.int x0)) d36_17 rfl p0 (by decide) rfl ?_)
  refine oc' C 19 d36_18 rfl rfl rfl (od' C 20 d36_19 rfl rfl ?_)
  refine op' C 21 (v := (.int y0)) d36_20 rfl p1 (by decide) rfl (oh' C (pc' := 26) d36_21 (teq (e0 : x0 = y0)).1 (by decide) (by decide) ?_)
  refine og' C 29 (Ls' := #[.val (.ref t), .val (.ref u), .val (.int 1)]) (1 : Int32) d36_26 rfl (by decide) rfl rfl (om' C (pc' := 9) d36_29 (by decide) (by decide) ?_)
  refine od' C 10 d36_9 rfl rfl (oc' C 11 d36_10 rfl rfl rfl ?_)
  refine oj' C 12 d36_11 rfl p0 (oi' C 15 d36_12 rfl (by decide) ?_)
  refine oc' C 16 d36_15 rfl rfl rfl (od' C 17 d36_16 rfl rfl ?_)
  refine op' C 18 (v := (.int x1)) d36_17 rfl p0 (by decide) rfl (oc' C 19 d36_18 rfl rfl rfl ?_)
  refine od' C 20 d36_19 rfl rfl (op' C 21 (v := (.int y1)) d36_20 rfl p1 (by decide) rfl ?_)
  refine oh' C (pc' := 26) d36_21 (teq (e1 : x1 = y1)).1 (by decide) (by decide) (og' C 29 (Ls' := #[.val (.ref t), .val (.ref u), .val (.int 2)]) (1 : Int32) d36_26 rfl (by decide) rfl rfl ?_)
  refine om' C (pc' := 9) d36_29 (by decide) (by decide) (od' C 10 d36_9 rfl rfl ?_)
  refine oc' C 11 d36_10 rfl rfl rfl (oj' C 12 d36_11 rfl p0 ?_)
  refine oi' C 15 d36_12 rfl (by decide) (oc' C 16 d36_15 rfl rfl rfl ?_)
  refine od' C 17 d36_16 rfl rfl (op' C 18 (v := (.int x2)) d36_17 rfl p0 (by decide) rfl ?_)
  refine oc' C 19 d36_18 rfl rfl rfl (od' C 20 d36_19 rfl rfl ?_)
  refine op' C 21 (v := (.int y2)) d36_20 rfl p1 (by decide) rfl (oh' C (pc' := 26) d36_21 (teq (e2 : x2 = y2)).1 (by decide) (by decide) ?_)
  refine og' C 29 (Ls' := #[.val (.ref t), .val (.ref u), .val (.int 3)]) (1 : Int32) d36_26 rfl (by decide) rfl rfl (om' C (pc' := 9) d36_29 (by decide) (by decide) ?_)
  refine od' C 10 d36_9 rfl rfl (oc' C 11 d36_10 rfl rfl rfl ?_)
  refine oj' C 12 d36_11 rfl p0 (oi' C 15 d36_12 rfl (by decide) ?_)
  refine oc' C 16 d36_15 rfl rfl rfl (od' C 17 d36_16 rfl rfl ?_)
  refine op' C 18 (v := (.int x3)) d36_17 rfl p0 (by decide) rfl (oc' C 19 d36_18 rfl rfl rfl ?_)
  refine od' C 20 d36_19 rfl rfl (op' C 21 (v := (.int y3)) d36_20 rfl p1 (by decide) rfl ?_)
  refine oh' C (pc' := 26) d36_21 (teq (e3 : x3 = y3)).1 (by decide) (by decide) (og' C 29 (Ls' := #[.val (.ref t), .val (.ref u), .val (.int 4)]) (1 : Int32) d36_26 rfl (by decide) rfl rfl ?_)
  refine om' C (pc' := 9) d36_29 (by decide) (by decide) (od' C 10 d36_9 rfl rfl ?_)
  refine oc' C 11 d36_10 rfl rfl rfl (oj' C 12 d36_11 rfl p0 ?_)
  refine oi' C 15 d36_12 rfl (by decide) (oc' C 16 d36_15 rfl rfl rfl ?_)
  refine od' C 17 d36_16 rfl rfl (op' C 18 (v := (.int x4)) d36_17 rfl p0 (by decide) rfl ?_)
  refine oc' C 19 d36_18 rfl rfl rfl (od' C 20 d36_19 rfl rfl ?_)
  refine op' C 21 (v := (.int y4)) d36_20 rfl p1 (by decide) rfl (oh' C (pc' := 26) d36_21 (teq (e4 : x4 = y4)).1 (by decide) (by decide) ?_)
  refine og' C 29 (Ls' := #[.val (.ref t), .val (.ref u), .val (.int 5)]) (1 : Int32) d36_26 rfl (by decide) rfl rfl (om' C (pc' := 9) d36_29 (by decide) (by decide) ?_)
  refine od' C 10 d36_9 rfl rfl (oc' C 11 d36_10 rfl rfl rfl ?_)
  refine oj' C 12 d36_11 rfl p0 (oi' C 15 d36_12 rfl (by decide) ?_)
  refine oc' C 16 d36_15 rfl rfl rfl (od' C 17 d36_16 rfl rfl ?_)
  refine op' C 18 (v := (.int x5)) d36_17 rfl p0 (by decide) rfl (oc' C 19 d36_18 rfl rfl rfl ?_)
  refine od' C 20 d36_19 rfl rfl (op' C 21 (v := (.int y5)) d36_20 rfl p1 (by decide) rfl ?_)
  refine oh' C (pc' := 26) d36_21 (teq (e5 : x5 = y5)).1 (by decide) (by decide) (og' C 29 (Ls' := #[.val (.ref t), .val (.ref u), .val (.int 6)]) (1 : Int32) d36_26 rfl (by decide) rfl rfl ?_)
  refine om' C (pc' := 9) d36_29 (by decide) (by decide) (od' C 10 d36_9 rfl rfl ?_)
  refine oc' C 11 d36_10 rfl rfl rfl (oj' C 12 d36_11 rfl p0 ?_)
  refine oh' C (pc' := 32) d36_12 (by decide) (by decide) (by decide) (of' C 33 (1 : Int32) d36_32 rfl (by decide) ?_)
  refine oz' C (t := .boolean) (z := (1 : Int32)) d36_33 rfl (by decide) (by decide) (by decide) (by decide) ?_
  exact ⟨rfl, rfl⟩
theorem ct_eq6 (l : Launch) (Z : State) (a0 : Array Value) (hw : HW a0 Z) {cS : Int32} {fm : Value} (am : Amb Z a0 cS fm) {a b t u : Addr} {kt ku : ClassId} {x0 x1 x2 x3 x4 x5 y0 y1 y2 y3 y4 y5 : Int32} {h0 : Heap} (p0 : Exa Z h0 a "java/lang/String") (p1 : Fld Z h0 a "java/lang/String" "coder" "B" (.int 0)) (p2 : Fld Z h0 a "java/lang/String" "value" "[B" (.ref t)) (p3 : Arv Z h0 t kt .byte (6 : Int32) [.int x0, .int x1, .int x2, .int x3, .int x4, .int x5] (.int 0)) (p4 : Exa Z h0 b "java/lang/String") (p5 : Fld Z h0 b "java/lang/String" "coder" "B" (.int 0)) (p6 : Fld Z h0 b "java/lang/String" "value" "[B" (.ref u)) (p7 : Arv Z h0 u ku .byte (6 : Int32) [.int y0, .int y1, .int y2, .int y3, .int y4, .int y5] (.int 0)) (e0 : x0 = y0) (e1 : x1 = y1) (e2 : x2 = y2) (e3 : x3 = y3) (e4 : x4 = y4) (e5 : x5 = y5) :
    Py l Z (⟨"java/lang/String", "equals", "(Ljava/lang/Object;)Z"⟩ : MethodName) 2 28 0 0 #[(.ref a), (.ref b)] h0 [] (fun rv h' => rv = some (.int 1) ∧ h' = h0) := by
  refine Ct.py (by0 := zc13) (ml := 3) (rt := (some .boolean)) (rm := ({ frames := 1, cells := 0, slots := 0, locals := 14 } : Room)) ?_ (hq hw 181 rfl) (hq hw 6 rfl)
  refine Ct.mk (a0 := a0) (Ls := #[.val (.ref a), .val (.ref b), .unset]) (plainFor_of_name pn_java_lang_String) (fun m => by simp [entryFrame, mkF, argsToLocals, Value.category]) ?_
  intro κ C
  show Go l _ Z _ _ _ κ [] h0 0 #[.val (.ref a), .val (.ref b), .unset] [] 0 0
  refine oc' C 1 d34_0 rfl rfl rfl (oc' C 2 d34_1 rfl rfl rfl ?_)
  by_cases ha1 : a = b
  · skip
    refine oc2' C (b := true) (pc' := 5) d34_2 rfl rfl (decide_eq_true (congrArg Value.ref ha1)) (by decide) (by decide) (of' C 6 (1 : Int32) d34_5 rfl (by decide) ?_)
    refine oz' C (t := .boolean) (z := (1 : Int32)) d34_6 rfl (by decide) (by decide) (by decide) (by decide) ?_
    exact ⟨rfl, rfl⟩
  · skip
    refine oc2' C (b := false) (pc' := 7) d34_2 rfl rfl (decide_eq_false fun q => ha1 (Value.ref.inj q)) (by decide) (by decide) (oc' C 8 d34_7 rfl rfl rfl ?_)
    refine or2' C 11 d34_8 rfl (hq hw 187 rfl) (Ins.self p4) (ot' C 14 d34_11 rfl (by decide) ?_)
    refine oc' C 15 d34_14 rfl rfl rfl (oy' C 18 d34_15 rfl (hq hw 187 rfl) (Ins.self p4) ?_)
    refine ov1' C 19 (Ls' := #[.val (.ref a), .val (.ref b), .val (.ref b)]) d34_18 rfl rfl rfl (oy1' C 22 d34_19 rfl (hq hw 18 rfl) am.2.1 ?_)
    refine ot' C 25 d34_22 rfl (feq (am.2.2.1 : ¬ (cS = (0 : Int32)))).1 (oc' C 26 d34_25 rfl rfl rfl ?_)
    refine ok' C 29 d34_26 rfl (hq hw 30 rfl) Via.refl p1 (oc' C 30 d34_29 rfl rfl rfl ?_)
    refine ok' C 33 d34_30 rfl (hq hw 30 rfl) Via.refl p5 (oi' C 36 d34_33 rfl (by decide) ?_)
    refine oc' C 37 d34_36 rfl rfl rfl (ok' C 40 d34_37 rfl (hq hw 32 rfl) Via.refl p2 ?_)
    refine oc' C 41 d34_40 rfl rfl rfl (ok' C 44 d34_41 rfl (hq hw 32 rfl) Via.refl p6 ?_)
    refine or' C (argsL := [(.ref t), (.ref u)]) (W := 0) d34_44 (hq hw 188 rfl) (hq hw 189 rfl) (hq hw 190 rfl) (hq hw 191 rfl) (by decide) pd___B_B_Z (ct_leq6 l Z a0 hw am (t := t) (u := u) (kt := kt) (ku := ku) (x0 := x0) (x1 := x1) (x2 := x2) (x3 := x3) (x4 := x4) (x5 := x5) (y0 := y0) (y1 := y1) (y2 := y2) (y3 := y3) (y4 := y4) (y5 := y5) p3 p7 e0 e1 e2 e3 e4 e5) rfl (Nat.le_of_eq rfl) rfl (by decide) mems0 ?_
    intro fv2 ph3 K4 fq5
    obtain ⟨rfl, rfl⟩ := fq5
    refine ⟨[], fresh0, ?_⟩
    show Go l _ Z _ _ _ κ _ _ 47 _ [.int 1] 0 0
    refine ot' C 50 d34_47 rfl (by decide) (of' C 51 (1 : Int32) d34_50 rfl (by decide) ?_)
    refine om' C (pc' := 55) d34_51 (by decide) (by decide) (oz' C (t := .boolean) (z := (1 : Int32)) d34_55 rfl (by decide) (by decide) (by decide) (by decide) ?_)
    exact ⟨rfl, rfl⟩
theorem ct_leq0 (l : Launch) (Z : State) (a0 : Array Value) (hw : HW a0 Z) {cS : Int32} {fm : Value} (am : Amb Z a0 cS fm) {t u : Addr} {kt ku : ClassId} {h0 : Heap} (p0 : Arv Z h0 t kt .byte (0 : Int32) [] (.int 0)) (p1 : Arv Z h0 u ku .byte (0 : Int32) [] (.int 0)) :
    Py l Z (⟨"java/lang/StringLatin1", "equals", "([B[B)Z"⟩ : MethodName) 1 14 0 0 #[(.ref t), (.ref u)] h0 [] (fun rv h' => rv = some (.int 1) ∧ h' = h0) := by
  refine Ct.py (by0 := zc18) (ml := 3) (rt := (some .boolean)) (rm := ({ frames := 0, cells := 0, slots := 0, locals := 0 } : Room)) ?_ (hq hw 191 rfl) (hq hw 190 rfl)
  refine Ct.mk (a0 := a0) (Ls := #[.val (.ref t), .val (.ref u), .unset]) (plainFor_of_name pn_java_lang_StringLatin1) (fun m => by simp [entryFrame, mkF, argsToLocals, Value.category]) ?_
  intro κ C
  show Go l _ Z _ _ _ κ [] h0 0 #[.val (.ref t), .val (.ref u), .unset] [] 0 0
  refine oc' C 1 d36_0 rfl rfl rfl (oj' C 2 d36_1 rfl p0 ?_)
  refine oc' C 3 d36_2 rfl rfl rfl (oj' C 4 d36_3 rfl p1 ?_)
  refine oi' C 7 d36_4 rfl (by decide) (of' C 8 (0 : Int32) d36_7 rfl (by decide) ?_)
  refine op1' C 9 (Ls' := #[.val (.ref t), .val (.ref u), .val (.int 0)]) d36_8 rfl rfl (od' C 10 d36_9 rfl rfl ?_)
  refine oc' C 11 d36_10 rfl rfl rfl (oj' C 12 d36_11 rfl p0 ?_)
  refine oh' C (pc' := 32) d36_12 (by decide) (by decide) (by decide) (of' C 33 (1 : Int32) d36_32 rfl (by decide) ?_)
  refine oz' C (t := .boolean) (z := (1 : Int32)) d36_33 rfl (by decide) (by decide) (by decide) (by decide) ?_
  exact ⟨rfl, rfl⟩
theorem ct_eq0 (l : Launch) (Z : State) (a0 : Array Value) (hw : HW a0 Z) {cS : Int32} {fm : Value} (am : Amb Z a0 cS fm) {a b t u : Addr} {kt ku : ClassId} {h0 : Heap} (p0 : Exa Z h0 a "java/lang/String") (p1 : Fld Z h0 a "java/lang/String" "coder" "B" (.int 0)) (p2 : Fld Z h0 a "java/lang/String" "value" "[B" (.ref t)) (p3 : Arv Z h0 t kt .byte (0 : Int32) [] (.int 0)) (p4 : Exa Z h0 b "java/lang/String") (p5 : Fld Z h0 b "java/lang/String" "coder" "B" (.int 0)) (p6 : Fld Z h0 b "java/lang/String" "value" "[B" (.ref u)) (p7 : Arv Z h0 u ku .byte (0 : Int32) [] (.int 0)) :
    Py l Z (⟨"java/lang/String", "equals", "(Ljava/lang/Object;)Z"⟩ : MethodName) 2 28 0 0 #[(.ref a), (.ref b)] h0 [] (fun rv h' => rv = some (.int 1) ∧ h' = h0) := by
  refine Ct.py (by0 := zc13) (ml := 3) (rt := (some .boolean)) (rm := ({ frames := 1, cells := 0, slots := 0, locals := 14 } : Room)) ?_ (hq hw 181 rfl) (hq hw 6 rfl)
  refine Ct.mk (a0 := a0) (Ls := #[.val (.ref a), .val (.ref b), .unset]) (plainFor_of_name pn_java_lang_String) (fun m => by simp [entryFrame, mkF, argsToLocals, Value.category]) ?_
  intro κ C
  show Go l _ Z _ _ _ κ [] h0 0 #[.val (.ref a), .val (.ref b), .unset] [] 0 0
  refine oc' C 1 d34_0 rfl rfl rfl (oc' C 2 d34_1 rfl rfl rfl ?_)
  by_cases ha1 : a = b
  · skip
    refine oc2' C (b := true) (pc' := 5) d34_2 rfl rfl (decide_eq_true (congrArg Value.ref ha1)) (by decide) (by decide) (of' C 6 (1 : Int32) d34_5 rfl (by decide) ?_)
    refine oz' C (t := .boolean) (z := (1 : Int32)) d34_6 rfl (by decide) (by decide) (by decide) (by decide) ?_
    exact ⟨rfl, rfl⟩
  · skip
    refine oc2' C (b := false) (pc' := 7) d34_2 rfl rfl (decide_eq_false fun q => ha1 (Value.ref.inj q)) (by decide) (by decide) (oc' C 8 d34_7 rfl rfl rfl ?_)
    refine or2' C 11 d34_8 rfl (hq hw 187 rfl) (Ins.self p4) (ot' C 14 d34_11 rfl (by decide) ?_)
    refine oc' C 15 d34_14 rfl rfl rfl (oy' C 18 d34_15 rfl (hq hw 187 rfl) (Ins.self p4) ?_)
    refine ov1' C 19 (Ls' := #[.val (.ref a), .val (.ref b), .val (.ref b)]) d34_18 rfl rfl rfl (oy1' C 22 d34_19 rfl (hq hw 18 rfl) am.2.1 ?_)
    refine ot' C 25 d34_22 rfl (feq (am.2.2.1 : ¬ (cS = (0 : Int32)))).1 (oc' C 26 d34_25 rfl rfl rfl ?_)
    refine ok' C 29 d34_26 rfl (hq hw 30 rfl) Via.refl p1 (oc' C 30 d34_29 rfl rfl rfl ?_)
    refine ok' C 33 d34_30 rfl (hq hw 30 rfl) Via.refl p5 (oi' C 36 d34_33 rfl (by decide) ?_)
    refine oc' C 37 d34_36 rfl rfl rfl (ok' C 40 d34_37 rfl (hq hw 32 rfl) Via.refl p2 ?_)
    refine oc' C 41 d34_40 rfl rfl rfl (ok' C 44 d34_41 rfl (hq hw 32 rfl) Via.refl p6 ?_)
    refine or' C (argsL := [(.ref t), (.ref u)]) (W := 0) d34_44 (hq hw 188 rfl) (hq hw 189 rfl) (hq hw 190 rfl) (hq hw 191 rfl) (by decide) pd___B_B_Z (ct_leq0 l Z a0 hw am (t := t) (u := u) (kt := kt) (ku := ku) p3 p7) rfl (Nat.le_of_eq rfl) rfl (by decide) mems0 ?_
    intro fv2 ph3 K4 fq5
    obtain ⟨rfl, rfl⟩ := fq5
    refine ⟨[], fresh0, ?_⟩
    show Go l _ Z _ _ _ κ _ _ 47 _ [.int 1] 0 0
    refine ot' C 50 d34_47 rfl (by decide) (of' C 51 (1 : Int32) d34_50 rfl (by decide) ?_)
    refine om' C (pc' := 55) d34_51 (by decide) (by decide) (oz' C (t := .boolean) (z := (1 : Int32)) d34_55 rfl (by decide) (by decide) (by decide) (by decide) ?_)
    exact ⟨rfl, rfl⟩
theorem ct_leq7 (l : Launch) (Z : State) (a0 : Array Value) (hw : HW a0 Z) {cS : Int32} {fm : Value} (am : Amb Z a0 cS fm) {t u : Addr} {kt ku : ClassId} {x0 x1 x2 x3 x4 x5 x6 y0 y1 y2 y3 y4 y5 y6 : Int32} {h0 : Heap} (p0 : Arv Z h0 t kt .byte (7 : Int32) [.int x0, .int x1, .int x2, .int x3, .int x4, .int x5, .int x6] (.int 0)) (p1 : Arv Z h0 u ku .byte (7 : Int32) [.int y0, .int y1, .int y2, .int y3, .int y4, .int y5, .int y6] (.int 0)) (e0 : x0 = y0) (e1 : x1 = y1) (e2 : x2 = y2) (e3 : x3 = y3) (e4 : x4 = y4) (e5 : x5 = y5) (e6 : x6 = y6) :
    Py l Z (⟨"java/lang/StringLatin1", "equals", "([B[B)Z"⟩ : MethodName) 1 14 0 0 #[(.ref t), (.ref u)] h0 [] (fun rv h' => rv = some (.int 1) ∧ h' = h0) := by
  refine Ct.py (by0 := zc18) (ml := 3) (rt := (some .boolean)) (rm := ({ frames := 0, cells := 0, slots := 0, locals := 0 } : Room)) ?_ (hq hw 191 rfl) (hq hw 190 rfl)
  refine Ct.mk (a0 := a0) (Ls := #[.val (.ref t), .val (.ref u), .unset]) (plainFor_of_name pn_java_lang_StringLatin1) (fun m => by simp [entryFrame, mkF, argsToLocals, Value.category]) ?_
  intro κ C
  show Go l _ Z _ _ _ κ [] h0 0 #[.val (.ref t), .val (.ref u), .unset] [] 0 0
  refine oc' C 1 d36_0 rfl rfl rfl (oj' C 2 d36_1 rfl p0 ?_)
  refine oc' C 3 d36_2 rfl rfl rfl (oj' C 4 d36_3 rfl p1 ?_)
  refine oi' C 7 d36_4 rfl (by decide) (of' C 8 (0 : Int32) d36_7 rfl (by decide) ?_)
  refine op1' C 9 (Ls' := #[.val (.ref t), .val (.ref u), .val (.int 0)]) d36_8 rfl rfl (od' C 10 d36_9 rfl rfl ?_)
  refine oc' C 11 d36_10 rfl rfl rfl (oj' C 12 d36_11 rfl p0 ?_)
  refine oi' C 15 d36_12 rfl (by decide) (oc' C 16 d36_15 rfl rfl rfl ?_)
  refine od' C 17 d36_16 rfl rfl (op' C 18 (v := (.int x0)) d36_17 rfl p0 (by decide) rfl ?_)
  refine oc' C 19 d36_18 rfl rfl rfl (od' C 20 d36_19 rfl rfl ?_)
  refine op' C 21 (v := (.int y0)) d36_20 rfl p1 (by decide) rfl (oh' C (pc' := 26) d36_21 (teq (e0 : x0 = y0)).1 (by decide) (by decide) ?_)
  refine og' C 29 (Ls' := #[.val (.ref t), .val (.ref u), .val (.int 1)]) (1 : Int32) d36_26 rfl (by decide) rfl rfl (om' C (pc' := 9) d36_29 (by decide) (by decide) ?_)
  refine od' C 10 d36_9 rfl rfl (oc' C 11 d36_10 rfl rfl rfl ?_)
  refine oj' C 12 d36_11 rfl p0 (oi' C 15 d36_12 rfl (by decide) ?_)
  refine oc' C 16 d36_15 rfl rfl rfl (od' C 17 d36_16 rfl rfl ?_)
  refine op' C 18 (v := (.int x1)) d36_17 rfl p0 (by decide) rfl (oc' C 19 d36_18 rfl rfl rfl ?_)
  refine od' C 20 d36_19 rfl rfl (op' C 21 (v := (.int y1)) d36_20 rfl p1 (by decide) rfl ?_)
  refine oh' C (pc' := 26) d36_21 (teq (e1 : x1 = y1)).1 (by decide) (by decide) (og' C 29 (Ls' := #[.val (.ref t), .val (.ref u), .val (.int 2)]) (1 : Int32) d36_26 rfl (by decide) rfl rfl ?_)
  refine om' C (pc' := 9) d36_29 (by decide) (by decide) (od' C 10 d36_9 rfl rfl ?_)
  refine oc' C 11 d36_10 rfl rfl rfl (oj' C 12 d36_11 rfl p0 ?_)
  refine oi' C 15 d36_12 rfl (by decide) (oc' C 16 d36_15 rfl rfl rfl ?_)
  refine od' C 17 d36_16 rfl rfl (op' C 18 (v := (.int x2)) d36_17 rfl p0 (by decide) rfl ?_)
  refine oc' C 19 d36_18 rfl rfl rfl (od' C 20 d36_19 rfl rfl ?_)
  refine op' C 21 (v := (.int y2)) d36_20 rfl p1 (by decide) rfl (oh' C (pc' := 26) d36_21 (teq (e2 : x2 = y2)).1 (by decide) (by decide) ?_)
  refine og' C 29 (Ls' := #[.val (.ref t), .val (.ref u), .val (.int 3)]) (1 : Int32) d36_26 rfl (by decide) rfl rfl (om' C (pc' := 9) d36_29 (by decide) (by decide) ?_)
  refine od' C 10 d36_9 rfl rfl (oc' C 11 d36_10 rfl rfl rfl ?_)
  refine oj' C 12 d36_11 rfl p0 (oi' C 15 d36_12 rfl (by decide) ?_)
  refine oc' C 16 d36_15 rfl rfl rfl (od' C 17 d36_16 rfl rfl ?_)
  refine op' C 18 (v := (.int x3)) d36_17 rfl p0 (by decide) rfl (oc' C 19 d36_18 rfl rfl rfl ?_)
  refine od' C 20 d36_19 rfl rfl (op' C 21 (v := (.int y3)) d36_20 rfl p1 (by decide) rfl ?_)
  refine oh' C (pc' := 26) d36_21 (teq (e3 : x3 = y3)).1 (by decide) (by decide) (og' C 29 (Ls' := #[.val (.ref t), .val (.ref u), .val (.int 4)]) (1 : Int32) d36_26 rfl (by decide) rfl rfl ?_)
  refine om' C (pc' := 9) d36_29 (by decide) (by decide) (od' C 10 d36_9 rfl rfl ?_)
  refine oc' C 11 d36_10 rfl rfl rfl (oj' C 12 d36_11 rfl p0 ?_)
  refine oi' C 15 d36_12 rfl (by decide) (oc' C 16 d36_15 rfl rfl rfl ?_)
  refine od' C 17 d36_16 rfl rfl (op' C 18 (v := (.int x4)) d36_17 rfl p0 (by decide) rfl ?_)
  refine oc' C 19 d36_18 rfl rfl rfl (od' C 20 d36_19 rfl rfl ?_)
  refine op' C 21 (v := (.int y4)) d36_20 rfl p1 (by decide) rfl (oh' C (pc' := 26) d36_21 (teq (e4 : x4 = y4)).1 (by decide) (by decide) ?_)
  refine og' C 29 (Ls' := #[.val (.ref t), .val (.ref u), .val (.int 5)]) (1 : Int32) d36_26 rfl (by decide) rfl rfl (om' C (pc' := 9) d36_29 (by decide) (by decide) ?_)
  refine od' C 10 d36_9 rfl rfl (oc' C 11 d36_10 rfl rfl rfl ?_)
  refine oj' C 12 d36_11 rfl p0 (oi' C 15 d36_12 rfl (by decide) ?_)
  refine oc' C 16 d36_15 rfl rfl rfl (od' C 17 d36_16 rfl rfl ?_)
  refine op' C 18 (v := (.int x5)) d36_17 rfl p0 (by decide) rfl (oc' C 19 d36_18 rfl rfl rfl ?_)
  refine od' C 20 d36_19 rfl rfl (op' C 21 (v := (.int y5)) d36_20 rfl p1 (by decide) rfl ?_)
  refine oh' C (pc' := 26) d36_21 (teq (e5 : x5 = y5)).1 (by decide) (by decide) (og' C 29 (Ls' := #[.val (.ref t), .val (.ref u), .val (.int 6)]) (1 : Int32) d36_26 rfl (by decide) rfl rfl ?_)
  refine om' C (pc' := 9) d36_29 (by decide) (by decide) (od' C 10 d36_9 rfl rfl ?_)
  refine oc' C 11 d36_10 rfl rfl rfl (oj' C 12 d36_11 rfl p0 ?_)
  refine oi' C 15 d36_12 rfl (by decide) (oc' C 16 d36_15 rfl rfl rfl ?_)
  refine od' C 17 d36_16 rfl rfl (op' C 18 (v := (.int x6)) d36_17 rfl p0 (by decide) rfl ?_)
  refine oc' C 19 d36_18 rfl rfl rfl (od' C 20 d36_19 rfl rfl ?_)
  refine op' C 21 (v := (.int y6)) d36_20 rfl p1 (by decide) rfl (oh' C (pc' := 26) d36_21 (teq (e6 : x6 = y6)).1 (by decide) (by decide) ?_)
  refine og' C 29 (Ls' := #[.val (.ref t), .val (.ref u), .val (.int 7)]) (1 : Int32) d36_26 rfl (by decide) rfl rfl (om' C (pc' := 9) d36_29 (by decide) (by decide) ?_)
  refine od' C 10 d36_9 rfl rfl (oc' C 11 d36_10 rfl rfl rfl ?_)
  refine oj' C 12 d36_11 rfl p0 (oh' C (pc' := 32) d36_12 (by decide) (by decide) (by decide) ?_)
  refine of' C 33 (1 : Int32) d36_32 rfl (by decide) (oz' C (t := .boolean) (z := (1 : Int32)) d36_33 rfl (by decide) (by decide) (by decide) (by decide) ?_)
  exact ⟨rfl, rfl⟩
theorem ct_eq7 (l : Launch) (Z : State) (a0 : Array Value) (hw : HW a0 Z) {cS : Int32} {fm : Value} (am : Amb Z a0 cS fm) {a b t u : Addr} {kt ku : ClassId} {x0 x1 x2 x3 x4 x5 x6 y0 y1 y2 y3 y4 y5 y6 : Int32} {h0 : Heap} (p0 : Exa Z h0 a "java/lang/String") (p1 : Fld Z h0 a "java/lang/String" "coder" "B" (.int 0)) (p2 : Fld Z h0 a "java/lang/String" "value" "[B" (.ref t)) (p3 : Arv Z h0 t kt .byte (7 : Int32) [.int x0, .int x1, .int x2, .int x3, .int x4, .int x5, .int x6] (.int 0)) (p4 : Exa Z h0 b "java/lang/String") (p5 : Fld Z h0 b "java/lang/String" "coder" "B" (.int 0)) (p6 : Fld Z h0 b "java/lang/String" "value" "[B" (.ref u)) (p7 : Arv Z h0 u ku .byte (7 : Int32) [.int y0, .int y1, .int y2, .int y3, .int y4, .int y5, .int y6] (.int 0)) (e0 : x0 = y0) (e1 : x1 = y1) (e2 : x2 = y2) (e3 : x3 = y3) (e4 : x4 = y4) (e5 : x5 = y5) (e6 : x6 = y6) :
    Py l Z (⟨"java/lang/String", "equals", "(Ljava/lang/Object;)Z"⟩ : MethodName) 2 28 0 0 #[(.ref a), (.ref b)] h0 [] (fun rv h' => rv = some (.int 1) ∧ h' = h0) := by
  refine Ct.py (by0 := zc13) (ml := 3) (rt := (some .boolean)) (rm := ({ frames := 1, cells := 0, slots := 0, locals := 14 } : Room)) ?_ (hq hw 181 rfl) (hq hw 6 rfl)
  refine Ct.mk (a0 := a0) (Ls := #[.val (.ref a), .val (.ref b), .unset]) (plainFor_of_name pn_java_lang_String) (fun m => by simp [entryFrame, mkF, argsToLocals, Value.category]) ?_
  intro κ C
  show Go l _ Z _ _ _ κ [] h0 0 #[.val (.ref a), .val (.ref b), .unset] [] 0 0
  refine oc' C 1 d34_0 rfl rfl rfl (oc' C 2 d34_1 rfl rfl rfl ?_)
  by_cases ha1 : a = b
  · skip
    refine oc2' C (b := true) (pc' := 5) d34_2 rfl rfl (decide_eq_true (congrArg Value.ref ha1)) (by decide) (by decide) (of' C 6 (1 : Int32) d34_5 rfl (by decide) ?_)
    refine oz' C (t := .boolean) (z := (1 : Int32)) d34_6 rfl (by decide) (by decide) (by decide) (by decide) ?_
    exact ⟨rfl, rfl⟩
  · skip
    refine oc2' C (b := false) (pc' := 7) d34_2 rfl rfl (decide_eq_false fun q => ha1 (Value.ref.inj q)) (by decide) (by decide) (oc' C 8 d34_7 rfl rfl rfl ?_)
    refine or2' C 11 d34_8 rfl (hq hw 187 rfl) (Ins.self p4) (ot' C 14 d34_11 rfl (by decide) ?_)
    refine oc' C 15 d34_14 rfl rfl rfl (oy' C 18 d34_15 rfl (hq hw 187 rfl) (Ins.self p4) ?_)
    refine ov1' C 19 (Ls' := #[.val (.ref a), .val (.ref b), .val (.ref b)]) d34_18 rfl rfl rfl (oy1' C 22 d34_19 rfl (hq hw 18 rfl) am.2.1 ?_)
    refine ot' C 25 d34_22 rfl (feq (am.2.2.1 : ¬ (cS = (0 : Int32)))).1 (oc' C 26 d34_25 rfl rfl rfl ?_)
    refine ok' C 29 d34_26 rfl (hq hw 30 rfl) Via.refl p1 (oc' C 30 d34_29 rfl rfl rfl ?_)
    refine ok' C 33 d34_30 rfl (hq hw 30 rfl) Via.refl p5 (oi' C 36 d34_33 rfl (by decide) ?_)
    refine oc' C 37 d34_36 rfl rfl rfl (ok' C 40 d34_37 rfl (hq hw 32 rfl) Via.refl p2 ?_)
    refine oc' C 41 d34_40 rfl rfl rfl (ok' C 44 d34_41 rfl (hq hw 32 rfl) Via.refl p6 ?_)
    refine or' C (argsL := [(.ref t), (.ref u)]) (W := 0) d34_44 (hq hw 188 rfl) (hq hw 189 rfl) (hq hw 190 rfl) (hq hw 191 rfl) (by decide) pd___B_B_Z (ct_leq7 l Z a0 hw am (t := t) (u := u) (kt := kt) (ku := ku) (x0 := x0) (x1 := x1) (x2 := x2) (x3 := x3) (x4 := x4) (x5 := x5) (x6 := x6) (y0 := y0) (y1 := y1) (y2 := y2) (y3 := y3) (y4 := y4) (y5 := y5) (y6 := y6) p3 p7 e0 e1 e2 e3 e4 e5 e6) rfl (Nat.le_of_eq rfl) rfl (by decide) mems0 ?_
    intro fv2 ph3 K4 fq5
    obtain ⟨rfl, rfl⟩ := fq5
    refine ⟨[], fresh0, ?_⟩
    show Go l _ Z _ _ _ κ _ _ 47 _ [.int 1] 0 0
    refine ot' C 50 d34_47 rfl (by decide) (of' C 51 (1 : Int32) d34_50 rfl (by decide) ?_)
    refine om' C (pc' := 55) d34_51 (by decide) (by decide) (oz' C (t := .boolean) (z := (1 : Int32)) d34_55 rfl (by decide) (by decide) (by decide) (by decide) ?_)
    exact ⟨rfl, rfl⟩
theorem ct_leq1 (l : Launch) (Z : State) (a0 : Array Value) (hw : HW a0 Z) {cS : Int32} {fm : Value} (am : Amb Z a0 cS fm) {t u : Addr} {kt ku : ClassId} {x0 y0 : Int32} {h0 : Heap} (p0 : Arv Z h0 t kt .byte (1 : Int32) [.int x0] (.int 0)) (p1 : Arv Z h0 u ku .byte (1 : Int32) [.int y0] (.int 0)) (e0 : x0 = y0) :
    Py l Z (⟨"java/lang/StringLatin1", "equals", "([B[B)Z"⟩ : MethodName) 1 14 0 0 #[(.ref t), (.ref u)] h0 [] (fun rv h' => rv = some (.int 1) ∧ h' = h0) := by
  refine Ct.py (by0 := zc18) (ml := 3) (rt := (some .boolean)) (rm := ({ frames := 0, cells := 0, slots := 0, locals := 0 } : Room)) ?_ (hq hw 191 rfl) (hq hw 190 rfl)
  refine Ct.mk (a0 := a0) (Ls := #[.val (.ref t), .val (.ref u), .unset]) (plainFor_of_name pn_java_lang_StringLatin1) (fun m => by simp [entryFrame, mkF, argsToLocals, Value.category]) ?_
  intro κ C
  show Go l _ Z _ _ _ κ [] h0 0 #[.val (.ref t), .val (.ref u), .unset] [] 0 0
  refine oc' C 1 d36_0 rfl rfl rfl (oj' C 2 d36_1 rfl p0 ?_)
  refine oc' C 3 d36_2 rfl rfl rfl (oj' C 4 d36_3 rfl p1 ?_)
  refine oi' C 7 d36_4 rfl (by decide) (of' C 8 (0 : Int32) d36_7 rfl (by decide) ?_)
  refine op1' C 9 (Ls' := #[.val (.ref t), .val (.ref u), .val (.int 0)]) d36_8 rfl rfl (od' C 10 d36_9 rfl rfl ?_)
  refine oc' C 11 d36_10 rfl rfl rfl (oj' C 12 d36_11 rfl p0 ?_)
  refine oi' C 15 d36_12 rfl (by decide) (oc' C 16 d36_15 rfl rfl rfl ?_)
  refine od' C 17 d36_16 rfl rfl (op' C 18 (v := (.int x0)) d36_17 rfl p0 (by decide) rfl ?_)
  refine oc' C 19 d36_18 rfl rfl rfl (od' C 20 d36_19 rfl rfl ?_)
  refine op' C 21 (v := (.int y0)) d36_20 rfl p1 (by decide) rfl (oh' C (pc' := 26) d36_21 (teq (e0 : x0 = y0)).1 (by decide) (by decide) ?_)
  refine og' C 29 (Ls' := #[.val (.ref t), .val (.ref u), .val (.int 1)]) (1 : Int32) d36_26 rfl (by decide) rfl rfl (om' C (pc' := 9) d36_29 (by decide) (by decide) ?_)
  refine od' C 10 d36_9 rfl rfl (oc' C 11 d36_10 rfl rfl rfl ?_)
  refine oj' C 12 d36_11 rfl p0 (oh' C (pc' := 32) d36_12 (by decide) (by decide) (by decide) ?_)
  refine of' C 33 (1 : Int32) d36_32 rfl (by decide) (oz' C (t := .boolean) (z := (1 : Int32)) d36_33 rfl (by decide) (by decide) (by decide) (by decide) ?_)
  exact ⟨rfl, rfl⟩
theorem ct_eq1 (l : Launch) (Z : State) (a0 : Array Value) (hw : HW a0 Z) {cS : Int32} {fm : Value} (am : Amb Z a0 cS fm) {a b t u : Addr} {kt ku : ClassId} {x0 y0 : Int32} {h0 : Heap} (p0 : Exa Z h0 a "java/lang/String") (p1 : Fld Z h0 a "java/lang/String" "coder" "B" (.int 0)) (p2 : Fld Z h0 a "java/lang/String" "value" "[B" (.ref t)) (p3 : Arv Z h0 t kt .byte (1 : Int32) [.int x0] (.int 0)) (p4 : Exa Z h0 b "java/lang/String") (p5 : Fld Z h0 b "java/lang/String" "coder" "B" (.int 0)) (p6 : Fld Z h0 b "java/lang/String" "value" "[B" (.ref u)) (p7 : Arv Z h0 u ku .byte (1 : Int32) [.int y0] (.int 0)) (e0 : x0 = y0) :
    Py l Z (⟨"java/lang/String", "equals", "(Ljava/lang/Object;)Z"⟩ : MethodName) 2 28 0 0 #[(.ref a), (.ref b)] h0 [] (fun rv h' => rv = some (.int 1) ∧ h' = h0) := by
  refine Ct.py (by0 := zc13) (ml := 3) (rt := (some .boolean)) (rm := ({ frames := 1, cells := 0, slots := 0, locals := 14 } : Room)) ?_ (hq hw 181 rfl) (hq hw 6 rfl)
  refine Ct.mk (a0 := a0) (Ls := #[.val (.ref a), .val (.ref b), .unset]) (plainFor_of_name pn_java_lang_String) (fun m => by simp [entryFrame, mkF, argsToLocals, Value.category]) ?_
  intro κ C
  show Go l _ Z _ _ _ κ [] h0 0 #[.val (.ref a), .val (.ref b), .unset] [] 0 0
  refine oc' C 1 d34_0 rfl rfl rfl (oc' C 2 d34_1 rfl rfl rfl ?_)
  by_cases ha1 : a = b
  · skip
    refine oc2' C (b := true) (pc' := 5) d34_2 rfl rfl (decide_eq_true (congrArg Value.ref ha1)) (by decide) (by decide) (of' C 6 (1 : Int32) d34_5 rfl (by decide) ?_)
    refine oz' C (t := .boolean) (z := (1 : Int32)) d34_6 rfl (by decide) (by decide) (by decide) (by decide) ?_
    exact ⟨rfl, rfl⟩
  · skip
    refine oc2' C (b := false) (pc' := 7) d34_2 rfl rfl (decide_eq_false fun q => ha1 (Value.ref.inj q)) (by decide) (by decide) (oc' C 8 d34_7 rfl rfl rfl ?_)
    refine or2' C 11 d34_8 rfl (hq hw 187 rfl) (Ins.self p4) (ot' C 14 d34_11 rfl (by decide) ?_)
    refine oc' C 15 d34_14 rfl rfl rfl (oy' C 18 d34_15 rfl (hq hw 187 rfl) (Ins.self p4) ?_)
    refine ov1' C 19 (Ls' := #[.val (.ref a), .val (.ref b), .val (.ref b)]) d34_18 rfl rfl rfl (oy1' C 22 d34_19 rfl (hq hw 18 rfl) am.2.1 ?_)
    refine ot' C 25 d34_22 rfl (feq (am.2.2.1 : ¬ (cS = (0 : Int32)))).1 (oc' C 26 d34_25 rfl rfl rfl ?_)
    refine ok' C 29 d34_26 rfl (hq hw 30 rfl) Via.refl p1 (oc' C 30 d34_29 rfl rfl rfl ?_)
    refine ok' C 33 d34_30 rfl (hq hw 30 rfl) Via.refl p5 (oi' C 36 d34_33 rfl (by decide) ?_)
    refine oc' C 37 d34_36 rfl rfl rfl (ok' C 40 d34_37 rfl (hq hw 32 rfl) Via.refl p2 ?_)
    refine oc' C 41 d34_40 rfl rfl rfl (ok' C 44 d34_41 rfl (hq hw 32 rfl) Via.refl p6 ?_)
    refine or' C (argsL := [(.ref t), (.ref u)]) (W := 0) d34_44 (hq hw 188 rfl) (hq hw 189 rfl) (hq hw 190 rfl) (hq hw 191 rfl) (by decide) pd___B_B_Z (ct_leq1 l Z a0 hw am (t := t) (u := u) (kt := kt) (ku := ku) (x0 := x0) (y0 := y0) p3 p7 e0) rfl (Nat.le_of_eq rfl) rfl (by decide) mems0 ?_
    intro fv2 ph3 K4 fq5
    obtain ⟨rfl, rfl⟩ := fq5
    refine ⟨[], fresh0, ?_⟩
    show Go l _ Z _ _ _ κ _ _ 47 _ [.int 1] 0 0
    refine ot' C 50 d34_47 rfl (by decide) (of' C 51 (1 : Int32) d34_50 rfl (by decide) ?_)
    refine om' C (pc' := 55) d34_51 (by decide) (by decide) (oz' C (t := .boolean) (z := (1 : Int32)) d34_55 rfl (by decide) (by decide) (by decide) (by decide) ?_)
    exact ⟨rfl, rfl⟩
theorem ct_leq8 (l : Launch) (Z : State) (a0 : Array Value) (hw : HW a0 Z) {cS : Int32} {fm : Value} (am : Amb Z a0 cS fm) {t u : Addr} {kt ku : ClassId} {x0 x1 x2 x3 x4 x5 x6 x7 y0 y1 y2 y3 y4 y5 y6 y7 : Int32} {h0 : Heap} (p0 : Arv Z h0 t kt .byte (8 : Int32) [.int x0, .int x1, .int x2, .int x3, .int x4, .int x5, .int x6, .int x7] (.int 0)) (p1 : Arv Z h0 u ku .byte (8 : Int32) [.int y0, .int y1, .int y2, .int y3, .int y4, .int y5, .int y6, .int y7] (.int 0)) (e0 : x0 = y0) (e1 : x1 = y1) (e2 : x2 = y2) (e3 : x3 = y3) (e4 : x4 = y4) (e5 : x5 = y5) (e6 : x6 = y6) (e7 : x7 = y7) :
    Py l Z (⟨"java/lang/StringLatin1", "equals", "([B[B)Z"⟩ : MethodName) 1 14 0 0 #[(.ref t), (.ref u)] h0 [] (fun rv h' => rv = some (.int 1) ∧ h' = h0) := by
  refine Ct.py (by0 := zc18) (ml := 3) (rt := (some .boolean)) (rm := ({ frames := 0, cells := 0, slots := 0, locals := 0 } : Room)) ?_ (hq hw 191 rfl) (hq hw 190 rfl)
  refine Ct.mk (a0 := a0) (Ls := #[.val (.ref t), .val (.ref u), .unset]) (plainFor_of_name pn_java_lang_StringLatin1) (fun m => by simp [entryFrame, mkF, argsToLocals, Value.category]) ?_
  intro κ C
  show Go l _ Z _ _ _ κ [] h0 0 #[.val (.ref t), .val (.ref u), .unset] [] 0 0
  refine oc' C 1 d36_0 rfl rfl rfl (oj' C 2 d36_1 rfl p0 ?_)
  refine oc' C 3 d36_2 rfl rfl rfl (oj' C 4 d36_3 rfl p1 ?_)
  refine oi' C 7 d36_4 rfl (by decide) (of' C 8 (0 : Int32) d36_7 rfl (by decide) ?_)
  refine op1' C 9 (Ls' := #[.val (.ref t), .val (.ref u), .val (.int 0)]) d36_8 rfl rfl (od' C 10 d36_9 rfl rfl ?_)
  refine oc' C 11 d36_10 rfl rfl rfl (oj' C 12 d36_11 rfl p0 ?_)
  refine oi' C 15 d36_12 rfl (by decide) (oc' C 16 d36_15 rfl rfl rfl ?_)
  refine od' C 17 d36_16 rfl rfl (op' C 18 (v := (.int x0)) d36_17 rfl p0 (by decide) rfl ?_)
  refine oc' C 19 d36_18 rfl rfl rfl (od' C 20 d36_19 rfl rfl ?_)
  refine op' C 21 (v := (.int y0)) d36_20 rfl p1 (by decide) rfl (oh' C (pc' := 26) d36_21 (teq (e0 : x0 = y0)).1 (by decide) (by decide) ?_)
  refine og' C 29 (Ls' := #[.val (.ref t), .val (.ref u), .val (.int 1)]) (1 : Int32) d36_26 rfl (by decide) rfl rfl (om' C (pc' := 9) d36_29 (by decide) (by decide) ?_)
  refine od' C 10 d36_9 rfl rfl (oc' C 11 d36_10 rfl rfl rfl ?_)
  refine oj' C 12 d36_11 rfl p0 (oi' C 15 d36_12 rfl (by decide) ?_)
  refine oc' C 16 d36_15 rfl rfl rfl (od' C 17 d36_16 rfl rfl ?_)
  refine op' C 18 (v := (.int x1)) d36_17 rfl p0 (by decide) rfl (oc' C 19 d36_18 rfl rfl rfl ?_)
  refine od' C 20 d36_19 rfl rfl (op' C 21 (v := (.int y1)) d36_20 rfl p1 (by decide) rfl ?_)
  refine oh' C (pc' := 26) d36_21 (teq (e1 : x1 = y1)).1 (by decide) (by decide) (og' C 29 (Ls' := #[.val (.ref t), .val (.ref u), .val (.int 2)]) (1 : Int32) d36_26 rfl (by decide) rfl rfl ?_)
  refine om' C (pc' := 9) d36_29 (by decide) (by decide) (od' C 10 d36_9 rfl rfl ?_)
  refine oc' C 11 d36_10 rfl rfl rfl (oj' C 12 d36_11 rfl p0 ?_)
  refine oi' C 15 d36_12 rfl (by decide) (oc' C 16 d36_15 rfl rfl rfl ?_)
  refine od' C 17 d36_16 rfl rfl (op' C 18 (v := (.int x2)) d36_17 rfl p0 (by decide) rfl ?_)
  refine oc' C 19 d36_18 rfl rfl rfl (od' C 20 d36_19 rfl rfl ?_)
  refine op' C 21 (v := (.int y2)) d36_20 rfl p1 (by decide) rfl (oh' C (pc' := 26) d36_21 (teq (e2 : x2 = y2)).1 (by decide) (by decide) ?_)
  refine og' C 29 (Ls' := #[.val (.ref t), .val (.ref u), .val (.int 3)]) (1 : Int32) d36_26 rfl (by decide) rfl rfl (om' C (pc' := 9) d36_29 (by decide) (by decide) ?_)
  refine od' C 10 d36_9 rfl rfl (oc' C 11 d36_10 rfl rfl rfl ?_)
  refine oj' C 12 d36_11 rfl p0 (oi' C 15 d36_12 rfl (by decide) ?_)
  refine oc' C 16 d36_15 rfl rfl rfl (od' C 17 d36_16 rfl rfl ?_)
  refine op' C 18 (v := (.int x3)) d36_17 rfl p0 (by decide) rfl (oc' C 19 d36_18 rfl rfl rfl ?_)
  refine od' C 20 d36_19 rfl rfl (op' C 21 (v := (.int y3)) d36_20 rfl p1 (by decide) rfl ?_)
  refine oh' C (pc' := 26) d36_21 (teq (e3 : x3 = y3)).1 (by decide) (by decide) (og' C 29 (Ls' := #[.val (.ref t), .val (.ref u), .val (.int 4)]) (1 : Int32) d36_26 rfl (by decide) rfl rfl ?_)
  refine om' C (pc' := 9) d36_29 (by decide) (by decide) (od' C 10 d36_9 rfl rfl ?_)
  refine oc' C 11 d36_10 rfl rfl rfl (oj' C 12 d36_11 rfl p0 ?_)
  refine oi' C 15 d36_12 rfl (by decide) (oc' C 16 d36_15 rfl rfl rfl ?_)
  refine od' C 17 d36_16 rfl rfl (op' C 18 (v := (.int x4)) d36_17 rfl p0 (by decide) rfl ?_)
  refine oc' C 19 d36_18 rfl rfl rfl (od' C 20 d36_19 rfl rfl ?_)
  refine op' C 21 (v := (.int y4)) d36_20 rfl p1 (by decide) rfl (oh' C (pc' := 26) d36_21 (teq (e4 : x4 = y4)).1 (by decide) (by decide) ?_)
  refine og' C 29 (Ls' := #[.val (.ref t), .val (.ref u), .val (.int 5)]) (1 : Int32) d36_26 rfl (by decide) rfl rfl (om' C (pc' := 9) d36_29 (by decide) (by decide) ?_)
  refine od' C 10 d36_9 rfl rfl (oc' C 11 d36_10 rfl rfl rfl ?_)
  refine oj' C 12 d36_11 rfl p0 (oi' C 15 d36_12 rfl (by decide) ?_)
  refine oc' C 16 d36_15 rfl rfl rfl (od' C 17 d36_16 rfl rfl ?_)
  refine op' C 18 (v := (.int x5)) d36_17 rfl p0 (by decide) rfl (oc' C 19 d36_18 rfl rfl rfl ?_)
  refine od' C 20 d36_19 rfl rfl (op' C 21 (v := (.int y5)) d36_20 rfl p1 (by decide) rfl ?_)
  refine oh' C (pc' := 26) d36_21 (teq (e5 : x5 = y5)).1 (by decide) (by decide) (og' C 29 (Ls' := #[.val (.ref t), .val (.ref u), .val (.int 6)]) (1 : Int32) d36_26 rfl (by decide) rfl rfl ?_)
  refine om' C (pc' := 9) d36_29 (by decide) (by decide) (od' C 10 d36_9 rfl rfl ?_)
  refine oc' C 11 d36_10 rfl rfl rfl (oj' C 12 d36_11 rfl p0 ?_)
  refine oi' C 15 d36_12 rfl (by decide) (oc' C 16 d36_15 rfl rfl rfl ?_)
  refine od' C 17 d36_16 rfl rfl (op' C 18 (v := (.int x6)) d36_17 rfl p0 (by decide) rfl ?_)
  refine oc' C 19 d36_18 rfl rfl rfl (od' C 20 d36_19 rfl rfl ?_)
  refine op' C 21 (v := (.int y6)) d36_20 rfl p1 (by decide) rfl (oh' C (pc' := 26) d36_21 (teq (e6 : x6 = y6)).1 (by decide) (by decide) ?_)
  refine og' C 29 (Ls' := #[.val (.ref t), .val (.ref u), .val (.int 7)]) (1 : Int32) d36_26 rfl (by decide) rfl rfl (om' C (pc' := 9) d36_29 (by decide) (by decide) ?_)
  refine od' C 10 d36_9 rfl rfl (oc' C 11 d36_10 rfl rfl rfl ?_)
  refine oj' C 12 d36_11 rfl p0 (oi' C 15 d36_12 rfl (by decide) ?_)
  refine oc' C 16 d36_15 rfl rfl rfl (od' C 17 d36_16 rfl rfl ?_)
  refine op' C 18 (v := (.int x7)) d36_17 rfl p0 (by decide) rfl (oc' C 19 d36_18 rfl rfl rfl ?_)
  refine od' C 20 d36_19 rfl rfl (op' C 21 (v := (.int y7)) d36_20 rfl p1 (by decide) rfl ?_)
  refine oh' C (pc' := 26) d36_21 (teq (e7 : x7 = y7)).1 (by decide) (by decide) (og' C 29 (Ls' := #[.val (.ref t), .val (.ref u), .val (.int 8)]) (1 : Int32) d36_26 rfl (by decide) rfl rfl ?_)
  refine om' C (pc' := 9) d36_29 (by decide) (by decide) (od' C 10 d36_9 rfl rfl ?_)
  refine oc' C 11 d36_10 rfl rfl rfl (oj' C 12 d36_11 rfl p0 ?_)
  refine oh' C (pc' := 32) d36_12 (by decide) (by decide) (by decide) (of' C 33 (1 : Int32) d36_32 rfl (by decide) ?_)
  refine oz' C (t := .boolean) (z := (1 : Int32)) d36_33 rfl (by decide) (by decide) (by decide) (by decide) ?_
  exact ⟨rfl, rfl⟩
theorem ct_eq8 (l : Launch) (Z : State) (a0 : Array Value) (hw : HW a0 Z) {cS : Int32} {fm : Value} (am : Amb Z a0 cS fm) {a b t u : Addr} {kt ku : ClassId} {x0 x1 x2 x3 x4 x5 x6 x7 y0 y1 y2 y3 y4 y5 y6 y7 : Int32} {h0 : Heap} (p0 : Exa Z h0 a "java/lang/String") (p1 : Fld Z h0 a "java/lang/String" "coder" "B" (.int 0)) (p2 : Fld Z h0 a "java/lang/String" "value" "[B" (.ref t)) (p3 : Arv Z h0 t kt .byte (8 : Int32) [.int x0, .int x1, .int x2, .int x3, .int x4, .int x5, .int x6, .int x7] (.int 0)) (p4 : Exa Z h0 b "java/lang/String") (p5 : Fld Z h0 b "java/lang/String" "coder" "B" (.int 0)) (p6 : Fld Z h0 b "java/lang/String" "value" "[B" (.ref u)) (p7 : Arv Z h0 u ku .byte (8 : Int32) [.int y0, .int y1, .int y2, .int y3, .int y4, .int y5, .int y6, .int y7] (.int 0)) (e0 : x0 = y0) (e1 : x1 = y1) (e2 : x2 = y2) (e3 : x3 = y3) (e4 : x4 = y4) (e5 : x5 = y5) (e6 : x6 = y6) (e7 : x7 = y7) :
    Py l Z (⟨"java/lang/String", "equals", "(Ljava/lang/Object;)Z"⟩ : MethodName) 2 28 0 0 #[(.ref a), (.ref b)] h0 [] (fun rv h' => rv = some (.int 1) ∧ h' = h0) := by
  refine Ct.py (by0 := zc13) (ml := 3) (rt := (some .boolean)) (rm := ({ frames := 1, cells := 0, slots := 0, locals := 14 } : Room)) ?_ (hq hw 181 rfl) (hq hw 6 rfl)
  refine Ct.mk (a0 := a0) (Ls := #[.val (.ref a), .val (.ref b), .unset]) (plainFor_of_name pn_java_lang_String) (fun m => by simp [entryFrame, mkF, argsToLocals, Value.category]) ?_
  intro κ C
  show Go l _ Z _ _ _ κ [] h0 0 #[.val (.ref a), .val (.ref b), .unset] [] 0 0
  refine oc' C 1 d34_0 rfl rfl rfl (oc' C 2 d34_1 rfl rfl rfl ?_)
  by_cases ha1 : a = b
  · skip
    refine oc2' C (b := true) (pc' := 5) d34_2 rfl rfl (decide_eq_true (congrArg Value.ref ha1)) (by decide) (by decide) (of' C 6 (1 : Int32) d34_5 rfl (by decide) ?_)
    refine oz' C (t := .boolean) (z := (1 : Int32)) d34_6 rfl (by decide) (by decide) (by decide) (by decide) ?_
    exact ⟨rfl, rfl⟩
  · skip
    refine oc2' C (b := false) (pc' := 7) d34_2 rfl rfl (decide_eq_false fun q => ha1 (Value.ref.inj q)) (by decide) (by decide) (oc' C 8 d34_7 rfl rfl rfl ?_)
    refine or2' C 11 d34_8 rfl (hq hw 187 rfl) (Ins.self p4) (ot' C 14 d34_11 rfl (by decide) ?_)
    refine oc' C 15 d34_14 rfl rfl rfl (oy' C 18 d34_15 rfl (hq hw 187 rfl) (Ins.self p4) ?_)
    refine ov1' C 19 (Ls' := #[.val (.ref a), .val (.ref b), .val (.ref b)]) d34_18 rfl rfl rfl (oy1' C 22 d34_19 rfl (hq hw 18 rfl) am.2.1 ?_)
    refine ot' C 25 d34_22 rfl (feq (am.2.2.1 : ¬ (cS = (0 : Int32)))).1 (oc' C 26 d34_25 rfl rfl rfl ?_)
    refine ok' C 29 d34_26 rfl (hq hw 30 rfl) Via.refl p1 (oc' C 30 d34_29 rfl rfl rfl ?_)
    refine ok' C 33 d34_30 rfl (hq hw 30 rfl) Via.refl p5 (oi' C 36 d34_33 rfl (by decide) ?_)
    refine oc' C 37 d34_36 rfl rfl rfl (ok' C 40 d34_37 rfl (hq hw 32 rfl) Via.refl p2 ?_)
    refine oc' C 41 d34_40 rfl rfl rfl (ok' C 44 d34_41 rfl (hq hw 32 rfl) Via.refl p6 ?_)
    refine or' C (argsL := [(.ref t), (.ref u)]) (W := 0) d34_44 (hq hw 188 rfl) (hq hw 189 rfl) (hq hw 190 rfl) (hq hw 191 rfl) (by decide) pd___B_B_Z (ct_leq8 l Z a0 hw am (t := t) (u := u) (kt := kt) (ku := ku) (x0 := x0) (x1 := x1) (x2 := x2) (x3 := x3) (x4 := x4) (x5 := x5) (x6 := x6) (x7 := x7) (y0 := y0) (y1 := y1) (y2 := y2) (y3 := y3) (y4 := y4) (y5 := y5) (y6 := y6) (y7 := y7) p3 p7 e0 e1 e2 e3 e4 e5 e6 e7) rfl (Nat.le_of_eq rfl) rfl (by decide) mems0 ?_
    intro fv2 ph3 K4 fq5
    obtain ⟨rfl, rfl⟩ := fq5
    refine ⟨[], fresh0, ?_⟩
    show Go l _ Z _ _ _ κ _ _ 47 _ [.int 1] 0 0
    refine ot' C 50 d34_47 rfl (by decide) (of' C 51 (1 : Int32) d34_50 rfl (by decide) ?_)
    refine om' C (pc' := 55) d34_51 (by decide) (by decide) (oz' C (t := .boolean) (z := (1 : Int32)) d34_55 rfl (by decide) (by decide) (by decide) (by decide) ?_)
    exact ⟨rfl, rfl⟩
theorem ct_leq2 (l : Launch) (Z : State) (a0 : Array Value) (hw : HW a0 Z) {cS : Int32} {fm : Value} (am : Amb Z a0 cS fm) {t u : Addr} {kt ku : ClassId} {x0 x1 y0 y1 : Int32} {h0 : Heap} (p0 : Arv Z h0 t kt .byte (2 : Int32) [.int x0, .int x1] (.int 0)) (p1 : Arv Z h0 u ku .byte (2 : Int32) [.int y0, .int y1] (.int 0)) (e0 : x0 = y0) (e1 : x1 = y1) :
    Py l Z (⟨"java/lang/StringLatin1", "equals", "([B[B)Z"⟩ : MethodName) 1 14 0 0 #[(.ref t), (.ref u)] h0 [] (fun rv h' => rv = some (.int 1) ∧ h' = h0) := by
  refine Ct.py (by0 := zc18) (ml := 3) (rt := (some .boolean)) (rm := ({ frames := 0, cells := 0, slots := 0, locals := 0 } : Room)) ?_ (hq hw 191 rfl) (hq hw 190 rfl)
  refine Ct.mk (a0 := a0) (Ls := #[.val (.ref t), .val (.ref u), .unset]) (plainFor_of_name pn_java_lang_StringLatin1) (fun m => by simp [entryFrame, mkF, argsToLocals, Value.category]) ?_
  intro κ C
  show Go l _ Z _ _ _ κ [] h0 0 #[.val (.ref t), .val (.ref u), .unset] [] 0 0
  refine oc' C 1 d36_0 rfl rfl rfl (oj' C 2 d36_1 rfl p0 ?_)
  refine oc' C 3 d36_2 rfl rfl rfl (oj' C 4 d36_3 rfl p1 ?_)
  refine oi' C 7 d36_4 rfl (by decide) (of' C 8 (0 : Int32) d36_7 rfl (by decide) ?_)
  refine op1' C 9 (Ls' := #[.val (.ref t), .val (.ref u), .val (.int 0)]) d36_8 rfl rfl (od' C 10 d36_9 rfl rfl ?_)
  refine oc' C 11 d36_10 rfl rfl rfl (oj' C 12 d36_11 rfl p0 ?_)
  refine oi' C 15 d36_12 rfl (by decide) (oc' C 16 d36_15 rfl rfl rfl ?_)
  refine od' C 17 d36_16 rfl rfl (op' C 18 (v := (.int x0)) d36_17 rfl p0 (by decide) rfl ?_)
  refine oc' C 19 d36_18 rfl rfl rfl (od' C 20 d36_19 rfl rfl ?_)
  refine op' C 21 (v := (.int y0)) d36_20 rfl p1 (by decide) rfl (oh' C (pc' := 26) d36_21 (teq (e0 : x0 = y0)).1 (by decide) (by decide) ?_)
  refine og' C 29 (Ls' := #[.val (.ref t), .val (.ref u), .val (.int 1)]) (1 : Int32) d36_26 rfl (by decide) rfl rfl (om' C (pc' := 9) d36_29 (by decide) (by decide) ?_)
  refine od' C 10 d36_9 rfl rfl (oc' C 11 d36_10 rfl rfl rfl ?_)
  refine oj' C 12 d36_11 rfl p0 (oi' C 15 d36_12 rfl (by decide) ?_)
  refine oc' C 16 d36_15 rfl rfl rfl (od' C 17 d36_16 rfl rfl ?_)
  refine op' C 18 (v := (.int x1)) d36_17 rfl p0 (by decide) rfl (oc' C 19 d36_18 rfl rfl rfl ?_)
  refine od' C 20 d36_19 rfl rfl (op' C 21 (v := (.int y1)) d36_20 rfl p1 (by decide) rfl ?_)
  refine oh' C (pc' := 26) d36_21 (teq (e1 : x1 = y1)).1 (by decide) (by decide) (og' C 29 (Ls' := #[.val (.ref t), .val (.ref u), .val (.int 2)]) (1 : Int32) d36_26 rfl (by decide) rfl rfl ?_)
  refine om' C (pc' := 9) d36_29 (by decide) (by decide) (od' C 10 d36_9 rfl rfl ?_)
  refine oc' C 11 d36_10 rfl rfl rfl (oj' C 12 d36_11 rfl p0 ?_)
  refine oh' C (pc' := 32) d36_12 (by decide) (by decide) (by decide) (of' C 33 (1 : Int32) d36_32 rfl (by decide) ?_)
  refine oz' C (t := .boolean) (z := (1 : Int32)) d36_33 rfl (by decide) (by decide) (by decide) (by decide) ?_
  exact ⟨rfl, rfl⟩
theorem ct_eq2 (l : Launch) (Z : State) (a0 : Array Value) (hw : HW a0 Z) {cS : Int32} {fm : Value} (am : Amb Z a0 cS fm) {a b t u : Addr} {kt ku : ClassId} {x0 x1 y0 y1 : Int32} {h0 : Heap} (p0 : Exa Z h0 a "java/lang/String") (p1 : Fld Z h0 a "java/lang/String" "coder" "B" (.int 0)) (p2 : Fld Z h0 a "java/lang/String" "value" "[B" (.ref t)) (p3 : Arv Z h0 t kt .byte (2 : Int32) [.int x0, .int x1] (.int 0)) (p4 : Exa Z h0 b "java/lang/String") (p5 : Fld Z h0 b "java/lang/String" "coder" "B" (.int 0)) (p6 : Fld Z h0 b "java/lang/String" "value" "[B" (.ref u)) (p7 : Arv Z h0 u ku .byte (2 : Int32) [.int y0, .int y1] (.int 0)) (e0 : x0 = y0) (e1 : x1 = y1) :
    Py l Z (⟨"java/lang/String", "equals", "(Ljava/lang/Object;)Z"⟩ : MethodName) 2 28 0 0 #[(.ref a), (.ref b)] h0 [] (fun rv h' => rv = some (.int 1) ∧ h' = h0) := by
  refine Ct.py (by0 := zc13) (ml := 3) (rt := (some .boolean)) (rm := ({ frames := 1, cells := 0, slots := 0, locals := 14 } : Room)) ?_ (hq hw 181 rfl) (hq hw 6 rfl)
  refine Ct.mk (a0 := a0) (Ls := #[.val (.ref a), .val (.ref b), .unset]) (plainFor_of_name pn_java_lang_String) (fun m => by simp [entryFrame, mkF, argsToLocals, Value.category]) ?_
  intro κ C
  show Go l _ Z _ _ _ κ [] h0 0 #[.val (.ref a), .val (.ref b), .unset] [] 0 0
  refine oc' C 1 d34_0 rfl rfl rfl (oc' C 2 d34_1 rfl rfl rfl ?_)
  by_cases ha1 : a = b
  · skip
    refine oc2' C (b := true) (pc' := 5) d34_2 rfl rfl (decide_eq_true (congrArg Value.ref ha1)) (by decide) (by decide) (of' C 6 (1 : Int32) d34_5 rfl (by decide) ?_)
    refine oz' C (t := .boolean) (z := (1 : Int32)) d34_6 rfl (by decide) (by decide) (by decide) (by decide) ?_
    exact ⟨rfl, rfl⟩
  · skip
    refine oc2' C (b := false) (pc' := 7) d34_2 rfl rfl (decide_eq_false fun q => ha1 (Value.ref.inj q)) (by decide) (by decide) (oc' C 8 d34_7 rfl rfl rfl ?_)
    refine or2' C 11 d34_8 rfl (hq hw 187 rfl) (Ins.self p4) (ot' C 14 d34_11 rfl (by decide) ?_)
    refine oc' C 15 d34_14 rfl rfl rfl (oy' C 18 d34_15 rfl (hq hw 187 rfl) (Ins.self p4) ?_)
    refine ov1' C 19 (Ls' := #[.val (.ref a), .val (.ref b), .val (.ref b)]) d34_18 rfl rfl rfl (oy1' C 22 d34_19 rfl (hq hw 18 rfl) am.2.1 ?_)
    refine ot' C 25 d34_22 rfl (feq (am.2.2.1 : ¬ (cS = (0 : Int32)))).1 (oc' C 26 d34_25 rfl rfl rfl ?_)
    refine ok' C 29 d34_26 rfl (hq hw 30 rfl) Via.refl p1 (oc' C 30 d34_29 rfl rfl rfl ?_)
    refine ok' C 33 d34_30 rfl (hq hw 30 rfl) Via.refl p5 (oi' C 36 d34_33 rfl (by decide) ?_)
    refine oc' C 37 d34_36 rfl rfl rfl (ok' C 40 d34_37 rfl (hq hw 32 rfl) Via.refl p2 ?_)
    refine oc' C 41 d34_40 rfl rfl rfl (ok' C 44 d34_41 rfl (hq hw 32 rfl) Via.refl p6 ?_)
    refine or' C (argsL := [(.ref t), (.ref u)]) (W := 0) d34_44 (hq hw 188 rfl) (hq hw 189 rfl) (hq hw 190 rfl) (hq hw 191 rfl) (by decide) pd___B_B_Z (ct_leq2 l Z a0 hw am (t := t) (u := u) (kt := kt) (ku := ku) (x0 := x0) (x1 := x1) (y0 := y0) (y1 := y1) p3 p7 e0 e1) rfl (Nat.le_of_eq rfl) rfl (by decide) mems0 ?_
    intro fv2 ph3 K4 fq5
    obtain ⟨rfl, rfl⟩ := fq5
    refine ⟨[], fresh0, ?_⟩
    show Go l _ Z _ _ _ κ _ _ 47 _ [.int 1] 0 0
    refine ot' C 50 d34_47 rfl (by decide) (of' C 51 (1 : Int32) d34_50 rfl (by decide) ?_)
    refine om' C (pc' := 55) d34_51 (by decide) (by decide) (oz' C (t := .boolean) (z := (1 : Int32)) d34_55 rfl (by decide) (by decide) (by decide) (by decide) ?_)
    exact ⟨rfl, rfl⟩
theorem ct_leq9 (l : Launch) (Z : State) (a0 : Array Value) (hw : HW a0 Z) {cS : Int32} {fm : Value} (am : Amb Z a0 cS fm) {t u : Addr} {kt ku : ClassId} {x0 x1 x2 x3 x4 x5 x6 x7 x8 y0 y1 y2 y3 y4 y5 y6 y7 y8 : Int32} {h0 : Heap} (p0 : Arv Z h0 t kt .byte (9 : Int32) [.int x0, .int x1, .int x2, .int x3, .int x4, .int x5, .int x6, .int x7, .int x8] (.int 0)) (p1 : Arv Z h0 u ku .byte (9 : Int32) [.int y0, .int y1, .int y2, .int y3, .int y4, .int y5, .int y6, .int y7, .int y8] (.int 0)) (e0 : x0 = y0) (e1 : x1 = y1) (e2 : x2 = y2) (e3 : x3 = y3) (e4 : x4 = y4) (e5 : x5 = y5) (e6 : x6 = y6) (e7 : x7 = y7) (e8 : x8 = y8) :
    Py l Z (⟨"java/lang/StringLatin1", "equals", "([B[B)Z"⟩ : MethodName) 1 14 0 0 #[(.ref t), (.ref u)] h0 [] (fun rv h' => rv = some (.int 1) ∧ h' = h0) := by
  refine Ct.py (by0 := zc18) (ml := 3) (rt := (some .boolean)) (rm := ({ frames := 0, cells := 0, slots := 0, locals := 0 } : Room)) ?_ (hq hw 191 rfl) (hq hw 190 rfl)
  refine Ct.mk (a0 := a0) (Ls := #[.val (.ref t), .val (.ref u), .unset]) (plainFor_of_name pn_java_lang_StringLatin1) (fun m => by simp [entryFrame, mkF, argsToLocals, Value.category]) ?_
  intro κ C
  show Go l _ Z _ _ _ κ [] h0 0 #[.val (.ref t), .val (.ref u), .unset] [] 0 0
  refine oc' C 1 d36_0 rfl rfl rfl (oj' C 2 d36_1 rfl p0 ?_)
  refine oc' C 3 d36_2 rfl rfl rfl (oj' C 4 d36_3 rfl p1 ?_)
  refine oi' C 7 d36_4 rfl (by decide) (of' C 8 (0 : Int32) d36_7 rfl (by decide) ?_)
  refine op1' C 9 (Ls' := #[.val (.ref t), .val (.ref u), .val (.int 0)]) d36_8 rfl rfl (od' C 10 d36_9 rfl rfl ?_)
  refine oc' C 11 d36_10 rfl rfl rfl (oj' C 12 d36_11 rfl p0 ?_)
  refine oi' C 15 d36_12 rfl (by decide) (oc' C 16 d36_15 rfl rfl rfl ?_)
  refine od' C 17 d36_16 rfl rfl (op' C 18 (v := (.int x0)) d36_17 rfl p0 (by decide) rfl ?_)
  refine oc' C 19 d36_18 rfl rfl rfl (od' C 20 d36_19 rfl rfl ?_)
  refine op' C 21 (v := (.int y0)) d36_20 rfl p1 (by decide) rfl (oh' C (pc' := 26) d36_21 (teq (e0 : x0 = y0)).1 (by decide) (by decide) ?_)
  refine og' C 29 (Ls' := #[.val (.ref t), .val (.ref u), .val (.int 1)]) (1 : Int32) d36_26 rfl (by decide) rfl rfl (om' C (pc' := 9) d36_29 (by decide) (by decide) ?_)
  refine od' C 10 d36_9 rfl rfl (oc' C 11 d36_10 rfl rfl rfl ?_)
  refine oj' C 12 d36_11 rfl p0 (oi' C 15 d36_12 rfl (by decide) ?_)
  refine oc' C 16 d36_15 rfl rfl rfl (od' C 17 d36_16 rfl rfl ?_)
  refine op' C 18 (v := (.int x1)) d36_17 rfl p0 (by decide) rfl (oc' C 19 d36_18 rfl rfl rfl ?_)
  refine od' C 20 d36_19 rfl rfl (op' C 21 (v := (.int y1)) d36_20 rfl p1 (by decide) rfl ?_)
  refine oh' C (pc' := 26) d36_21 (teq (e1 : x1 = y1)).1 (by decide) (by decide) (og' C 29 (Ls' := #[.val (.ref t), .val (.ref u), .val (.int 2)]) (1 : Int32) d36_26 rfl (by decide) rfl rfl ?_)
  refine om' C (pc' := 9) d36_29 (by decide) (by decide) (od' C 10 d36_9 rfl rfl ?_)
  refine oc' C 11 d36_10 rfl rfl rfl (oj' C 12 d36_11 rfl p0 ?_)
  refine oi' C 15 d36_12 rfl (by decide) (oc' C 16 d36_15 rfl rfl rfl ?_)
  refine od' C 17 d36_16 rfl rfl (op' C 18 (v := (.int x2)) d36_17 rfl p0 (by decide) rfl ?_)
  refine oc' C 19 d36_18 rfl rfl rfl (od' C 20 d36_19 rfl rfl ?_)
  refine op' C 21 (v := (.int y2)) d36_20 rfl p1 (by decide) rfl (oh' C (pc' := 26) d36_21 (teq (e2 : x2 = y2)).1 (by decide) (by decide) ?_)
  refine og' C 29 (Ls' := #[.val (.ref t), .val (.ref u), .val (.int 3)]) (1 : Int32) d36_26 rfl (by decide) rfl rfl (om' C (pc' := 9) d36_29 (by decide) (by decide) ?_)
  refine od' C 10 d36_9 rfl rfl (oc' C 11 d36_10 rfl rfl rfl ?_)
  refine oj' C 12 d36_11 rfl p0 (oi' C 15 d36_12 rfl (by decide) ?_)
  refine oc' C 16 d36_15 rfl rfl rfl (od' C 17 d36_16 rfl rfl ?_)
  refine op' C 18 (v := (.int x3)) d36_17 rfl p0 (by decide) rfl (oc' C 19 d36_18 rfl rfl rfl ?_)
  refine od' C 20 d36_19 rfl rfl (op' C 21 (v := (.int y3)) d36_20 rfl p1 (by decide) rfl ?_)
  refine oh' C (pc' := 26) d36_21 (teq (e3 : x3 = y3)).1 (by decide) (by decide) (og' C 29 (Ls' := #[.val (.ref t), .val (.ref u), .val (.int 4)]) (1 : Int32) d36_26 rfl (by decide) rfl rfl ?_)
  refine om' C (pc' := 9) d36_29 (by decide) (by decide) (od' C 10 d36_9 rfl rfl ?_)
  refine oc' C 11 d36_10 rfl rfl rfl (oj' C 12 d36_11 rfl p0 ?_)
  refine oi' C 15 d36_12 rfl (by decide) (oc' C 16 d36_15 rfl rfl rfl ?_)
  refine od' C 17 d36_16 rfl rfl (op' C 18 (v := (.int x4)) d36_17 rfl p0 (by decide) rfl ?_)
  refine oc' C 19 d36_18 rfl rfl rfl (od' C 20 d36_19 rfl rfl ?_)
  refine op' C 21 (v := (.int y4)) d36_20 rfl p1 (by decide) rfl (oh' C (pc' := 26) d36_21 (teq (e4 : x4 = y4)).1 (by decide) (by decide) ?_)
  refine og' C 29 (Ls' := #[.val (.ref t), .val (.ref u), .val (.int 5)]) (1 : Int32) d36_26 rfl (by decide) rfl rfl (om' C (pc' := 9) d36_29 (by decide) (by decide) ?_)
  refine od' C 10 d36_9 rfl rfl (oc' C 11 d36_10 rfl rfl rfl ?_)
  refine oj' C 12 d36_11 rfl p0 (oi' C 15 d36_12 rfl (by decide) ?_)
  refine oc' C 16 d36_15 rfl rfl rfl (od' C 17 d36_16 rfl rfl ?_)
  refine op' C 18 (v := (.int x5)) d36_17 rfl p0 (by decide) rfl (oc' C 19 d36_18 rfl rfl rfl ?_)
  refine od' C 20 d36_19 rfl rfl (op' C 21 (v := (.int y5)) d36_20 rfl p1 (by decide) rfl ?_)
  refine oh' C (pc' := 26) d36_21 (teq (e5 : x5 = y5)).1 (by decide) (by decide) (og' C 29 (Ls' := #[.val (.ref t), .val (.ref u), .val (.int 6)]) (1 : Int32) d36_26 rfl (by decide) rfl rfl ?_)
  refine om' C (pc' := 9) d36_29 (by decide) (by decide) (od' C 10 d36_9 rfl rfl ?_)
  refine oc' C 11 d36_10 rfl rfl rfl (oj' C 12 d36_11 rfl p0 ?_)
  refine oi' C 15 d36_12 rfl (by decide) (oc' C 16 d36_15 rfl rfl rfl ?_)
  refine od' C 17 d36_16 rfl rfl (op' C 18 (v := (.int x6)) d36_17 rfl p0 (by decide) rfl ?_)
  refine oc' C 19 d36_18 rfl rfl rfl (od' C 20 d36_19 rfl rfl ?_)
  refine op' C 21 (v := (.int y6)) d36_20 rfl p1 (by decide) rfl (oh' C (pc' := 26) d36_21 (teq (e6 : x6 = y6)).1 (by decide) (by decide) ?_)
  refine og' C 29 (Ls' := #[.val (.ref t), .val (.ref u), .val (.int 7)]) (1 : Int32) d36_26 rfl (by decide) rfl rfl (om' C (pc' := 9) d36_29 (by decide) (by decide) ?_)
  refine od' C 10 d36_9 rfl rfl (oc' C 11 d36_10 rfl rfl rfl ?_)
  refine oj' C 12 d36_11 rfl p0 (oi' C 15 d36_12 rfl (by decide) ?_)
  refine oc' C 16 d36_15 rfl rfl rfl (od' C 17 d36_16 rfl rfl ?_)
  refine op' C 18 (v := (.int x7)) d36_17 rfl p0 (by decide) rfl (oc' C 19 d36_18 rfl rfl rfl ?_)
  refine od' C 20 d36_19 rfl rfl (op' C 21 (v := (.int y7)) d36_20 rfl p1 (by decide) rfl ?_)
  refine oh' C (pc' := 26) d36_21 (teq (e7 : x7 = y7)).1 (by decide) (by decide) (og' C 29 (Ls' := #[.val (.ref t), .val (.ref u), .val (.int 8)]) (1 : Int32) d36_26 rfl (by decide) rfl rfl ?_)
  refine om' C (pc' := 9) d36_29 (by decide) (by decide) (od' C 10 d36_9 rfl rfl ?_)
  refine oc' C 11 d36_10 rfl rfl rfl (oj' C 12 d36_11 rfl p0 ?_)
  refine oi' C 15 d36_12 rfl (by decide) (oc' C 16 d36_15 rfl rfl rfl ?_)
  refine od' C 17 d36_16 rfl rfl (op' C 18 (v := (.int x8)) d36_17 rfl p0 (by decide) rfl ?_)
  refine oc' C 19 d36_18 rfl rfl rfl (od' C 20 d36_19 rfl rfl ?_)
  refine op' C 21 (v := (.int y8)) d36_20 rfl p1 (by decide) rfl (oh' C (pc' := 26) d36_21 (teq (e8 : x8 = y8)).1 (by decide) (by decide) ?_)
  refine og' C 29 (Ls' := #[.val (.ref t), .val (.ref u), .val (.int 9)]) (1 : Int32) d36_26 rfl (by decide) rfl rfl (om' C (pc' := 9) d36_29 (by decide) (by decide) ?_)
  refine od' C 10 d36_9 rfl rfl (oc' C 11 d36_10 rfl rfl rfl ?_)
  refine oj' C 12 d36_11 rfl p0 (oh' C (pc' := 32) d36_12 (by decide) (by decide) (by decide) ?_)
  refine of' C 33 (1 : Int32) d36_32 rfl (by decide) (oz' C (t := .boolean) (z := (1 : Int32)) d36_33 rfl (by decide) (by decide) (by decide) (by decide) ?_)
  exact ⟨rfl, rfl⟩
theorem ct_eq9 (l : Launch) (Z : State) (a0 : Array Value) (hw : HW a0 Z) {cS : Int32} {fm : Value} (am : Amb Z a0 cS fm) {a b t u : Addr} {kt ku : ClassId} {x0 x1 x2 x3 x4 x5 x6 x7 x8 y0 y1 y2 y3 y4 y5 y6 y7 y8 : Int32} {h0 : Heap} (p0 : Exa Z h0 a "java/lang/String") (p1 : Fld Z h0 a "java/lang/String" "coder" "B" (.int 0)) (p2 : Fld Z h0 a "java/lang/String" "value" "[B" (.ref t)) (p3 : Arv Z h0 t kt .byte (9 : Int32) [.int x0, .int x1, .int x2, .int x3, .int x4, .int x5, .int x6, .int x7, .int x8] (.int 0)) (p4 : Exa Z h0 b "java/lang/String") (p5 : Fld Z h0 b "java/lang/String" "coder" "B" (.int 0)) (p6 : Fld Z h0 b "java/lang/String" "value" "[B" (.ref u)) (p7 : Arv Z h0 u ku .byte (9 : Int32) [.int y0, .int y1, .int y2, .int y3, .int y4, .int y5, .int y6, .int y7, .int y8] (.int 0)) (e0 : x0 = y0) (e1 : x1 = y1) (e2 : x2 = y2) (e3 : x3 = y3) (e4 : x4 = y4) (e5 : x5 = y5) (e6 : x6 = y6) (e7 : x7 = y7) (e8 : x8 = y8) :
    Py l Z (⟨"java/lang/String", "equals", "(Ljava/lang/Object;)Z"⟩ : MethodName) 2 28 0 0 #[(.ref a), (.ref b)] h0 [] (fun rv h' => rv = some (.int 1) ∧ h' = h0) := by
  refine Ct.py (by0 := zc13) (ml := 3) (rt := (some .boolean)) (rm := ({ frames := 1, cells := 0, slots := 0, locals := 14 } : Room)) ?_ (hq hw 181 rfl) (hq hw 6 rfl)
  refine Ct.mk (a0 := a0) (Ls := #[.val (.ref a), .val (.ref b), .unset]) (plainFor_of_name pn_java_lang_String) (fun m => by simp [entryFrame, mkF, argsToLocals, Value.category]) ?_
  intro κ C
  show Go l _ Z _ _ _ κ [] h0 0 #[.val (.ref a), .val (.ref b), .unset] [] 0 0
  refine oc' C 1 d34_0 rfl rfl rfl (oc' C 2 d34_1 rfl rfl rfl ?_)
  by_cases ha1 : a = b
  · skip
    refine oc2' C (b := true) (pc' := 5) d34_2 rfl rfl (decide_eq_true (congrArg Value.ref ha1)) (by decide) (by decide) (of' C 6 (1 : Int32) d34_5 rfl (by decide) ?_)
    refine oz' C (t := .boolean) (z := (1 : Int32)) d34_6 rfl (by decide) (by decide) (by decide) (by decide) ?_
    exact ⟨rfl, rfl⟩
  · skip
    refine oc2' C (b := false) (pc' := 7) d34_2 rfl rfl (decide_eq_false fun q => ha1 (Value.ref.inj q)) (by decide) (by decide) (oc' C 8 d34_7 rfl rfl rfl ?_)
    refine or2' C 11 d34_8 rfl (hq hw 187 rfl) (Ins.self p4) (ot' C 14 d34_11 rfl (by decide) ?_)
    refine oc' C 15 d34_14 rfl rfl rfl (oy' C 18 d34_15 rfl (hq hw 187 rfl) (Ins.self p4) ?_)
    refine ov1' C 19 (Ls' := #[.val (.ref a), .val (.ref b), .val (.ref b)]) d34_18 rfl rfl rfl (oy1' C 22 d34_19 rfl (hq hw 18 rfl) am.2.1 ?_)
    refine ot' C 25 d34_22 rfl (feq (am.2.2.1 : ¬ (cS = (0 : Int32)))).1 (oc' C 26 d34_25 rfl rfl rfl ?_)
    refine ok' C 29 d34_26 rfl (hq hw 30 rfl) Via.refl p1 (oc' C 30 d34_29 rfl rfl rfl ?_)
    refine ok' C 33 d34_30 rfl (hq hw 30 rfl) Via.refl p5 (oi' C 36 d34_33 rfl (by decide) ?_)
    refine oc' C 37 d34_36 rfl rfl rfl (ok' C 40 d34_37 rfl (hq hw 32 rfl) Via.refl p2 ?_)
    refine oc' C 41 d34_40 rfl rfl rfl (ok' C 44 d34_41 rfl (hq hw 32 rfl) Via.refl p6 ?_)
    refine or' C (argsL := [(.ref t), (.ref u)]) (W := 0) d34_44 (hq hw 188 rfl) (hq hw 189 rfl) (hq hw 190 rfl) (hq hw 191 rfl) (by decide) pd___B_B_Z (ct_leq9 l Z a0 hw am (t := t) (u := u) (kt := kt) (ku := ku) (x0 := x0) (x1 := x1) (x2 := x2) (x3 := x3) (x4 := x4) (x5 := x5) (x6 := x6) (x7 := x7) (x8 := x8) (y0 := y0) (y1 := y1) (y2 := y2) (y3 := y3) (y4 := y4) (y5 := y5) (y6 := y6) (y7 := y7) (y8 := y8) p3 p7 e0 e1 e2 e3 e4 e5 e6 e7 e8) rfl (Nat.le_of_eq rfl) rfl (by decide) mems0 ?_
    intro fv2 ph3 K4 fq5
    obtain ⟨rfl, rfl⟩ := fq5
    refine ⟨[], fresh0, ?_⟩
    show Go l _ Z _ _ _ κ _ _ 47 _ [.int 1] 0 0
    refine ot' C 50 d34_47 rfl (by decide) (of' C 51 (1 : Int32) d34_50 rfl (by decide) ?_)
    refine om' C (pc' := 55) d34_51 (by decide) (by decide) (oz' C (t := .boolean) (z := (1 : Int32)) d34_55 rfl (by decide) (by decide) (by decide) (by decide) ?_)
    exact ⟨rfl, rfl⟩
theorem ct_leq3 (l : Launch) (Z : State) (a0 : Array Value) (hw : HW a0 Z) {cS : Int32} {fm : Value} (am : Amb Z a0 cS fm) {t u : Addr} {kt ku : ClassId} {x0 x1 x2 y0 y1 y2 : Int32} {h0 : Heap} (p0 : Arv Z h0 t kt .byte (3 : Int32) [.int x0, .int x1, .int x2] (.int 0)) (p1 : Arv Z h0 u ku .byte (3 : Int32) [.int y0, .int y1, .int y2] (.int 0)) (e0 : x0 = y0) (e1 : x1 = y1) (e2 : x2 = y2) :
    Py l Z (⟨"java/lang/StringLatin1", "equals", "([B[B)Z"⟩ : MethodName) 1 14 0 0 #[(.ref t), (.ref u)] h0 [] (fun rv h' => rv = some (.int 1) ∧ h' = h0) := by
  refine Ct.py (by0 := zc18) (ml := 3) (rt := (some .boolean)) (rm := ({ frames := 0, cells := 0, slots := 0, locals := 0 } : Room)) ?_ (hq hw 191 rfl) (hq hw 190 rfl)
  refine Ct.mk (a0 := a0) (Ls := #[.val (.ref t), .val (.ref u), .unset]) (plainFor_of_name pn_java_lang_StringLatin1) (fun m => by simp [entryFrame, mkF, argsToLocals, Value.category]) ?_
  intro κ C
  show Go l _ Z _ _ _ κ [] h0 0 #[.val (.ref t), .val (.ref u), .unset] [] 0 0
  refine oc' C 1 d36_0 rfl rfl rfl (oj' C 2 d36_1 rfl p0 ?_)
  refine oc' C 3 d36_2 rfl rfl rfl (oj' C 4 d36_3 rfl p1 ?_)
  refine oi' C 7 d36_4 rfl (by decide) (of' C 8 (0 : Int32) d36_7 rfl (by decide) ?_)
  refine op1' C 9 (Ls' := #[.val (.ref t), .val (.ref u), .val (.int 0)]) d36_8 rfl rfl (od' C 10 d36_9 rfl rfl ?_)
  refine oc' C 11 d36_10 rfl rfl rfl (oj' C 12 d36_11 rfl p0 ?_)
  refine oi' C 15 d36_12 rfl (by decide) (oc' C 16 d36_15 rfl rfl rfl ?_)
  refine od' C 17 d36_16 rfl rfl (op' C 18 (v := (.int x0)) d36_17 rfl p0 (by decide) rfl ?_)
  refine oc' C 19 d36_18 rfl rfl rfl (od' C 20 d36_19 rfl rfl ?_)
  refine op' C 21 (v := (.int y0)) d36_20 rfl p1 (by decide) rfl (oh' C (pc' := 26) d36_21 (teq (e0 : x0 = y0)).1 (by decide) (by decide) ?_)
  refine og' C 29 (Ls' := #[.val (.ref t), .val (.ref u), .val (.int 1)]) (1 : Int32) d36_26 rfl (by decide) rfl rfl (om' C (pc' := 9) d36_29 (by decide) (by decide) ?_)
  refine od' C 10 d36_9 rfl rfl (oc' C 11 d36_10 rfl rfl rfl ?_)
  refine oj' C 12 d36_11 rfl p0 (oi' C 15 d36_12 rfl (by decide) ?_)
  refine oc' C 16 d36_15 rfl rfl rfl (od' C 17 d36_16 rfl rfl ?_)
  refine op' C 18 (v := (.int x1)) d36_17 rfl p0 (by decide) rfl (oc' C 19 d36_18 rfl rfl rfl ?_)
  refine od' C 20 d36_19 rfl rfl (op' C 21 (v := (.int y1)) d36_20 rfl p1 (by decide) rfl ?_)
  refine oh' C (pc' := 26) d36_21 (teq (e1 : x1 = y1)).1 (by decide) (by decide) (og' C 29 (Ls' := #[.val (.ref t), .val (.ref u), .val (.int 2)]) (1 : Int32) d36_26 rfl (by decide) rfl rfl ?_)
  refine om' C (pc' := 9) d36_29 (by decide) (by decide) (od' C 10 d36_9 rfl rfl ?_)
  refine oc' C 11 d36_10 rfl rfl rfl (oj' C 12 d36_11 rfl p0 ?_)
  refine oi' C 15 d36_12 rfl (by decide) (oc' C 16 d36_15 rfl rfl rfl ?_)
  refine od' C 17 d36_16 rfl rfl (op' C 18 (v := (.int x2)) d36_17 rfl p0 (by decide) rfl ?_)
  refine oc' C 19 d36_18 rfl rfl rfl (od' C 20 d36_19 rfl rfl ?_)
  refine op' C 21 (v := (.int y2)) d36_20 rfl p1 (by decide) rfl (oh' C (pc' := 26) d36_21 (teq (e2 : x2 = y2)).1 (by decide) (by decide) ?_)
  refine og' C 29 (Ls' := #[.val (.ref t), .val (.ref u), .val (.int 3)]) (1 : Int32) d36_26 rfl (by decide) rfl rfl (om' C (pc' := 9) d36_29 (by decide) (by decide) ?_)
  refine od' C 10 d36_9 rfl rfl (oc' C 11 d36_10 rfl rfl rfl ?_)
  refine oj' C 12 d36_11 rfl p0 (oh' C (pc' := 32) d36_12 (by decide) (by decide) (by decide) ?_)
  refine of' C 33 (1 : Int32) d36_32 rfl (by decide) (oz' C (t := .boolean) (z := (1 : Int32)) d36_33 rfl (by decide) (by decide) (by decide) (by decide) ?_)
  exact ⟨rfl, rfl⟩
theorem ct_eq3 (l : Launch) (Z : State) (a0 : Array Value) (hw : HW a0 Z) {cS : Int32} {fm : Value} (am : Amb Z a0 cS fm) {a b t u : Addr} {kt ku : ClassId} {x0 x1 x2 y0 y1 y2 : Int32} {h0 : Heap} (p0 : Exa Z h0 a "java/lang/String") (p1 : Fld Z h0 a "java/lang/String" "coder" "B" (.int 0)) (p2 : Fld Z h0 a "java/lang/String" "value" "[B" (.ref t)) (p3 : Arv Z h0 t kt .byte (3 : Int32) [.int x0, .int x1, .int x2] (.int 0)) (p4 : Exa Z h0 b "java/lang/String") (p5 : Fld Z h0 b "java/lang/String" "coder" "B" (.int 0)) (p6 : Fld Z h0 b "java/lang/String" "value" "[B" (.ref u)) (p7 : Arv Z h0 u ku .byte (3 : Int32) [.int y0, .int y1, .int y2] (.int 0)) (e0 : x0 = y0) (e1 : x1 = y1) (e2 : x2 = y2) :
    Py l Z (⟨"java/lang/String", "equals", "(Ljava/lang/Object;)Z"⟩ : MethodName) 2 28 0 0 #[(.ref a), (.ref b)] h0 [] (fun rv h' => rv = some (.int 1) ∧ h' = h0) := by
  refine Ct.py (by0 := zc13) (ml := 3) (rt := (some .boolean)) (rm := ({ frames := 1, cells := 0, slots := 0, locals := 14 } : Room)) ?_ (hq hw 181 rfl) (hq hw 6 rfl)
  refine Ct.mk (a0 := a0) (Ls := #[.val (.ref a), .val (.ref b), .unset]) (plainFor_of_name pn_java_lang_String) (fun m => by simp [entryFrame, mkF, argsToLocals, Value.category]) ?_
  intro κ C
  show Go l _ Z _ _ _ κ [] h0 0 #[.val (.ref a), .val (.ref b), .unset] [] 0 0
  refine oc' C 1 d34_0 rfl rfl rfl (oc' C 2 d34_1 rfl rfl rfl ?_)
  by_cases ha1 : a = b
  · skip
    refine oc2' C (b := true) (pc' := 5) d34_2 rfl rfl (decide_eq_true (congrArg Value.ref ha1)) (by decide) (by decide) (of' C 6 (1 : Int32) d34_5 rfl (by decide) ?_)
    refine oz' C (t := .boolean) (z := (1 : Int32)) d34_6 rfl (by decide) (by decide) (by decide) (by decide) ?_
    exact ⟨rfl, rfl⟩
  · skip
    refine oc2' C (b := false) (pc' := 7) d34_2 rfl rfl (decide_eq_false fun q => ha1 (Value.ref.inj q)) (by decide) (by decide) (oc' C 8 d34_7 rfl rfl rfl ?_)
    refine or2' C 11 d34_8 rfl (hq hw 187 rfl) (Ins.self p4) (ot' C 14 d34_11 rfl (by decide) ?_)
    refine oc' C 15 d34_14 rfl rfl rfl (oy' C 18 d34_15 rfl (hq hw 187 rfl) (Ins.self p4) ?_)
    refine ov1' C 19 (Ls' := #[.val (.ref a), .val (.ref b), .val (.ref b)]) d34_18 rfl rfl rfl (oy1' C 22 d34_19 rfl (hq hw 18 rfl) am.2.1 ?_)
    refine ot' C 25 d34_22 rfl (feq (am.2.2.1 : ¬ (cS = (0 : Int32)))).1 (oc' C 26 d34_25 rfl rfl rfl ?_)
    refine ok' C 29 d34_26 rfl (hq hw 30 rfl) Via.refl p1 (oc' C 30 d34_29 rfl rfl rfl ?_)
    refine ok' C 33 d34_30 rfl (hq hw 30 rfl) Via.refl p5 (oi' C 36 d34_33 rfl (by decide) ?_)
    refine oc' C 37 d34_36 rfl rfl rfl (ok' C 40 d34_37 rfl (hq hw 32 rfl) Via.refl p2 ?_)
    refine oc' C 41 d34_40 rfl rfl rfl (ok' C 44 d34_41 rfl (hq hw 32 rfl) Via.refl p6 ?_)
    refine or' C (argsL := [(.ref t), (.ref u)]) (W := 0) d34_44 (hq hw 188 rfl) (hq hw 189 rfl) (hq hw 190 rfl) (hq hw 191 rfl) (by decide) pd___B_B_Z (ct_leq3 l Z a0 hw am (t := t) (u := u) (kt := kt) (ku := ku) (x0 := x0) (x1 := x1) (x2 := x2) (y0 := y0) (y1 := y1) (y2 := y2) p3 p7 e0 e1 e2) rfl (Nat.le_of_eq rfl) rfl (by decide) mems0 ?_
    intro fv2 ph3 K4 fq5
    obtain ⟨rfl, rfl⟩ := fq5
    refine ⟨[], fresh0, ?_⟩
    show Go l _ Z _ _ _ κ _ _ 47 _ [.int 1] 0 0
    refine ot' C 50 d34_47 rfl (by decide) (of' C 51 (1 : Int32) d34_50 rfl (by decide) ?_)
    refine om' C (pc' := 55) d34_51 (by decide) (by decide) (oz' C (t := .boolean) (z := (1 : Int32)) d34_55 rfl (by decide) (by decide) (by decide) (by decide) ?_)
    exact ⟨rfl, rfl⟩
theorem ct_cft (l : Launch) (Z : State) (a0 : Array Value) (hw : HW a0 Z) {cS : Int32} {fm : Value} (am : Amb Z a0 cS fm) {i j n : Int32} {h0 : Heap} (h1 : ¬ (i < (0 : Int32))) (h2 : ¬ (j < i)) (h3 : ¬ (n < j)) :
    Py l Z (⟨"jdk/internal/util/Preconditions", "checkFromToIndex", "(IIILjava/util/function/BiFunction;)I"⟩ : MethodName) 1 15 0 0 #[.int i, .int j, .int n, fm] h0 [] (fun rv h' => rv = some (.int i) ∧ h' = h0) := by
  refine Ct.py (by0 := zc2) (ml := 4) (rt := (some .int)) (rm := ({ frames := 0, cells := 0, slots := 0, locals := 0 } : Room)) ?_ (hq hw 242 rfl) (hq hw 239 rfl)
  refine Ct.mk (a0 := a0) (Ls := #[.val (.int i), .val (.int j), .val (.int n), .val fm]) (plainFor_of_name pn_jdk_internal_util_Preconditions) (fun m => by rcases ref_cases am.2.2.2.2 with e | ⟨q, e⟩ <;> (subst e; first | (simp [entryFrame, mkF, argsToLocals, Value.category]; done) | rfl)) ?_
  intro κ C
  show Go l _ Z _ _ _ κ [] h0 0 #[.val (.int i), .val (.int j), .val (.int n), .val fm] [] 0 0
  refine od' C 1 d46_0 rfl rfl (ot' C 4 d46_1 rfl (flt (h1 : ¬ (i < (0 : Int32)))).1 ?_)
  refine od' C 5 d46_4 rfl rfl (od' C 6 d46_5 rfl rfl ?_)
  refine oi' C 9 d46_6 rfl (flt (h2 : ¬ (j < i))).2.2.1 (od' C 10 d46_9 rfl rfl ?_)
  refine od' C 11 d46_10 rfl rfl (oh' C (pc' := 22) d46_11 (flt (h3 : ¬ (n < j))).2.2.2 (by decide) (by decide) ?_)
  refine od' C 23 d46_22 rfl rfl (ol1' C d46_23 rfl (by decide) (by decide) ?_)
  exact ⟨rfl, rfl⟩
theorem ct_cbe (l : Launch) (Z : State) (a0 : Array Value) (hw : HW a0 Z) {cS : Int32} {fm : Value} (am : Amb Z a0 cS fm) {i j n : Int32} {h0 : Heap} (h1 : ¬ (i < (0 : Int32))) (h2 : ¬ (j < i)) (h3 : ¬ (n < j)) :
    Py l Z (⟨"java/lang/String", "checkBoundsBeginEnd", "(III)V"⟩ : MethodName) 2 29 0 0 #[.int i, .int j, .int n] h0 [] (fun rv h' => rv = none ∧ h' = h0) := by
  refine Ct.py (by0 := zc9) (ml := 3) (rt := none) (rm := ({ frames := 1, cells := 0, slots := 0, locals := 15 } : Room)) ?_ (hq hw 237 rfl) (hq hw 6 rfl)
  refine Ct.mk (a0 := a0) (Ls := #[.val (.int i), .val (.int j), .val (.int n)]) (plainFor_of_name pn_java_lang_String) (fun m => by simp [entryFrame, mkF, argsToLocals, Value.category]) ?_
  intro κ C
  show Go l _ Z _ _ _ κ [] h0 0 #[.val (.int i), .val (.int j), .val (.int n)] [] 0 0
  refine od' C 1 d45_0 rfl rfl (od' C 2 d45_1 rfl rfl ?_)
  refine od' C 3 d45_2 rfl rfl (oy1' C 6 d45_3 rfl (hq hw 238 rfl) am.2.2.2.1 ?_)
  refine or' C (argsL := [.int i, .int j, .int n, fm]) (W := 0) d45_6 (hq hw 240 rfl) (hq hw 241 rfl) (hq hw 239 rfl) (hq hw 242 rfl) (by decide) pd__IIILjava_util_function_BiFunction__I (ct_cft l Z a0 hw am (i := i) (j := j) (n := n) h1 h2 h3) rfl (Nat.le_of_eq rfl) rfl (by decide) mems0 ?_
  intro fv1 ph2 K3 fq4
  obtain ⟨rfl, rfl⟩ := fq4
  refine ⟨[], fresh0, ?_⟩
  show Go l _ Z _ _ _ κ _ _ 9 _ [.int i] 0 0
  refine ox2' C 10 d45_9 rfl rfl (oe' C d45_10 rfl (by decide) (by decide) ?_)
  exact ⟨rfl, rfl⟩
theorem ct_len0_4 (l : Launch) (Z : State) (a0 : Array Value) (hw : HW a0 Z) {cS : Int32} {fm : Value} (am : Amb Z a0 cS fm) {s t : Addr} {kB : ClassId} {vs : List Value} {h0 : Heap} (p0 : Exa Z h0 s "java/lang/String") (p1 : Fld Z h0 s "java/lang/String" "coder" "B" (.int 0)) (p2 : Fld Z h0 s "java/lang/String" "value" "[B" (.ref t)) (p3 : Arv Z h0 t kB .byte (4 : Int32) vs (.int 0)) :
    Py l Z (⟨"java/lang/String", "length", "()I"⟩ : MethodName) 2 25 0 0 #[(.ref s)] h0 [] (fun rv h' => rv = some (.int 4) ∧ h' = h0) := by
  refine Ct.py (by0 := zc12) (ml := 1) (rt := (some .int)) (rm := ({ frames := 1, cells := 0, slots := 0, locals := 13 } : Room)) ?_ (hq hw 79 rfl) (hq hw 6 rfl)
  refine Ct.mk (a0 := a0) (Ls := #[.val (.ref s)]) (plainFor_of_name pn_java_lang_String) (fun m => by simp [entryFrame, mkF, argsToLocals, Value.category]) ?_
  intro κ C
  show Go l _ Z _ _ _ κ [] h0 0 #[.val (.ref s)] [] 0 0
  refine oc' C 1 d14_0 rfl rfl rfl (ok' C 4 d14_1 rfl (hq hw 32 rfl) Via.refl p2 ?_)
  refine oj' C 5 d14_4 rfl p3 (oc' C 6 d14_5 rfl rfl rfl ?_)
  refine oo' C (a := s) (argsL := []) (W := 1) d14_6 (hq hw 80 rfl) (hq hw 81 rfl) (nfS (hq hw 83 rfl)) (hq hw 83 rfl) (hq hw 82 rfl) p0 (by decide) pd___B (ct_cod0 l Z a0 hw am (s := s) p1) rfl (Nat.le_of_eq rfl) rfl (by decide) mems0 ?_
  intro fv1 ph2 K3 fq4
  obtain ⟨rfl, rfl⟩ := fq4
  refine ⟨[], fresh0, ?_⟩
  show Go l _ Z _ _ _ κ _ _ 9 _ [.int 0, .int 4] 0 0
  refine om2' C 10 (4 : Int32) d14_9 rfl (by decide) (ol1' C d14_10 rfl (by decide) (by decide) ?_)
  exact ⟨rfl, rfl⟩
theorem ct_mis6_lot (l : Launch) (Z : State) (a0 : Array Value) (hw : HW a0 Z) {cS : Int32} {fm : Value} (am : Amb Z a0 cS fm) {v u : Addr} {kv ku : ClassId} {h0 : Heap} (p0 : Arv Z h0 v kv .byte (6 : Int32) [.int 115, .int 116, .int 111, .int 99, .int 107, .int 47] (.int 0)) (p1 : Arv Z h0 u ku .byte (4 : Int32) [.int 108, .int 111, .int 116, .int 47] (.int 0)) :
    Py l Z (⟨"jdk/internal/util/ArraysSupport", "mismatch", "([BI[BII)I"⟩ : MethodName) 1 19 0 0 #[(.ref v), .int 0, (.ref u), .int 0, .int 4] h0 [] (fun rv h' => rv = some (.int 0) ∧ h' = h0) := by
  refine Ct.py (by0 := zc20) (ml := 8) (rt := (some .int)) (rm := ({ frames := 0, cells := 0, slots := 0, locals := 0 } : Room)) ?_ (hq hw 217 rfl) (hq hw 216 rfl)
  refine Ct.mk (a0 := a0) (Ls := #[.val (.ref v), .val (.int 0), .val (.ref u), .val (.int 0), .val (.int 4), .unset, .unset, .unset]) (plainFor_of_name pn_jdk_internal_util_ArraysSupport) (fun m => by simp [entryFrame, mkF, argsToLocals, Value.category]) ?_
  intro κ C
  show Go l _ Z _ _ _ κ [] h0 0 #[.val (.ref v), .val (.int 0), .val (.ref u), .val (.int 0), .val (.int 4), .unset, .unset, .unset] [] 0 0
  refine of' C 1 (0 : Int32) d41_0 rfl (by decide) (ol' C 3 (Ls' := #[.val (.ref v), .val (.int 0), .val (.ref u), .val (.int 0), .val (.int 4), .val (.int 0), .unset, .unset]) d41_1 rfl rfl ?_)
  refine oa' C 5 d41_3 rfl rfl (ox' C 7 (7 : Int32) d41_5 rfl (by decide) ?_)
  refine oh' C (pc' := 70) d41_7 (by decide) (by decide) (by decide) (oa' C 72 d41_70 rfl rfl ?_)
  refine oa' C 74 d41_72 rfl rfl (oi' C 77 d41_74 rfl (by decide) ?_)
  refine oc' C 78 d41_77 rfl rfl rfl (od' C 79 d41_78 rfl rfl ?_)
  refine oa' C 81 d41_79 rfl rfl (ox1' C 82 (0 : Int32) d41_81 rfl (by decide) ?_)
  refine op' C 83 (v := (.int 115)) d41_82 rfl p0 (by decide) rfl (oc' C 84 d41_83 rfl rfl rfl ?_)
  refine od' C 85 d41_84 rfl rfl (oa' C 87 d41_85 rfl rfl ?_)
  refine ox1' C 88 (0 : Int32) d41_87 rfl (by decide) (op' C 89 (v := (.int 108)) d41_88 rfl p1 (by decide) rfl ?_)
  refine oi' C 92 d41_89 rfl (by decide) (oa' C 94 d41_92 rfl rfl ?_)
  refine ol1' C d41_94 rfl (by decide) (by decide) ?_
  exact ⟨rfl, rfl⟩
theorem ct_sw26_lot (l : Launch) (Z : State) (a0 : Array Value) (hw : HW a0 Z) {cS : Int32} {fm : Value} (am : Amb Z a0 cS fm) {s p v u : Addr} {kv ku : ClassId} {h0 : Heap} (p0 : Exa Z h0 s "java/lang/String") (p1 : Fld Z h0 s "java/lang/String" "coder" "B" (.int 0)) (p2 : Fld Z h0 s "java/lang/String" "value" "[B" (.ref v)) (p3 : Arv Z h0 v kv .byte (6 : Int32) [.int 115, .int 116, .int 111, .int 99, .int 107, .int 47] (.int 0)) (p4 : Exa Z h0 p "java/lang/String") (p5 : Fld Z h0 p "java/lang/String" "coder" "B" (.int 0)) (p6 : Fld Z h0 p "java/lang/String" "value" "[B" (.ref u)) (p7 : Arv Z h0 u ku .byte (4 : Int32) [.int 108, .int 111, .int 116, .int 47] (.int 0)) :
    Py l Z (⟨"java/lang/String", "startsWith", "(Ljava/lang/String;I)Z"⟩ : MethodName) 3 46 0 0 #[(.ref s), (.ref p), .int 0] h0 [] (fun rv h' => rv = some (.int 0) ∧ h' = h0) := by
  refine Ct.py (by0 := zc14) (ml := 8) (rt := (some .boolean)) (rm := ({ frames := 2, cells := 0, slots := 0, locals := 27 } : Room)) ?_ (hq hw 212 rfl) (hq hw 6 rfl)
  refine Ct.mk (a0 := a0) (Ls := #[.val (.ref s), .val (.ref p), .val (.int 0), .unset, .unset, .unset, .unset, .unset]) (plainFor_of_name pn_java_lang_String) (fun m => by simp [entryFrame, mkF, argsToLocals, Value.category]) ?_
  intro κ C
  show Go l _ Z _ _ _ κ [] h0 0 #[.val (.ref s), .val (.ref p), .val (.int 0), .unset, .unset, .unset, .unset, .unset] [] 0 0
  refine od' C 1 d40_0 rfl rfl (ot' C 4 d40_1 rfl (by decide) ?_)
  refine od' C 5 d40_4 rfl rfl (oc' C 6 d40_5 rfl rfl rfl ?_)
  refine oo' C (a := s) (argsL := []) (W := 1) d40_6 (hq hw 213 rfl) (hq hw 76 rfl) (nfS (hq hw 78 rfl)) (hq hw 78 rfl) (hq hw 77 rfl) p0 (by decide) pd___I (ct_len0_6 l Z a0 hw am (s := s) (t := v) (kB := kv) (vs := [.int 115, .int 116, .int 111, .int 99, .int 107, .int 47]) p0 p1 p2 p3) rfl (Nat.le_of_eq rfl) rfl (by decide) mems0 ?_
  intro fv1 ph2 K3 fq4
  obtain ⟨rfl, rfl⟩ := fq4
  refine ⟨[], fresh0, ?_⟩
  show Go l _ Z _ _ _ κ _ _ 9 _ [.int 6, .int 0] 0 0
  refine oc' C 10 d40_9 rfl rfl rfl (oo' C (a := p) (argsL := []) (W := 2) d40_10 (hq hw 213 rfl) (hq hw 76 rfl) (nfS (hq hw 78 rfl)) (hq hw 78 rfl) (hq hw 77 rfl) p4 (by decide) pd___I (ct_len0_4 l Z a0 hw am (s := p) (t := u) (kB := ku) (vs := [.int 108, .int 111, .int 116, .int 47]) p4 p5 p6 p7) rfl (Nat.le_of_eq rfl) rfl (by decide) mems0 ?_)
  intro fv5 ph6 K7 fq8
  obtain ⟨rfl, rfl⟩ := fq8
  refine ⟨[], fresh0, ?_⟩
  show Go l _ Z _ _ _ κ _ _ 13 _ [.int 4, .int 6, .int 0] 0 0
  refine oj1' C 14 (2 : Int32) d40_13 rfl (by decide) (oh' C (pc' := 19) d40_14 (by decide) (by decide) (by decide) ?_)
  refine oc' C 20 d40_19 rfl rfl rfl (ok' C 23 d40_20 rfl (hq hw 32 rfl) Via.refl p2 ?_)
  refine ov1' C 24 (Ls' := #[.val (.ref s), .val (.ref p), .val (.int 0), .val (.ref v), .unset, .unset, .unset, .unset]) d40_23 rfl rfl rfl (oc' C 25 d40_24 rfl rfl rfl ?_)
  refine ok' C 28 d40_25 rfl (hq hw 32 rfl) Via.refl p6 (ob1' C 30 (Ls' := #[.val (.ref s), .val (.ref p), .val (.int 0), .val (.ref v), .val (.ref u), .unset, .unset, .unset]) d40_28 rfl rfl rfl ?_)
  refine of' C 31 (0 : Int32) d40_30 rfl (by decide) (ol' C 33 (Ls' := #[.val (.ref s), .val (.ref p), .val (.int 0), .val (.ref v), .val (.ref u), .val (.int 0), .unset, .unset]) d40_31 rfl rfl ?_)
  refine ob' C 35 d40_33 rfl rfl rfl (oj' C 36 d40_35 rfl p7 ?_)
  refine ol' C 38 (Ls' := #[.val (.ref s), .val (.ref p), .val (.int 0), .val (.ref v), .val (.ref u), .val (.int 0), .val (.int 4), .unset]) d40_36 rfl rfl (oc' C 39 d40_38 rfl rfl rfl ?_)
  refine oo' C (a := s) (argsL := []) (W := 0) d40_39 (hq hw 80 rfl) (hq hw 81 rfl) (nfS (hq hw 83 rfl)) (hq hw 83 rfl) (hq hw 82 rfl) p0 (by decide) pd___B (ct_cod0 l Z a0 hw am (s := s) p1) rfl (Nat.le_of_eq rfl) rfl (by decide) mems0 ?_
  intro fv9 ph10 K11 fq12
  obtain ⟨rfl, rfl⟩ := fq12
  refine ⟨[], fresh0, ?_⟩
  show Go l _ Z _ _ _ κ _ _ 42 _ [.int 0] 0 0
  refine ol' C 44 (Ls' := #[.val (.ref s), .val (.ref p), .val (.int 0), .val (.ref v), .val (.ref u), .val (.int 0), .val (.int 4), .val (.int 0)]) d40_42 rfl rfl (oa' C 46 d40_44 rfl rfl ?_)
  refine oc' C 47 d40_46 rfl rfl rfl (oo' C (a := p) (argsL := []) (W := 1) d40_47 (hq hw 80 rfl) (hq hw 81 rfl) (nfS (hq hw 83 rfl)) (hq hw 83 rfl) (hq hw 82 rfl) p4 (by decide) pd___B (ct_cod0 l Z a0 hw am (s := p) p5) rfl (Nat.le_of_eq rfl) rfl (by decide) mems0 ?_)
  intro fv13 ph14 K15 fq16
  obtain ⟨rfl, rfl⟩ := fq16
  refine ⟨[], fresh0, ?_⟩
  show Go l _ Z _ _ _ κ _ _ 50 _ [.int 0, .int 0] 0 0
  refine oi' C 53 d40_50 rfl (by decide) (oa' C 55 d40_53 rfl rfl ?_)
  refine of' C 56 (1 : Int32) d40_55 rfl (by decide) (oh' C (pc' := 63) d40_56 (by decide) (by decide) (by decide) ?_)
  refine oc' C 64 d40_63 rfl rfl rfl (od' C 65 d40_64 rfl rfl ?_)
  refine ob' C 67 d40_65 rfl rfl rfl (of' C 68 (0 : Int32) d40_67 rfl (by decide) ?_)
  refine oa' C 70 d40_68 rfl rfl (or' C (argsL := [(.ref v), .int 0, (.ref u), .int 0, .int 4]) (W := 0) d40_70 (hq hw 214 rfl) (hq hw 215 rfl) (hq hw 216 rfl) (hq hw 217 rfl) (by decide) pd___BI_BII_I (ct_mis6_lot l Z a0 hw am (v := v) (u := u) (kv := kv) (ku := ku) p3 p7) rfl (Nat.le_of_eq rfl) rfl (by decide) mems0 ?_)
  intro fv17 ph18 K19 fq20
  obtain ⟨rfl, rfl⟩ := fq20
  refine ⟨[], fresh0, ?_⟩
  show Go l _ Z _ _ _ κ _ _ 73 _ [.int 0] 0 0
  refine om1' C (pc' := 80) d40_73 (by decide) (by decide) (by decide) (of' C 81 (0 : Int32) d40_80 rfl (by decide) ?_)
  refine oz' C (t := .boolean) (z := (0 : Int32)) d40_81 rfl (by decide) (by decide) (by decide) (by decide) ?_
  exact ⟨rfl, rfl⟩
theorem ct_sw16_lot (l : Launch) (Z : State) (a0 : Array Value) (hw : HW a0 Z) {cS : Int32} {fm : Value} (am : Amb Z a0 cS fm) {s p v u : Addr} {kv ku : ClassId} {h0 : Heap} (p0 : Exa Z h0 s "java/lang/String") (p1 : Fld Z h0 s "java/lang/String" "coder" "B" (.int 0)) (p2 : Fld Z h0 s "java/lang/String" "value" "[B" (.ref v)) (p3 : Arv Z h0 v kv .byte (6 : Int32) [.int 115, .int 116, .int 111, .int 99, .int 107, .int 47] (.int 0)) (p4 : Exa Z h0 p "java/lang/String") (p5 : Fld Z h0 p "java/lang/String" "coder" "B" (.int 0)) (p6 : Fld Z h0 p "java/lang/String" "value" "[B" (.ref u)) (p7 : Arv Z h0 u ku .byte (4 : Int32) [.int 108, .int 111, .int 116, .int 47] (.int 0)) :
    Py l Z (⟨"java/lang/String", "startsWith", "(Ljava/lang/String;)Z"⟩ : MethodName) 4 59 0 0 #[(.ref s), (.ref p)] h0 [] (fun rv h' => rv = some (.int 0) ∧ h' = h0) := by
  refine Ct.py (by0 := zc15) (ml := 2) (rt := (some .boolean)) (rm := ({ frames := 3, cells := 0, slots := 0, locals := 46 } : Room)) ?_ (hq hw 207 rfl) (hq hw 6 rfl)
  refine Ct.mk (a0 := a0) (Ls := #[.val (.ref s), .val (.ref p)]) (plainFor_of_name pn_java_lang_String) (fun m => by simp [entryFrame, mkF, argsToLocals, Value.category]) ?_
  intro κ C
  show Go l _ Z _ _ _ κ [] h0 0 #[.val (.ref s), .val (.ref p)] [] 0 0
  refine oc' C 1 d39_0 rfl rfl rfl (oc' C 2 d39_1 rfl rfl rfl ?_)
  refine of' C 3 (0 : Int32) d39_2 rfl (by decide) (oo' C (a := s) (argsL := [(.ref p), .int 0]) (W := 0) d39_3 (hq hw 208 rfl) (hq hw 209 rfl) (nfS (hq hw 211 rfl)) (hq hw 211 rfl) (hq hw 210 rfl) p0 (by decide) pd__Ljava_lang_String_I_Z (ct_sw26_lot l Z a0 hw am (s := s) (p := p) (v := v) (u := u) (kv := kv) (ku := ku) p0 p1 p2 p3 p4 p5 p6 p7) rfl (Nat.le_of_eq rfl) rfl (by decide) mems0 ?_)
  intro fv1 ph2 K3 fq4
  obtain ⟨rfl, rfl⟩ := fq4
  refine ⟨[], fresh0, ?_⟩
  show Go l _ Z _ _ _ κ _ _ 6 _ [.int 0] 0 0
  refine oz' C (t := .boolean) (z := (0 : Int32)) d39_6 rfl (by decide) (by decide) (by decide) (by decide) ?_
  exact ⟨rfl, rfl⟩
theorem ct_isl0_ (l : Launch) (Z : State) (a0 : Array Value) (hw : HW a0 Z) {cS : Int32} {fm : Value} (am : Amb Z a0 cS fm) {q m u : Addr} {ku : ClassId} {h0 : Heap} (p0 : Exa Z h0 q "com/example/evenlot/evenlot/Source") (p1 : Fld Z h0 q "com/example/evenlot/evenlot/Source" "name" "Ljava/lang/String;" (.ref m)) (p2 : Exa Z h0 m "java/lang/String") (p3 : Fld Z h0 m "java/lang/String" "coder" "B" (.int 0)) (p4 : Fld Z h0 m "java/lang/String" "value" "[B" (.ref u)) (p5 : Arv Z h0 u ku .byte (6 : Int32) [.int 115, .int 116, .int 111, .int 99, .int 107, .int 47] (.int 0)) :
    PyW l Z consts_1 a0 (⟨"com/example/evenlot/evenlot/Source", "isLot", "()Z"⟩ : MethodName) 5 71 2 20 #[(.ref q)] h0 [] (fun rv h' => rv = some (.int 0)) := by
  have hEL := am.1
  refine CtW.py (by0 := zc47) (ml := 1) (rt := (some .boolean)) (rm := ({ frames := 4, cells := 2, slots := 20, locals := 59 } : Room)) ?_ (hq hw 201 rfl) (hq hw 42 rfl)
  refine CtW.mk (a0 := a0) (Ls := #[.val (.ref q)]) (plainFor_of_name pn_com_example_evenlot_evenlot_Source) (fun m => by simp [entryFrame, mkF, argsToLocals, Value.category]) ?_
  intro κ C
  show GoW l _ Z _ _ _ _ _ κ [] h0 0 #[.val (.ref q)] [] 0 0
  refine wk1' C 1 d38_0 rfl rfl rfl (wp2' C 4 d38_1 rfl (hq hw 168 rfl) Via.refl p1 ?_)
  refine wi2' C hEL 6 2 20 (n := 16) (vs := [.int 108, .int 111, .int 116, .int 47]) (zn := (4 : Int32)) d38_4 rfl rfl rfl (hq hw 202 rfl) (wS hw) (List.mem_of_getElem? (i := 1) rfl) (by decide) (by decide) rfl (by decide) (by decide) (by decide) (by decide) ?_
  intro sa1 sb2 k3 ph4 E5 fx6 fx7 fx8 fx9 fn10
  have fx11 := (Exa.ext E5 p2)
  have fx12 := (Fld.ext E5 p3)
  have fx13 := (Fld.ext E5 p4)
  have fx14 := (p5.ext E5)
  refine ws' C (a := m) (argsL := [(.ref sa1)]) (W := 0) d38_6 (hq hw 203 rfl) (hq hw 204 rfl) (nfS (hq hw 206 rfl)) (hq hw 206 rfl) (hq hw 205 rfl) fx11 (by decide) pd__Ljava_lang_String__Z (ct_sw16_lot l Z a0 hw am (s := m) (p := sa1) (v := u) (u := sb2) (kv := ku) (ku := k3) fx11 fx12 fx13 fx14 fx6 fx7 fx8 fx9) rfl (Nat.le_of_eq rfl) rfl (by decide) mems0 ?_
  intro fv15 ph16 K17 fq18
  obtain ⟨rfl, rfl⟩ := fq18
  refine ⟨[], fresh0, ?_⟩
  show GoW l _ Z _ _ _ _ _ κ _ _ 9 _ [.int 0] 2 20
  refine ws2' C hEL (t := .boolean) (z := (0 : Int32)) d38_9 rfl (by decide) (by decide) (by decide) (by decide) ?_
  exact rfl
theorem ct_isl0 (l : Launch) (Z : State) (a0 : Array Value) (hw : HW a0 Z) {cS : Int32} {fm : Value} (am : Amb Z a0 cS fm) {s : Addr} {h0 : Heap} (p0 : Fld Z h0 s "java/lang/String" "coder" "B" (.int 0)) :
    Py l Z (⟨"java/lang/String", "isLatin1", "()Z"⟩ : MethodName) 1 12 0 0 #[(.ref s)] h0 [] (fun rv h' => rv = some (.int 1) ∧ h' = h0) := by
  refine Ct.py (by0 := zc8) (ml := 1) (rt := (some .boolean)) (rm := ({ frames := 0, cells := 0, slots := 0, locals := 0 } : Room)) ?_ (hq hw 247 rfl) (hq hw 6 rfl)
  refine Ct.mk (a0 := a0) (Ls := #[.val (.ref s)]) (plainFor_of_name pn_java_lang_String) (fun m => by simp [entryFrame, mkF, argsToLocals, Value.category]) ?_
  intro κ C
  show Go l _ Z _ _ _ κ [] h0 0 #[.val (.ref s)] [] 0 0
  refine oy1' C 3 d47_0 rfl (hq hw 18 rfl) am.2.1 (ot' C 6 d47_3 rfl (feq (am.2.2.1 : ¬ (cS = (0 : Int32)))).1 ?_)
  refine oc' C 7 d47_6 rfl rfl rfl (ok' C 10 d47_7 rfl (hq hw 30 rfl) Via.refl p0 ?_)
  refine ot' C 13 d47_10 rfl (by decide) (of' C 14 (1 : Int32) d47_13 rfl (by decide) ?_)
  refine om' C (pc' := 18) d47_14 (by decide) (by decide) (oz' C (t := .boolean) (z := (1 : Int32)) d47_18 rfl (by decide) (by decide) (by decide) (by decide) ?_)
  exact ⟨rfl, rfl⟩
theorem ct_ns6_6 (l : Launch) (Z : State) (a0 : Array Value) (hw : HW a0 Z) {cS : Int32} {fm : Value} (am : Amb Z a0 cS fm) {v : Addr} {kv : ClassId} {x0 x1 x2 x3 x4 x5 : Int32} {h0 : Heap} (p0 : Arv Z h0 v kv .byte (6 : Int32) [.int x0, .int x1, .int x2, .int x3, .int x4, .int x5] (.int 0)) :
    PyW l Z consts_1 a0 (⟨"java/lang/StringLatin1", "newString", "([BII)Ljava/lang/String;"⟩ : MethodName) 1 14 2 4 #[(.ref v), .int 6, .int 0] h0 [] (fun rv h' => ∃ (a : Addr) (t : Addr) (kt : ClassId), rv = some (.ref a) ∧ Exa Z h' a "java/lang/String" ∧ Fld Z h' a "java/lang/String" "coder" "B" (.int 0) ∧ Fld Z h' a "java/lang/String" "value" "[B" (.ref t) ∧ Arv Z h' t kt .byte (0 : Int32) [] (.int 0)) := by
  have hEL := am.1
  refine CtW.py (by0 := zc19) (ml := 3) (rt := (some (.object "java/lang/String"))) (rm := ({ frames := 0, cells := 2, slots := 4, locals := 0 } : Room)) ?_ (hq hw 250 rfl) (hq hw 190 rfl)
  refine CtW.mk (a0 := a0) (Ls := #[.val (.ref v), .val (.int 6), .val (.int 0)]) (plainFor_of_name pn_java_lang_StringLatin1) (fun m => by simp [entryFrame, mkF, argsToLocals, Value.category]) ?_
  intro κ C
  show GoW l _ Z _ _ _ _ _ κ [] h0 0 #[.val (.ref v), .val (.int 6), .val (.int 0)] [] 0 0
  refine ww' C 1 d48_0 rfl rfl (ws1' C 4 d48_1 rfl (by decide) ?_)
  refine wi2' C hEL 6 2 4 (n := 0) (vs := []) (zn := (0 : Int32)) d48_4 rfl rfl rfl (hq hw 251 rfl) (wS hw) (List.mem_of_getElem? (i := 3) rfl) (by decide) (by decide) rfl (by decide) (by decide) (by decide) (by decide) ?_
  intro sa1 sb2 k3 ph4 E5 fx6 fx7 fx8 fx9 fn10
  refine wg2' C hEL (v := (.ref sa1)) d48_6 rfl rfl rfl (by decide) (by decide) ?_
  exact ⟨sa1, sb2, k3, rfl, fx6, fx7, fx8, fx9⟩
theorem ct_su6_6 (l : Launch) (Z : State) (a0 : Array Value) (hw : HW a0 Z) {cS : Int32} {fm : Value} (am : Amb Z a0 cS fm) {s v : Addr} {kv : ClassId} {x0 x1 x2 x3 x4 x5 : Int32} {h0 : Heap} (p0 : Exa Z h0 s "java/lang/String") (p1 : Fld Z h0 s "java/lang/String" "coder" "B" (.int 0)) (p2 : Fld Z h0 s "java/lang/String" "value" "[B" (.ref v)) (p3 : Arv Z h0 v kv .byte (6 : Int32) [.int x0, .int x1, .int x2, .int x3, .int x4, .int x5] (.int 0)) :
    PyW l Z consts_1 a0 (⟨"java/lang/String", "substring", "(II)Ljava/lang/String;"⟩ : MethodName) 3 45 2 4 #[(.ref s), .int 6, .int 6] h0 [] (fun rv h' => ∃ (a : Addr) (t : Addr) (kt : ClassId), rv = some (.ref a) ∧ Exa Z h' a "java/lang/String" ∧ Fld Z h' a "java/lang/String" "coder" "B" (.int 0) ∧ Fld Z h' a "java/lang/String" "value" "[B" (.ref t) ∧ Arv Z h' t kt .byte (0 : Int32) [] (.int 0)) := by
  have hEL := am.1
  refine CtW.py (by0 := zc17) (ml := 5) (rt := (some (.object "java/lang/String"))) (rm := ({ frames := 2, cells := 2, slots := 4, locals := 29 } : Room)) ?_ (hq hw 234 rfl) (hq hw 6 rfl)
  refine CtW.mk (a0 := a0) (Ls := #[.val (.ref s), .val (.int 6), .val (.int 6), .unset, .unset]) (plainFor_of_name pn_java_lang_String) (fun m => by simp [entryFrame, mkF, argsToLocals, Value.category]) ?_
  intro κ C
  show GoW l _ Z _ _ _ _ _ κ [] h0 0 #[.val (.ref s), .val (.int 6), .val (.int 6), .unset, .unset] [] 0 0
  refine wk1' C 1 d44_0 rfl rfl rfl (ws' C (a := s) (argsL := []) (W := 0) d44_1 (hq hw 213 rfl) (hq hw 76 rfl) (nfS (hq hw 78 rfl)) (hq hw 78 rfl) (hq hw 77 rfl) p0 (by decide) pd___I (ct_len0_6 l Z a0 hw am (s := s) (t := v) (kB := kv) (vs := [.int x0, .int x1, .int x2, .int x3, .int x4, .int x5]) p0 p1 p2 p3) rfl (Nat.le_of_eq rfl) rfl (by decide) mems0 ?_)
  intro fv1 ph2 K3 fq4
  obtain ⟨rfl, rfl⟩ := fq4
  refine ⟨[], fresh0, ?_⟩
  show GoW l _ Z _ _ _ _ _ κ _ _ 4 _ [.int 6] 0 0
  refine wg3' C 5 (Ls' := #[.val (.ref s), .val (.int 6), .val (.int 6), .val (.int 6), .unset]) d44_4 rfl rfl (ww' C 6 d44_5 rfl rfl ?_)
  refine ww' C 7 d44_6 rfl rfl (ww' C 8 d44_7 rfl rfl ?_)
  refine wz1' C (argsL := [.int 6, .int 6, .int 6]) (W := 0) d44_8 (hq hw 235 rfl) (hq hw 236 rfl) (hq hw 6 rfl) (hq hw 237 rfl) (by decide) pd__III_V (ct_cbe l Z a0 hw am (i := (6 : Int32)) (j := (6 : Int32)) (n := (6 : Int32)) (by decide) (by decide) (by decide)) rfl (Nat.le_of_eq rfl) rfl (by decide) mems0 ?_
  intro fv5 ph6 K7 fq8
  obtain ⟨rfl, rfl⟩ := fq8
  refine ⟨[], fresh0, ?_⟩
  show GoW l _ Z _ _ _ _ _ κ _ _ 11 _ [] 0 0
  refine ww' C 12 d44_11 rfl rfl (ww2' C (pc' := 22) d44_12 (by decide) (by decide) (by decide) ?_)
  refine ww' C 23 d44_22 rfl rfl (ww' C 24 d44_23 rfl rfl ?_)
  refine wk3' C 25 (0 : Int32) d44_24 rfl (by decide) (wi1' C 27 (Ls' := #[.val (.ref s), .val (.int 6), .val (.int 6), .val (.int 6), .val (.int 0)]) d44_25 rfl rfl ?_)
  refine wk1' C 28 d44_27 rfl rfl rfl (ws' C (a := s) (argsL := []) (W := 0) d44_28 (hq hw 243 rfl) (hq hw 244 rfl) (nfS (hq hw 246 rfl)) (hq hw 246 rfl) (hq hw 245 rfl) p0 (by decide) pd___Z (ct_isl0 l Z a0 hw am (s := s) p1) rfl (Nat.le_of_eq rfl) rfl (by decide) mems0 ?_)
  intro fv9 ph10 K11 fq12
  obtain ⟨rfl, rfl⟩ := fq12
  refine ⟨[], fresh0, ?_⟩
  show GoW l _ Z _ _ _ _ _ κ _ _ 31 _ [.int 1] 0 0
  refine ws1' C 34 d44_31 rfl (by decide) (wk1' C 35 d44_34 rfl rfl rfl ?_)
  refine wp2' C 38 d44_35 rfl (hq hw 32 rfl) Via.refl p2 (ww' C 39 d44_38 rfl rfl ?_)
  refine wn' C 41 d44_39 rfl rfl (wq2' C hEL (argsL := [(.ref v), .int 6, .int 0]) (W := 0) d44_41 (hq hw 248 rfl) (hq hw 249 rfl) (hq hw 190 rfl) (hq hw 250 rfl) (by decide) pd___BII_Ljava_lang_String_ (ct_ns6_6 l Z a0 hw am (v := v) (kv := kv) (x0 := x0) (x1 := x1) (x2 := x2) (x3 := x3) (x4 := x4) (x5 := x5) p3) rfl (Nat.le_of_eq rfl) rfl (by decide) mems0 ?_)
  intro fv13 ph14 K15 fq16
  obtain ⟨a17, t18, kt19, rfl, fx20, fx21, fx22, fx23⟩ := fq16
  show GoW l _ Z _ _ _ _ _ κ _ _ 44 _ [(.ref a17)] 2 4
  refine wy2' C (pc' := 57) d44_44 (by decide) (by decide) (wg2' C hEL (v := (.ref a17)) d44_57 rfl rfl rfl (by decide) (by decide) ?_)
  exact ⟨a17, t18, kt19, rfl, fx20, fx21, fx22, fx23⟩
theorem ct_ss6_6 (l : Launch) (Z : State) (a0 : Array Value) (hw : HW a0 Z) {cS : Int32} {fm : Value} (am : Amb Z a0 cS fm) {s v : Addr} {kv : ClassId} {x0 x1 x2 x3 x4 x5 : Int32} {h0 : Heap} (p0 : Exa Z h0 s "java/lang/String") (p1 : Fld Z h0 s "java/lang/String" "coder" "B" (.int 0)) (p2 : Fld Z h0 s "java/lang/String" "value" "[B" (.ref v)) (p3 : Arv Z h0 v kv .byte (6 : Int32) [.int x0, .int x1, .int x2, .int x3, .int x4, .int x5] (.int 0)) :
    PyW l Z consts_1 a0 (⟨"java/lang/String", "substring", "(I)Ljava/lang/String;"⟩ : MethodName) 4 58 2 4 #[(.ref s), .int 6] h0 [] (fun rv h' => ∃ (a : Addr) (t : Addr) (kt : ClassId), rv = some (.ref a) ∧ Exa Z h' a "java/lang/String" ∧ Fld Z h' a "java/lang/String" "coder" "B" (.int 0) ∧ Fld Z h' a "java/lang/String" "value" "[B" (.ref t) ∧ Arv Z h' t kt .byte (0 : Int32) [] (.int 0)) := by
  have hEL := am.1
  refine CtW.py (by0 := zc16) (ml := 2) (rt := (some (.object "java/lang/String"))) (rm := ({ frames := 3, cells := 2, slots := 4, locals := 45 } : Room)) ?_ (hq hw 229 rfl) (hq hw 6 rfl)
  refine CtW.mk (a0 := a0) (Ls := #[.val (.ref s), .val (.int 6)]) (plainFor_of_name pn_java_lang_String) (fun m => by simp [entryFrame, mkF, argsToLocals, Value.category]) ?_
  intro κ C
  show GoW l _ Z _ _ _ _ _ κ [] h0 0 #[.val (.ref s), .val (.int 6)] [] 0 0
  refine wk1' C 1 d43_0 rfl rfl rfl (ww' C 2 d43_1 rfl rfl ?_)
  refine wk1' C 3 d43_2 rfl rfl rfl (ws' C (a := s) (argsL := []) (W := 2) d43_3 (hq hw 213 rfl) (hq hw 76 rfl) (nfS (hq hw 78 rfl)) (hq hw 78 rfl) (hq hw 77 rfl) p0 (by decide) pd___I (ct_len0_6 l Z a0 hw am (s := s) (t := v) (kB := kv) (vs := [.int x0, .int x1, .int x2, .int x3, .int x4, .int x5]) p0 p1 p2 p3) rfl (Nat.le_of_eq rfl) rfl (by decide) mems0 ?_)
  intro fv1 ph2 K3 fq4
  obtain ⟨rfl, rfl⟩ := fq4
  refine ⟨[], fresh0, ?_⟩
  show GoW l _ Z _ _ _ _ _ κ _ _ 6 _ [.int 6, .int 6, (.ref s)] 0 0
  refine wk2' C hEL (a := s) (argsL := [.int 6, .int 6]) (W := 0) d43_6 (hq hw 230 rfl) (hq hw 231 rfl) (nfS (hq hw 233 rfl)) (hq hw 233 rfl) (hq hw 232 rfl) p0 (by decide) pd__II_Ljava_lang_String_ (ct_su6_6 l Z a0 hw am (s := s) (v := v) (kv := kv) (x0 := x0) (x1 := x1) (x2 := x2) (x3 := x3) (x4 := x4) (x5 := x5) p0 p1 p2 p3) rfl (Nat.le_of_eq rfl) rfl (by decide) mems0 ?_
  intro fv5 ph6 K7 fq8
  obtain ⟨a9, t10, kt11, rfl, fx12, fx13, fx14, fx15⟩ := fq8
  show GoW l _ Z _ _ _ _ _ κ _ _ 9 _ [(.ref a9)] 2 4
  refine wg2' C hEL (v := (.ref a9)) d43_9 rfl rfl rfl (by decide) (by decide) ?_
  exact ⟨a9, t10, kt11, rfl, fx12, fx13, fx14, fx15⟩
theorem ct_sub0 (l : Launch) (Z : State) (a0 : Array Value) (hw : HW a0 Z) {cS : Int32} {fm : Value} (am : Amb Z a0 cS fm) {q m u : Addr} {ku : ClassId} {h0 : Heap} (p0 : Exa Z h0 q "com/example/evenlot/evenlot/Source") (p1 : Fld Z h0 q "com/example/evenlot/evenlot/Source" "name" "Ljava/lang/String;" (.ref m)) (p2 : Exa Z h0 m "java/lang/String") (p3 : Fld Z h0 m "java/lang/String" "coder" "B" (.int 0)) (p4 : Fld Z h0 m "java/lang/String" "value" "[B" (.ref u)) (p5 : Arv Z h0 u ku .byte (6 : Int32) [.int 115, .int 116, .int 111, .int 99, .int 107, .int 47] (.int 0)) :
    PyW l Z consts_1 a0 (⟨"com/example/evenlot/evenlot/Source", "subtype", "()Ljava/lang/String;"⟩ : MethodName) 6 83 6 52 #[(.ref q)] h0 [] (fun rv h' => ∃ (a : Addr) (t : Addr) (kt : ClassId), rv = some (.ref a) ∧ Exa Z h' a "java/lang/String" ∧ Fld Z h' a "java/lang/String" "coder" "B" (.int 0) ∧ Fld Z h' a "java/lang/String" "value" "[B" (.ref t) ∧ Arv Z h' t kt .byte (0 : Int32) [] (.int 0)) := by
  have hEL := am.1
  refine CtW.py (by0 := zc46) (ml := 1) (rt := (some (.object "java/lang/String"))) (rm := ({ frames := 5, cells := 6, slots := 52, locals := 71 } : Room)) ?_ (hq hw 222 rfl) (hq hw 42 rfl)
  refine CtW.mk (a0 := a0) (Ls := #[.val (.ref q)]) (plainFor_of_name pn_com_example_evenlot_evenlot_Source) (fun m => by simp [entryFrame, mkF, argsToLocals, Value.category]) ?_
  intro κ C
  show GoW l _ Z _ _ _ _ _ κ [] h0 0 #[.val (.ref q)] [] 0 0
  refine wk1' C 1 d42_0 rfl rfl rfl (wk2' C hEL (a := q) (argsL := []) (W := 0) d42_1 (hq hw 223 rfl) (hq hw 198 rfl) (nfS (hq hw 200 rfl)) (hq hw 200 rfl) (hq hw 199 rfl) p0 (by decide) pd___Z (ct_isl0_ l Z a0 hw am (q := q) (m := m) (u := u) (ku := ku) p0 p1 p2 p3 p4 p5) rfl (Nat.le_of_eq rfl) rfl (by decide) mems0 ?_)
  intro fv1 ph2 K3 fq4
  obtain rfl := fq4
  show GoW l _ Z _ _ _ _ _ κ _ _ 4 _ [.int 0] 2 20
  refine ww2' C (pc' := 34) d42_4 (by decide) (by decide) (by decide) (wk1' C 35 d42_34 rfl rfl rfl ?_)
  have fx5 := (p1.keep K3 nin0)
  refine wp2' C 38 d42_35 rfl (hq hw 168 rfl) Via.refl fx5 (wi2' C hEL 40 4 48 (n := 24) (vs := [.int 115, .int 116, .int 111, .int 99, .int 107, .int 47]) (zn := (6 : Int32)) d42_38 rfl rfl rfl (hq hw 64 rfl) (wS hw) (List.mem_of_getElem? (i := 0) rfl) (by decide) (by decide) rfl (by decide) (by decide) (by decide) (by decide) ?_)
  intro sa6 sb7 k8 ph9 E10 fx11 fx12 fx13 fx14 fn15
  refine ws' C (a := sa6) (argsL := []) (W := 1) d42_40 (hq hw 224 rfl) (hq hw 76 rfl) (nfS (hq hw 78 rfl)) (hq hw 78 rfl) (hq hw 77 rfl) fx11 (by decide) pd___I (ct_len0_6 l Z a0 hw am (s := sa6) (t := sb7) (kB := k8) (vs := [.int 115, .int 116, .int 111, .int 99, .int 107, .int 47]) fx11 fx12 fx13 fx14) rfl (Nat.le_of_eq rfl) rfl (by decide) mems0 ?_
  intro fv16 ph17 K18 fq19
  obtain ⟨rfl, rfl⟩ := fq19
  refine ⟨[], fresh0, ?_⟩
  show GoW l _ Z _ _ _ _ _ κ _ _ 43 _ [.int 6, (.ref m)] 4 48
  have fx20 := (Exa.ext E10 (p2.keep K3))
  have fx21 := (Fld.ext E10 (p3.keep K3 nin0))
  have fx22 := (Fld.ext E10 (p4.keep K3 nin0))
  have fx23 := ((p5.keep K3 nin0).ext E10)
  refine wk2' C hEL (a := m) (argsL := [.int 6]) (W := 0) d42_43 (hq hw 225 rfl) (hq hw 226 rfl) (nfS (hq hw 228 rfl)) (hq hw 228 rfl) (hq hw 227 rfl) fx20 (by decide) pd__I_Ljava_lang_String_ (ct_ss6_6 l Z a0 hw am (s := m) (v := u) (kv := ku) (x0 := (115 : Int32)) (x1 := (116 : Int32)) (x2 := (111 : Int32)) (x3 := (99 : Int32)) (x4 := (107 : Int32)) (x5 := (47 : Int32)) fx20 fx21 fx22 fx23) rfl (Nat.le_of_eq rfl) rfl (by decide) mems0 ?_
  intro fv24 ph25 K26 fq27
  obtain ⟨a28, t29, kt30, rfl, fx31, fx32, fx33, fx34⟩ := fq27
  show GoW l _ Z _ _ _ _ _ κ _ _ 46 _ [(.ref a28)] 6 52
  refine wg2' C hEL (v := (.ref a28)) d42_46 rfl rfl rfl (by decide) (by decide) ?_
  exact ⟨a28, t29, kt30, rfl, fx31, fx32, fx33, fx34⟩
theorem ct_len0_7 (l : Launch) (Z : State) (a0 : Array Value) (hw : HW a0 Z) {cS : Int32} {fm : Value} (am : Amb Z a0 cS fm) {s t : Addr} {kB : ClassId} {vs : List Value} {h0 : Heap} (p0 : Exa Z h0 s "java/lang/String") (p1 : Fld Z h0 s "java/lang/String" "coder" "B" (.int 0)) (p2 : Fld Z h0 s "java/lang/String" "value" "[B" (.ref t)) (p3 : Arv Z h0 t kB .byte (7 : Int32) vs (.int 0)) :
    Py l Z (⟨"java/lang/String", "length", "()I"⟩ : MethodName) 2 25 0 0 #[(.ref s)] h0 [] (fun rv h' => rv = some (.int 7) ∧ h' = h0) := by
  refine Ct.py (by0 := zc12) (ml := 1) (rt := (some .int)) (rm := ({ frames := 1, cells := 0, slots := 0, locals := 13 } : Room)) ?_ (hq hw 79 rfl) (hq hw 6 rfl)
  refine Ct.mk (a0 := a0) (Ls := #[.val (.ref s)]) (plainFor_of_name pn_java_lang_String) (fun m => by simp [entryFrame, mkF, argsToLocals, Value.category]) ?_
  intro κ C
  show Go l _ Z _ _ _ κ [] h0 0 #[.val (.ref s)] [] 0 0
  refine oc' C 1 d14_0 rfl rfl rfl (ok' C 4 d14_1 rfl (hq hw 32 rfl) Via.refl p2 ?_)
  refine oj' C 5 d14_4 rfl p3 (oc' C 6 d14_5 rfl rfl rfl ?_)
  refine oo' C (a := s) (argsL := []) (W := 1) d14_6 (hq hw 80 rfl) (hq hw 81 rfl) (nfS (hq hw 83 rfl)) (hq hw 83 rfl) (hq hw 82 rfl) p0 (by decide) pd___B (ct_cod0 l Z a0 hw am (s := s) p1) rfl (Nat.le_of_eq rfl) rfl (by decide) mems0 ?_
  intro fv1 ph2 K3 fq4
  obtain ⟨rfl, rfl⟩ := fq4
  refine ⟨[], fresh0, ?_⟩
  show Go l _ Z _ _ _ κ _ _ 9 _ [.int 0, .int 7] 0 0
  refine om2' C 10 (7 : Int32) d14_9 rfl (by decide) (ol1' C d14_10 rfl (by decide) (by decide) ?_)
  exact ⟨rfl, rfl⟩
theorem ct_mis7_lot (l : Launch) (Z : State) (a0 : Array Value) (hw : HW a0 Z) {cS : Int32} {fm : Value} (am : Amb Z a0 cS fm) {v u : Addr} {kv ku : ClassId} {x6 : Int32} {h0 : Heap} (p0 : Arv Z h0 v kv .byte (7 : Int32) [.int 115, .int 116, .int 111, .int 99, .int 107, .int 47, .int x6] (.int 0)) (p1 : Arv Z h0 u ku .byte (4 : Int32) [.int 108, .int 111, .int 116, .int 47] (.int 0)) :
    Py l Z (⟨"jdk/internal/util/ArraysSupport", "mismatch", "([BI[BII)I"⟩ : MethodName) 1 19 0 0 #[(.ref v), .int 0, (.ref u), .int 0, .int 4] h0 [] (fun rv h' => rv = some (.int 0) ∧ h' = h0) := by
  refine Ct.py (by0 := zc20) (ml := 8) (rt := (some .int)) (rm := ({ frames := 0, cells := 0, slots := 0, locals := 0 } : Room)) ?_ (hq hw 217 rfl) (hq hw 216 rfl)
  refine Ct.mk (a0 := a0) (Ls := #[.val (.ref v), .val (.int 0), .val (.ref u), .val (.int 0), .val (.int 4), .unset, .unset, .unset]) (plainFor_of_name pn_jdk_internal_util_ArraysSupport) (fun m => by simp [entryFrame, mkF, argsToLocals, Value.category]) ?_
  intro κ C
  show Go l _ Z _ _ _ κ [] h0 0 #[.val (.ref v), .val (.int 0), .val (.ref u), .val (.int 0), .val (.int 4), .unset, .unset, .unset] [] 0 0
  refine of' C 1 (0 : Int32) d41_0 rfl (by decide) (ol' C 3 (Ls' := #[.val (.ref v), .val (.int 0), .val (.ref u), .val (.int 0), .val (.int 4), .val (.int 0), .unset, .unset]) d41_1 rfl rfl ?_)
  refine oa' C 5 d41_3 rfl rfl (ox' C 7 (7 : Int32) d41_5 rfl (by decide) ?_)
  refine oh' C (pc' := 70) d41_7 (by decide) (by decide) (by decide) (oa' C 72 d41_70 rfl rfl ?_)
  refine oa' C 74 d41_72 rfl rfl (oi' C 77 d41_74 rfl (by decide) ?_)
  refine oc' C 78 d41_77 rfl rfl rfl (od' C 79 d41_78 rfl rfl ?_)
  refine oa' C 81 d41_79 rfl rfl (ox1' C 82 (0 : Int32) d41_81 rfl (by decide) ?_)
  refine op' C 83 (v := (.int 115)) d41_82 rfl p0 (by decide) rfl (oc' C 84 d41_83 rfl rfl rfl ?_)
  refine od' C 85 d41_84 rfl rfl (oa' C 87 d41_85 rfl rfl ?_)
  refine ox1' C 88 (0 : Int32) d41_87 rfl (by decide) (op' C 89 (v := (.int 108)) d41_88 rfl p1 (by decide) rfl ?_)
  refine oi' C 92 d41_89 rfl (by decide) (oa' C 94 d41_92 rfl rfl ?_)
  refine ol1' C d41_94 rfl (by decide) (by decide) ?_
  exact ⟨rfl, rfl⟩
theorem ct_sw27_lot (l : Launch) (Z : State) (a0 : Array Value) (hw : HW a0 Z) {cS : Int32} {fm : Value} (am : Amb Z a0 cS fm) {s p v u : Addr} {kv ku : ClassId} {x6 : Int32} {h0 : Heap} (p0 : Exa Z h0 s "java/lang/String") (p1 : Fld Z h0 s "java/lang/String" "coder" "B" (.int 0)) (p2 : Fld Z h0 s "java/lang/String" "value" "[B" (.ref v)) (p3 : Arv Z h0 v kv .byte (7 : Int32) [.int 115, .int 116, .int 111, .int 99, .int 107, .int 47, .int x6] (.int 0)) (p4 : Exa Z h0 p "java/lang/String") (p5 : Fld Z h0 p "java/lang/String" "coder" "B" (.int 0)) (p6 : Fld Z h0 p "java/lang/String" "value" "[B" (.ref u)) (p7 : Arv Z h0 u ku .byte (4 : Int32) [.int 108, .int 111, .int 116, .int 47] (.int 0)) :
    Py l Z (⟨"java/lang/String", "startsWith", "(Ljava/lang/String;I)Z"⟩ : MethodName) 3 46 0 0 #[(.ref s), (.ref p), .int 0] h0 [] (fun rv h' => rv = some (.int 0) ∧ h' = h0) := by
  refine Ct.py (by0 := zc14) (ml := 8) (rt := (some .boolean)) (rm := ({ frames := 2, cells := 0, slots := 0, locals := 27 } : Room)) ?_ (hq hw 212 rfl) (hq hw 6 rfl)
  refine Ct.mk (a0 := a0) (Ls := #[.val (.ref s), .val (.ref p), .val (.int 0), .unset, .unset, .unset, .unset, .unset]) (plainFor_of_name pn_java_lang_String) (fun m => by simp [entryFrame, mkF, argsToLocals, Value.category]) ?_
  intro κ C
  show Go l _ Z _ _ _ κ [] h0 0 #[.val (.ref s), .val (.ref p), .val (.int 0), .unset, .unset, .unset, .unset, .unset] [] 0 0
  refine od' C 1 d40_0 rfl rfl (ot' C 4 d40_1 rfl (by decide) ?_)
  refine od' C 5 d40_4 rfl rfl (oc' C 6 d40_5 rfl rfl rfl ?_)
  refine oo' C (a := s) (argsL := []) (W := 1) d40_6 (hq hw 213 rfl) (hq hw 76 rfl) (nfS (hq hw 78 rfl)) (hq hw 78 rfl) (hq hw 77 rfl) p0 (by decide) pd___I (ct_len0_7 l Z a0 hw am (s := s) (t := v) (kB := kv) (vs := [.int 115, .int 116, .int 111, .int 99, .int 107, .int 47, .int x6]) p0 p1 p2 p3) rfl (Nat.le_of_eq rfl) rfl (by decide) mems0 ?_
  intro fv1 ph2 K3 fq4
  obtain ⟨rfl, rfl⟩ := fq4
  refine ⟨[], fresh0, ?_⟩
  show Go l _ Z _ _ _ κ _ _ 9 _ [.int 7, .int 0] 0 0
  refine oc' C 10 d40_9 rfl rfl rfl (oo' C (a := p) (argsL := []) (W := 2) d40_10 (hq hw 213 rfl) (hq hw 76 rfl) (nfS (hq hw 78 rfl)) (hq hw 78 rfl) (hq hw 77 rfl) p4 (by decide) pd___I (ct_len0_4 l Z a0 hw am (s := p) (t := u) (kB := ku) (vs := [.int 108, .int 111, .int 116, .int 47]) p4 p5 p6 p7) rfl (Nat.le_of_eq rfl) rfl (by decide) mems0 ?_)
  intro fv5 ph6 K7 fq8
  obtain ⟨rfl, rfl⟩ := fq8
  refine ⟨[], fresh0, ?_⟩
  show Go l _ Z _ _ _ κ _ _ 13 _ [.int 4, .int 7, .int 0] 0 0
  refine oj1' C 14 (3 : Int32) d40_13 rfl (by decide) (oh' C (pc' := 19) d40_14 (by decide) (by decide) (by decide) ?_)
  refine oc' C 20 d40_19 rfl rfl rfl (ok' C 23 d40_20 rfl (hq hw 32 rfl) Via.refl p2 ?_)
  refine ov1' C 24 (Ls' := #[.val (.ref s), .val (.ref p), .val (.int 0), .val (.ref v), .unset, .unset, .unset, .unset]) d40_23 rfl rfl rfl (oc' C 25 d40_24 rfl rfl rfl ?_)
  refine ok' C 28 d40_25 rfl (hq hw 32 rfl) Via.refl p6 (ob1' C 30 (Ls' := #[.val (.ref s), .val (.ref p), .val (.int 0), .val (.ref v), .val (.ref u), .unset, .unset, .unset]) d40_28 rfl rfl rfl ?_)
  refine of' C 31 (0 : Int32) d40_30 rfl (by decide) (ol' C 33 (Ls' := #[.val (.ref s), .val (.ref p), .val (.int 0), .val (.ref v), .val (.ref u), .val (.int 0), .unset, .unset]) d40_31 rfl rfl ?_)
  refine ob' C 35 d40_33 rfl rfl rfl (oj' C 36 d40_35 rfl p7 ?_)
  refine ol' C 38 (Ls' := #[.val (.ref s), .val (.ref p), .val (.int 0), .val (.ref v), .val (.ref u), .val (.int 0), .val (.int 4), .unset]) d40_36 rfl rfl (oc' C 39 d40_38 rfl rfl rfl ?_)
  refine oo' C (a := s) (argsL := []) (W := 0) d40_39 (hq hw 80 rfl) (hq hw 81 rfl) (nfS (hq hw 83 rfl)) (hq hw 83 rfl) (hq hw 82 rfl) p0 (by decide) pd___B (ct_cod0 l Z a0 hw am (s := s) p1) rfl (Nat.le_of_eq rfl) rfl (by decide) mems0 ?_
  intro fv9 ph10 K11 fq12
  obtain ⟨rfl, rfl⟩ := fq12
  refine ⟨[], fresh0, ?_⟩
  show Go l _ Z _ _ _ κ _ _ 42 _ [.int 0] 0 0
  refine ol' C 44 (Ls' := #[.val (.ref s), .val (.ref p), .val (.int 0), .val (.ref v), .val (.ref u), .val (.int 0), .val (.int 4), .val (.int 0)]) d40_42 rfl rfl (oa' C 46 d40_44 rfl rfl ?_)
  refine oc' C 47 d40_46 rfl rfl rfl (oo' C (a := p) (argsL := []) (W := 1) d40_47 (hq hw 80 rfl) (hq hw 81 rfl) (nfS (hq hw 83 rfl)) (hq hw 83 rfl) (hq hw 82 rfl) p4 (by decide) pd___B (ct_cod0 l Z a0 hw am (s := p) p5) rfl (Nat.le_of_eq rfl) rfl (by decide) mems0 ?_)
  intro fv13 ph14 K15 fq16
  obtain ⟨rfl, rfl⟩ := fq16
  refine ⟨[], fresh0, ?_⟩
  show Go l _ Z _ _ _ κ _ _ 50 _ [.int 0, .int 0] 0 0
  refine oi' C 53 d40_50 rfl (by decide) (oa' C 55 d40_53 rfl rfl ?_)
  refine of' C 56 (1 : Int32) d40_55 rfl (by decide) (oh' C (pc' := 63) d40_56 (by decide) (by decide) (by decide) ?_)
  refine oc' C 64 d40_63 rfl rfl rfl (od' C 65 d40_64 rfl rfl ?_)
  refine ob' C 67 d40_65 rfl rfl rfl (of' C 68 (0 : Int32) d40_67 rfl (by decide) ?_)
  refine oa' C 70 d40_68 rfl rfl (or' C (argsL := [(.ref v), .int 0, (.ref u), .int 0, .int 4]) (W := 0) d40_70 (hq hw 214 rfl) (hq hw 215 rfl) (hq hw 216 rfl) (hq hw 217 rfl) (by decide) pd___BI_BII_I (ct_mis7_lot l Z a0 hw am (v := v) (u := u) (kv := kv) (ku := ku) (x6 := x6) p3 p7) rfl (Nat.le_of_eq rfl) rfl (by decide) mems0 ?_)
  intro fv17 ph18 K19 fq20
  obtain ⟨rfl, rfl⟩ := fq20
  refine ⟨[], fresh0, ?_⟩
  show Go l _ Z _ _ _ κ _ _ 73 _ [.int 0] 0 0
  refine om1' C (pc' := 80) d40_73 (by decide) (by decide) (by decide) (of' C 81 (0 : Int32) d40_80 rfl (by decide) ?_)
  refine oz' C (t := .boolean) (z := (0 : Int32)) d40_81 rfl (by decide) (by decide) (by decide) (by decide) ?_
  exact ⟨rfl, rfl⟩
theorem ct_sw17_lot (l : Launch) (Z : State) (a0 : Array Value) (hw : HW a0 Z) {cS : Int32} {fm : Value} (am : Amb Z a0 cS fm) {s p v u : Addr} {kv ku : ClassId} {x6 : Int32} {h0 : Heap} (p0 : Exa Z h0 s "java/lang/String") (p1 : Fld Z h0 s "java/lang/String" "coder" "B" (.int 0)) (p2 : Fld Z h0 s "java/lang/String" "value" "[B" (.ref v)) (p3 : Arv Z h0 v kv .byte (7 : Int32) [.int 115, .int 116, .int 111, .int 99, .int 107, .int 47, .int x6] (.int 0)) (p4 : Exa Z h0 p "java/lang/String") (p5 : Fld Z h0 p "java/lang/String" "coder" "B" (.int 0)) (p6 : Fld Z h0 p "java/lang/String" "value" "[B" (.ref u)) (p7 : Arv Z h0 u ku .byte (4 : Int32) [.int 108, .int 111, .int 116, .int 47] (.int 0)) :
    Py l Z (⟨"java/lang/String", "startsWith", "(Ljava/lang/String;)Z"⟩ : MethodName) 4 59 0 0 #[(.ref s), (.ref p)] h0 [] (fun rv h' => rv = some (.int 0) ∧ h' = h0) := by
  refine Ct.py (by0 := zc15) (ml := 2) (rt := (some .boolean)) (rm := ({ frames := 3, cells := 0, slots := 0, locals := 46 } : Room)) ?_ (hq hw 207 rfl) (hq hw 6 rfl)
  refine Ct.mk (a0 := a0) (Ls := #[.val (.ref s), .val (.ref p)]) (plainFor_of_name pn_java_lang_String) (fun m => by simp [entryFrame, mkF, argsToLocals, Value.category]) ?_
  intro κ C
  show Go l _ Z _ _ _ κ [] h0 0 #[.val (.ref s), .val (.ref p)] [] 0 0
  refine oc' C 1 d39_0 rfl rfl rfl (oc' C 2 d39_1 rfl rfl rfl ?_)
  refine of' C 3 (0 : Int32) d39_2 rfl (by decide) (oo' C (a := s) (argsL := [(.ref p), .int 0]) (W := 0) d39_3 (hq hw 208 rfl) (hq hw 209 rfl) (nfS (hq hw 211 rfl)) (hq hw 211 rfl) (hq hw 210 rfl) p0 (by decide) pd__Ljava_lang_String_I_Z (ct_sw27_lot l Z a0 hw am (s := s) (p := p) (v := v) (u := u) (kv := kv) (ku := ku) (x6 := x6) p0 p1 p2 p3 p4 p5 p6 p7) rfl (Nat.le_of_eq rfl) rfl (by decide) mems0 ?_)
  intro fv1 ph2 K3 fq4
  obtain ⟨rfl, rfl⟩ := fq4
  refine ⟨[], fresh0, ?_⟩
  show Go l _ Z _ _ _ κ _ _ 6 _ [.int 0] 0 0
  refine oz' C (t := .boolean) (z := (0 : Int32)) d39_6 rfl (by decide) (by decide) (by decide) (by decide) ?_
  exact ⟨rfl, rfl⟩
theorem ct_isl1_ (l : Launch) (Z : State) (a0 : Array Value) (hw : HW a0 Z) {cS : Int32} {fm : Value} (am : Amb Z a0 cS fm) {q m u : Addr} {ku : ClassId} {y0 : Int32} {h0 : Heap} (p0 : Exa Z h0 q "com/example/evenlot/evenlot/Source") (p1 : Fld Z h0 q "com/example/evenlot/evenlot/Source" "name" "Ljava/lang/String;" (.ref m)) (p2 : Exa Z h0 m "java/lang/String") (p3 : Fld Z h0 m "java/lang/String" "coder" "B" (.int 0)) (p4 : Fld Z h0 m "java/lang/String" "value" "[B" (.ref u)) (p5 : Arv Z h0 u ku .byte (7 : Int32) [.int 115, .int 116, .int 111, .int 99, .int 107, .int 47, .int y0] (.int 0)) :
    PyW l Z consts_1 a0 (⟨"com/example/evenlot/evenlot/Source", "isLot", "()Z"⟩ : MethodName) 5 71 2 20 #[(.ref q)] h0 [] (fun rv h' => rv = some (.int 0)) := by
  have hEL := am.1
  refine CtW.py (by0 := zc47) (ml := 1) (rt := (some .boolean)) (rm := ({ frames := 4, cells := 2, slots := 20, locals := 59 } : Room)) ?_ (hq hw 201 rfl) (hq hw 42 rfl)
  refine CtW.mk (a0 := a0) (Ls := #[.val (.ref q)]) (plainFor_of_name pn_com_example_evenlot_evenlot_Source) (fun m => by simp [entryFrame, mkF, argsToLocals, Value.category]) ?_
  intro κ C
  show GoW l _ Z _ _ _ _ _ κ [] h0 0 #[.val (.ref q)] [] 0 0
  refine wk1' C 1 d38_0 rfl rfl rfl (wp2' C 4 d38_1 rfl (hq hw 168 rfl) Via.refl p1 ?_)
  refine wi2' C hEL 6 2 20 (n := 16) (vs := [.int 108, .int 111, .int 116, .int 47]) (zn := (4 : Int32)) d38_4 rfl rfl rfl (hq hw 202 rfl) (wS hw) (List.mem_of_getElem? (i := 1) rfl) (by decide) (by decide) rfl (by decide) (by decide) (by decide) (by decide) ?_
  intro sa1 sb2 k3 ph4 E5 fx6 fx7 fx8 fx9 fn10
  have fx11 := (Exa.ext E5 p2)
  have fx12 := (Fld.ext E5 p3)
  have fx13 := (Fld.ext E5 p4)
  have fx14 := (p5.ext E5)
  refine ws' C (a := m) (argsL := [(.ref sa1)]) (W := 0) d38_6 (hq hw 203 rfl) (hq hw 204 rfl) (nfS (hq hw 206 rfl)) (hq hw 206 rfl) (hq hw 205 rfl) fx11 (by decide) pd__Ljava_lang_String__Z (ct_sw17_lot l Z a0 hw am (s := m) (p := sa1) (v := u) (u := sb2) (kv := ku) (ku := k3) (x6 := y0) fx11 fx12 fx13 fx14 fx6 fx7 fx8 fx9) rfl (Nat.le_of_eq rfl) rfl (by decide) mems0 ?_
  intro fv15 ph16 K17 fq18
  obtain ⟨rfl, rfl⟩ := fq18
  refine ⟨[], fresh0, ?_⟩
  show GoW l _ Z _ _ _ _ _ κ _ _ 9 _ [.int 0] 2 20
  refine ws2' C hEL (t := .boolean) (z := (0 : Int32)) d38_9 rfl (by decide) (by decide) (by decide) (by decide) ?_
  exact rfl
theorem ct_cl6_7 (l : Launch) (Z : State) (a0 : Array Value) (hw : HW a0 Z) {cS : Int32} {fm : Value} (am : Amb Z a0 cS fm) {h0 : Heap} :
    Py l Z (⟨"java/util/Arrays", "checkLength", "(II)V"⟩ : MethodName) 1 13 0 0 #[.int 6, .int 7] h0 [] (fun rv h' => rv = none ∧ h' = h0) := by
  refine Ct.py (by0 := zc24) (ml := 2) (rt := none) (rm := ({ frames := 0, cells := 0, slots := 0, locals := 0 } : Room)) ?_ (hq hw 151 rfl) (hq hw 144 rfl)
  refine Ct.mk (a0 := a0) (Ls := #[.val (.int 6), .val (.int 7)]) (plainFor_of_name pn_java_util_Arrays) (fun m => by simp [entryFrame, mkF, argsToLocals, Value.category]) ?_
  intro κ C
  show Go l _ Z _ _ _ κ [] h0 0 #[.val (.int 6), .val (.int 7)] [] 0 0
  refine od' C 1 d29_0 rfl rfl (od' C 2 d29_1 rfl rfl ?_)
  refine oh' C (pc' := 37) d29_2 (by decide) (by decide) (by decide) (oe' C d29_37 rfl (by decide) (by decide) ?_)
  exact ⟨rfl, rfl⟩
theorem ct_min1_1 (l : Launch) (Z : State) (a0 : Array Value) (hw : HW a0 Z) {cS : Int32} {fm : Value} (am : Amb Z a0 cS fm) {h0 : Heap} :
    Py l Z (⟨"java/lang/Math", "min", "(II)I"⟩ : MethodName) 1 13 0 0 #[.int 1, .int 1] h0 [] (fun rv h' => rv = some (.int 1) ∧ h' = h0) := by
  refine Ct.py (by0 := zc0) (ml := 2) (rt := (some .int)) (rm := ({ frames := 0, cells := 0, slots := 0, locals := 0 } : Room)) ?_ (hq hw 155 rfl) (hq hw 154 rfl)
  refine Ct.mk (a0 := a0) (Ls := #[.val (.int 1), .val (.int 1)]) (Jvm.Free.JP.mathPlain rfl (by decide +kernel)) (fun m => by simp [entryFrame, mkF, argsToLocals, Value.category]) ?_
  intro κ C
  show Go l _ Z _ _ _ κ [] h0 0 #[.val (.int 1), .val (.int 1)] [] 0 0
  refine od' C 1 d30_0 rfl rfl (od' C 2 d30_1 rfl rfl ?_)
  refine oi' C 5 d30_2 rfl (by decide) (od' C 6 d30_5 rfl rfl ?_)
  refine om' C (pc' := 10) d30_6 (by decide) (by decide) (ol1' C d30_10 rfl (by decide) (by decide) ?_)
  exact ⟨rfl, rfl⟩
theorem ct_crb7_6_7 (l : Launch) (Z : State) (a0 : Array Value) (hw : HW a0 Z) {cS : Int32} {fm : Value} (am : Amb Z a0 cS fm) {v : Addr} {kv : ClassId} {x0 x1 x2 x3 x4 x5 x6 : Int32} {h0 : Heap} (p0 : Arv Z h0 v kv .byte (7 : Int32) [.int x0, .int x1, .int x2, .int x3, .int x4, .int x5, .int x6] (.int 0)) :
    Py l Z (⟨"java/util/Arrays", "copyOfRangeByte", "([BII)[B"⟩ : MethodName) 2 34 1 1 #[(.ref v), .int 6, .int 7] h0 [] (fun rv h' => ∃ (t : Addr) (kt : ClassId), rv = some (.ref t) ∧ Arv Z h' t kt .byte (1 : Int32) [.int x6] (.int 0) ∧ (h0.size ≤ t)) := by
  refine Ct.py (by0 := zc26) (ml := 5) (rt := (some (.array .byte))) (rm := ({ frames := 1, cells := 1, slots := 1, locals := 18 } : Room)) ?_ (hq hw 148 rfl) (hq hw 144 rfl)
  refine Ct.mk (a0 := a0) (Ls := #[.val (.ref v), .val (.int 6), .val (.int 7), .unset, .unset]) (plainFor_of_name pn_java_util_Arrays) (fun m => by simp [entryFrame, mkF, argsToLocals, Value.category]) ?_
  intro κ C
  show Go l _ Z _ _ _ κ [] h0 0 #[.val (.ref v), .val (.int 6), .val (.int 7), .unset, .unset] [] 0 0
  refine od' C 1 d28_0 rfl rfl (od' C 2 d28_1 rfl rfl ?_)
  refine or' C (argsL := [.int 6, .int 7]) (W := 0) d28_2 (hq hw 149 rfl) (hq hw 150 rfl) (hq hw 144 rfl) (hq hw 151 rfl) (by decide) pd__II_V (ct_cl6_7 l Z a0 hw am) rfl (Nat.le_of_eq rfl) rfl (by decide) mems0 ?_
  intro fv1 ph2 K3 fq4
  obtain ⟨rfl, rfl⟩ := fq4
  refine ⟨[], fresh0, ?_⟩
  show Go l _ Z _ _ _ κ _ _ 5 _ [] 0 0
  refine od' C 6 d28_5 rfl rfl (od' C 7 d28_6 rfl rfl ?_)
  refine oj1' C 8 (1 : Int32) d28_7 rfl (by decide) (op1' C 9 (Ls' := #[.val (.ref v), .val (.int 6), .val (.int 7), .val (.int 1), .unset]) d28_8 rfl rfl ?_)
  refine od' C 10 d28_9 rfl rfl (ow1' C 12 1 1 (ty := .byte) (cap := 1) d28_10 rfl rfl rfl rfl (hq hw 23 rfl) (by decide) (by decide) (by decide) (by decide) (by decide) ?_)
  intro b5 ph6 k7 g8 E9 V10
  have fx11 : Arv Z ph6 b5 k7 .byte (1 : Int32) [.int 0] (.int 0) := V10
  refine ob1' C 14 (Ls' := #[.val (.ref v), .val (.int 6), .val (.int 7), .val (.int 1), .val (.ref b5)]) d28_12 rfl rfl rfl (oc' C 15 d28_14 rfl rfl rfl ?_)
  refine od' C 16 d28_15 rfl rfl (ob' C 18 d28_16 rfl rfl rfl ?_)
  refine of' C 19 (0 : Int32) d28_18 rfl (by decide) (oc' C 20 d28_19 rfl rfl rfl ?_)
  have fx12 := (p0.ext E9)
  refine oj' C 21 d28_20 rfl fx12 (od' C 22 d28_21 rfl rfl ?_)
  refine oj1' C 23 (1 : Int32) d28_22 rfl (by decide) (od' C 24 d28_23 rfl rfl ?_)
  refine or' C (argsL := [.int 1, .int 1]) (W := 4) d28_24 (hq hw 152 rfl) (hq hw 153 rfl) (hq hw 154 rfl) (hq hw 155 rfl) (by decide) pd__II_I (ct_min1_1 l Z a0 hw am) rfl (Nat.le_of_eq rfl) rfl (by decide) mems0 ?_
  intro fv13 ph14 K15 fq16
  obtain ⟨rfl, rfl⟩ := fq16
  refine ⟨[], fresh0, ?_⟩
  show Go l _ Z _ _ _ κ _ _ 27 _ [.int 1, .int 0, (.ref b5), .int 6, (.ref v)] 1 1
  refine on2' C 30 (W := 0) (us := [.int x6]) (vr := [.int x6]) d28_27 rfl (hq hw 156 rfl) (hq hw 111 rfl) (hq hw 109 rfl) (hq hw 110 rfl) fx12 fx11 rfl (by decide) (by decide) (by decide) (by decide) (by decide) rfl (nble rfl) rfl rfl (by decide) (Nat.le_of_eq rfl) (by decide) (mi 0 rfl) ?_
  intro ph17 K18 fx19
  refine ob' C 32 d28_30 rfl rfl rfl (ov' C (v := (.ref b5)) d28_32 rfl rfl rfl (by decide) (by decide) ?_)
  exact ⟨b5, k7, rfl, fx19, (Nat.le_of_eq g8.symm)⟩
theorem ct_cor7_6_7 (l : Launch) (Z : State) (a0 : Array Value) (hw : HW a0 Z) {cS : Int32} {fm : Value} (am : Amb Z a0 cS fm) {v : Addr} {kv : ClassId} {x0 x1 x2 x3 x4 x5 x6 : Int32} {h0 : Heap} (p0 : Arv Z h0 v kv .byte (7 : Int32) [.int x0, .int x1, .int x2, .int x3, .int x4, .int x5, .int x6] (.int 0)) :
    Py l Z (⟨"java/util/Arrays", "copyOfRange", "([BII)[B"⟩ : MethodName) 3 48 1 1 #[(.ref v), .int 6, .int 7] h0 [] (fun rv h' => ∃ (t : Addr) (kt : ClassId), rv = some (.ref t) ∧ Arv Z h' t kt .byte (1 : Int32) [.int x6] (.int 0) ∧ (h0.size ≤ t)) := by
  refine Ct.py (by0 := zc25) (ml := 3) (rt := (some (.array .byte))) (rm := ({ frames := 2, cells := 1, slots := 1, locals := 34 } : Room)) ?_ (hq hw 145 rfl) (hq hw 144 rfl)
  refine Ct.mk (a0 := a0) (Ls := #[.val (.ref v), .val (.int 6), .val (.int 7)]) (plainFor_of_name pn_java_util_Arrays) (fun m => by simp [entryFrame, mkF, argsToLocals, Value.category]) ?_
  intro κ C
  show Go l _ Z _ _ _ κ [] h0 0 #[.val (.ref v), .val (.int 6), .val (.int 7)] [] 0 0
  refine od' C 1 d27_0 rfl rfl (om1' C (pc' := 10) d27_1 (by decide) (by decide) (by decide) ?_)
  refine oc' C 11 d27_10 rfl rfl rfl (od' C 12 d27_11 rfl rfl ?_)
  refine od' C 13 d27_12 rfl rfl (or' C (argsL := [(.ref v), .int 6, .int 7]) (W := 0) d27_13 (hq hw 146 rfl) (hq hw 147 rfl) (hq hw 144 rfl) (hq hw 148 rfl) (by decide) pd___BII__B (ct_crb7_6_7 l Z a0 hw am (v := v) (kv := kv) (x0 := x0) (x1 := x1) (x2 := x2) (x3 := x3) (x4 := x4) (x5 := x5) (x6 := x6) p0) rfl (Nat.le_of_eq rfl) rfl (by decide) mems0 ?_)
  intro fv1 ph2 K3 fq4
  obtain ⟨t5, kt6, rfl, fx7, fx8⟩ := fq4
  refine ⟨[t5], (freshS ⟨fx8, (fx7).lt⟩ fresh0), ?_⟩
  show Go l _ Z _ _ _ κ [t5] _ 16 _ [(.ref t5)] 1 1
  refine ov' C (v := (.ref t5)) d27_16 rfl rfl rfl (by decide) (by decide) ?_
  exact ⟨t5, kt6, rfl, fx7, fx8⟩
theorem ct_sbb (l : Launch) (Z : State) (a0 : Array Value) (hw : HW a0 Z) {cS : Int32} {fm : Value} (am : Amb Z a0 cS fm) {a t : Addr} {h0 : Heap} (p0 : Exa Z h0 a "java/lang/String") (p1 : Fld Z h0 a "java/lang/String" "value" "[B" .null) (p2 : Fld Z h0 a "java/lang/String" "coder" "B" (.int 0)) :
    Py l Z (⟨"java/lang/String", "<init>", "([BB)V"⟩ : MethodName) 2 26 0 0 #[(.ref a), (.ref t), .int 0] h0 [a] (fun rv h' => rv = none ∧ Exa Z h' a "java/lang/String" ∧ Fld Z h' a "java/lang/String" "coder" "B" (.int 0) ∧ Fld Z h' a "java/lang/String" "value" "[B" (.ref t)) := by
  refine Ct.py (by0 := zc6) (ml := 3) (rt := none) (rm := ({ frames := 1, cells := 0, slots := 0, locals := 12 } : Room)) ?_ (hq hw 256 rfl) (hq hw 6 rfl)
  refine Ct.mk (a0 := a0) (Ls := #[.val (.ref a), .val (.ref t), .val (.int 0)]) (plainFor_of_name pn_java_lang_String) (fun m => by simp [entryFrame, mkF, argsToLocals, Value.category]) ?_
  intro κ C
  show Go l _ Z _ _ _ κ [a] h0 0 #[.val (.ref a), .val (.ref t), .val (.int 0)] [] 0 0
  refine oc' C 1 d49_0 rfl rfl rfl (oj2' C 4 (W := 0) d49_1 rfl (hq hw 15 rfl) (hq hw 16 rfl) (hq hw 17 rfl) rfl (by decide) (Nat.le_of_eq rfl) (by decide) ?_)
  refine oc' C 5 d49_4 rfl rfl rfl (oc' C 6 d49_5 rfl rfl rfl ?_)
  refine oh1' C 9 (ty := (.array .byte)) d49_6 rfl (hq hw 32 rfl) Via.refl p1 p0 (Or.inr ⟨(hq hw 33 rfl), rfl, rfl⟩) (hq hw 5 rfl) (by decide) rfl rfl (mi 0 rfl) ?_
  intro ph1 W2
  have fx3 : Fld Z ph1 a "java/lang/String" "value" "[B" (.ref t) := Fld.same W2 p1
  refine oc' C 10 d49_9 rfl rfl rfl (od' C 11 d49_10 rfl rfl ?_)
  have fx4 := (Fld.other W2 p2 (Or.inr (slot_ne (Or.inr (hq hw 31 rfl)) (Or.inr (hq hw 33 rfl)) (by decide) (t := .byte) (t' := (.array .byte)) (by decide) (by decide))))
  have fx5 := (Exa.wr W2 p0)
  refine ol2' C 14 (ty := .byte) (v' := .int 0) d49_11 rfl (hq hw 30 rfl) Via.refl fx4 fx5 (Or.inr ⟨(hq hw 31 rfl), rfl, rfl⟩) (hq hw 5 rfl) (by decide) rfl (by decide) (mi 0 rfl) ?_
  intro ph6 W7
  have fx8 : Fld Z ph6 a "java/lang/String" "coder" "B" (.int 0) := Fld.same W7 fx4
  refine oe' C d49_14 rfl (by decide) (by decide) ?_
  have fx9 := (Exa.wr W7 fx5)
  have fx10 := (Fld.other W7 fx3 (Or.inr (slot_ne (Or.inr (hq hw 33 rfl)) (Or.inr (hq hw 31 rfl)) (by decide) (t := (.array .byte)) (t' := .byte) (by decide) (by decide))))
  exact ⟨rfl, fx9, fx8, fx10⟩
theorem ct_ns7_6 (l : Launch) (Z : State) (a0 : Array Value) (hw : HW a0 Z) {cS : Int32} {fm : Value} (am : Amb Z a0 cS fm) {v : Addr} {kv : ClassId} {x0 x1 x2 x3 x4 x5 x6 : Int32} {h0 : Heap} (p0 : Arv Z h0 v kv .byte (7 : Int32) [.int x0, .int x1, .int x2, .int x3, .int x4, .int x5, .int x6] (.int 0)) :
    Py l Z (⟨"java/lang/StringLatin1", "newString", "([BII)Ljava/lang/String;"⟩ : MethodName) 4 64 2 5 #[(.ref v), .int 6, .int 1] h0 [] (fun rv h' => ∃ (a : Addr) (t : Addr) (kt : ClassId), rv = some (.ref a) ∧ Exa Z h' a "java/lang/String" ∧ Fld Z h' a "java/lang/String" "coder" "B" (.int 0) ∧ Fld Z h' a "java/lang/String" "value" "[B" (.ref t) ∧ Arv Z h' t kt .byte (1 : Int32) [.int x6] (.int 0) ∧ (h0.size ≤ a)) := by
  refine Ct.py (by0 := zc19) (ml := 3) (rt := (some (.object "java/lang/String"))) (rm := ({ frames := 3, cells := 2, slots := 5, locals := 50 } : Room)) ?_ (hq hw 250 rfl) (hq hw 190 rfl)
  refine Ct.mk (a0 := a0) (Ls := #[.val (.ref v), .val (.int 6), .val (.int 1)]) (plainFor_of_name pn_java_lang_StringLatin1) (fun m => by simp [entryFrame, mkF, argsToLocals, Value.category]) ?_
  intro κ C
  show Go l _ Z _ _ _ κ [] h0 0 #[.val (.ref v), .val (.int 6), .val (.int 1)] [] 0 0
  refine od' C 1 d48_0 rfl rfl (om1' C (pc' := 7) d48_1 (by decide) (by decide) (by decide) ?_)
  refine oc1' C 10 1 4 d48_7 rfl rfl rfl (hq hw 252 rfl) (hq hw 5 rfl) (hq hw 6 rfl) (by decide) (by decide) ?_
  intro b1 ph2 g3 E4 A5 D6
  have fx7 : Fld Z ph2 b1 "java/lang/String" "coder" "B" (.int 0) := D6 (Or.inr (hq hw 31 rfl)) (ty := .byte) (by decide)
  have fx8 : Fld Z ph2 b1 "java/lang/String" "value" "[B" .null := D6 (Or.inr (hq hw 33 rfl)) (ty := (.array .byte)) (by decide)
  refine ou' C 11 d48_10 rfl rfl (oc' C 12 d48_11 rfl rfl rfl ?_)
  refine od' C 13 d48_12 rfl rfl (od' C 14 d48_13 rfl rfl ?_)
  refine od' C 15 d48_14 rfl rfl (ox1' C 16 (7 : Int32) d48_15 rfl (by decide) ?_)
  have fx9 := (p0.ext E4)
  refine or' C (argsL := [(.ref v), .int 6, .int 7]) (W := 2) d48_16 (hq hw 253 rfl) (hq hw 143 rfl) (hq hw 144 rfl) (hq hw 145 rfl) (by decide) pd___BII__B (ct_cor7_6_7 l Z a0 hw am (v := v) (kv := kv) (x0 := x0) (x1 := x1) (x2 := x2) (x3 := x3) (x4 := x4) (x5 := x5) (x6 := x6) fx9) rfl (Nat.le_of_eq rfl) rfl (by decide) mems0 ?_
  intro fv10 ph11 K12 fq13
  obtain ⟨t14, kt15, rfl, fx16, fx17⟩ := fq13
  refine ⟨[t14], (freshS ⟨fx17, (fx16).lt⟩ fresh0), ?_⟩
  show Go l _ Z _ _ _ κ [t14, b1] _ 19 _ [(.ref t14), (.ref b1), (.ref b1)] 2 5
  refine of' C 20 (0 : Int32) d48_19 rfl (by decide) ?_
  have fx18 := (A5.keep K12)
  have fx19 := (fx8.keep K12 nin0)
  have fx20 := (fx7.keep K12 nin0)
  refine oq1' C (a := b1) (argsL := [(.ref t14), .int 0]) (W := 1) d48_20 rfl (hq hw 254 rfl) (hq hw 255 rfl) (hq hw 256 rfl) (by decide) pd___BB_V (ct_sbb l Z a0 hw am (a := b1) (t := t14) fx18 fx19 fx20) rfl (Nat.le_of_eq rfl) rfl (by decide) (memsS (mi 1 rfl) mems0) ?_
  intro fv21 ph22 K23 fq24
  obtain ⟨rfl, fx25, fx26, fx27⟩ := fq24
  refine ⟨[], fresh0, ?_⟩
  show Go l _ Z _ _ _ κ _ _ 23 _ [(.ref b1)] 2 5
  refine ov' C (v := (.ref b1)) d48_23 rfl rfl rfl (by decide) (by decide) ?_
  have fx28 := (fx16.keep K23 (ninS (Ne.symm (Nat.ne_of_lt (nltle (A5).lt fx17))) nin0))
  exact ⟨b1, t14, kt15, rfl, fx25, fx26, fx27, fx28, (Nat.le_of_eq g3.symm)⟩
theorem ct_su7_6 (l : Launch) (Z : State) (a0 : Array Value) (hw : HW a0 Z) {cS : Int32} {fm : Value} (am : Amb Z a0 cS fm) {s v : Addr} {kv : ClassId} {x0 x1 x2 x3 x4 x5 x6 : Int32} {h0 : Heap} (p0 : Exa Z h0 s "java/lang/String") (p1 : Fld Z h0 s "java/lang/String" "coder" "B" (.int 0)) (p2 : Fld Z h0 s "java/lang/String" "value" "[B" (.ref v)) (p3 : Arv Z h0 v kv .byte (7 : Int32) [.int x0, .int x1, .int x2, .int x3, .int x4, .int x5, .int x6] (.int 0)) :
    Py l Z (⟨"java/lang/String", "substring", "(II)Ljava/lang/String;"⟩ : MethodName) 5 80 2 5 #[(.ref s), .int 6, .int 7] h0 [] (fun rv h' => ∃ (a : Addr) (t : Addr) (kt : ClassId), rv = some (.ref a) ∧ Exa Z h' a "java/lang/String" ∧ Fld Z h' a "java/lang/String" "coder" "B" (.int 0) ∧ Fld Z h' a "java/lang/String" "value" "[B" (.ref t) ∧ Arv Z h' t kt .byte (1 : Int32) [.int x6] (.int 0) ∧ (h0.size ≤ a)) := by
  refine Ct.py (by0 := zc17) (ml := 5) (rt := (some (.object "java/lang/String"))) (rm := ({ frames := 4, cells := 2, slots := 5, locals := 64 } : Room)) ?_ (hq hw 234 rfl) (hq hw 6 rfl)
  refine Ct.mk (a0 := a0) (Ls := #[.val (.ref s), .val (.int 6), .val (.int 7), .unset, .unset]) (plainFor_of_name pn_java_lang_String) (fun m => by simp [entryFrame, mkF, argsToLocals, Value.category]) ?_
  intro κ C
  show Go l _ Z _ _ _ κ [] h0 0 #[.val (.ref s), .val (.int 6), .val (.int 7), .unset, .unset] [] 0 0
  refine oc' C 1 d44_0 rfl rfl rfl (oo' C (a := s) (argsL := []) (W := 0) d44_1 (hq hw 213 rfl) (hq hw 76 rfl) (nfS (hq hw 78 rfl)) (hq hw 78 rfl) (hq hw 77 rfl) p0 (by decide) pd___I (ct_len0_7 l Z a0 hw am (s := s) (t := v) (kB := kv) (vs := [.int x0, .int x1, .int x2, .int x3, .int x4, .int x5, .int x6]) p0 p1 p2 p3) rfl (Nat.le_of_eq rfl) rfl (by decide) mems0 ?_)
  intro fv1 ph2 K3 fq4
  obtain ⟨rfl, rfl⟩ := fq4
  refine ⟨[], fresh0, ?_⟩
  show Go l _ Z _ _ _ κ _ _ 4 _ [.int 7] 0 0
  refine op1' C 5 (Ls' := #[.val (.ref s), .val (.int 6), .val (.int 7), .val (.int 7), .unset]) d44_4 rfl rfl (od' C 6 d44_5 rfl rfl ?_)
  refine od' C 7 d44_6 rfl rfl (od' C 8 d44_7 rfl rfl ?_)
  refine or' C (argsL := [.int 6, .int 7, .int 7]) (W := 0) d44_8 (hq hw 235 rfl) (hq hw 236 rfl) (hq hw 6 rfl) (hq hw 237 rfl) (by decide) pd__III_V (ct_cbe l Z a0 hw am (i := (6 : Int32)) (j := (7 : Int32)) (n := (7 : Int32)) (by decide) (by decide) (by decide)) rfl (Nat.le_of_eq rfl) rfl (by decide) mems0 ?_
  intro fv5 ph6 K7 fq8
  obtain ⟨rfl, rfl⟩ := fq8
  refine ⟨[], fresh0, ?_⟩
  show Go l _ Z _ _ _ κ _ _ 11 _ [] 0 0
  refine od' C 12 d44_11 rfl rfl (om1' C (pc' := 22) d44_12 (by decide) (by decide) (by decide) ?_)
  refine od' C 23 d44_22 rfl rfl (od' C 24 d44_23 rfl rfl ?_)
  refine oj1' C 25 (1 : Int32) d44_24 rfl (by decide) (ol' C 27 (Ls' := #[.val (.ref s), .val (.int 6), .val (.int 7), .val (.int 7), .val (.int 1)]) d44_25 rfl rfl ?_)
  refine oc' C 28 d44_27 rfl rfl rfl (oo' C (a := s) (argsL := []) (W := 0) d44_28 (hq hw 243 rfl) (hq hw 244 rfl) (nfS (hq hw 246 rfl)) (hq hw 246 rfl) (hq hw 245 rfl) p0 (by decide) pd___Z (ct_isl0 l Z a0 hw am (s := s) p1) rfl (Nat.le_of_eq rfl) rfl (by decide) mems0 ?_)
  intro fv9 ph10 K11 fq12
  obtain ⟨rfl, rfl⟩ := fq12
  refine ⟨[], fresh0, ?_⟩
  show Go l _ Z _ _ _ κ _ _ 31 _ [.int 1] 0 0
  refine ot' C 34 d44_31 rfl (by decide) (oc' C 35 d44_34 rfl rfl rfl ?_)
  refine ok' C 38 d44_35 rfl (hq hw 32 rfl) Via.refl p2 (od' C 39 d44_38 rfl rfl ?_)
  refine oa' C 41 d44_39 rfl rfl (or' C (argsL := [(.ref v), .int 6, .int 1]) (W := 0) d44_41 (hq hw 248 rfl) (hq hw 249 rfl) (hq hw 190 rfl) (hq hw 250 rfl) (by decide) pd___BII_Ljava_lang_String_ (ct_ns7_6 l Z a0 hw am (v := v) (kv := kv) (x0 := x0) (x1 := x1) (x2 := x2) (x3 := x3) (x4 := x4) (x5 := x5) (x6 := x6) p3) rfl (Nat.le_of_eq rfl) rfl (by decide) mems0 ?_)
  intro fv13 ph14 K15 fq16
  obtain ⟨a17, t18, kt19, rfl, fx20, fx21, fx22, fx23, fx24⟩ := fq16
  refine ⟨[a17], (freshS ⟨fx24, (fx20).lt⟩ fresh0), ?_⟩
  show Go l _ Z _ _ _ κ [a17] _ 44 _ [(.ref a17)] 2 5
  refine om' C (pc' := 57) d44_44 (by decide) (by decide) (ov' C (v := (.ref a17)) d44_57 rfl rfl rfl (by decide) (by decide) ?_)
  exact ⟨a17, t18, kt19, rfl, fx20, fx21, fx22, fx23, fx24⟩
theorem ct_ss7_6 (l : Launch) (Z : State) (a0 : Array Value) (hw : HW a0 Z) {cS : Int32} {fm : Value} (am : Amb Z a0 cS fm) {s v : Addr} {kv : ClassId} {x0 x1 x2 x3 x4 x5 x6 : Int32} {h0 : Heap} (p0 : Exa Z h0 s "java/lang/String") (p1 : Fld Z h0 s "java/lang/String" "coder" "B" (.int 0)) (p2 : Fld Z h0 s "java/lang/String" "value" "[B" (.ref v)) (p3 : Arv Z h0 v kv .byte (7 : Int32) [.int x0, .int x1, .int x2, .int x3, .int x4, .int x5, .int x6] (.int 0)) :
    Py l Z (⟨"java/lang/String", "substring", "(I)Ljava/lang/String;"⟩ : MethodName) 6 93 2 5 #[(.ref s), .int 6] h0 [] (fun rv h' => ∃ (a : Addr) (t : Addr) (kt : ClassId), rv = some (.ref a) ∧ Exa Z h' a "java/lang/String" ∧ Fld Z h' a "java/lang/String" "coder" "B" (.int 0) ∧ Fld Z h' a "java/lang/String" "value" "[B" (.ref t) ∧ Arv Z h' t kt .byte (1 : Int32) [.int x6] (.int 0) ∧ (h0.size ≤ a)) := by
  refine Ct.py (by0 := zc16) (ml := 2) (rt := (some (.object "java/lang/String"))) (rm := ({ frames := 5, cells := 2, slots := 5, locals := 80 } : Room)) ?_ (hq hw 229 rfl) (hq hw 6 rfl)
  refine Ct.mk (a0 := a0) (Ls := #[.val (.ref s), .val (.int 6)]) (plainFor_of_name pn_java_lang_String) (fun m => by simp [entryFrame, mkF, argsToLocals, Value.category]) ?_
  intro κ C
  show Go l _ Z _ _ _ κ [] h0 0 #[.val (.ref s), .val (.int 6)] [] 0 0
  refine oc' C 1 d43_0 rfl rfl rfl (od' C 2 d43_1 rfl rfl ?_)
  refine oc' C 3 d43_2 rfl rfl rfl (oo' C (a := s) (argsL := []) (W := 2) d43_3 (hq hw 213 rfl) (hq hw 76 rfl) (nfS (hq hw 78 rfl)) (hq hw 78 rfl) (hq hw 77 rfl) p0 (by decide) pd___I (ct_len0_7 l Z a0 hw am (s := s) (t := v) (kB := kv) (vs := [.int x0, .int x1, .int x2, .int x3, .int x4, .int x5, .int x6]) p0 p1 p2 p3) rfl (Nat.le_of_eq rfl) rfl (by decide) mems0 ?_)
  intro fv1 ph2 K3 fq4
  obtain ⟨rfl, rfl⟩ := fq4
  refine ⟨[], fresh0, ?_⟩
  show Go l _ Z _ _ _ κ _ _ 6 _ [.int 7, .int 6, (.ref s)] 0 0
  refine oo' C (a := s) (argsL := [.int 6, .int 7]) (W := 0) d43_6 (hq hw 230 rfl) (hq hw 231 rfl) (nfS (hq hw 233 rfl)) (hq hw 233 rfl) (hq hw 232 rfl) p0 (by decide) pd__II_Ljava_lang_String_ (ct_su7_6 l Z a0 hw am (s := s) (v := v) (kv := kv) (x0 := x0) (x1 := x1) (x2 := x2) (x3 := x3) (x4 := x4) (x5 := x5) (x6 := x6) p0 p1 p2 p3) rfl (Nat.le_of_eq rfl) rfl (by decide) mems0 ?_
  intro fv5 ph6 K7 fq8
  obtain ⟨a9, t10, kt11, rfl, fx12, fx13, fx14, fx15, fx16⟩ := fq8
  refine ⟨[a9], (freshS ⟨fx16, (fx12).lt⟩ fresh0), ?_⟩
  show Go l _ Z _ _ _ κ [a9] _ 9 _ [(.ref a9)] 2 5
  refine ov' C (v := (.ref a9)) d43_9 rfl rfl rfl (by decide) (by decide) ?_
  exact ⟨a9, t10, kt11, rfl, fx12, fx13, fx14, fx15, fx16⟩
theorem ct_sub1 (l : Launch) (Z : State) (a0 : Array Value) (hw : HW a0 Z) {cS : Int32} {fm : Value} (am : Amb Z a0 cS fm) {q m u : Addr} {ku : ClassId} {y0 : Int32} {h0 : Heap} (p0 : Exa Z h0 q "com/example/evenlot/evenlot/Source") (p1 : Fld Z h0 q "com/example/evenlot/evenlot/Source" "name" "Ljava/lang/String;" (.ref m)) (p2 : Exa Z h0 m "java/lang/String") (p3 : Fld Z h0 m "java/lang/String" "coder" "B" (.int 0)) (p4 : Fld Z h0 m "java/lang/String" "value" "[B" (.ref u)) (p5 : Arv Z h0 u ku .byte (7 : Int32) [.int 115, .int 116, .int 111, .int 99, .int 107, .int 47, .int y0] (.int 0)) :
    PyW l Z consts_1 a0 (⟨"com/example/evenlot/evenlot/Source", "subtype", "()Ljava/lang/String;"⟩ : MethodName) 7 105 6 53 #[(.ref q)] h0 [] (fun rv h' => ∃ (a : Addr) (t : Addr) (kt : ClassId), rv = some (.ref a) ∧ Exa Z h' a "java/lang/String" ∧ Fld Z h' a "java/lang/String" "coder" "B" (.int 0) ∧ Fld Z h' a "java/lang/String" "value" "[B" (.ref t) ∧ Arv Z h' t kt .byte (1 : Int32) [.int y0] (.int 0)) := by
  have hEL := am.1
  refine CtW.py (by0 := zc46) (ml := 1) (rt := (some (.object "java/lang/String"))) (rm := ({ frames := 6, cells := 6, slots := 53, locals := 93 } : Room)) ?_ (hq hw 222 rfl) (hq hw 42 rfl)
  refine CtW.mk (a0 := a0) (Ls := #[.val (.ref q)]) (plainFor_of_name pn_com_example_evenlot_evenlot_Source) (fun m => by simp [entryFrame, mkF, argsToLocals, Value.category]) ?_
  intro κ C
  show GoW l _ Z _ _ _ _ _ κ [] h0 0 #[.val (.ref q)] [] 0 0
  refine wk1' C 1 d42_0 rfl rfl rfl (wk2' C hEL (a := q) (argsL := []) (W := 0) d42_1 (hq hw 223 rfl) (hq hw 198 rfl) (nfS (hq hw 200 rfl)) (hq hw 200 rfl) (hq hw 199 rfl) p0 (by decide) pd___Z (ct_isl1_ l Z a0 hw am (q := q) (m := m) (u := u) (ku := ku) (y0 := y0) p0 p1 p2 p3 p4 p5) rfl (Nat.le_of_eq rfl) rfl (by decide) mems0 ?_)
  intro fv1 ph2 K3 fq4
  obtain rfl := fq4
  show GoW l _ Z _ _ _ _ _ κ _ _ 4 _ [.int 0] 2 20
  refine ww2' C (pc' := 34) d42_4 (by decide) (by decide) (by decide) (wk1' C 35 d42_34 rfl rfl rfl ?_)
  have fx5 := (p1.keep K3 nin0)
  refine wp2' C 38 d42_35 rfl (hq hw 168 rfl) Via.refl fx5 (wi2' C hEL 40 4 48 (n := 24) (vs := [.int 115, .int 116, .int 111, .int 99, .int 107, .int 47]) (zn := (6 : Int32)) d42_38 rfl rfl rfl (hq hw 64 rfl) (wS hw) (List.mem_of_getElem? (i := 0) rfl) (by decide) (by decide) rfl (by decide) (by decide) (by decide) (by decide) ?_)
  intro sa6 sb7 k8 ph9 E10 fx11 fx12 fx13 fx14 fn15
  refine ws' C (a := sa6) (argsL := []) (W := 1) d42_40 (hq hw 224 rfl) (hq hw 76 rfl) (nfS (hq hw 78 rfl)) (hq hw 78 rfl) (hq hw 77 rfl) fx11 (by decide) pd___I (ct_len0_6 l Z a0 hw am (s := sa6) (t := sb7) (kB := k8) (vs := [.int 115, .int 116, .int 111, .int 99, .int 107, .int 47]) fx11 fx12 fx13 fx14) rfl (Nat.le_of_eq rfl) rfl (by decide) mems0 ?_
  intro fv16 ph17 K18 fq19
  obtain ⟨rfl, rfl⟩ := fq19
  refine ⟨[], fresh0, ?_⟩
  show GoW l _ Z _ _ _ _ _ κ _ _ 43 _ [.int 6, (.ref m)] 4 48
  have fx20 := (Exa.ext E10 (p2.keep K3))
  have fx21 := (Fld.ext E10 (p3.keep K3 nin0))
  have fx22 := (Fld.ext E10 (p4.keep K3 nin0))
  have fx23 := ((p5.keep K3 nin0).ext E10)
  refine ws' C (a := m) (argsL := [.int 6]) (W := 0) d42_43 (hq hw 225 rfl) (hq hw 226 rfl) (nfS (hq hw 228 rfl)) (hq hw 228 rfl) (hq hw 227 rfl) fx20 (by decide) pd__I_Ljava_lang_String_ (ct_ss7_6 l Z a0 hw am (s := m) (v := u) (kv := ku) (x0 := (115 : Int32)) (x1 := (116 : Int32)) (x2 := (111 : Int32)) (x3 := (99 : Int32)) (x4 := (107 : Int32)) (x5 := (47 : Int32)) (x6 := y0) fx20 fx21 fx22 fx23) rfl (Nat.le_of_eq rfl) rfl (by decide) mems0 ?_
  intro fv24 ph25 K26 fq27
  obtain ⟨a28, t29, kt30, rfl, fx31, fx32, fx33, fx34, fx35⟩ := fq27
  refine ⟨[a28], (freshS ⟨fx35, (fx31).lt⟩ fresh0), ?_⟩
  show GoW l _ Z _ _ _ _ _ κ [a28] _ 46 _ [(.ref a28)] 6 53
  refine wg2' C hEL (v := (.ref a28)) d42_46 rfl rfl rfl (by decide) (by decide) ?_
  exact ⟨a28, t29, kt30, rfl, fx31, fx32, fx33, fx34⟩
theorem ct_len0_8 (l : Launch) (Z : State) (a0 : Array Value) (hw : HW a0 Z) {cS : Int32} {fm : Value} (am : Amb Z a0 cS fm) {s t : Addr} {kB : ClassId} {vs : List Value} {h0 : Heap} (p0 : Exa Z h0 s "java/lang/String") (p1 : Fld Z h0 s "java/lang/String" "coder" "B" (.int 0)) (p2 : Fld Z h0 s "java/lang/String" "value" "[B" (.ref t)) (p3 : Arv Z h0 t kB .byte (8 : Int32) vs (.int 0)) :
    Py l Z (⟨"java/lang/String", "length", "()I"⟩ : MethodName) 2 25 0 0 #[(.ref s)] h0 [] (fun rv h' => rv = some (.int 8) ∧ h' = h0) := by
  refine Ct.py (by0 := zc12) (ml := 1) (rt := (some .int)) (rm := ({ frames := 1, cells := 0, slots := 0, locals := 13 } : Room)) ?_ (hq hw 79 rfl) (hq hw 6 rfl)
  refine Ct.mk (a0 := a0) (Ls := #[.val (.ref s)]) (plainFor_of_name pn_java_lang_String) (fun m => by simp [entryFrame, mkF, argsToLocals, Value.category]) ?_
  intro κ C
  show Go l _ Z _ _ _ κ [] h0 0 #[.val (.ref s)] [] 0 0
  refine oc' C 1 d14_0 rfl rfl rfl (ok' C 4 d14_1 rfl (hq hw 32 rfl) Via.refl p2 ?_)
  refine oj' C 5 d14_4 rfl p3 (oc' C 6 d14_5 rfl rfl rfl ?_)
  refine oo' C (a := s) (argsL := []) (W := 1) d14_6 (hq hw 80 rfl) (hq hw 81 rfl) (nfS (hq hw 83 rfl)) (hq hw 83 rfl) (hq hw 82 rfl) p0 (by decide) pd___B (ct_cod0 l Z a0 hw am (s := s) p1) rfl (Nat.le_of_eq rfl) rfl (by decide) mems0 ?_
  intro fv1 ph2 K3 fq4
  obtain ⟨rfl, rfl⟩ := fq4
  refine ⟨[], fresh0, ?_⟩
  show Go l _ Z _ _ _ κ _ _ 9 _ [.int 0, .int 8] 0 0
  refine om2' C 10 (8 : Int32) d14_9 rfl (by decide) (ol1' C d14_10 rfl (by decide) (by decide) ?_)
  exact ⟨rfl, rfl⟩
theorem ct_mis8_lot (l : Launch) (Z : State) (a0 : Array Value) (hw : HW a0 Z) {cS : Int32} {fm : Value} (am : Amb Z a0 cS fm) {v u : Addr} {kv ku : ClassId} {x6 x7 : Int32} {h0 : Heap} (p0 : Arv Z h0 v kv .byte (8 : Int32) [.int 115, .int 116, .int 111, .int 99, .int 107, .int 47, .int x6, .int x7] (.int 0)) (p1 : Arv Z h0 u ku .byte (4 : Int32) [.int 108, .int 111, .int 116, .int 47] (.int 0)) :
    Py l Z (⟨"jdk/internal/util/ArraysSupport", "mismatch", "([BI[BII)I"⟩ : MethodName) 1 19 0 0 #[(.ref v), .int 0, (.ref u), .int 0, .int 4] h0 [] (fun rv h' => rv = some (.int 0) ∧ h' = h0) := by
  refine Ct.py (by0 := zc20) (ml := 8) (rt := (some .int)) (rm := ({ frames := 0, cells := 0, slots := 0, locals := 0 } : Room)) ?_ (hq hw 217 rfl) (hq hw 216 rfl)
  refine Ct.mk (a0 := a0) (Ls := #[.val (.ref v), .val (.int 0), .val (.ref u), .val (.int 0), .val (.int 4), .unset, .unset, .unset]) (plainFor_of_name pn_jdk_internal_util_ArraysSupport) (fun m => by simp [entryFrame, mkF, argsToLocals, Value.category]) ?_
  intro κ C
  show Go l _ Z _ _ _ κ [] h0 0 #[.val (.ref v), .val (.int 0), .val (.ref u), .val (.int 0), .val (.int 4), .unset, .unset, .unset] [] 0 0
  refine of' C 1 (0 : Int32) d41_0 rfl (by decide) (ol' C 3 (Ls' := #[.val (.ref v), .val (.int 0), .val (.ref u), .val (.int 0), .val (.int 4), .val (.int 0), .unset, .unset]) d41_1 rfl rfl ?_)
  refine oa' C 5 d41_3 rfl rfl (ox' C 7 (7 : Int32) d41_5 rfl (by decide) ?_)
  refine oh' C (pc' := 70) d41_7 (by decide) (by decide) (by decide) (oa' C 72 d41_70 rfl rfl ?_)
  refine oa' C 74 d41_72 rfl rfl (oi' C 77 d41_74 rfl (by decide) ?_)
  refine oc' C 78 d41_77 rfl rfl rfl (od' C 79 d41_78 rfl rfl ?_)
  refine oa' C 81 d41_79 rfl rfl (ox1' C 82 (0 : Int32) d41_81 rfl (by decide) ?_)
  refine op' C 83 (v := (.int 115)) d41_82 rfl p0 (by decide) rfl (oc' C 84 d41_83 rfl rfl rfl ?_)
  refine od' C 85 d41_84 rfl rfl (oa' C 87 d41_85 rfl rfl ?_)
  refine ox1' C 88 (0 : Int32) d41_87 rfl (by decide) (op' C 89 (v := (.int 108)) d41_88 rfl p1 (by decide) rfl ?_)
  refine oi' C 92 d41_89 rfl (by decide) (oa' C 94 d41_92 rfl rfl ?_)
  refine ol1' C d41_94 rfl (by decide) (by decide) ?_
  exact ⟨rfl, rfl⟩
theorem ct_sw28_lot (l : Launch) (Z : State) (a0 : Array Value) (hw : HW a0 Z) {cS : Int32} {fm : Value} (am : Amb Z a0 cS fm) {s p v u : Addr} {kv ku : ClassId} {x6 x7 : Int32} {h0 : Heap} (p0 : Exa Z h0 s "java/lang/String") (p1 : Fld Z h0 s "java/lang/String" "coder" "B" (.int 0)) (p2 : Fld Z h0 s "java/lang/String" "value" "[B" (.ref v)) (p3 : Arv Z h0 v kv .byte (8 : Int32) [.int 115, .int 116, .int 111, .int 99, .int 107, .int 47, .int x6, .int x7] (.int 0)) (p4 : Exa Z h0 p "java/lang/String") (p5 : Fld Z h0 p "java/lang/String" "coder" "B" (.int 0)) (p6 : Fld Z h0 p "java/lang/String" "value" "[B" (.ref u)) (p7 : Arv Z h0 u ku .byte (4 : Int32) [.int 108, .int 111, .int 116, .int 47] (.int 0)) :
    Py l Z (⟨"java/lang/String", "startsWith", "(Ljava/lang/String;I)Z"⟩ : MethodName) 3 46 0 0 #[(.ref s), (.ref p), .int 0] h0 [] (fun rv h' => rv = some (.int 0) ∧ h' = h0) := by
  refine Ct.py (by0 := zc14) (ml := 8) (rt := (some .boolean)) (rm := ({ frames := 2, cells := 0, slots := 0, locals := 27 } : Room)) ?_ (hq hw 212 rfl) (hq hw 6 rfl)
  refine Ct.mk (a0 := a0) (Ls := #[.val (.ref s), .val (.ref p), .val (.int 0), .unset, .unset, .unset, .unset, .unset]) (plainFor_of_name pn_java_lang_String) (fun m => by simp [entryFrame, mkF, argsToLocals, Value.category]) ?_
  intro κ C
  show Go l _ Z _ _ _ κ [] h0 0 #[.val (.ref s), .val (.ref p), .val (.int 0), .unset, .unset, .unset, .unset, .unset] [] 0 0
  refine od' C 1 d40_0 rfl rfl (ot' C 4 d40_1 rfl (by decide) ?_)
  refine od' C 5 d40_4 rfl rfl (oc' C 6 d40_5 rfl rfl rfl ?_)
  refine oo' C (a := s) (argsL := []) (W := 1) d40_6 (hq hw 213 rfl) (hq hw 76 rfl) (nfS (hq hw 78 rfl)) (hq hw 78 rfl) (hq hw 77 rfl) p0 (by decide) pd___I (ct_len0_8 l Z a0 hw am (s := s) (t := v) (kB := kv) (vs := [.int 115, .int 116, .int 111, .int 99, .int 107, .int 47, .int x6, .int x7]) p0 p1 p2 p3) rfl (Nat.le_of_eq rfl) rfl (by decide) mems0 ?_
  intro fv1 ph2 K3 fq4
  obtain ⟨rfl, rfl⟩ := fq4
  refine ⟨[], fresh0, ?_⟩
  show Go l _ Z _ _ _ κ _ _ 9 _ [.int 8, .int 0] 0 0
  refine oc' C 10 d40_9 rfl rfl rfl (oo' C (a := p) (argsL := []) (W := 2) d40_10 (hq hw 213 rfl) (hq hw 76 rfl) (nfS (hq hw 78 rfl)) (hq hw 78 rfl) (hq hw 77 rfl) p4 (by decide) pd___I (ct_len0_4 l Z a0 hw am (s := p) (t := u) (kB := ku) (vs := [.int 108, .int 111, .int 116, .int 47]) p4 p5 p6 p7) rfl (Nat.le_of_eq rfl) rfl (by decide) mems0 ?_)
  intro fv5 ph6 K7 fq8
  obtain ⟨rfl, rfl⟩ := fq8
  refine ⟨[], fresh0, ?_⟩
  show Go l _ Z _ _ _ κ _ _ 13 _ [.int 4, .int 8, .int 0] 0 0
  refine oj1' C 14 (4 : Int32) d40_13 rfl (by decide) (oh' C (pc' := 19) d40_14 (by decide) (by decide) (by decide) ?_)
  refine oc' C 20 d40_19 rfl rfl rfl (ok' C 23 d40_20 rfl (hq hw 32 rfl) Via.refl p2 ?_)
  refine ov1' C 24 (Ls' := #[.val (.ref s), .val (.ref p), .val (.int 0), .val (.ref v), .unset, .unset, .unset, .unset]) d40_23 rfl rfl rfl (oc' C 25 d40_24 rfl rfl rfl ?_)
  refine ok' C 28 d40_25 rfl (hq hw 32 rfl) Via.refl p6 (ob1' C 30 (Ls' := #[.val (.ref s), .val (.ref p), .val (.int 0), .val (.ref v), .val (.ref u), .unset, .unset, .unset]) d40_28 rfl rfl rfl ?_)
  refine of' C 31 (0 : Int32) d40_30 rfl (by decide) (ol' C 33 (Ls' := #[.val (.ref s), .val (.ref p), .val (.int 0), .val (.ref v), .val (.ref u), .val (.int 0), .unset, .unset]) d40_31 rfl rfl ?_)
  refine ob' C 35 d40_33 rfl rfl rfl (oj' C 36 d40_35 rfl p7 ?_)
  refine ol' C 38 (Ls' := #[.val (.ref s), .val (.ref p), .val (.int 0), .val (.ref v), .val (.ref u), .val (.int 0), .val (.int 4), .unset]) d40_36 rfl rfl (oc' C 39 d40_38 rfl rfl rfl ?_)
  refine oo' C (a := s) (argsL := []) (W := 0) d40_39 (hq hw 80 rfl) (hq hw 81 rfl) (nfS (hq hw 83 rfl)) (hq hw 83 rfl) (hq hw 82 rfl) p0 (by decide) pd___B (ct_cod0 l Z a0 hw am (s := s) p1) rfl (Nat.le_of_eq rfl) rfl (by decide) mems0 ?_
  intro fv9 ph10 K11 fq12
  obtain ⟨rfl, rfl⟩ := fq12
  refine ⟨[], fresh0, ?_⟩
  show Go l _ Z _ _ _ κ _ _ 42 _ [.int 0] 0 0
  refine ol' C 44 (Ls' := #[.val (.ref s), .val (.ref p), .val (.int 0), .val (.ref v), .val (.ref u), .val (.int 0), .val (.int 4), .val (.int 0)]) d40_42 rfl rfl (oa' C 46 d40_44 rfl rfl ?_)
  refine oc' C 47 d40_46 rfl rfl rfl (oo' C (a := p) (argsL := []) (W := 1) d40_47 (hq hw 80 rfl) (hq hw 81 rfl) (nfS (hq hw 83 rfl)) (hq hw 83 rfl) (hq hw 82 rfl) p4 (by decide) pd___B (ct_cod0 l Z a0 hw am (s := p) p5) rfl (Nat.le_of_eq rfl) rfl (by decide) mems0 ?_)
  intro fv13 ph14 K15 fq16
  obtain ⟨rfl, rfl⟩ := fq16
  refine ⟨[], fresh0, ?_⟩
  show Go l _ Z _ _ _ κ _ _ 50 _ [.int 0, .int 0] 0 0
  refine oi' C 53 d40_50 rfl (by decide) (oa' C 55 d40_53 rfl rfl ?_)
  refine of' C 56 (1 : Int32) d40_55 rfl (by decide) (oh' C (pc' := 63) d40_56 (by decide) (by decide) (by decide) ?_)
  refine oc' C 64 d40_63 rfl rfl rfl (od' C 65 d40_64 rfl rfl ?_)
  refine ob' C 67 d40_65 rfl rfl rfl (of' C 68 (0 : Int32) d40_67 rfl (by decide) ?_)
  refine oa' C 70 d40_68 rfl rfl (or' C (argsL := [(.ref v), .int 0, (.ref u), .int 0, .int 4]) (W := 0) d40_70 (hq hw 214 rfl) (hq hw 215 rfl) (hq hw 216 rfl) (hq hw 217 rfl) (by decide) pd___BI_BII_I (ct_mis8_lot l Z a0 hw am (v := v) (u := u) (kv := kv) (ku := ku) (x6 := x6) (x7 := x7) p3 p7) rfl (Nat.le_of_eq rfl) rfl (by decide) mems0 ?_)
  intro fv17 ph18 K19 fq20
  obtain ⟨rfl, rfl⟩ := fq20
  refine ⟨[], fresh0, ?_⟩
  show Go l _ Z _ _ _ κ _ _ 73 _ [.int 0] 0 0
  refine om1' C (pc' := 80) d40_73 (by decide) (by decide) (by decide) (of' C 81 (0 : Int32) d40_80 rfl (by decide) ?_)
  refine oz' C (t := .boolean) (z := (0 : Int32)) d40_81 rfl (by decide) (by decide) (by decide) (by decide) ?_
  exact ⟨rfl, rfl⟩
theorem ct_sw18_lot (l : Launch) (Z : State) (a0 : Array Value) (hw : HW a0 Z) {cS : Int32} {fm : Value} (am : Amb Z a0 cS fm) {s p v u : Addr} {kv ku : ClassId} {x6 x7 : Int32} {h0 : Heap} (p0 : Exa Z h0 s "java/lang/String") (p1 : Fld Z h0 s "java/lang/String" "coder" "B" (.int 0)) (p2 : Fld Z h0 s "java/lang/String" "value" "[B" (.ref v)) (p3 : Arv Z h0 v kv .byte (8 : Int32) [.int 115, .int 116, .int 111, .int 99, .int 107, .int 47, .int x6, .int x7] (.int 0)) (p4 : Exa Z h0 p "java/lang/String") (p5 : Fld Z h0 p "java/lang/String" "coder" "B" (.int 0)) (p6 : Fld Z h0 p "java/lang/String" "value" "[B" (.ref u)) (p7 : Arv Z h0 u ku .byte (4 : Int32) [.int 108, .int 111, .int 116, .int 47] (.int 0)) :
    Py l Z (⟨"java/lang/String", "startsWith", "(Ljava/lang/String;)Z"⟩ : MethodName) 4 59 0 0 #[(.ref s), (.ref p)] h0 [] (fun rv h' => rv = some (.int 0) ∧ h' = h0) := by
  refine Ct.py (by0 := zc15) (ml := 2) (rt := (some .boolean)) (rm := ({ frames := 3, cells := 0, slots := 0, locals := 46 } : Room)) ?_ (hq hw 207 rfl) (hq hw 6 rfl)
  refine Ct.mk (a0 := a0) (Ls := #[.val (.ref s), .val (.ref p)]) (plainFor_of_name pn_java_lang_String) (fun m => by simp [entryFrame, mkF, argsToLocals, Value.category]) ?_
  intro κ C
  show Go l _ Z _ _ _ κ [] h0 0 #[.val (.ref s), .val (.ref p)] [] 0 0
  refine oc' C 1 d39_0 rfl rfl rfl (oc' C 2 d39_1 rfl rfl rfl ?_)
  refine of' C 3 (0 : Int32) d39_2 rfl (by decide) (oo' C (a := s) (argsL := [(.ref p), .int 0]) (W := 0) d39_3 (hq hw 208 rfl) (hq hw 209 rfl) (nfS (hq hw 211 rfl)) (hq hw 211 rfl) (hq hw 210 rfl) p0 (by decide) pd__Ljava_lang_String_I_Z (ct_sw28_lot l Z a0 hw am (s := s) (p := p) (v := v) (u := u) (kv := kv) (ku := ku) (x6 := x6) (x7 := x7) p0 p1 p2 p3 p4 p5 p6 p7) rfl (Nat.le_of_eq rfl) rfl (by decide) mems0 ?_)
  intro fv1 ph2 K3 fq4
  obtain ⟨rfl, rfl⟩ := fq4
  refine ⟨[], fresh0, ?_⟩
  show Go l _ Z _ _ _ κ _ _ 6 _ [.int 0] 0 0
  refine oz' C (t := .boolean) (z := (0 : Int32)) d39_6 rfl (by decide) (by decide) (by decide) (by decide) ?_
  exact ⟨rfl, rfl⟩
theorem ct_isl2_ (l : Launch) (Z : State) (a0 : Array Value) (hw : HW a0 Z) {cS : Int32} {fm : Value} (am : Amb Z a0 cS fm) {q m u : Addr} {ku : ClassId} {y0 y1 : Int32} {h0 : Heap} (p0 : Exa Z h0 q "com/example/evenlot/evenlot/Source") (p1 : Fld Z h0 q "com/example/evenlot/evenlot/Source" "name" "Ljava/lang/String;" (.ref m)) (p2 : Exa Z h0 m "java/lang/String") (p3 : Fld Z h0 m "java/lang/String" "coder" "B" (.int 0)) (p4 : Fld Z h0 m "java/lang/String" "value" "[B" (.ref u)) (p5 : Arv Z h0 u ku .byte (8 : Int32) [.int 115, .int 116, .int 111, .int 99, .int 107, .int 47, .int y0, .int y1] (.int 0)) :
    PyW l Z consts_1 a0 (⟨"com/example/evenlot/evenlot/Source", "isLot", "()Z"⟩ : MethodName) 5 71 2 20 #[(.ref q)] h0 [] (fun rv h' => rv = some (.int 0)) := by
  have hEL := am.1
  refine CtW.py (by0 := zc47) (ml := 1) (rt := (some .boolean)) (rm := ({ frames := 4, cells := 2, slots := 20, locals := 59 } : Room)) ?_ (hq hw 201 rfl) (hq hw 42 rfl)
  refine CtW.mk (a0 := a0) (Ls := #[.val (.ref q)]) (plainFor_of_name pn_com_example_evenlot_evenlot_Source) (fun m => by simp [entryFrame, mkF, argsToLocals, Value.category]) ?_
  intro κ C
  show GoW l _ Z _ _ _ _ _ κ [] h0 0 #[.val (.ref q)] [] 0 0
  refine wk1' C 1 d38_0 rfl rfl rfl (wp2' C 4 d38_1 rfl (hq hw 168 rfl) Via.refl p1 ?_)
  refine wi2' C hEL 6 2 20 (n := 16) (vs := [.int 108, .int 111, .int 116, .int 47]) (zn := (4 : Int32)) d38_4 rfl rfl rfl (hq hw 202 rfl) (wS hw) (List.mem_of_getElem? (i := 1) rfl) (by decide) (by decide) rfl (by decide) (by decide) (by decide) (by decide) ?_
  intro sa1 sb2 k3 ph4 E5 fx6 fx7 fx8 fx9 fn10
  have fx11 := (Exa.ext E5 p2)
  have fx12 := (Fld.ext E5 p3)
  have fx13 := (Fld.ext E5 p4)
  have fx14 := (p5.ext E5)
  refine ws' C (a := m) (argsL := [(.ref sa1)]) (W := 0) d38_6 (hq hw 203 rfl) (hq hw 204 rfl) (nfS (hq hw 206 rfl)) (hq hw 206 rfl) (hq hw 205 rfl) fx11 (by decide) pd__Ljava_lang_String__Z (ct_sw18_lot l Z a0 hw am (s := m) (p := sa1) (v := u) (u := sb2) (kv := ku) (ku := k3) (x6 := y0) (x7 := y1) fx11 fx12 fx13 fx14 fx6 fx7 fx8 fx9) rfl (Nat.le_of_eq rfl) rfl (by decide) mems0 ?_
  intro fv15 ph16 K17 fq18
  obtain ⟨rfl, rfl⟩ := fq18
  refine ⟨[], fresh0, ?_⟩
  show GoW l _ Z _ _ _ _ _ κ _ _ 9 _ [.int 0] 2 20
  refine ws2' C hEL (t := .boolean) (z := (0 : Int32)) d38_9 rfl (by decide) (by decide) (by decide) (by decide) ?_
  exact rfl
theorem ct_cl6_8 (l : Launch) (Z : State) (a0 : Array Value) (hw : HW a0 Z) {cS : Int32} {fm : Value} (am : Amb Z a0 cS fm) {h0 : Heap} :
    Py l Z (⟨"java/util/Arrays", "checkLength", "(II)V"⟩ : MethodName) 1 13 0 0 #[.int 6, .int 8] h0 [] (fun rv h' => rv = none ∧ h' = h0) := by
  refine Ct.py (by0 := zc24) (ml := 2) (rt := none) (rm := ({ frames := 0, cells := 0, slots := 0, locals := 0 } : Room)) ?_ (hq hw 151 rfl) (hq hw 144 rfl)
  refine Ct.mk (a0 := a0) (Ls := #[.val (.int 6), .val (.int 8)]) (plainFor_of_name pn_java_util_Arrays) (fun m => by simp [entryFrame, mkF, argsToLocals, Value.category]) ?_
  intro κ C
  show Go l _ Z _ _ _ κ [] h0 0 #[.val (.int 6), .val (.int 8)] [] 0 0
  refine od' C 1 d29_0 rfl rfl (od' C 2 d29_1 rfl rfl ?_)
  refine oh' C (pc' := 37) d29_2 (by decide) (by decide) (by decide) (oe' C d29_37 rfl (by decide) (by decide) ?_)
  exact ⟨rfl, rfl⟩
theorem ct_min2_2 (l : Launch) (Z : State) (a0 : Array Value) (hw : HW a0 Z) {cS : Int32} {fm : Value} (am : Amb Z a0 cS fm) {h0 : Heap} :
    Py l Z (⟨"java/lang/Math", "min", "(II)I"⟩ : MethodName) 1 13 0 0 #[.int 2, .int 2] h0 [] (fun rv h' => rv = some (.int 2) ∧ h' = h0) := by
  refine Ct.py (by0 := zc0) (ml := 2) (rt := (some .int)) (rm := ({ frames := 0, cells := 0, slots := 0, locals := 0 } : Room)) ?_ (hq hw 155 rfl) (hq hw 154 rfl)
  refine Ct.mk (a0 := a0) (Ls := #[.val (.int 2), .val (.int 2)]) (Jvm.Free.JP.mathPlain rfl (by decide +kernel)) (fun m => by simp [entryFrame, mkF, argsToLocals, Value.category]) ?_
  intro κ C
  show Go l _ Z _ _ _ κ [] h0 0 #[.val (.int 2), .val (.int 2)] [] 0 0
  refine od' C 1 d30_0 rfl rfl (od' C 2 d30_1 rfl rfl ?_)
  refine oi' C 5 d30_2 rfl (by decide) (od' C 6 d30_5 rfl rfl ?_)
  refine om' C (pc' := 10) d30_6 (by decide) (by decide) (ol1' C d30_10 rfl (by decide) (by decide) ?_)
  exact ⟨rfl, rfl⟩
theorem ct_crb8_6_8 (l : Launch) (Z : State) (a0 : Array Value) (hw : HW a0 Z) {cS : Int32} {fm : Value} (am : Amb Z a0 cS fm) {v : Addr} {kv : ClassId} {x0 x1 x2 x3 x4 x5 x6 x7 : Int32} {h0 : Heap} (p0 : Arv Z h0 v kv .byte (8 : Int32) [.int x0, .int x1, .int x2, .int x3, .int x4, .int x5, .int x6, .int x7] (.int 0)) :
    Py l Z (⟨"java/util/Arrays", "copyOfRangeByte", "([BII)[B"⟩ : MethodName) 2 34 1 2 #[(.ref v), .int 6, .int 8] h0 [] (fun rv h' => ∃ (t : Addr) (kt : ClassId), rv = some (.ref t) ∧ Arv Z h' t kt .byte (2 : Int32) [.int x6, .int x7] (.int 0) ∧ (h0.size ≤ t)) := by
  refine Ct.py (by0 := zc26) (ml := 5) (rt := (some (.array .byte))) (rm := ({ frames := 1, cells := 1, slots := 2, locals := 18 } : Room)) ?_ (hq hw 148 rfl) (hq hw 144 rfl)
  refine Ct.mk (a0 := a0) (Ls := #[.val (.ref v), .val (.int 6), .val (.int 8), .unset, .unset]) (plainFor_of_name pn_java_util_Arrays) (fun m => by simp [entryFrame, mkF, argsToLocals, Value.category]) ?_
  intro κ C
  show Go l _ Z _ _ _ κ [] h0 0 #[.val (.ref v), .val (.int 6), .val (.int 8), .unset, .unset] [] 0 0
  refine od' C 1 d28_0 rfl rfl (od' C 2 d28_1 rfl rfl ?_)
  refine or' C (argsL := [.int 6, .int 8]) (W := 0) d28_2 (hq hw 149 rfl) (hq hw 150 rfl) (hq hw 144 rfl) (hq hw 151 rfl) (by decide) pd__II_V (ct_cl6_8 l Z a0 hw am) rfl (Nat.le_of_eq rfl) rfl (by decide) mems0 ?_
  intro fv1 ph2 K3 fq4
  obtain ⟨rfl, rfl⟩ := fq4
  refine ⟨[], fresh0, ?_⟩
  show Go l _ Z _ _ _ κ _ _ 5 _ [] 0 0
  refine od' C 6 d28_5 rfl rfl (od' C 7 d28_6 rfl rfl ?_)
  refine oj1' C 8 (2 : Int32) d28_7 rfl (by decide) (op1' C 9 (Ls' := #[.val (.ref v), .val (.int 6), .val (.int 8), .val (.int 2), .unset]) d28_8 rfl rfl ?_)
  refine od' C 10 d28_9 rfl rfl (ow1' C 12 1 2 (ty := .byte) (cap := 2) d28_10 rfl rfl rfl rfl (hq hw 23 rfl) (by decide) (by decide) (by decide) (by decide) (by decide) ?_)
  intro b5 ph6 k7 g8 E9 V10
  have fx11 : Arv Z ph6 b5 k7 .byte (2 : Int32) [.int 0, .int 0] (.int 0) := V10
  refine ob1' C 14 (Ls' := #[.val (.ref v), .val (.int 6), .val (.int 8), .val (.int 2), .val (.ref b5)]) d28_12 rfl rfl rfl (oc' C 15 d28_14 rfl rfl rfl ?_)
  refine od' C 16 d28_15 rfl rfl (ob' C 18 d28_16 rfl rfl rfl ?_)
  refine of' C 19 (0 : Int32) d28_18 rfl (by decide) (oc' C 20 d28_19 rfl rfl rfl ?_)
  have fx12 := (p0.ext E9)
  refine oj' C 21 d28_20 rfl fx12 (od' C 22 d28_21 rfl rfl ?_)
  refine oj1' C 23 (2 : Int32) d28_22 rfl (by decide) (od' C 24 d28_23 rfl rfl ?_)
  refine or' C (argsL := [.int 2, .int 2]) (W := 4) d28_24 (hq hw 152 rfl) (hq hw 153 rfl) (hq hw 154 rfl) (hq hw 155 rfl) (by decide) pd__II_I (ct_min2_2 l Z a0 hw am) rfl (Nat.le_of_eq rfl) rfl (by decide) mems0 ?_
  intro fv13 ph14 K15 fq16
  obtain ⟨rfl, rfl⟩ := fq16
  refine ⟨[], fresh0, ?_⟩
  show Go l _ Z _ _ _ κ _ _ 27 _ [.int 2, .int 0, (.ref b5), .int 6, (.ref v)] 1 2
  refine on2' C 30 (W := 0) (us := [.int x6, .int x7]) (vr := [.int x6, .int x7]) d28_27 rfl (hq hw 156 rfl) (hq hw 111 rfl) (hq hw 109 rfl) (hq hw 110 rfl) fx12 fx11 rfl (by decide) (by decide) (by decide) (by decide) (by decide) rfl (nble rfl) rfl rfl (by decide) (Nat.le_of_eq rfl) (by decide) (mi 0 rfl) ?_
  intro ph17 K18 fx19
  refine ob' C 32 d28_30 rfl rfl rfl (ov' C (v := (.ref b5)) d28_32 rfl rfl rfl (by decide) (by decide) ?_)
  exact ⟨b5, k7, rfl, fx19, (Nat.le_of_eq g8.symm)⟩
theorem ct_cor8_6_8 (l : Launch) (Z : State) (a0 : Array Value) (hw : HW a0 Z) {cS : Int32} {fm : Value} (am : Amb Z a0 cS fm) {v : Addr} {kv : ClassId} {x0 x1 x2 x3 x4 x5 x6 x7 : Int32} {h0 : Heap} (p0 : Arv Z h0 v kv .byte (8 : Int32) [.int x0, .int x1, .int x2, .int x3, .int x4, .int x5, .int x6, .int x7] (.int 0)) :
    Py l Z (⟨"java/util/Arrays", "copyOfRange", "([BII)[B"⟩ : MethodName) 3 48 1 2 #[(.ref v), .int 6, .int 8] h0 [] (fun rv h' => ∃ (t : Addr) (kt : ClassId), rv = some (.ref t) ∧ Arv Z h' t kt .byte (2 : Int32) [.int x6, .int x7] (.int 0) ∧ (h0.size ≤ t)) := by
  refine Ct.py (by0 := zc25) (ml := 3) (rt := (some (.array .byte))) (rm := ({ frames := 2, cells := 1, slots := 2, locals := 34 } : Room)) ?_ (hq hw 145 rfl) (hq hw 144 rfl)
  refine Ct.mk (a0 := a0) (Ls := #[.val (.ref v), .val (.int 6), .val (.int 8)]) (plainFor_of_name pn_java_util_Arrays) (fun m => by simp [entryFrame, mkF, argsToLocals, Value.category]) ?_
  intro κ C
  show Go l _ Z _ _ _ κ [] h0 0 #[.val (.ref v), .val (.int 6), .val (.int 8)] [] 0 0
  refine od' C 1 d27_0 rfl rfl (om1' C (pc' := 10) d27_1 (by decide) (by decide) (by decide) ?_)
  refine oc' C 11 d27_10 rfl rfl rfl (od' C 12 d27_11 rfl rfl ?_)
  refine od' C 13 d27_12 rfl rfl (or' C (argsL := [(.ref v), .int 6, .int 8]) (W := 0) d27_13 (hq hw 146 rfl) (hq hw 147 rfl) (hq hw 144 rfl) (hq hw 148 rfl) (by decide) pd___BII__B (ct_crb8_6_8 l Z a0 hw am (v := v) (kv := kv) (x0 := x0) (x1 := x1) (x2 := x2) (x3 := x3) (x4 := x4) (x5 := x5) (x6 := x6) (x7 := x7) p0) rfl (Nat.le_of_eq rfl) rfl (by decide) mems0 ?_)
  intro fv1 ph2 K3 fq4
  obtain ⟨t5, kt6, rfl, fx7, fx8⟩ := fq4
  refine ⟨[t5], (freshS ⟨fx8, (fx7).lt⟩ fresh0), ?_⟩
  show Go l _ Z _ _ _ κ [t5] _ 16 _ [(.ref t5)] 1 2
  refine ov' C (v := (.ref t5)) d27_16 rfl rfl rfl (by decide) (by decide) ?_
  exact ⟨t5, kt6, rfl, fx7, fx8⟩
theorem ct_ns8_6 (l : Launch) (Z : State) (a0 : Array Value) (hw : HW a0 Z) {cS : Int32} {fm : Value} (am : Amb Z a0 cS fm) {v : Addr} {kv : ClassId} {x0 x1 x2 x3 x4 x5 x6 x7 : Int32} {h0 : Heap} (p0 : Arv Z h0 v kv .byte (8 : Int32) [.int x0, .int x1, .int x2, .int x3, .int x4, .int x5, .int x6, .int x7] (.int 0)) :
    Py l Z (⟨"java/lang/StringLatin1", "newString", "([BII)Ljava/lang/String;"⟩ : MethodName) 4 64 2 6 #[(.ref v), .int 6, .int 2] h0 [] (fun rv h' => ∃ (a : Addr) (t : Addr) (kt : ClassId), rv = some (.ref a) ∧ Exa Z h' a "java/lang/String" ∧ Fld Z h' a "java/lang/String" "coder" "B" (.int 0) ∧ Fld Z h' a "java/lang/String" "value" "[B" (.ref t) ∧ Arv Z h' t kt .byte (2 : Int32) [.int x6, .int x7] (.int 0) ∧ (h0.size ≤ a)) := by
  refine Ct.py (by0 := zc19) (ml := 3) (rt := (some (.object "java/lang/String"))) (rm := ({ frames := 3, cells := 2, slots := 6, locals := 50 } : Room)) ?_ (hq hw 250 rfl) (hq hw 190 rfl)
  refine Ct.mk (a0 := a0) (Ls := #[.val (.ref v), .val (.int 6), .val (.int 2)]) (plainFor_of_name pn_java_lang_StringLatin1) (fun m => by simp [entryFrame, mkF, argsToLocals, Value.category]) ?_
  intro κ C
  show Go l _ Z _ _ _ κ [] h0 0 #[.val (.ref v), .val (.int 6), .val (.int 2)] [] 0 0
  refine od' C 1 d48_0 rfl rfl (om1' C (pc' := 7) d48_1 (by decide) (by decide) (by decide) ?_)
  refine oc1' C 10 1 4 d48_7 rfl rfl rfl (hq hw 252 rfl) (hq hw 5 rfl) (hq hw 6 rfl) (by decide) (by decide) ?_
  intro b1 ph2 g3 E4 A5 D6
  have fx7 : Fld Z ph2 b1 "java/lang/String" "coder" "B" (.int 0) := D6 (Or.inr (hq hw 31 rfl)) (ty := .byte) (by decide)
  have fx8 : Fld Z ph2 b1 "java/lang/String" "value" "[B" .null := D6 (Or.inr (hq hw 33 rfl)) (ty := (.array .byte)) (by decide)
  refine ou' C 11 d48_10 rfl rfl (oc' C 12 d48_11 rfl rfl rfl ?_)
  refine od' C 13 d48_12 rfl rfl (od' C 14 d48_13 rfl rfl ?_)
  refine od' C 15 d48_14 rfl rfl (ox1' C 16 (8 : Int32) d48_15 rfl (by decide) ?_)
  have fx9 := (p0.ext E4)
  refine or' C (argsL := [(.ref v), .int 6, .int 8]) (W := 2) d48_16 (hq hw 253 rfl) (hq hw 143 rfl) (hq hw 144 rfl) (hq hw 145 rfl) (by decide) pd___BII__B (ct_cor8_6_8 l Z a0 hw am (v := v) (kv := kv) (x0 := x0) (x1 := x1) (x2 := x2) (x3 := x3) (x4 := x4) (x5 := x5) (x6 := x6) (x7 := x7) fx9) rfl (Nat.le_of_eq rfl) rfl (by decide) mems0 ?_
  intro fv10 ph11 K12 fq13
  obtain ⟨t14, kt15, rfl, fx16, fx17⟩ := fq13
  refine ⟨[t14], (freshS ⟨fx17, (fx16).lt⟩ fresh0), ?_⟩
  show Go l _ Z _ _ _ κ [t14, b1] _ 19 _ [(.ref t14), (.ref b1), (.ref b1)] 2 6
  refine of' C 20 (0 : Int32) d48_19 rfl (by decide) ?_
  have fx18 := (A5.keep K12)
  have fx19 := (fx8.keep K12 nin0)
  have fx20 := (fx7.keep K12 nin0)
  refine oq1' C (a := b1) (argsL := [(.ref t14), .int 0]) (W := 1) d48_20 rfl (hq hw 254 rfl) (hq hw 255 rfl) (hq hw 256 rfl) (by decide) pd___BB_V (ct_sbb l Z a0 hw am (a := b1) (t := t14) fx18 fx19 fx20) rfl (Nat.le_of_eq rfl) rfl (by decide) (memsS (mi 1 rfl) mems0) ?_
  intro fv21 ph22 K23 fq24
  obtain ⟨rfl, fx25, fx26, fx27⟩ := fq24
  refine ⟨[], fresh0, ?_⟩
  show Go l _ Z _ _ _ κ _ _ 23 _ [(.ref b1)] 2 6
  refine ov' C (v := (.ref b1)) d48_23 rfl rfl rfl (by decide) (by decide) ?_
  have fx28 := (fx16.keep K23 (ninS (Ne.symm (Nat.ne_of_lt (nltle (A5).lt fx17))) nin0))
  exact ⟨b1, t14, kt15, rfl, fx25, fx26, fx27, fx28, (Nat.le_of_eq g3.symm)⟩
theorem ct_su8_6 (l : Launch) (Z : State) (a0 : Array Value) (hw : HW a0 Z) {cS : Int32} {fm : Value} (am : Amb Z a0 cS fm) {s v : Addr} {kv : ClassId} {x0 x1 x2 x3 x4 x5 x6 x7 : Int32} {h0 : Heap} (p0 : Exa Z h0 s "java/lang/String") (p1 : Fld Z h0 s "java/lang/String" "coder" "B" (.int 0)) (p2 : Fld Z h0 s "java/lang/String" "value" "[B" (.ref v)) (p3 : Arv Z h0 v kv .byte (8 : Int32) [.int x0, .int x1, .int x2, .int x3, .int x4, .int x5, .int x6, .int x7] (.int 0)) :
    Py l Z (⟨"java/lang/String", "substring", "(II)Ljava/lang/String;"⟩ : MethodName) 5 80 2 6 #[(.ref s), .int 6, .int 8] h0 [] (fun rv h' => ∃ (a : Addr) (t : Addr) (kt : ClassId), rv = some (.ref a) ∧ Exa Z h' a "java/lang/String" ∧ Fld Z h' a "java/lang/String" "coder" "B" (.int 0) ∧ Fld Z h' a "java/lang/String" "value" "[B" (.ref t) ∧ Arv Z h' t kt .byte (2 : Int32) [.int x6, .int x7] (.int 0) ∧ (h0.size ≤ a)) := by
  refine Ct.py (by0 := zc17) (ml := 5) (rt := (some (.object "java/lang/String"))) (rm := ({ frames := 4, cells := 2, slots := 6, locals := 64 } : Room)) ?_ (hq hw 234 rfl) (hq hw 6 rfl)
  refine Ct.mk (a0 := a0) (Ls := #[.val (.ref s), .val (.int 6), .val (.int 8), .unset, .unset]) (plainFor_of_name pn_java_lang_String) (fun m => by simp [entryFrame, mkF, argsToLocals, Value.category]) ?_
  intro κ C
  show Go l _ Z _ _ _ κ [] h0 0 #[.val (.ref s), .val (.int 6), .val (.int 8), .unset, .unset] [] 0 0
  refine oc' C 1 d44_0 rfl rfl rfl (oo' C (a := s) (argsL := []) (W := 0) d44_1 (hq hw 213 rfl) (hq hw 76 rfl) (nfS (hq hw 78 rfl)) (hq hw 78 rfl) (hq hw 77 rfl) p0 (by decide) pd___I (ct_len0_8 l Z a0 hw am (s := s) (t := v) (kB := kv) (vs := [.int x0, .int x1, .int x2, .int x3, .int x4, .int x5, .int x6, .int x7]) p0 p1 p2 p3) rfl (Nat.le_of_eq rfl) rfl (by decide) mems0 ?_)
  intro fv1 ph2 K3 fq4
  obtain ⟨rfl, rfl⟩ := fq4
  refine ⟨[], fresh0, ?_⟩
  show Go l _ Z _ _ _ κ _ _ 4 _ [.int 8] 0 0
  refine op1' C 5 (Ls' := #[.val (.ref s), .val (.int 6), .val (.int 8), .val (.int 8), .unset]) d44_4 rfl rfl (od' C 6 d44_5 rfl rfl ?_)
  refine od' C 7 d44_6 rfl rfl (od' C 8 d44_7 rfl rfl ?_)
  refine or' C (argsL := [.int 6, .int 8, .int 8]) (W := 0) d44_8 (hq hw 235 rfl) (hq hw 236 rfl) (hq hw 6 rfl) (hq hw 237 rfl) (by decide) pd__III_V (ct_cbe l Z a0 hw am (i := (6 : Int32)) (j := (8 : Int32)) (n := (8 : Int32)) (by decide) (by decide) (by decide)) rfl (Nat.le_of_eq rfl) rfl (by decide) mems0 ?_
  intro fv5 ph6 K7 fq8
  obtain ⟨rfl, rfl⟩ := fq8
  refine ⟨[], fresh0, ?_⟩
  show Go l _ Z _ _ _ κ _ _ 11 _ [] 0 0
  refine od' C 12 d44_11 rfl rfl (om1' C (pc' := 22) d44_12 (by decide) (by decide) (by decide) ?_)
  refine od' C 23 d44_22 rfl rfl (od' C 24 d44_23 rfl rfl ?_)
  refine oj1' C 25 (2 : Int32) d44_24 rfl (by decide) (ol' C 27 (Ls' := #[.val (.ref s), .val (.int 6), .val (.int 8), .val (.int 8), .val (.int 2)]) d44_25 rfl rfl ?_)
  refine oc' C 28 d44_27 rfl rfl rfl (oo' C (a := s) (argsL := []) (W := 0) d44_28 (hq hw 243 rfl) (hq hw 244 rfl) (nfS (hq hw 246 rfl)) (hq hw 246 rfl) (hq hw 245 rfl) p0 (by decide) pd___Z (ct_isl0 l Z a0 hw am (s := s) p1) rfl (Nat.le_of_eq rfl) rfl (by decide) mems0 ?_)
  intro fv9 ph10 K11 fq12
  obtain ⟨rfl, rfl⟩ := fq12
  refine ⟨[], fresh0, ?_⟩
  show Go l _ Z _ _ _ κ _ _ 31 _ [.int 1] 0 0
  refine ot' C 34 d44_31 rfl (by decide) (oc' C 35 d44_34 rfl rfl rfl ?_)
  refine ok' C 38 d44_35 rfl (hq hw 32 rfl) Via.refl p2 (od' C 39 d44_38 rfl rfl ?_)
  refine oa' C 41 d44_39 rfl rfl (or' C (argsL := [(.ref v), .int 6, .int 2]) (W := 0) d44_41 (hq hw 248 rfl) (hq hw 249 rfl) (hq hw 190 rfl) (hq hw 250 rfl) (by decide) pd___BII_Ljava_lang_String_ (ct_ns8_6 l Z a0 hw am (v := v) (kv := kv) (x0 := x0) (x1 := x1) (x2 := x2) (x3 := x3) (x4 := x4) (x5 := x5) (x6 := x6) (x7 := x7) p3) rfl (Nat.le_of_eq rfl) rfl (by decide) mems0 ?_)
  intro fv13 ph14 K15 fq16
  obtain ⟨a17, t18, kt19, rfl, fx20, fx21, fx22, fx23, fx24⟩ := fq16
  refine ⟨[a17], (freshS ⟨fx24, (fx20).lt⟩ fresh0), ?_⟩
  show Go l _ Z _ _ _ κ [a17] _ 44 _ [(.ref a17)] 2 6
  refine om' C (pc' := 57) d44_44 (by decide) (by decide) (ov' C (v := (.ref a17)) d44_57 rfl rfl rfl (by decide) (by decide) ?_)
  exact ⟨a17, t18, kt19, rfl, fx20, fx21, fx22, fx23, fx24⟩
theorem ct_ss8_6 (l : Launch) (Z : State) (a0 : Array Value) (hw : HW a0 Z) {cS : Int32} {fm : Value} (am : Amb Z a0 cS fm) {s v : Addr} {kv : ClassId} {x0 x1 x2 x3 x4 x5 x6 x7 : Int32} {h0 : Heap} (p0 : Exa Z h0 s "java/lang/String") (p1 : Fld Z h0 s "java/lang/String" "coder" "B" (.int 0)) (p2 : Fld Z h0 s "java/lang/String" "value" "[B" (.ref v)) (p3 : Arv Z h0 v kv .byte (8 : Int32) [.int x0, .int x1, .int x2, .int x3, .int x4, .int x5, .int x6, .int x7] (.int 0)) :
    Py l Z (⟨"java/lang/String", "substring", "(I)Ljava/lang/String;"⟩ : MethodName) 6 93 2 6 #[(.ref s), .int 6] h0 [] (fun rv h' => ∃ (a : Addr) (t : Addr) (kt : ClassId), rv = some (.ref a) ∧ Exa Z h' a "java/lang/String" ∧ Fld Z h' a "java/lang/String" "coder" "B" (.int 0) ∧ Fld Z h' a "java/lang/String" "value" "[B" (.ref t) ∧ Arv Z h' t kt .byte (2 : Int32) [.int x6, .int x7] (.int 0) ∧ (h0.size ≤ a)) := by
  refine Ct.py (by0 := zc16) (ml := 2) (rt := (some (.object "java/lang/String"))) (rm := ({ frames := 5, cells := 2, slots := 6, locals := 80 } : Room)) ?_ (hq hw 229 rfl) (hq hw 6 rfl)
  refine Ct.mk (a0 := a0) (Ls := #[.val (.ref s), .val (.int 6)]) (plainFor_of_name pn_java_lang_String) (fun m => by simp [entryFrame, mkF, argsToLocals, Value.category]) ?_
  intro κ C
  show Go l _ Z _ _ _ κ [] h0 0 #[.val (.ref s), .val (.int 6)] [] 0 0
  refine oc' C 1 d43_0 rfl rfl rfl (od' C 2 d43_1 rfl rfl ?_)
  refine oc' C 3 d43_2 rfl rfl rfl (oo' C (a := s) (argsL := []) (W := 2) d43_3 (hq hw 213 rfl) (hq hw 76 rfl) (nfS (hq hw 78 rfl)) (hq hw 78 rfl) (hq hw 77 rfl) p0 (by decide) pd___I (ct_len0_8 l Z a0 hw am (s := s) (t := v) (kB := kv) (vs := [.int x0, .int x1, .int x2, .int x3, .int x4, .int x5, .int x6, .int x7]) p0 p1 p2 p3) rfl (Nat.le_of_eq rfl) rfl (by decide) mems0 ?_)
  intro fv1 ph2 K3 fq4
  obtain ⟨rfl, rfl⟩ := fq4
  refine ⟨[], fresh0, ?_⟩
  show Go l _ Z _ _ _ κ _ _ 6 _ [.int 8, .int 6, (.ref s)] 0 0
  refine oo' C (a := s) (argsL := [.int 6, .int 8]) (W := 0) d43_6 (hq hw 230 rfl) (hq hw 231 rfl) (nfS (hq hw 233 rfl)) (hq hw 233 rfl) (hq hw 232 rfl) p0 (by decide) pd__II_Ljava_lang_String_ (ct_su8_6 l Z a0 hw am (s := s) (v := v) (kv := kv) (x0 := x0) (x1 := x1) (x2 := x2) (x3 := x3) (x4 := x4) (x5 := x5) (x6 := x6) (x7 := x7) p0 p1 p2 p3) rfl (Nat.le_of_eq rfl) rfl (by decide) mems0 ?_
  intro fv5 ph6 K7 fq8
  obtain ⟨a9, t10, kt11, rfl, fx12, fx13, fx14, fx15, fx16⟩ := fq8
  refine ⟨[a9], (freshS ⟨fx16, (fx12).lt⟩ fresh0), ?_⟩
  show Go l _ Z _ _ _ κ [a9] _ 9 _ [(.ref a9)] 2 6
  refine ov' C (v := (.ref a9)) d43_9 rfl rfl rfl (by decide) (by decide) ?_
  exact ⟨a9, t10, kt11, rfl, fx12, fx13, fx14, fx15, fx16⟩
theorem ct_sub2 (l : Launch) (Z : State) (a0 : Array Value) (hw : HW a0 Z) {cS : Int32} {fm : Value} (am : Amb Z a0 cS fm) {q m u : Addr} {ku : ClassId} {y0 y1 : Int32} {h0 : Heap} (p0 : Exa Z h0 q "com/example/evenlot/evenlot/Source") (p1 : Fld Z h0 q "com/example/evenlot/evenlot/Source" "name" "Ljava/lang/String;" (.ref m)) (p2 : Exa Z h0 m "java/lang/String") (p3 : Fld Z h0 m "java/lang/String" "coder" "B" (.int 0)) (p4 : Fld Z h0 m "java/lang/String" "value" "[B" (.ref u)) (p5 : Arv Z h0 u ku .byte (8 : Int32) [.int 115, .int 116, .int 111, .int 99, .int 107, .int 47, .int y0, .int y1] (.int 0)) :
    PyW l Z consts_1 a0 (⟨"com/example/evenlot/evenlot/Source", "subtype", "()Ljava/lang/String;"⟩ : MethodName) 7 105 6 54 #[(.ref q)] h0 [] (fun rv h' => ∃ (a : Addr) (t : Addr) (kt : ClassId), rv = some (.ref a) ∧ Exa Z h' a "java/lang/String" ∧ Fld Z h' a "java/lang/String" "coder" "B" (.int 0) ∧ Fld Z h' a "java/lang/String" "value" "[B" (.ref t) ∧ Arv Z h' t kt .byte (2 : Int32) [.int y0, .int y1] (.int 0)) := by
  have hEL := am.1
  refine CtW.py (by0 := zc46) (ml := 1) (rt := (some (.object "java/lang/String"))) (rm := ({ frames := 6, cells := 6, slots := 54, locals := 93 } : Room)) ?_ (hq hw 222 rfl) (hq hw 42 rfl)
  refine CtW.mk (a0 := a0) (Ls := #[.val (.ref q)]) (plainFor_of_name pn_com_example_evenlot_evenlot_Source) (fun m => by simp [entryFrame, mkF, argsToLocals, Value.category]) ?_
  intro κ C
  show GoW l _ Z _ _ _ _ _ κ [] h0 0 #[.val (.ref q)] [] 0 0
  refine wk1' C 1 d42_0 rfl rfl rfl (wk2' C hEL (a := q) (argsL := []) (W := 0) d42_1 (hq hw 223 rfl) (hq hw 198 rfl) (nfS (hq hw 200 rfl)) (hq hw 200 rfl) (hq hw 199 rfl) p0 (by decide) pd___Z (ct_isl2_ l Z a0 hw am (q := q) (m := m) (u := u) (ku := ku) (y0 := y0) (y1 := y1) p0 p1 p2 p3 p4 p5) rfl (Nat.le_of_eq rfl) rfl (by decide) mems0 ?_)
  intro fv1 ph2 K3 fq4
  obtain rfl := fq4
  show GoW l _ Z _ _ _ _ _ κ _ _ 4 _ [.int 0] 2 20
  refine ww2' C (pc' := 34) d42_4 (by decide) (by decide) (by decide) (wk1' C 35 d42_34 rfl rfl rfl ?_)
  have fx5 := (p1.keep K3 nin0)
  refine wp2' C 38 d42_35 rfl (hq hw 168 rfl) Via.refl fx5 (wi2' C hEL 40 4 48 (n := 24) (vs := [.int 115, .int 116, .int 111, .int 99, .int 107, .int 47]) (zn := (6 : Int32)) d42_38 rfl rfl rfl (hq hw 64 rfl) (wS hw) (List.mem_of_getElem? (i := 0) rfl) (by decide) (by decide) rfl (by decide) (by decide) (by decide) (by decide) ?_)
  intro sa6 sb7 k8 ph9 E10 fx11 fx12 fx13 fx14 fn15
  refine ws' C (a := sa6) (argsL := []) (W := 1) d42_40 (hq hw 224 rfl) (hq hw 76 rfl) (nfS (hq hw 78 rfl)) (hq hw 78 rfl) (hq hw 77 rfl) fx11 (by decide) pd___I (ct_len0_6 l Z a0 hw am (s := sa6) (t := sb7) (kB := k8) (vs := [.int 115, .int 116, .int 111, .int 99, .int 107, .int 47]) fx11 fx12 fx13 fx14) rfl (Nat.le_of_eq rfl) rfl (by decide) mems0 ?_
  intro fv16 ph17 K18 fq19
  obtain ⟨rfl, rfl⟩ := fq19
  refine ⟨[], fresh0, ?_⟩
  show GoW l _ Z _ _ _ _ _ κ _ _ 43 _ [.int 6, (.ref m)] 4 48
  have fx20 := (Exa.ext E10 (p2.keep K3))
  have fx21 := (Fld.ext E10 (p3.keep K3 nin0))
  have fx22 := (Fld.ext E10 (p4.keep K3 nin0))
  have fx23 := ((p5.keep K3 nin0).ext E10)
  refine ws' C (a := m) (argsL := [.int 6]) (W := 0) d42_43 (hq hw 225 rfl) (hq hw 226 rfl) (nfS (hq hw 228 rfl)) (hq hw 228 rfl) (hq hw 227 rfl) fx20 (by decide) pd__I_Ljava_lang_String_ (ct_ss8_6 l Z a0 hw am (s := m) (v := u) (kv := ku) (x0 := (115 : Int32)) (x1 := (116 : Int32)) (x2 := (111 : Int32)) (x3 := (99 : Int32)) (x4 := (107 : Int32)) (x5 := (47 : Int32)) (x6 := y0) (x7 := y1) fx20 fx21 fx22 fx23) rfl (Nat.le_of_eq rfl) rfl (by decide) mems0 ?_
  intro fv24 ph25 K26 fq27
  obtain ⟨a28, t29, kt30, rfl, fx31, fx32, fx33, fx34, fx35⟩ := fq27
  refine ⟨[a28], (freshS ⟨fx35, (fx31).lt⟩ fresh0), ?_⟩
  show GoW l _ Z _ _ _ _ _ κ [a28] _ 46 _ [(.ref a28)] 6 54
  refine wg2' C hEL (v := (.ref a28)) d42_46 rfl rfl rfl (by decide) (by decide) ?_
  exact ⟨a28, t29, kt30, rfl, fx31, fx32, fx33, fx34⟩
theorem ct_len0_9 (l : Launch) (Z : State) (a0 : Array Value) (hw : HW a0 Z) {cS : Int32} {fm : Value} (am : Amb Z a0 cS fm) {s t : Addr} {kB : ClassId} {vs : List Value} {h0 : Heap} (p0 : Exa Z h0 s "java/lang/String") (p1 : Fld Z h0 s "java/lang/String" "coder" "B" (.int 0)) (p2 : Fld Z h0 s "java/lang/String" "value" "[B" (.ref t)) (p3 : Arv Z h0 t kB .byte (9 : Int32) vs (.int 0)) :
    Py l Z (⟨"java/lang/String", "length", "()I"⟩ : MethodName) 2 25 0 0 #[(.ref s)] h0 [] (fun rv h' => rv = some (.int 9) ∧ h' = h0) := by
  refine Ct.py (by0 := zc12) (ml := 1) (rt := (some .int)) (rm := ({ frames := 1, cells := 0, slots := 0, locals := 13 } : Room)) ?_ (hq hw 79 rfl) (hq hw 6 rfl)
  refine Ct.mk (a0 := a0) (Ls := #[.val (.ref s)]) (plainFor_of_name pn_java_lang_String) (fun m => by simp [entryFrame, mkF, argsToLocals, Value.category]) ?_
  intro κ C
  show Go l _ Z _ _ _ κ [] h0 0 #[.val (.ref s)] [] 0 0
  refine oc' C 1 d14_0 rfl rfl rfl (ok' C 4 d14_1 rfl (hq hw 32 rfl) Via.refl p2 ?_)
  refine oj' C 5 d14_4 rfl p3 (oc' C 6 d14_5 rfl rfl rfl ?_)
  refine oo' C (a := s) (argsL := []) (W := 1) d14_6 (hq hw 80 rfl) (hq hw 81 rfl) (nfS (hq hw 83 rfl)) (hq hw 83 rfl) (hq hw 82 rfl) p0 (by decide) pd___B (ct_cod0 l Z a0 hw am (s := s) p1) rfl (Nat.le_of_eq rfl) rfl (by decide) mems0 ?_
  intro fv1 ph2 K3 fq4
  obtain ⟨rfl, rfl⟩ := fq4
  refine ⟨[], fresh0, ?_⟩
  show Go l _ Z _ _ _ κ _ _ 9 _ [.int 0, .int 9] 0 0
  refine om2' C 10 (9 : Int32) d14_9 rfl (by decide) (ol1' C d14_10 rfl (by decide) (by decide) ?_)
  exact ⟨rfl, rfl⟩
theorem ct_mis9_lot (l : Launch) (Z : State) (a0 : Array Value) (hw : HW a0 Z) {cS : Int32} {fm : Value} (am : Amb Z a0 cS fm) {v u : Addr} {kv ku : ClassId} {x6 x7 x8 : Int32} {h0 : Heap} (p0 : Arv Z h0 v kv .byte (9 : Int32) [.int 115, .int 116, .int 111, .int 99, .int 107, .int 47, .int x6, .int x7, .int x8] (.int 0)) (p1 : Arv Z h0 u ku .byte (4 : Int32) [.int 108, .int 111, .int 116, .int 47] (.int 0)) :
    Py l Z (⟨"jdk/internal/util/ArraysSupport", "mismatch", "([BI[BII)I"⟩ : MethodName) 1 19 0 0 #[(.ref v), .int 0, (.ref u), .int 0, .int 4] h0 [] (fun rv h' => rv = some (.int 0) ∧ h' = h0) := by
  refine Ct.py (by0 := zc20) (ml := 8) (rt := (some .int)) (rm := ({ frames := 0, cells := 0, slots := 0, locals := 0 } : Room)) ?_ (hq hw 217 rfl) (hq hw 216 rfl)
  refine Ct.mk (a0 := a0) (Ls := #[.val (.ref v), .val (.int 0), .val (.ref u), .val (.int 0), .val (.int 4), .unset, .unset, .unset]) (plainFor_of_name pn_jdk_internal_util_ArraysSupport) (fun m => by simp [entryFrame, mkF, argsToLocals, Value.category]) ?_
  intro κ C
  show Go l _ Z _ _ _ κ [] h0 0 #[.val (.ref v), .val (.int 0), .val (.ref u), .val (.int 0), .val (.int 4), .unset, .unset, .unset] [] 0 0
  refine of' C 1 (0 : Int32) d41_0 rfl (by decide) (ol' C 3 (Ls' := #[.val (.ref v), .val (.int 0), .val (.ref u), .val (.int 0), .val (.int 4), .val (.int 0), .unset, .unset]) d41_1 rfl rfl ?_)
  refine oa' C 5 d41_3 rfl rfl (ox' C 7 (7 : Int32) d41_5 rfl (by decide) ?_)
  refine oh' C (pc' := 70) d41_7 (by decide) (by decide) (by decide) (oa' C 72 d41_70 rfl rfl ?_)
  refine oa' C 74 d41_72 rfl rfl (oi' C 77 d41_74 rfl (by decide) ?_)
  refine oc' C 78 d41_77 rfl rfl rfl (od' C 79 d41_78 rfl rfl ?_)
  refine oa' C 81 d41_79 rfl rfl (ox1' C 82 (0 : Int32) d41_81 rfl (by decide) ?_)
  refine op' C 83 (v := (.int 115)) d41_82 rfl p0 (by decide) rfl (oc' C 84 d41_83 rfl rfl rfl ?_)
  refine od' C 85 d41_84 rfl rfl (oa' C 87 d41_85 rfl rfl ?_)
  refine ox1' C 88 (0 : Int32) d41_87 rfl (by decide) (op' C 89 (v := (.int 108)) d41_88 rfl p1 (by decide) rfl ?_)
  refine oi' C 92 d41_89 rfl (by decide) (oa' C 94 d41_92 rfl rfl ?_)
  refine ol1' C d41_94 rfl (by decide) (by decide) ?_
  exact ⟨rfl, rfl⟩
theorem ct_sw29_lot (l : Launch) (Z : State) (a0 : Array Value) (hw : HW a0 Z) {cS : Int32} {fm : Value} (am : Amb Z a0 cS fm) {s p v u : Addr} {kv ku : ClassId} {x6 x7 x8 : Int32} {h0 : Heap} (p0 : Exa Z h0 s "java/lang/String") (p1 : Fld Z h0 s "java/lang/String" "coder" "B" (.int 0)) (p2 : Fld Z h0 s "java/lang/String" "value" "[B" (.ref v)) (p3 : Arv Z h0 v kv .byte (9 : Int32) [.int 115, .int 116, .int 111, .int 99, .int 107, .int 47, .int x6, .int x7, .int x8] (.int 0)) (p4 : Exa Z h0 p "java/lang/String") (p5 : Fld Z h0 p "java/lang/String" "coder" "B" (.int 0)) (p6 : Fld Z h0 p "java/lang/String" "value" "[B" (.ref u)) (p7 : Arv Z h0 u ku .byte (4 : Int32) [.int 108, .int 111, .int 116, .int 47] (.int 0)) :
    Py l Z (⟨"java/lang/String", "startsWith", "(Ljava/lang/String;I)Z"⟩ : MethodName) 3 46 0 0 #[(.ref s), (.ref p), .int 0] h0 [] (fun rv h' => rv = some (.int 0) ∧ h' = h0) := by
  refine Ct.py (by0 := zc14) (ml := 8) (rt := (some .boolean)) (rm := ({ frames := 2, cells := 0, slots := 0, locals := 27 } : Room)) ?_ (hq hw 212 rfl) (hq hw 6 rfl)
  refine Ct.mk (a0 := a0) (Ls := #[.val (.ref s), .val (.ref p), .val (.int 0), .unset, .unset, .unset, .unset, .unset]) (plainFor_of_name pn_java_lang_String) (fun m => by simp [entryFrame, mkF, argsToLocals, Value.category]) ?_
  intro κ C
  show Go l _ Z _ _ _ κ [] h0 0 #[.val (.ref s), .val (.ref p), .val (.int 0), .unset, .unset, .unset, .unset, .unset] [] 0 0
  refine od' C 1 d40_0 rfl rfl (ot' C 4 d40_1 rfl (by decide) ?_)
  refine od' C 5 d40_4 rfl rfl (oc' C 6 d40_5 rfl rfl rfl ?_)
  refine oo' C (a := s) (argsL := []) (W := 1) d40_6 (hq hw 213 rfl) (hq hw 76 rfl) (nfS (hq hw 78 rfl)) (hq hw 78 rfl) (hq hw 77 rfl) p0 (by decide) pd___I (ct_len0_9 l Z a0 hw am (s := s) (t := v) (kB := kv) (vs := [.int 115, .int 116, .int 111, .int 99, .int 107, .int 47, .int x6, .int x7, .int x8]) p0 p1 p2 p3) rfl (Nat.le_of_eq rfl) rfl (by decide) mems0 ?_
  intro fv1 ph2 K3 fq4
  obtain ⟨rfl, rfl⟩ := fq4
  refine ⟨[], fresh0, ?_⟩
  show Go l _ Z _ _ _ κ _ _ 9 _ [.int 9, .int 0] 0 0
  refine oc' C 10 d40_9 rfl rfl rfl (oo' C (a := p) (argsL := []) (W := 2) d40_10 (hq hw 213 rfl) (hq hw 76 rfl) (nfS (hq hw 78 rfl)) (hq hw 78 rfl) (hq hw 77 rfl) p4 (by decide) pd___I (ct_len0_4 l Z a0 hw am (s := p) (t := u) (kB := ku) (vs := [.int 108, .int 111, .int 116, .int 47]) p4 p5 p6 p7) rfl (Nat.le_of_eq rfl) rfl (by decide) mems0 ?_)
  intro fv5 ph6 K7 fq8
  obtain ⟨rfl, rfl⟩ := fq8
  refine ⟨[], fresh0, ?_⟩
  show Go l _ Z _ _ _ κ _ _ 13 _ [.int 4, .int 9, .int 0] 0 0
  refine oj1' C 14 (5 : Int32) d40_13 rfl (by decide) (oh' C (pc' := 19) d40_14 (by decide) (by decide) (by decide) ?_)
  refine oc' C 20 d40_19 rfl rfl rfl (ok' C 23 d40_20 rfl (hq hw 32 rfl) Via.refl p2 ?_)
  refine ov1' C 24 (Ls' := #[.val (.ref s), .val (.ref p), .val (.int 0), .val (.ref v), .unset, .unset, .unset, .unset]) d40_23 rfl rfl rfl (oc' C 25 d40_24 rfl rfl rfl ?_)
  refine ok' C 28 d40_25 rfl (hq hw 32 rfl) Via.refl p6 (ob1' C 30 (Ls' := #[.val (.ref s), .val (.ref p), .val (.int 0), .val (.ref v), .val (.ref u), .unset, .unset, .unset]) d40_28 rfl rfl rfl ?_)
  refine of' C 31 (0 : Int32) d40_30 rfl (by decide) (ol' C 33 (Ls' := #[.val (.ref s), .val (.ref p), .val (.int 0), .val (.ref v), .val (.ref u), .val (.int 0), .unset, .unset]) d40_31 rfl rfl ?_)
  refine ob' C 35 d40_33 rfl rfl rfl (oj' C 36 d40_35 rfl p7 ?_)
  refine ol' C 38 (Ls' := #[.val (.ref s), .val (.ref p), .val (.int 0), .val (.ref v), .val (.ref u), .val (.int 0), .val (.int 4), .unset]) d40_36 rfl rfl (oc' C 39 d40_38 rfl rfl rfl ?_)
  refine oo' C (a := s) (argsL := []) (W := 0) d40_39 (hq hw 80 rfl) (hq hw 81 rfl) (nfS (hq hw 83 rfl)) (hq hw 83 rfl) (hq hw 82 rfl) p0 (by decide) pd___B (ct_cod0 l Z a0 hw am (s := s) p1) rfl (Nat.le_of_eq rfl) rfl (by decide) mems0 ?_
  intro fv9 ph10 K11 fq12
  obtain ⟨rfl, rfl⟩ := fq12
  refine ⟨[], fresh0, ?_⟩
  show Go l _ Z _ _ _ κ _ _ 42 _ [.int 0] 0 0
  refine ol' C 44 (Ls' := #[.val (.ref s), .val (.ref p), .val (.int 0), .val (.ref v), .val (.ref u), .val (.int 0), .val (.int 4), .val (.int 0)]) d40_42 rfl rfl (oa' C 46 d40_44 rfl rfl ?_)
  refine oc' C 47 d40_46 rfl rfl rfl (oo' C (a := p) (argsL := []) (W := 1) d40_47 (hq hw 80 rfl) (hq hw 81 rfl) (nfS (hq hw 83 rfl)) (hq hw 83 rfl) (hq hw 82 rfl) p4 (by decide) pd___B (ct_cod0 l Z a0 hw am (s := p) p5) rfl (Nat.le_of_eq rfl) rfl (by decide) mems0 ?_)
  intro fv13 ph14 K15 fq16
  obtain ⟨rfl, rfl⟩ := fq16
  refine ⟨[], fresh0, ?_⟩
  show Go l _ Z _ _ _ κ _ _ 50 _ [.int 0, .int 0] 0 0
  refine oi' C 53 d40_50 rfl (by decide) (oa' C 55 d40_53 rfl rfl ?_)
  refine of' C 56 (1 : Int32) d40_55 rfl (by decide) (oh' C (pc' := 63) d40_56 (by decide) (by decide) (by decide) ?_)
  refine oc' C 64 d40_63 rfl rfl rfl (od' C 65 d40_64 rfl rfl ?_)
  refine ob' C 67 d40_65 rfl rfl rfl (of' C 68 (0 : Int32) d40_67 rfl (by decide) ?_)
  refine oa' C 70 d40_68 rfl rfl (or' C (argsL := [(.ref v), .int 0, (.ref u), .int 0, .int 4]) (W := 0) d40_70 (hq hw 214 rfl) (hq hw 215 rfl) (hq hw 216 rfl) (hq hw 217 rfl) (by decide) pd___BI_BII_I (ct_mis9_lot l Z a0 hw am (v := v) (u := u) (kv := kv) (ku := ku) (x6 := x6) (x7 := x7) (x8 := x8) p3 p7) rfl (Nat.le_of_eq rfl) rfl (by decide) mems0 ?_)
  intro fv17 ph18 K19 fq20
  obtain ⟨rfl, rfl⟩ := fq20
  refine ⟨[], fresh0, ?_⟩
  show Go l _ Z _ _ _ κ _ _ 73 _ [.int 0] 0 0
  refine om1' C (pc' := 80) d40_73 (by decide) (by decide) (by decide) (of' C 81 (0 : Int32) d40_80 rfl (by decide) ?_)
  refine oz' C (t := .boolean) (z := (0 : Int32)) d40_81 rfl (by decide) (by decide) (by decide) (by decide) ?_
  exact ⟨rfl, rfl⟩
theorem ct_sw19_lot (l : Launch) (Z : State) (a0 : Array Value) (hw : HW a0 Z) {cS : Int32} {fm : Value} (am : Amb Z a0 cS fm) {s p v u : Addr} {kv ku : ClassId} {x6 x7 x8 : Int32} {h0 : Heap} (p0 : Exa Z h0 s "java/lang/String") (p1 : Fld Z h0 s "java/lang/String" "coder" "B" (.int 0)) (p2 : Fld Z h0 s "java/lang/String" "value" "[B" (.ref v)) (p3 : Arv Z h0 v kv .byte (9 : Int32) [.int 115, .int 116, .int 111, .int 99, .int 107, .int 47, .int x6, .int x7, .int x8] (.int 0)) (p4 : Exa Z h0 p "java/lang/String") (p5 : Fld Z h0 p "java/lang/String" "coder" "B" (.int 0)) (p6 : Fld Z h0 p "java/lang/String" "value" "[B" (.ref u)) (p7 : Arv Z h0 u ku .byte (4 : Int32) [.int 108, .int 111, .int 116, .int 47] (.int 0)) :
    Py l Z (⟨"java/lang/String", "startsWith", "(Ljava/lang/String;)Z"⟩ : MethodName) 4 59 0 0 #[(.ref s), (.ref p)] h0 [] (fun rv h' => rv = some (.int 0) ∧ h' = h0) := by
  refine Ct.py (by0 := zc15) (ml := 2) (rt := (some .boolean)) (rm := ({ frames := 3, cells := 0, slots := 0, locals := 46 } : Room)) ?_ (hq hw 207 rfl) (hq hw 6 rfl)
  refine Ct.mk (a0 := a0) (Ls := #[.val (.ref s), .val (.ref p)]) (plainFor_of_name pn_java_lang_String) (fun m => by simp [entryFrame, mkF, argsToLocals, Value.category]) ?_
  intro κ C
  show Go l _ Z _ _ _ κ [] h0 0 #[.val (.ref s), .val (.ref p)] [] 0 0
  refine oc' C 1 d39_0 rfl rfl rfl (oc' C 2 d39_1 rfl rfl rfl ?_)
  refine of' C 3 (0 : Int32) d39_2 rfl (by decide) (oo' C (a := s) (argsL := [(.ref p), .int 0]) (W := 0) d39_3 (hq hw 208 rfl) (hq hw 209 rfl) (nfS (hq hw 211 rfl)) (hq hw 211 rfl) (hq hw 210 rfl) p0 (by decide) pd__Ljava_lang_String_I_Z (ct_sw29_lot l Z a0 hw am (s := s) (p := p) (v := v) (u := u) (kv := kv) (ku := ku) (x6 := x6) (x7 := x7) (x8 := x8) p0 p1 p2 p3 p4 p5 p6 p7) rfl (Nat.le_of_eq rfl) rfl (by decide) mems0 ?_)
  intro fv1 ph2 K3 fq4
  obtain ⟨rfl, rfl⟩ := fq4
  refine ⟨[], fresh0, ?_⟩
  show Go l _ Z _ _ _ κ _ _ 6 _ [.int 0] 0 0
  refine oz' C (t := .boolean) (z := (0 : Int32)) d39_6 rfl (by decide) (by decide) (by decide) (by decide) ?_
  exact ⟨rfl, rfl⟩
theorem ct_isl3_ (l : Launch) (Z : State) (a0 : Array Value) (hw : HW a0 Z) {cS : Int32} {fm : Value} (am : Amb Z a0 cS fm) {q m u : Addr} {ku : ClassId} {y0 y1 y2 : Int32} {h0 : Heap} (p0 : Exa Z h0 q "com/example/evenlot/evenlot/Source") (p1 : Fld Z h0 q "com/example/evenlot/evenlot/Source" "name" "Ljava/lang/String;" (.ref m)) (p2 : Exa Z h0 m "java/lang/String") (p3 : Fld Z h0 m "java/lang/String" "coder" "B" (.int 0)) (p4 : Fld Z h0 m "java/lang/String" "value" "[B" (.ref u)) (p5 : Arv Z h0 u ku .byte (9 : Int32) [.int 115, .int 116, .int 111, .int 99, .int 107, .int 47, .int y0, .int y1, .int y2] (.int 0)) :
    PyW l Z consts_1 a0 (⟨"com/example/evenlot/evenlot/Source", "isLot", "()Z"⟩ : MethodName) 5 71 2 20 #[(.ref q)] h0 [] (fun rv h' => rv = some (.int 0)) := by
  have hEL := am.1
  refine CtW.py (by0 := zc47) (ml := 1) (rt := (some .boolean)) (rm := ({ frames := 4, cells := 2, slots := 20, locals := 59 } : Room)) ?_ (hq hw 201 rfl) (hq hw 42 rfl)
  refine CtW.mk (a0 := a0) (Ls := #[.val (.ref q)]) (plainFor_of_name pn_com_example_evenlot_evenlot_Source) (fun m => by simp [entryFrame, mkF, argsToLocals, Value.category]) ?_
  intro κ C
  show GoW l _ Z _ _ _ _ _ κ [] h0 0 #[.val (.ref q)] [] 0 0
  refine wk1' C 1 d38_0 rfl rfl rfl (wp2' C 4 d38_1 rfl (hq hw 168 rfl) Via.refl p1 ?_)
  refine wi2' C hEL 6 2 20 (n := 16) (vs := [.int 108, .int 111, .int 116, .int 47]) (zn := (4 : Int32)) d38_4 rfl rfl rfl (hq hw 202 rfl) (wS hw) (List.mem_of_getElem? (i := 1) rfl) (by decide) (by decide) rfl (by decide) (by decide) (by decide) (by decide) ?_
  intro sa1 sb2 k3 ph4 E5 fx6 fx7 fx8 fx9 fn10
  have fx11 := (Exa.ext E5 p2)
  have fx12 := (Fld.ext E5 p3)
  have fx13 := (Fld.ext E5 p4)
  have fx14 := (p5.ext E5)
  refine ws' C (a := m) (argsL := [(.ref sa1)]) (W := 0) d38_6 (hq hw 203 rfl) (hq hw 204 rfl) (nfS (hq hw 206 rfl)) (hq hw 206 rfl) (hq hw 205 rfl) fx11 (by decide) pd__Ljava_lang_String__Z (ct_sw19_lot l Z a0 hw am (s := m) (p := sa1) (v := u) (u := sb2) (kv := ku) (ku := k3) (x6 := y0) (x7 := y1) (x8 := y2) fx11 fx12 fx13 fx14 fx6 fx7 fx8 fx9) rfl (Nat.le_of_eq rfl) rfl (by decide) mems0 ?_
  intro fv15 ph16 K17 fq18
  obtain ⟨rfl, rfl⟩ := fq18
  refine ⟨[], fresh0, ?_⟩
  show GoW l _ Z _ _ _ _ _ κ _ _ 9 _ [.int 0] 2 20
  refine ws2' C hEL (t := .boolean) (z := (0 : Int32)) d38_9 rfl (by decide) (by decide) (by decide) (by decide) ?_
  exact rfl
theorem ct_cl6_9 (l : Launch) (Z : State) (a0 : Array Value) (hw : HW a0 Z) {cS : Int32} {fm : Value} (am : Amb Z a0 cS fm) {h0 : Heap} :
    Py l Z (⟨"java/util/Arrays", "checkLength", "(II)V"⟩ : MethodName) 1 13 0 0 #[.int 6, .int 9] h0 [] (fun rv h' => rv = none ∧ h' = h0) := by
  refine Ct.py (by0 := zc24) (ml := 2) (rt := none) (rm := ({ frames := 0, cells := 0, slots := 0, locals := 0 } : Room)) ?_ (hq hw 151 rfl) (hq hw 144 rfl)
  refine Ct.mk (a0 := a0) (Ls := #[.val (.int 6), .val (.int 9)]) (plainFor_of_name pn_java_util_Arrays) (fun m => by simp [entryFrame, mkF, argsToLocals, Value.category]) ?_
  intro κ C
  show Go l _ Z _ _ _ κ [] h0 0 #[.val (.int 6), .val (.int 9)] [] 0 0
  refine od' C 1 d29_0 rfl rfl (od' C 2 d29_1 rfl rfl ?_)
  refine oh' C (pc' := 37) d29_2 (by decide) (by decide) (by decide) (oe' C d29_37 rfl (by decide) (by decide) ?_)
  exact ⟨rfl, rfl⟩
theorem ct_min3_3 (l : Launch) (Z : State) (a0 : Array Value) (hw : HW a0 Z) {cS : Int32} {fm : Value} (am : Amb Z a0 cS fm) {h0 : Heap} :
    Py l Z (⟨"java/lang/Math", "min", "(II)I"⟩ : MethodName) 1 13 0 0 #[.int 3, .int 3] h0 [] (fun rv h' => rv = some (.int 3) ∧ h' = h0) := by
  refine Ct.py (by0 := zc0) (ml := 2) (rt := (some .int)) (rm := ({ frames := 0, cells := 0, slots := 0, locals := 0 } : Room)) ?_ (hq hw 155 rfl) (hq hw 154 rfl)
  refine Ct.mk (a0 := a0) (Ls := #[.val (.int 3), .val (.int 3)]) (Jvm.Free.JP.mathPlain rfl (by decide +kernel)) (fun m => by simp [entryFrame, mkF, argsToLocals, Value.category]) ?_
  intro κ C
  show Go l _ Z _ _ _ κ [] h0 0 #[.val (.int 3), .val (.int 3)] [] 0 0
  refine od' C 1 d30_0 rfl rfl (od' C 2 d30_1 rfl rfl ?_)
  refine oi' C 5 d30_2 rfl (by decide) (od' C 6 d30_5 rfl rfl ?_)
  refine om' C (pc' := 10) d30_6 (by decide) (by decide) (ol1' C d30_10 rfl (by decide) (by decide) ?_)
  exact ⟨rfl, rfl⟩
theorem ct_crb9_6_9 (l : Launch) (Z : State) (a0 : Array Value) (hw : HW a0 Z) {cS : Int32} {fm : Value} (am : Amb Z a0 cS fm) {v : Addr} {kv : ClassId} {x0 x1 x2 x3 x4 x5 x6 x7 x8 : Int32} {h0 : Heap} (p0 : Arv Z h0 v kv .byte (9 : Int32) [.int x0, .int x1, .int x2, .int x3, .int x4, .int x5, .int x6, .int x7, .int x8] (.int 0)) :
    Py l Z (⟨"java/util/Arrays", "copyOfRangeByte", "([BII)[B"⟩ : MethodName) 2 34 1 3 #[(.ref v), .int 6, .int 9] h0 [] (fun rv h' => ∃ (t : Addr) (kt : ClassId), rv = some (.ref t) ∧ Arv Z h' t kt .byte (3 : Int32) [.int x6, .int x7, .int x8] (.int 0) ∧ (h0.size ≤ t)) := by
  refine Ct.py (by0 := zc26) (ml := 5) (rt := (some (.array .byte))) (rm := ({ frames := 1, cells := 1, slots := 3, locals := 18 } : Room)) ?_ (hq hw 148 rfl) (hq hw 144 rfl)
  refine Ct.mk (a0 := a0) (Ls := #[.val (.ref v), .val (.int 6), .val (.int 9), .unset, .unset]) (plainFor_of_name pn_java_util_Arrays) (fun m => by simp [entryFrame, mkF, argsToLocals, Value.category]) ?_
  intro κ C
  show Go l _ Z _ _ _ κ [] h0 0 #[.val (.ref v), .val (.int 6), .val (.int 9), .unset, .unset] [] 0 0
  refine od' C 1 d28_0 rfl rfl (od' C 2 d28_1 rfl rfl ?_)
  refine or' C (argsL := [.int 6, .int 9]) (W := 0) d28_2 (hq hw 149 rfl) (hq hw 150 rfl) (hq hw 144 rfl) (hq hw 151 rfl) (by decide) pd__II_V (ct_cl6_9 l Z a0 hw am) rfl (Nat.le_of_eq rfl) rfl (by decide) mems0 ?_
  intro fv1 ph2 K3 fq4
  obtain ⟨rfl, rfl⟩ := fq4
  refine ⟨[], fresh0, ?_⟩
  show Go l _ Z _ _ _ κ _ _ 5 _ [] 0 0
  refine od' C 6 d28_5 rfl rfl (od' C 7 d28_6 rfl rfl ?_)
  refine oj1' C 8 (3 : Int32) d28_7 rfl (by decide) (op1' C 9 (Ls' := #[.val (.ref v), .val (.int 6), .val (.int 9), .val (.int 3), .unset]) d28_8 rfl rfl ?_)
  refine od' C 10 d28_9 rfl rfl (ow1' C 12 1 3 (ty := .byte) (cap := 3) d28_10 rfl rfl rfl rfl (hq hw 23 rfl) (by decide) (by decide) (by decide) (by decide) (by decide) ?_)
  intro b5 ph6 k7 g8 E9 V10
  have fx11 : Arv Z ph6 b5 k7 .byte (3 : Int32) [.int 0, .int 0, .int 0] (.int 0) := V10
  refine ob1' C 14 (Ls' := #[.val (.ref v), .val (.int 6), .val (.int 9), .val (.int 3), .val (.ref b5)]) d28_12 rfl rfl rfl (oc' C 15 d28_14 rfl rfl rfl ?_)
  refine od' C 16 d28_15 rfl rfl (ob' C 18 d28_16 rfl rfl rfl ?_)
  refine of' C 19 (0 : Int32) d28_18 rfl (by decide) (oc' C 20 d28_19 rfl rfl rfl ?_)
  have fx12 := (p0.ext E9)
  refine oj' C 21 d28_20 rfl fx12 (od' C 22 d28_21 rfl rfl ?_)
  refine oj1' C 23 (3 : Int32) d28_22 rfl (by decide) (od' C 24 d28_23 rfl rfl ?_)
  refine or' C (argsL := [.int 3, .int 3]) (W := 4) d28_24 (hq hw 152 rfl) (hq hw 153 rfl) (hq hw 154 rfl) (hq hw 155 rfl) (by decide) pd__II_I (ct_min3_3 l Z a0 hw am) rfl (Nat.le_of_eq rfl) rfl (by decide) mems0 ?_
  intro fv13 ph14 K15 fq16
  obtain ⟨rfl, rfl⟩ := fq16
  refine ⟨[], fresh0, ?_⟩
  show Go l _ Z _ _ _ κ _ _ 27 _ [.int 3, .int 0, (.ref b5), .int 6, (.ref v)] 1 3
  refine on2' C 30 (W := 0) (us := [.int x6, .int x7, .int x8]) (vr := [.int x6, .int x7, .int x8]) d28_27 rfl (hq hw 156 rfl) (hq hw 111 rfl) (hq hw 109 rfl) (hq hw 110 rfl) fx12 fx11 rfl (by decide) (by decide) (by decide) (by decide) (by decide) rfl (nble rfl) rfl rfl (by decide) (Nat.le_of_eq rfl) (by decide) (mi 0 rfl) ?_
  intro ph17 K18 fx19
  refine ob' C 32 d28_30 rfl rfl rfl (ov' C (v := (.ref b5)) d28_32 rfl rfl rfl (by decide) (by decide) ?_)
  exact ⟨b5, k7, rfl, fx19, (Nat.le_of_eq g8.symm)⟩
theorem ct_cor9_6_9 (l : Launch) (Z : State) (a0 : Array Value) (hw : HW a0 Z) {cS : Int32} {fm : Value} (am : Amb Z a0 cS fm) {v : Addr} {kv : ClassId} {x0 x1 x2 x3 x4 x5 x6 x7 x8 : Int32} {h0 : Heap} (p0 : Arv Z h0 v kv .byte (9 : Int32) [.int x0, .int x1, .int x2, .int x3, .int x4, .int x5, .int x6, .int x7, .int x8] (.int 0)) :
    Py l Z (⟨"java/util/Arrays", "copyOfRange", "([BII)[B"⟩ : MethodName) 3 48 1 3 #[(.ref v), .int 6, .int 9] h0 [] (fun rv h' => ∃ (t : Addr) (kt : ClassId), rv = some (.ref t) ∧ Arv Z h' t kt .byte (3 : Int32) [.int x6, .int x7, .int x8] (.int 0) ∧ (h0.size ≤ t)) := by
  refine Ct.py (by0 := zc25) (ml := 3) (rt := (some (.array .byte))) (rm := ({ frames := 2, cells := 1, slots := 3, locals := 34 } : Room)) ?_ (hq hw 145 rfl) (hq hw 144 rfl)
  refine Ct.mk (a0 := a0) (Ls := #[.val (.ref v), .val (.int 6), .val (.int 9)]) (plainFor_of_name pn_java_util_Arrays) (fun m => by simp [entryFrame, mkF, argsToLocals, Value.category]) ?_
  intro κ C
  show Go l _ Z _ _ _ κ [] h0 0 #[.val (.ref v), .val (.int 6), .val (.int 9)] [] 0 0
  refine od' C 1 d27_0 rfl rfl (om1' C (pc' := 10) d27_1 (by decide) (by decide) (by decide) ?_)
  refine oc' C 11 d27_10 rfl rfl rfl (od' C 12 d27_11 rfl rfl ?_)
  refine od' C 13 d27_12 rfl rfl (or' C (argsL := [(.ref v), .int 6, .int 9]) (W := 0) d27_13 (hq hw 146 rfl) (hq hw 147 rfl) (hq hw 144 rfl) (hq hw 148 rfl) (by decide) pd___BII__B (ct_crb9_6_9 l Z a0 hw am (v := v) (kv := kv) (x0 := x0) (x1 := x1) (x2 := x2) (x3 := x3) (x4 := x4) (x5 := x5) (x6 := x6) (x7 := x7) (x8 := x8) p0) rfl (Nat.le_of_eq rfl) rfl (by decide) mems0 ?_)
  intro fv1 ph2 K3 fq4
  obtain ⟨t5, kt6, rfl, fx7, fx8⟩ := fq4
  refine ⟨[t5], (freshS ⟨fx8, (fx7).lt⟩ fresh0), ?_⟩
  show Go l _ Z _ _ _ κ [t5] _ 16 _ [(.ref t5)] 1 3
  refine ov' C (v := (.ref t5)) d27_16 rfl rfl rfl (by decide) (by decide) ?_
  exact ⟨t5, kt6, rfl, fx7, fx8⟩
theorem ct_ns9_6 (l : Launch) (Z : State) (a0 : Array Value) (hw : HW a0 Z) {cS : Int32} {fm : Value} (am : Amb Z a0 cS fm) {v : Addr} {kv : ClassId} {x0 x1 x2 x3 x4 x5 x6 x7 x8 : Int32} {h0 : Heap} (p0 : Arv Z h0 v kv .byte (9 : Int32) [.int x0, .int x1, .int x2, .int x3, .int x4, .int x5, .int x6, .int x7, .int x8] (.int 0)) :
    Py l Z (⟨"java/lang/StringLatin1", "newString", "([BII)Ljava/lang/String;"⟩ : MethodName) 4 64 2 7 #[(.ref v), .int 6, .int 3] h0 [] (fun rv h' => ∃ (a : Addr) (t : Addr) (kt : ClassId), rv = some (.ref a) ∧ Exa Z h' a "java/lang/String" ∧ Fld Z h' a "java/lang/String" "coder" "B" (.int 0) ∧ Fld Z h' a "java/lang/String" "value" "[B" (.ref t) ∧ Arv Z h' t kt .byte (3 : Int32) [.int x6, .int x7, .int x8] (.int 0) ∧ (h0.size ≤ a)) := by
  refine Ct.py (by0 := zc19) (ml := 3) (rt := (some (.object "java/lang/String"))) (rm := ({ frames := 3, cells := 2, slots := 7, locals := 50 } : Room)) ?_ (hq hw 250 rfl) (hq hw 190 rfl)
  refine Ct.mk (a0 := a0) (Ls := #[.val (.ref v), .val (.int 6), .val (.int 3)]) (plainFor_of_name pn_java_lang_StringLatin1) (fun m => by simp [entryFrame, mkF, argsToLocals, Value.category]) ?_
  intro κ C
  show Go l _ Z _ _ _ κ [] h0 0 #[.val (.ref v), .val (.int 6), .val (.int 3)] [] 0 0
  refine od' C 1 d48_0 rfl rfl (om1' C (pc' := 7) d48_1 (by decide) (by decide) (by decide) ?_)
  refine oc1' C 10 1 4 d48_7 rfl rfl rfl (hq hw 252 rfl) (hq hw 5 rfl) (hq hw 6 rfl) (by decide) (by decide) ?_
  intro b1 ph2 g3 E4 A5 D6
  have fx7 : Fld Z ph2 b1 "java/lang/String" "coder" "B" (.int 0) := D6 (Or.inr (hq hw 31 rfl)) (ty := .byte) (by decide)
  have fx8 : Fld Z ph2 b1 "java/lang/String" "value" "[B" .null := D6 (Or.inr (hq hw 33 rfl)) (ty := (.array .byte)) (by decide)
  refine ou' C 11 d48_10 rfl rfl (oc' C 12 d48_11 rfl rfl rfl ?_)
  refine od' C 13 d48_12 rfl rfl (od' C 14 d48_13 rfl rfl ?_)
  refine od' C 15 d48_14 rfl rfl (ox1' C 16 (9 : Int32) d48_15 rfl (by decide) ?_)
  have fx9 := (p0.ext E4)
  refine or' C (argsL := [(.ref v), .int 6, .int 9]) (W := 2) d48_16 (hq hw 253 rfl) (hq hw 143 rfl) (hq hw 144 rfl) (hq hw 145 rfl) (by decide) pd___BII__B (ct_cor9_6_9 l Z a0 hw am (v := v) (kv := kv) (x0 := x0) (x1 := x1) (x2 := x2) (x3 := x3) (x4 := x4) (x5 := x5) (x6 := x6) (x7 := x7) (x8 := x8) fx9) rfl (Nat.le_of_eq rfl) rfl (by decide) mems0 ?_
  intro fv10 ph11 K12 fq13
  obtain ⟨t14, kt15, rfl, fx16, fx17⟩ := fq13
  refine ⟨[t14], (freshS ⟨fx17, (fx16).lt⟩ fresh0), ?_⟩
  show Go l _ Z _ _ _ κ [t14, b1] _ 19 _ [(.ref t14), (.ref b1), (.ref b1)] 2 7
  refine of' C 20 (0 : Int32) d48_19 rfl (by decide) ?_
  have fx18 := (A5.keep K12)
  have fx19 := (fx8.keep K12 nin0)
  have fx20 := (fx7.keep K12 nin0)
  refine oq1' C (a := b1) (argsL := [(.ref t14), .int 0]) (W := 1) d48_20 rfl (hq hw 254 rfl) (hq hw 255 rfl) (hq hw 256 rfl) (by decide) pd___BB_V (ct_sbb l Z a0 hw am (a := b1) (t := t14) fx18 fx19 fx20) rfl (Nat.le_of_eq rfl) rfl (by decide) (memsS (mi 1 rfl) mems0) ?_
  intro fv21 ph22 K23 fq24
  obtain ⟨rfl, fx25, fx26, fx27⟩ := fq24
  refine ⟨[], fresh0, ?_⟩
  show Go l _ Z _ _ _ κ _ _ 23 _ [(.ref b1)] 2 7
  refine ov' C (v := (.ref b1)) d48_23 rfl rfl rfl (by decide) (by decide) ?_
  have fx28 := (fx16.keep K23 (ninS (Ne.symm (Nat.ne_of_lt (nltle (A5).lt fx17))) nin0))
  exact ⟨b1, t14, kt15, rfl, fx25, fx26, fx27, fx28, (Nat.le_of_eq g3.symm)⟩
theorem ct_su9_6 (l : Launch) (Z : State) (a0 : Array Value) (hw : HW a0 Z) {cS : Int32} {fm : Value} (am : Amb Z a0 cS fm) {s v : Addr} {kv : ClassId} {x0 x1 x2 x3 x4 x5 x6 x7 x8 : Int32} {h0 : Heap} (p0 : Exa Z h0 s "java/lang/String") (p1 : Fld Z h0 s "java/lang/String" "coder" "B" (.int 0)) (p2 : Fld Z h0 s "java/lang/String" "value" "[B" (.ref v)) (p3 : Arv Z h0 v kv .byte (9 : Int32) [.int x0, .int x1, .int x2, .int x3, .int x4, .int x5, .int x6, .int x7, .int x8] (.int 0)) :
    Py l Z (⟨"java/lang/String", "substring", "(II)Ljava/lang/String;"⟩ : MethodName) 5 80 2 7 #[(.ref s), .int 6, .int 9] h0 [] (fun rv h' => ∃ (a : Addr) (t : Addr) (kt : ClassId), rv = some (.ref a) ∧ Exa Z h' a "java/lang/String" ∧ Fld Z h' a "java/lang/String" "coder" "B" (.int 0) ∧ Fld Z h' a "java/lang/String" "value" "[B" (.ref t) ∧ Arv Z h' t kt .byte (3 : Int32) [.int x6, .int x7, .int x8] (.int 0) ∧ (h0.size ≤ a)) := by
  refine Ct.py (by0 := zc17) (ml := 5) (rt := (some (.object "java/lang/String"))) (rm := ({ frames := 4, cells := 2, slots := 7, locals := 64 } : Room)) ?_ (hq hw 234 rfl) (hq hw 6 rfl)
  refine Ct.mk (a0 := a0) (Ls := #[.val (.ref s), .val (.int 6), .val (.int 9), .unset, .unset]) (plainFor_of_name pn_java_lang_String) (fun m => by simp [entryFrame, mkF, argsToLocals, Value.category]) ?_
  intro κ C
  show Go l _ Z _ _ _ κ [] h0 0 #[.val (.ref s), .val (.int 6), .val (.int 9), .unset, .unset] [] 0 0
  refine oc' C 1 d44_0 rfl rfl rfl (oo' C (a := s) (argsL := []) (W := 0) d44_1 (hq hw 213 rfl) (hq hw 76 rfl) (nfS (hq hw 78 rfl)) (hq hw 78 rfl) (hq hw 77 rfl) p0 (by decide) pd___I (ct_len0_9 l Z a0 hw am (s := s) (t := v) (kB := kv) (vs := [.int x0, .int x1, .int x2, .int x3, .int x4, .int x5, .int x6, .int x7, .int x8]) p0 p1 p2 p3) rfl (Nat.le_of_eq rfl) rfl (by decide) mems0 ?_)
  intro fv1 ph2 K3 fq4
  obtain ⟨rfl, rfl⟩ := fq4
  refine ⟨[], fresh0, ?_⟩
  show Go l _ Z _ _ _ κ _ _ 4 _ [.int 9] 0 0
  refine op1' C 5 (Ls' := #[.val (.ref s), .val (.int 6), .val (.int 9), .val (.int 9), .unset]) d44_4 rfl rfl (od' C 6 d44_5 rfl rfl ?_)
  refine od' C 7 d44_6 rfl rfl (od' C 8 d44_7 rfl rfl ?_)
  refine or' C (argsL := [.int 6, .int 9, .int 9]) (W := 0) d44_8 (hq hw 235 rfl) (hq hw 236 rfl) (hq hw 6 rfl) (hq hw 237 rfl) (by decide) pd__III_V (ct_cbe l Z a0 hw am (i := (6 : Int32)) (j := (9 : Int32)) (n := (9 : Int32)) (by decide) (by decide) (by decide)) rfl (Nat.le_of_eq rfl) rfl (by decide) mems0 ?_
  intro fv5 ph6 K7 fq8
  obtain ⟨rfl, rfl⟩ := fq8
  refine ⟨[], fresh0, ?_⟩
  show Go l _ Z _ _ _ κ _ _ 11 _ [] 0 0
  refine od' C 12 d44_11 rfl rfl (om1' C (pc' := 22) d44_12 (by decide) (by decide) (by decide) ?_)
  refine od' C 23 d44_22 rfl rfl (od' C 24 d44_23 rfl rfl ?_)
  refine oj1' C 25 (3 : Int32) d44_24 rfl (by decide) (ol' C 27 (Ls' := #[.val (.ref s), .val (.int 6), .val (.int 9), .val (.int 9), .val (.int 3)]) d44_25 rfl rfl ?_)
  refine oc' C 28 d44_27 rfl rfl rfl (oo' C (a := s) (argsL := []) (W := 0) d44_28 (hq hw 243 rfl) (hq hw 244 rfl) (nfS (hq hw 246 rfl)) (hq hw 246 rfl) (hq hw 245 rfl) p0 (by decide) pd___Z (ct_isl0 l Z a0 hw am (s := s) p1) rfl (Nat.le_of_eq rfl) rfl (by decide) mems0 ?_)
  intro fv9 ph10 K11 fq12
  obtain ⟨rfl, rfl⟩ := fq12
  refine ⟨[], fresh0, ?_⟩
  show Go l _ Z _ _ _ κ _ _ 31 _ [.int 1] 0 0
  refine ot' C 34 d44_31 rfl (by decide) (oc' C 35 d44_34 rfl rfl rfl ?_)
  refine ok' C 38 d44_35 rfl (hq hw 32 rfl) Via.refl p2 (od' C 39 d44_38 rfl rfl ?_)
  refine oa' C 41 d44_39 rfl rfl (or' C (argsL := [(.ref v), .int 6, .int 3]) (W := 0) d44_41 (hq hw 248 rfl) (hq hw 249 rfl) (hq hw 190 rfl) (hq hw 250 rfl) (by decide) pd___BII_Ljava_lang_String_ (ct_ns9_6 l Z a0 hw am (v := v) (kv := kv) (x0 := x0) (x1 := x1) (x2 := x2) (x3 := x3) (x4 := x4) (x5 := x5) (x6 := x6) (x7 := x7) (x8 := x8) p3) rfl (Nat.le_of_eq rfl) rfl (by decide) mems0 ?_)
  intro fv13 ph14 K15 fq16
  obtain ⟨a17, t18, kt19, rfl, fx20, fx21, fx22, fx23, fx24⟩ := fq16
  refine ⟨[a17], (freshS ⟨fx24, (fx20).lt⟩ fresh0), ?_⟩
  show Go l _ Z _ _ _ κ [a17] _ 44 _ [(.ref a17)] 2 7
  refine om' C (pc' := 57) d44_44 (by decide) (by decide) (ov' C (v := (.ref a17)) d44_57 rfl rfl rfl (by decide) (by decide) ?_)
  exact ⟨a17, t18, kt19, rfl, fx20, fx21, fx22, fx23, fx24⟩
theorem ct_ss9_6 (l : Launch) (Z : State) (a0 : Array Value) (hw : HW a0 Z) {cS : Int32} {fm : Value} (am : Amb Z a0 cS fm) {s v : Addr} {kv : ClassId} {x0 x1 x2 x3 x4 x5 x6 x7 x8 : Int32} {h0 : Heap} (p0 : Exa Z h0 s "java/lang/String") (p1 : Fld Z h0 s "java/lang/String" "coder" "B" (.int 0)) (p2 : Fld Z h0 s "java/lang/String" "value" "[B" (.ref v)) (p3 : Arv Z h0 v kv .byte (9 : Int32) [.int x0, .int x1, .int x2, .int x3, .int x4, .int x5, .int x6, .int x7, .int x8] (.int 0)) :
    Py l Z (⟨"java/lang/String", "substring", "(I)Ljava/lang/String;"⟩ : MethodName) 6 93 2 7 #[(.ref s), .int 6] h0 [] (fun rv h' => ∃ (a : Addr) (t : Addr) (kt : ClassId), rv = some (.ref a) ∧ Exa Z h' a "java/lang/String" ∧ Fld Z h' a "java/lang/String" "coder" "B" (.int 0) ∧ Fld Z h' a "java/lang/String" "value" "[B" (.ref t) ∧ Arv Z h' t kt .byte (3 : Int32) [.int x6, .int x7, .int x8] (.int 0) ∧ (h0.size ≤ a)) := by
  refine Ct.py (by0 := zc16) (ml := 2) (rt := (some (.object "java/lang/String"))) (rm := ({ frames := 5, cells := 2, slots := 7, locals := 80 } : Room)) ?_ (hq hw 229 rfl) (hq hw 6 rfl)
  refine Ct.mk (a0 := a0) (Ls := #[.val (.ref s), .val (.int 6)]) (plainFor_of_name pn_java_lang_String) (fun m => by simp [entryFrame, mkF, argsToLocals, Value.category]) ?_
  intro κ C
  show Go l _ Z _ _ _ κ [] h0 0 #[.val (.ref s), .val (.int 6)] [] 0 0
  refine oc' C 1 d43_0 rfl rfl rfl (od' C 2 d43_1 rfl rfl ?_)
  refine oc' C 3 d43_2 rfl rfl rfl (oo' C (a := s) (argsL := []) (W := 2) d43_3 (hq hw 213 rfl) (hq hw 76 rfl) (nfS (hq hw 78 rfl)) (hq hw 78 rfl) (hq hw 77 rfl) p0 (by decide) pd___I (ct_len0_9 l Z a0 hw am (s := s) (t := v) (kB := kv) (vs := [.int x0, .int x1, .int x2, .int x3, .int x4, .int x5, .int x6, .int x7, .int x8]) p0 p1 p2 p3) rfl (Nat.le_of_eq rfl) rfl (by decide) mems0 ?_)
  intro fv1 ph2 K3 fq4
  obtain ⟨rfl, rfl⟩ := fq4
  refine ⟨[], fresh0, ?_⟩
  show Go l _ Z _ _ _ κ _ _ 6 _ [.int 9, .int 6, (.ref s)] 0 0
  refine oo' C (a := s) (argsL := [.int 6, .int 9]) (W := 0) d43_6 (hq hw 230 rfl) (hq hw 231 rfl) (nfS (hq hw 233 rfl)) (hq hw 233 rfl) (hq hw 232 rfl) p0 (by decide) pd__II_Ljava_lang_String_ (ct_su9_6 l Z a0 hw am (s := s) (v := v) (kv := kv) (x0 := x0) (x1 := x1) (x2 := x2) (x3 := x3) (x4 := x4) (x5 := x5) (x6 := x6) (x7 := x7) (x8 := x8) p0 p1 p2 p3) rfl (Nat.le_of_eq rfl) rfl (by decide) mems0 ?_
  intro fv5 ph6 K7 fq8
  obtain ⟨a9, t10, kt11, rfl, fx12, fx13, fx14, fx15, fx16⟩ := fq8
  refine ⟨[a9], (freshS ⟨fx16, (fx12).lt⟩ fresh0), ?_⟩
  show Go l _ Z _ _ _ κ [a9] _ 9 _ [(.ref a9)] 2 7
  refine ov' C (v := (.ref a9)) d43_9 rfl rfl rfl (by decide) (by decide) ?_
  exact ⟨a9, t10, kt11, rfl, fx12, fx13, fx14, fx15, fx16⟩
theorem ct_sub3 (l : Launch) (Z : State) (a0 : Array Value) (hw : HW a0 Z) {cS : Int32} {fm : Value} (am : Amb Z a0 cS fm) {q m u : Addr} {ku : ClassId} {y0 y1 y2 : Int32} {h0 : Heap} (p0 : Exa Z h0 q "com/example/evenlot/evenlot/Source") (p1 : Fld Z h0 q "com/example/evenlot/evenlot/Source" "name" "Ljava/lang/String;" (.ref m)) (p2 : Exa Z h0 m "java/lang/String") (p3 : Fld Z h0 m "java/lang/String" "coder" "B" (.int 0)) (p4 : Fld Z h0 m "java/lang/String" "value" "[B" (.ref u)) (p5 : Arv Z h0 u ku .byte (9 : Int32) [.int 115, .int 116, .int 111, .int 99, .int 107, .int 47, .int y0, .int y1, .int y2] (.int 0)) :
    PyW l Z consts_1 a0 (⟨"com/example/evenlot/evenlot/Source", "subtype", "()Ljava/lang/String;"⟩ : MethodName) 7 105 6 55 #[(.ref q)] h0 [] (fun rv h' => ∃ (a : Addr) (t : Addr) (kt : ClassId), rv = some (.ref a) ∧ Exa Z h' a "java/lang/String" ∧ Fld Z h' a "java/lang/String" "coder" "B" (.int 0) ∧ Fld Z h' a "java/lang/String" "value" "[B" (.ref t) ∧ Arv Z h' t kt .byte (3 : Int32) [.int y0, .int y1, .int y2] (.int 0)) := by
  have hEL := am.1
  refine CtW.py (by0 := zc46) (ml := 1) (rt := (some (.object "java/lang/String"))) (rm := ({ frames := 6, cells := 6, slots := 55, locals := 93 } : Room)) ?_ (hq hw 222 rfl) (hq hw 42 rfl)
  refine CtW.mk (a0 := a0) (Ls := #[.val (.ref q)]) (plainFor_of_name pn_com_example_evenlot_evenlot_Source) (fun m => by simp [entryFrame, mkF, argsToLocals, Value.category]) ?_
  intro κ C
  show GoW l _ Z _ _ _ _ _ κ [] h0 0 #[.val (.ref q)] [] 0 0
  refine wk1' C 1 d42_0 rfl rfl rfl (wk2' C hEL (a := q) (argsL := []) (W := 0) d42_1 (hq hw 223 rfl) (hq hw 198 rfl) (nfS (hq hw 200 rfl)) (hq hw 200 rfl) (hq hw 199 rfl) p0 (by decide) pd___Z (ct_isl3_ l Z a0 hw am (q := q) (m := m) (u := u) (ku := ku) (y0 := y0) (y1 := y1) (y2 := y2) p0 p1 p2 p3 p4 p5) rfl (Nat.le_of_eq rfl) rfl (by decide) mems0 ?_)
  intro fv1 ph2 K3 fq4
  obtain rfl := fq4
  show GoW l _ Z _ _ _ _ _ κ _ _ 4 _ [.int 0] 2 20
  refine ww2' C (pc' := 34) d42_4 (by decide) (by decide) (by decide) (wk1' C 35 d42_34 rfl rfl rfl ?_)
  have fx5 := (p1.keep K3 nin0)
  refine wp2' C 38 d42_35 rfl (hq hw 168 rfl) Via.refl fx5 (wi2' C hEL 40 4 48 (n := 24) (vs := [.int 115, .int 116, .int 111, .int 99, .int 107, .int 47]) (zn := (6 : Int32)) d42_38 rfl rfl rfl (hq hw 64 rfl) (wS hw) (List.mem_of_getElem? (i := 0) rfl) (by decide) (by decide) rfl (by decide) (by decide) (by decide) (by decide) ?_)
  intro sa6 sb7 k8 ph9 E10 fx11 fx12 fx13 fx14 fn15
  refine ws' C (a := sa6) (argsL := []) (W := 1) d42_40 (hq hw 224 rfl) (hq hw 76 rfl) (nfS (hq hw 78 rfl)) (hq hw 78 rfl) (hq hw 77 rfl) fx11 (by decide) pd___I (ct_len0_6 l Z a0 hw am (s := sa6) (t := sb7) (kB := k8) (vs := [.int 115, .int 116, .int 111, .int 99, .int 107, .int 47]) fx11 fx12 fx13 fx14) rfl (Nat.le_of_eq rfl) rfl (by decide) mems0 ?_
  intro fv16 ph17 K18 fq19
  obtain ⟨rfl, rfl⟩ := fq19
  refine ⟨[], fresh0, ?_⟩
  show GoW l _ Z _ _ _ _ _ κ _ _ 43 _ [.int 6, (.ref m)] 4 48
  have fx20 := (Exa.ext E10 (p2.keep K3))
  have fx21 := (Fld.ext E10 (p3.keep K3 nin0))
  have fx22 := (Fld.ext E10 (p4.keep K3 nin0))
  have fx23 := ((p5.keep K3 nin0).ext E10)
  refine ws' C (a := m) (argsL := [.int 6]) (W := 0) d42_43 (hq hw 225 rfl) (hq hw 226 rfl) (nfS (hq hw 228 rfl)) (hq hw 228 rfl) (hq hw 227 rfl) fx20 (by decide) pd__I_Ljava_lang_String_ (ct_ss9_6 l Z a0 hw am (s := m) (v := u) (kv := ku) (x0 := (115 : Int32)) (x1 := (116 : Int32)) (x2 := (111 : Int32)) (x3 := (99 : Int32)) (x4 := (107 : Int32)) (x5 := (47 : Int32)) (x6 := y0) (x7 := y1) (x8 := y2) fx20 fx21 fx22 fx23) rfl (Nat.le_of_eq rfl) rfl (by decide) mems0 ?_
  intro fv24 ph25 K26 fq27
  obtain ⟨a28, t29, kt30, rfl, fx31, fx32, fx33, fx34, fx35⟩ := fq27
  refine ⟨[a28], (freshS ⟨fx35, (fx31).lt⟩ fresh0), ?_⟩
  show GoW l _ Z _ _ _ _ _ κ [a28] _ 46 _ [(.ref a28)] 6 55
  refine wg2' C hEL (v := (.ref a28)) d42_46 rfl rfl rfl (by decide) (by decide) ?_
  exact ⟨a28, t29, kt30, rfl, fx31, fx32, fx33, fx34⟩
theorem law0 (l : Launch) (Z : State) (a0 : Array Value) (hw : HW a0 Z) {cS : Int32} {fm : Value} (am : Amb Z a0 cS fm) {p0 : Int32} {p1 : Int32} {p2 : Int32} {h0 : Heap} :
    CtW l Z consts_1 x code maxLocals ret room_1 #[.int p0, .int p1, .int p2] h0 [] (fun v h' => v = some (.int 1)) := by
  have hEL := am.1
  refine CtW.mk (a0 := a0) (Ls := #[.val (.int p0), .val (.int p1), .val (.int p2), .unset, .unset, .unset, .unset, .unset, .unset, .unset, .unset, .unset, .unset, .unset, .unset]) (plainFor_of_name pn_com_example_evenlot_evenlot_SourceStockPinLaw) (fun m => by first | (simp [entryFrame, mkF, argsToLocals, Value.category, maxLocals]; done) | rfl) ?_
  intro κ C
  show GoW l _ Z _ _ _ _ _ κ [] h0 0 #[.val (.int p0), .val (.int p1), .val (.int p2), .unset, .unset, .unset, .unset, .unset, .unset, .unset, .unset, .unset, .unset, .unset, .unset] [] 0 0
  refine ww' C 1 at_0 rfl rfl (wr1' C 2 (3 : Int32) at_1 rfl (by decide) ?_)
  refine wn1' C 3 (p2 &&& (3 : Int32)) at_2 rfl rfl (wg3' C 4 (Ls' := #[.val (.int p0), .val (.int p1), .val (.int p2), .val (.int (p2 &&& (3 : Int32))), .unset, .unset, .unset, .unset, .unset, .unset, .unset, .unset, .unset, .unset, .unset]) at_3 rfl rfl ?_)
  refine ww' C 5 at_4 rfl rfl (wr1' C 6 (2 : Int32) at_5 rfl (by decide) ?_)
  refine wd2' C 7 (XT.ushr p2 (2 : Int32)) at_6 rfl rfl (wr1' C 8 (3 : Int32) at_7 rfl (by decide) ?_)
  rcases and3 (XT.ushr p2 (2 : Int32)) with ec1 | ec1 | ec1 | ec1
  · skip
    refine wn1' C 9 (0 : Int32) at_8 rfl ec1 (wi1' C 11 (Ls' := #[.val (.int p0), .val (.int p1), .val (.int p2), .val (.int (p2 &&& (3 : Int32))), .val (.int 0), .unset, .unset, .unset, .unset, .unset, .unset, .unset, .unset, .unset, .unset]) at_9 rfl rfl ?_)
    refine ww' C 12 at_11 rfl rfl (wu1' C 15 (255 : Int32) at_12 rfl (by decide) ?_)
    refine wn1' C 16 (p0 &&& (255 : Int32)) at_15 rfl rfl (wt1' C 17 (p0 &&& (255 : Int32)) at_16 rfl (chr_and255 _).i2c ?_)
    refine wi1' C 19 (Ls' := #[.val (.int p0), .val (.int p1), .val (.int p2), .val (.int (p2 &&& (3 : Int32))), .val (.int 0), .val (.int (p0 &&& (255 : Int32))), .unset, .unset, .unset, .unset, .unset, .unset, .unset, .unset, .unset]) at_17 rfl rfl (ww' C 20 at_19 rfl rfl ?_)
    refine wf2' C 22 (8 : Int32) at_20 rfl (by decide) (wd2' C 23 (XT.ushr p0 (8 : Int32)) at_22 rfl rfl ?_)
    refine wu1' C 26 (255 : Int32) at_23 rfl (by decide) (wn1' C 27 ((XT.ushr p0 (8 : Int32)) &&& (255 : Int32)) at_26 rfl rfl ?_)
    refine wt1' C 28 ((XT.ushr p0 (8 : Int32)) &&& (255 : Int32)) at_27 rfl (chr_and255 _).i2c (wi1' C 30 (Ls' := #[.val (.int p0), .val (.int p1), .val (.int p2), .val (.int (p2 &&& (3 : Int32))), .val (.int 0), .val (.int (p0 &&& (255 : Int32))), .val (.int ((XT.ushr p0 (8 : Int32)) &&& (255 : Int32))), .unset, .unset, .unset, .unset, .unset, .unset, .unset, .unset]) at_28 rfl rfl ?_)
    refine ww' C 31 at_30 rfl rfl (wf2' C 33 (16 : Int32) at_31 rfl (by decide) ?_)
    refine wd2' C 34 (XT.ushr p0 (16 : Int32)) at_33 rfl rfl (wu1' C 37 (255 : Int32) at_34 rfl (by decide) ?_)
    refine wn1' C 38 ((XT.ushr p0 (16 : Int32)) &&& (255 : Int32)) at_37 rfl rfl (wt1' C 39 ((XT.ushr p0 (16 : Int32)) &&& (255 : Int32)) at_38 rfl (chr_and255 _).i2c ?_)
    refine wi1' C 41 (Ls' := #[.val (.int p0), .val (.int p1), .val (.int p2), .val (.int (p2 &&& (3 : Int32))), .val (.int 0), .val (.int (p0 &&& (255 : Int32))), .val (.int ((XT.ushr p0 (8 : Int32)) &&& (255 : Int32))), .val (.int ((XT.ushr p0 (16 : Int32)) &&& (255 : Int32))), .unset, .unset, .unset, .unset, .unset, .unset, .unset]) at_39 rfl rfl (ww' C 42 at_41 rfl rfl ?_)
    refine wu1' C 45 (255 : Int32) at_42 rfl (by decide) (wn1' C 46 (p1 &&& (255 : Int32)) at_45 rfl rfl ?_)
    refine wt1' C 47 (p1 &&& (255 : Int32)) at_46 rfl (chr_and255 _).i2c (wi1' C 49 (Ls' := #[.val (.int p0), .val (.int p1), .val (.int p2), .val (.int (p2 &&& (3 : Int32))), .val (.int 0), .val (.int (p0 &&& (255 : Int32))), .val (.int ((XT.ushr p0 (8 : Int32)) &&& (255 : Int32))), .val (.int ((XT.ushr p0 (16 : Int32)) &&& (255 : Int32))), .val (.int (p1 &&& (255 : Int32))), .unset, .unset, .unset, .unset, .unset, .unset]) at_47 rfl rfl ?_)
    refine ww' C 50 at_49 rfl rfl (wf2' C 52 (8 : Int32) at_50 rfl (by decide) ?_)
    refine wd2' C 53 (XT.ushr p1 (8 : Int32)) at_52 rfl rfl (wu1' C 56 (255 : Int32) at_53 rfl (by decide) ?_)
    refine wn1' C 57 ((XT.ushr p1 (8 : Int32)) &&& (255 : Int32)) at_56 rfl rfl (wt1' C 58 ((XT.ushr p1 (8 : Int32)) &&& (255 : Int32)) at_57 rfl (chr_and255 _).i2c ?_)
    refine wi1' C 60 (Ls' := #[.val (.int p0), .val (.int p1), .val (.int p2), .val (.int (p2 &&& (3 : Int32))), .val (.int 0), .val (.int (p0 &&& (255 : Int32))), .val (.int ((XT.ushr p0 (8 : Int32)) &&& (255 : Int32))), .val (.int ((XT.ushr p0 (16 : Int32)) &&& (255 : Int32))), .val (.int (p1 &&& (255 : Int32))), .val (.int ((XT.ushr p1 (8 : Int32)) &&& (255 : Int32))), .unset, .unset, .unset, .unset, .unset]) at_58 rfl rfl (ww' C 61 at_60 rfl rfl ?_)
    refine wf2' C 63 (16 : Int32) at_61 rfl (by decide) (wd2' C 64 (XT.ushr p1 (16 : Int32)) at_63 rfl rfl ?_)
    refine wu1' C 67 (255 : Int32) at_64 rfl (by decide) (wn1' C 68 ((XT.ushr p1 (16 : Int32)) &&& (255 : Int32)) at_67 rfl rfl ?_)
    refine wt1' C 69 ((XT.ushr p1 (16 : Int32)) &&& (255 : Int32)) at_68 rfl (chr_and255 _).i2c (wi1' C 71 (Ls' := #[.val (.int p0), .val (.int p1), .val (.int p2), .val (.int (p2 &&& (3 : Int32))), .val (.int 0), .val (.int (p0 &&& (255 : Int32))), .val (.int ((XT.ushr p0 (8 : Int32)) &&& (255 : Int32))), .val (.int ((XT.ushr p0 (16 : Int32)) &&& (255 : Int32))), .val (.int (p1 &&& (255 : Int32))), .val (.int ((XT.ushr p1 (8 : Int32)) &&& (255 : Int32))), .val (.int ((XT.ushr p1 (16 : Int32)) &&& (255 : Int32))), .unset, .unset, .unset, .unset]) at_69 rfl rfl ?_)
    refine ww' C 72 at_71 rfl rfl (wn' C 74 at_72 rfl rfl ?_)
    refine wn' C 76 at_74 rfl rfl (wn' C 78 at_76 rfl rfl ?_)
    refine wq2' C hEL (argsL := [(.int (p2 &&& (3 : Int32))), (.int (p0 &&& (255 : Int32))), (.int ((XT.ushr p0 (8 : Int32)) &&& (255 : Int32))), (.int ((XT.ushr p0 (16 : Int32)) &&& (255 : Int32)))]) (W := 0) at_78 (hq hw 0 rfl) (hq hw 1 rfl) (hq hw 2 rfl) (hq hw 3 rfl) (by decide) pd__ICCC_Ljava_lang_String_ (ct_sany l Z a0 hw am (n := (p2 &&& (3 : Int32))) (c0 := (p0 &&& (255 : Int32))) (c1 := ((XT.ushr p0 (8 : Int32)) &&& (255 : Int32))) (c2 := ((XT.ushr p0 (16 : Int32)) &&& (255 : Int32))) (chr_and255 _) (chr_and255 _) (chr_and255 _) (and_small _ 255 (by decide)).2 (and_small _ 255 (by decide)).2 (and_small _ 255 (by decide)).2) rfl (Nat.le_of_eq rfl) rfl (by decide) mems0 ?_
    intro fv2 ph3 K4 fq5
    obtain ⟨a6, rfl, fx7⟩ := fq5
    show GoW l _ Z _ _ _ _ _ κ _ _ 81 _ [(.ref a6)] 6 12
    refine we2' C 83 (Ls' := #[.val (.int p0), .val (.int p1), .val (.int p2), .val (.int (p2 &&& (3 : Int32))), .val (.int 0), .val (.int (p0 &&& (255 : Int32))), .val (.int ((XT.ushr p0 (8 : Int32)) &&& (255 : Int32))), .val (.int ((XT.ushr p0 (16 : Int32)) &&& (255 : Int32))), .val (.int (p1 &&& (255 : Int32))), .val (.int ((XT.ushr p1 (8 : Int32)) &&& (255 : Int32))), .val (.int ((XT.ushr p1 (16 : Int32)) &&& (255 : Int32))), .val (.ref a6), .unset, .unset, .unset]) at_81 rfl rfl rfl (wn' C 85 at_83 rfl rfl ?_)
    refine wn' C 87 at_85 rfl rfl (wn' C 89 at_87 rfl rfl ?_)
    refine wn' C 91 at_89 rfl rfl (wq2' C hEL (argsL := [.int 0, (.int (p1 &&& (255 : Int32))), (.int ((XT.ushr p1 (8 : Int32)) &&& (255 : Int32))), (.int ((XT.ushr p1 (16 : Int32)) &&& (255 : Int32)))]) (W := 0) at_91 (hq hw 0 rfl) (hq hw 1 rfl) (hq hw 2 rfl) (hq hw 3 rfl) (by decide) pd__ICCC_Ljava_lang_String_ (ct_s0 l Z a0 hw am (c0 := (p1 &&& (255 : Int32))) (c1 := ((XT.ushr p1 (8 : Int32)) &&& (255 : Int32))) (c2 := ((XT.ushr p1 (16 : Int32)) &&& (255 : Int32))) (chr_and255 _) (chr_and255 _) (chr_and255 _) (and_small _ 255 (by decide)).2 (and_small _ 255 (by decide)).2 (and_small _ 255 (by decide)).2) rfl (Nat.le_of_eq rfl) rfl (by decide) mems0 ?_)
    intro fv8 ph9 K10 fq11
    obtain ⟨a12, t13, kt14, rfl, fx15, fx16, fx17, fx18⟩ := fq11
    show GoW l _ Z _ _ _ _ _ κ _ _ 94 _ [(.ref a12)] 12 24
    refine we2' C 96 (Ls' := #[.val (.int p0), .val (.int p1), .val (.int p2), .val (.int (p2 &&& (3 : Int32))), .val (.int 0), .val (.int (p0 &&& (255 : Int32))), .val (.int ((XT.ushr p0 (8 : Int32)) &&& (255 : Int32))), .val (.int ((XT.ushr p0 (16 : Int32)) &&& (255 : Int32))), .val (.int (p1 &&& (255 : Int32))), .val (.int ((XT.ushr p1 (8 : Int32)) &&& (255 : Int32))), .val (.int ((XT.ushr p1 (16 : Int32)) &&& (255 : Int32))), .val (.ref a6), .val (.ref a12), .unset, .unset]) at_94 rfl rfl rfl (wn' C 98 at_96 rfl rfl ?_)
    refine wn' C 100 at_98 rfl rfl (wn' C 102 at_100 rfl rfl ?_)
    refine wn' C 104 at_102 rfl rfl (wz1' C (argsL := [.int 0, (.int (p1 &&& (255 : Int32))), (.int ((XT.ushr p1 (8 : Int32)) &&& (255 : Int32))), (.int ((XT.ushr p1 (16 : Int32)) &&& (255 : Int32)))]) (W := 0) at_104 (hq hw 37 rfl) (hq hw 38 rfl) (hq hw 2 rfl) (hq hw 39 rfl) (by decide) pd__ICCC_Ljava_lang_String_ (ct_sn0 l Z a0 hw am (c0 := (p1 &&& (255 : Int32))) (c1 := ((XT.ushr p1 (8 : Int32)) &&& (255 : Int32))) (c2 := ((XT.ushr p1 (16 : Int32)) &&& (255 : Int32))) (chr_and255 _) (chr_and255 _) (chr_and255 _) (and_small _ 255 (by decide)).2 (and_small _ 255 (by decide)).2 (and_small _ 255 (by decide)).2) rfl (Nat.le_of_eq rfl) rfl (by decide) mems0 ?_)
    intro fv19 ph20 K21 fq22
    obtain ⟨a23, t24, kt25, rfl, fx26, fx27, fx28, fx29⟩ := fq22
    refine ⟨[], fresh0, ?_⟩
    show GoW l _ Z _ _ _ _ _ κ _ _ 107 _ [(.ref a23)] 15 40
    refine we2' C 109 (Ls' := #[.val (.int p0), .val (.int p1), .val (.int p2), .val (.int (p2 &&& (3 : Int32))), .val (.int 0), .val (.int (p0 &&& (255 : Int32))), .val (.int ((XT.ushr p0 (8 : Int32)) &&& (255 : Int32))), .val (.int ((XT.ushr p0 (16 : Int32)) &&& (255 : Int32))), .val (.int (p1 &&& (255 : Int32))), .val (.int ((XT.ushr p1 (8 : Int32)) &&& (255 : Int32))), .val (.int ((XT.ushr p1 (16 : Int32)) &&& (255 : Int32))), .val (.ref a6), .val (.ref a12), .val (.ref a23), .unset]) at_107 rfl rfl rfl (wq' C 111 at_109 rfl rfl rfl ?_)
    refine wq' C 113 at_111 rfl rfl rfl ?_
    have fx30 := (fx15.keep K21)
    have fx31 := (fx16.keep K21 nin0)
    have fx32 := (fx17.keep K21 nin0)
    have fx33 := (fx18.keep K21 nin0)
    refine wq2' C hEL (argsL := [(.ref a6), (.ref a12)]) (W := 0) at_113 (hq hw 40 rfl) (hq hw 41 rfl) (hq hw 42 rfl) (hq hw 43 rfl) (by decide) pd__Ljava_lang_String_Ljava_lang_String__Lcom_example_evenlot_evenlot_Source_ (ct_stock0 l Z a0 hw am (f := a6) (s := a12) (t := t13) (kt := kt14) fx30 fx31 fx32 fx33) rfl (Nat.le_of_eq rfl) rfl (by decide) mems0 ?_
    intro fv34 ph35 K36 fq37
    obtain ⟨q38, m39, u40, ku41, rfl, fx42, fx43, fx44, fx45, fx46, fx47, fx48, fx49⟩ := fq37
    show GoW l _ Z _ _ _ _ _ κ _ _ 116 _ [(.ref q38)] 22 101
    refine we2' C 118 (Ls' := #[.val (.int p0), .val (.int p1), .val (.int p2), .val (.int (p2 &&& (3 : Int32))), .val (.int 0), .val (.int (p0 &&& (255 : Int32))), .val (.int ((XT.ushr p0 (8 : Int32)) &&& (255 : Int32))), .val (.int ((XT.ushr p0 (16 : Int32)) &&& (255 : Int32))), .val (.int (p1 &&& (255 : Int32))), .val (.int ((XT.ushr p1 (8 : Int32)) &&& (255 : Int32))), .val (.int ((XT.ushr p1 (16 : Int32)) &&& (255 : Int32))), .val (.ref a6), .val (.ref a12), .val (.ref a23), .val (.ref q38)]) at_116 rfl rfl rfl (wq' C 120 at_118 rfl rfl rfl ?_)
    refine ws' C (a := q38) (argsL := []) (W := 0) at_120 (hq hw 172 rfl) (hq hw 173 rfl) (nfS (hq hw 175 rfl)) (hq hw 175 rfl) (hq hw 174 rfl) fx42 (by decide) pd___Ljava_lang_String_ (ct_fg l Z a0 hw am (q := q38) (f := a6) fx43) rfl (Nat.le_of_eq rfl) rfl (by decide) mems0 ?_
    intro fv50 ph51 K52 fq53
    obtain ⟨rfl, rfl⟩ := fq53
    refine ⟨[], fresh0, ?_⟩
    show GoW l _ Z _ _ _ _ _ κ _ _ 123 _ [(.ref a6)] 22 101
    refine wq' C 125 at_123 rfl rfl rfl ?_
    have fx54 := (((fx7.keep K10).keep K21).keep K36)
    refine ws' C (a := a6) (argsL := [(.ref a6)]) (W := 0) at_125 (hq hw 177 rfl) (hq hw 178 rfl) (nfS (hq hw 180 rfl)) (hq hw 180 rfl) (hq hw 179 rfl) fx54 (by decide) pd__Ljava_lang_Object__Z (ct_eqs l Z a0 hw am (a := a6)) rfl (Nat.le_of_eq rfl) rfl (by decide) mems0 ?_
    intro fv55 ph56 K57 fq58
    obtain ⟨rfl, rfl⟩ := fq58
    refine ⟨[], fresh0, ?_⟩
    show GoW l _ Z _ _ _ _ _ κ _ _ 128 _ [.int 1] 22 101
    refine ws1' C 131 at_128 rfl (by decide) (wq' C 133 at_131 rfl rfl rfl ?_)
    refine ws' C (a := q38) (argsL := []) (W := 0) at_133 (hq hw 182 rfl) (hq hw 183 rfl) (nfS (hq hw 185 rfl)) (hq hw 185 rfl) (hq hw 184 rfl) fx42 (by decide) pd___Ljava_lang_String_ (ct_nm l Z a0 hw am (q := q38) (f := m39) fx44) rfl (Nat.le_of_eq rfl) rfl (by decide) mems0 ?_
    intro fv59 ph60 K61 fq62
    obtain ⟨rfl, rfl⟩ := fq62
    refine ⟨[], fresh0, ?_⟩
    show GoW l _ Z _ _ _ _ _ κ _ _ 136 _ [(.ref m39)] 22 101
    refine wq' C 138 at_136 rfl rfl rfl ?_
    have fx63 := (fx26.keep K36)
    have fx64 := (fx27.keep K36 nin0)
    have fx65 := (fx28.keep K36 nin0)
    have fx66 := (fx29.keep K36 nin0)
    refine ws' C (a := m39) (argsL := [(.ref a23)]) (W := 0) at_138 (hq hw 177 rfl) (hq hw 178 rfl) (nfS (hq hw 180 rfl)) (hq hw 180 rfl) (hq hw 179 rfl) fx46 (by decide) pd__Ljava_lang_Object__Z (ct_eq6 l Z a0 hw am (a := m39) (b := a23) (t := u40) (u := t24) (kt := ku41) (ku := kt25) (x0 := (115 : Int32)) (x1 := (116 : Int32)) (x2 := (111 : Int32)) (x3 := (99 : Int32)) (x4 := (107 : Int32)) (x5 := (47 : Int32)) (y0 := (lo8 115)) (y1 := (lo8 116)) (y2 := (lo8 111)) (y3 := (lo8 99)) (y4 := (lo8 107)) (y5 := (lo8 47)) fx46 fx47 fx48 fx49 fx63 fx64 fx65 fx66 (by decide) (by decide) (by decide) (by decide) (by decide) (by decide)) rfl (Nat.le_of_eq rfl) rfl (by decide) mems0 ?_
    intro fv67 ph68 K69 fq70
    obtain ⟨rfl, rfl⟩ := fq70
    refine ⟨[], fresh0, ?_⟩
    show GoW l _ Z _ _ _ _ _ κ _ _ 141 _ [.int 1] 22 101
    refine ws1' C 144 at_141 rfl (by decide) (wq' C 146 at_144 rfl rfl rfl ?_)
    refine ws' C (a := q38) (argsL := []) (W := 0) at_146 (hq hw 192 rfl) (hq hw 193 rfl) (nfS (hq hw 195 rfl)) (hq hw 195 rfl) (hq hw 194 rfl) fx42 (by decide) pd___I (ct_pe l Z a0 hw am (q := q38) (n := (0 : Int32)) fx45) rfl (Nat.le_of_eq rfl) rfl (by decide) mems0 ?_
    intro fv71 ph72 K73 fq74
    obtain ⟨rfl, rfl⟩ := fq74
    refine ⟨[], fresh0, ?_⟩
    show GoW l _ Z _ _ _ _ _ κ _ _ 149 _ [.int 0] 22 101
    refine ws1' C 152 at_149 rfl (by decide) (wq' C 154 at_152 rfl rfl rfl ?_)
    refine wk2' C hEL (a := q38) (argsL := []) (W := 0) at_154 (hq hw 197 rfl) (hq hw 198 rfl) (nfS (hq hw 200 rfl)) (hq hw 200 rfl) (hq hw 199 rfl) fx42 (by decide) pd___Z (ct_isl0_ l Z a0 hw am (q := q38) (m := m39) (u := u40) (ku := ku41) fx42 fx44 fx46 fx47 fx48 fx49) rfl (Nat.le_of_eq rfl) rfl (by decide) mems0 ?_
    intro fv75 ph76 K77 fq78
    obtain rfl := fq78
    show GoW l _ Z _ _ _ _ _ κ _ _ 157 _ [.int 0] 24 121
    refine ws1' C 160 at_157 rfl (by decide) (wq' C 162 at_160 rfl rfl rfl ?_)
    have fx79 := (fx42.keep K77)
    have fx80 := (fx44.keep K77 nin0)
    have fx81 := (fx46.keep K77)
    have fx82 := (fx47.keep K77 nin0)
    have fx83 := (fx48.keep K77 nin0)
    have fx84 := (fx49.keep K77 nin0)
    refine wk2' C hEL (a := q38) (argsL := []) (W := 0) at_162 (hq hw 218 rfl) (hq hw 219 rfl) (nfS (hq hw 221 rfl)) (hq hw 221 rfl) (hq hw 220 rfl) fx79 (by decide) pd___Ljava_lang_String_ (ct_sub0 l Z a0 hw am (q := q38) (m := m39) (u := u40) (ku := ku41) fx79 fx80 fx81 fx82 fx83 fx84) rfl (Nat.le_of_eq rfl) rfl (by decide) mems0 ?_
    intro fv85 ph86 K87 fq88
    obtain ⟨a89, t90, kt91, rfl, fx92, fx93, fx94, fx95⟩ := fq88
    show GoW l _ Z _ _ _ _ _ κ _ _ 165 _ [(.ref a89)] 30 173
    refine wq' C 167 at_165 rfl rfl rfl ?_
    have fx96 := (((fx30.keep K36).keep K77).keep K87)
    have fx97 := (((fx31.keep K36 nin0).keep K77 nin0).keep K87 nin0)
    have fx98 := (((fx32.keep K36 nin0).keep K77 nin0).keep K87 nin0)
    have fx99 := (((fx33.keep K36 nin0).keep K77 nin0).keep K87 nin0)
    refine ws' C (a := a89) (argsL := [(.ref a12)]) (W := 0) at_167 (hq hw 177 rfl) (hq hw 178 rfl) (nfS (hq hw 180 rfl)) (hq hw 180 rfl) (hq hw 179 rfl) fx92 (by decide) pd__Ljava_lang_Object__Z (ct_eq0 l Z a0 hw am (a := a89) (b := a12) (t := t90) (u := t13) (kt := kt91) (ku := kt14) fx92 fx93 fx94 fx95 fx96 fx97 fx98 fx99) rfl (Nat.le_of_eq rfl) rfl (by decide) mems0 ?_
    intro fv100 ph101 K102 fq103
    obtain ⟨rfl, rfl⟩ := fq103
    refine ⟨[], fresh0, ?_⟩
    show GoW l _ Z _ _ _ _ _ κ _ _ 170 _ [.int 1] 30 173
    refine ws1' C 173 at_170 rfl (by decide) (wr1' C 174 (1 : Int32) at_173 rfl (by decide) ?_)
    refine wy2' C (pc' := 178) at_174 (by decide) (by decide) (ws2' C hEL (t := .boolean) (z := (1 : Int32)) at_178 rfl (by decide) (by decide) (by decide) (by decide) ?_)
    exact rfl
  · skip
    refine wn1' C 9 (1 : Int32) at_8 rfl ec1 (wi1' C 11 (Ls' := #[.val (.int p0), .val (.int p1), .val (.int p2), .val (.int (p2 &&& (3 : Int32))), .val (.int 1), .unset, .unset, .unset, .unset, .unset, .unset, .unset, .unset, .unset, .unset]) at_9 rfl rfl ?_)
    refine ww' C 12 at_11 rfl rfl (wu1' C 15 (255 : Int32) at_12 rfl (by decide) ?_)
    refine wn1' C 16 (p0 &&& (255 : Int32)) at_15 rfl rfl (wt1' C 17 (p0 &&& (255 : Int32)) at_16 rfl (chr_and255 _).i2c ?_)
    refine wi1' C 19 (Ls' := #[.val (.int p0), .val (.int p1), .val (.int p2), .val (.int (p2 &&& (3 : Int32))), .val (.int 1), .val (.int (p0 &&& (255 : Int32))), .unset, .unset, .unset, .unset, .unset, .unset, .unset, .unset, .unset]) at_17 rfl rfl (ww' C 20 at_19 rfl rfl ?_)
    refine wf2' C 22 (8 : Int32) at_20 rfl (by decide) (wd2' C 23 (XT.ushr p0 (8 : Int32)) at_22 rfl rfl ?_)
    refine wu1' C 26 (255 : Int32) at_23 rfl (by decide) (wn1' C 27 ((XT.ushr p0 (8 : Int32)) &&& (255 : Int32)) at_26 rfl rfl ?_)
    refine wt1' C 28 ((XT.ushr p0 (8 : Int32)) &&& (255 : Int32)) at_27 rfl (chr_and255 _).i2c (wi1' C 30 (Ls' := #[.val (.int p0), .val (.int p1), .val (.int p2), .val (.int (p2 &&& (3 : Int32))), .val (.int 1), .val (.int (p0 &&& (255 : Int32))), .val (.int ((XT.ushr p0 (8 : Int32)) &&& (255 : Int32))), .unset, .unset, .unset, .unset, .unset, .unset, .unset, .unset]) at_28 rfl rfl ?_)
    refine ww' C 31 at_30 rfl rfl (wf2' C 33 (16 : Int32) at_31 rfl (by decide) ?_)
    refine wd2' C 34 (XT.ushr p0 (16 : Int32)) at_33 rfl rfl (wu1' C 37 (255 : Int32) at_34 rfl (by decide) ?_)
    refine wn1' C 38 ((XT.ushr p0 (16 : Int32)) &&& (255 : Int32)) at_37 rfl rfl (wt1' C 39 ((XT.ushr p0 (16 : Int32)) &&& (255 : Int32)) at_38 rfl (chr_and255 _).i2c ?_)
    refine wi1' C 41 (Ls' := #[.val (.int p0), .val (.int p1), .val (.int p2), .val (.int (p2 &&& (3 : Int32))), .val (.int 1), .val (.int (p0 &&& (255 : Int32))), .val (.int ((XT.ushr p0 (8 : Int32)) &&& (255 : Int32))), .val (.int ((XT.ushr p0 (16 : Int32)) &&& (255 : Int32))), .unset, .unset, .unset, .unset, .unset, .unset, .unset]) at_39 rfl rfl (ww' C 42 at_41 rfl rfl ?_)
    refine wu1' C 45 (255 : Int32) at_42 rfl (by decide) (wn1' C 46 (p1 &&& (255 : Int32)) at_45 rfl rfl ?_)
    refine wt1' C 47 (p1 &&& (255 : Int32)) at_46 rfl (chr_and255 _).i2c (wi1' C 49 (Ls' := #[.val (.int p0), .val (.int p1), .val (.int p2), .val (.int (p2 &&& (3 : Int32))), .val (.int 1), .val (.int (p0 &&& (255 : Int32))), .val (.int ((XT.ushr p0 (8 : Int32)) &&& (255 : Int32))), .val (.int ((XT.ushr p0 (16 : Int32)) &&& (255 : Int32))), .val (.int (p1 &&& (255 : Int32))), .unset, .unset, .unset, .unset, .unset, .unset]) at_47 rfl rfl ?_)
    refine ww' C 50 at_49 rfl rfl (wf2' C 52 (8 : Int32) at_50 rfl (by decide) ?_)
    refine wd2' C 53 (XT.ushr p1 (8 : Int32)) at_52 rfl rfl (wu1' C 56 (255 : Int32) at_53 rfl (by decide) ?_)
    refine wn1' C 57 ((XT.ushr p1 (8 : Int32)) &&& (255 : Int32)) at_56 rfl rfl (wt1' C 58 ((XT.ushr p1 (8 : Int32)) &&& (255 : Int32)) at_57 rfl (chr_and255 _).i2c ?_)
    refine wi1' C 60 (Ls' := #[.val (.int p0), .val (.int p1), .val (.int p2), .val (.int (p2 &&& (3 : Int32))), .val (.int 1), .val (.int (p0 &&& (255 : Int32))), .val (.int ((XT.ushr p0 (8 : Int32)) &&& (255 : Int32))), .val (.int ((XT.ushr p0 (16 : Int32)) &&& (255 : Int32))), .val (.int (p1 &&& (255 : Int32))), .val (.int ((XT.ushr p1 (8 : Int32)) &&& (255 : Int32))), .unset, .unset, .unset, .unset, .unset]) at_58 rfl rfl (ww' C 61 at_60 rfl rfl ?_)
    refine wf2' C 63 (16 : Int32) at_61 rfl (by decide) (wd2' C 64 (XT.ushr p1 (16 : Int32)) at_63 rfl rfl ?_)
    refine wu1' C 67 (255 : Int32) at_64 rfl (by decide) (wn1' C 68 ((XT.ushr p1 (16 : Int32)) &&& (255 : Int32)) at_67 rfl rfl ?_)
    refine wt1' C 69 ((XT.ushr p1 (16 : Int32)) &&& (255 : Int32)) at_68 rfl (chr_and255 _).i2c (wi1' C 71 (Ls' := #[.val (.int p0), .val (.int p1), .val (.int p2), .val (.int (p2 &&& (3 : Int32))), .val (.int 1), .val (.int (p0 &&& (255 : Int32))), .val (.int ((XT.ushr p0 (8 : Int32)) &&& (255 : Int32))), .val (.int ((XT.ushr p0 (16 : Int32)) &&& (255 : Int32))), .val (.int (p1 &&& (255 : Int32))), .val (.int ((XT.ushr p1 (8 : Int32)) &&& (255 : Int32))), .val (.int ((XT.ushr p1 (16 : Int32)) &&& (255 : Int32))), .unset, .unset, .unset, .unset]) at_69 rfl rfl ?_)
    refine ww' C 72 at_71 rfl rfl (wn' C 74 at_72 rfl rfl ?_)
    refine wn' C 76 at_74 rfl rfl (wn' C 78 at_76 rfl rfl ?_)
    refine wq2' C hEL (argsL := [(.int (p2 &&& (3 : Int32))), (.int (p0 &&& (255 : Int32))), (.int ((XT.ushr p0 (8 : Int32)) &&& (255 : Int32))), (.int ((XT.ushr p0 (16 : Int32)) &&& (255 : Int32)))]) (W := 0) at_78 (hq hw 0 rfl) (hq hw 1 rfl) (hq hw 2 rfl) (hq hw 3 rfl) (by decide) pd__ICCC_Ljava_lang_String_ (ct_sany l Z a0 hw am (n := (p2 &&& (3 : Int32))) (c0 := (p0 &&& (255 : Int32))) (c1 := ((XT.ushr p0 (8 : Int32)) &&& (255 : Int32))) (c2 := ((XT.ushr p0 (16 : Int32)) &&& (255 : Int32))) (chr_and255 _) (chr_and255 _) (chr_and255 _) (and_small _ 255 (by decide)).2 (and_small _ 255 (by decide)).2 (and_small _ 255 (by decide)).2) rfl (Nat.le_of_eq rfl) rfl (by decide) mems0 ?_
    intro fv104 ph105 K106 fq107
    obtain ⟨a108, rfl, fx109⟩ := fq107
    show GoW l _ Z _ _ _ _ _ κ _ _ 81 _ [(.ref a108)] 6 12
    refine we2' C 83 (Ls' := #[.val (.int p0), .val (.int p1), .val (.int p2), .val (.int (p2 &&& (3 : Int32))), .val (.int 1), .val (.int (p0 &&& (255 : Int32))), .val (.int ((XT.ushr p0 (8 : Int32)) &&& (255 : Int32))), .val (.int ((XT.ushr p0 (16 : Int32)) &&& (255 : Int32))), .val (.int (p1 &&& (255 : Int32))), .val (.int ((XT.ushr p1 (8 : Int32)) &&& (255 : Int32))), .val (.int ((XT.ushr p1 (16 : Int32)) &&& (255 : Int32))), .val (.ref a108), .unset, .unset, .unset]) at_81 rfl rfl rfl (wn' C 85 at_83 rfl rfl ?_)
    refine wn' C 87 at_85 rfl rfl (wn' C 89 at_87 rfl rfl ?_)
    refine wn' C 91 at_89 rfl rfl (wz1' C (argsL := [.int 1, (.int (p1 &&& (255 : Int32))), (.int ((XT.ushr p1 (8 : Int32)) &&& (255 : Int32))), (.int ((XT.ushr p1 (16 : Int32)) &&& (255 : Int32)))]) (W := 0) at_91 (hq hw 0 rfl) (hq hw 1 rfl) (hq hw 2 rfl) (hq hw 3 rfl) (by decide) pd__ICCC_Ljava_lang_String_ (ct_s1 l Z a0 hw am (c0 := (p1 &&& (255 : Int32))) (c1 := ((XT.ushr p1 (8 : Int32)) &&& (255 : Int32))) (c2 := ((XT.ushr p1 (16 : Int32)) &&& (255 : Int32))) (chr_and255 _) (chr_and255 _) (chr_and255 _) (and_small _ 255 (by decide)).2 (and_small _ 255 (by decide)).2 (and_small _ 255 (by decide)).2) rfl (Nat.le_of_eq rfl) rfl (by decide) mems0 ?_)
    intro fv110 ph111 K112 fq113
    obtain ⟨a114, t115, kt116, rfl, fx117, fx118, fx119, fx120⟩ := fq113
    refine ⟨[], fresh0, ?_⟩
    show GoW l _ Z _ _ _ _ _ κ _ _ 94 _ [(.ref a114)] 9 18
    refine we2' C 96 (Ls' := #[.val (.int p0), .val (.int p1), .val (.int p2), .val (.int (p2 &&& (3 : Int32))), .val (.int 1), .val (.int (p0 &&& (255 : Int32))), .val (.int ((XT.ushr p0 (8 : Int32)) &&& (255 : Int32))), .val (.int ((XT.ushr p0 (16 : Int32)) &&& (255 : Int32))), .val (.int (p1 &&& (255 : Int32))), .val (.int ((XT.ushr p1 (8 : Int32)) &&& (255 : Int32))), .val (.int ((XT.ushr p1 (16 : Int32)) &&& (255 : Int32))), .val (.ref a108), .val (.ref a114), .unset, .unset]) at_94 rfl rfl rfl (wn' C 98 at_96 rfl rfl ?_)
    refine wn' C 100 at_98 rfl rfl (wn' C 102 at_100 rfl rfl ?_)
    refine wn' C 104 at_102 rfl rfl (wz1' C (argsL := [.int 1, (.int (p1 &&& (255 : Int32))), (.int ((XT.ushr p1 (8 : Int32)) &&& (255 : Int32))), (.int ((XT.ushr p1 (16 : Int32)) &&& (255 : Int32)))]) (W := 0) at_104 (hq hw 37 rfl) (hq hw 38 rfl) (hq hw 2 rfl) (hq hw 39 rfl) (by decide) pd__ICCC_Ljava_lang_String_ (ct_sn1 l Z a0 hw am (c0 := (p1 &&& (255 : Int32))) (c1 := ((XT.ushr p1 (8 : Int32)) &&& (255 : Int32))) (c2 := ((XT.ushr p1 (16 : Int32)) &&& (255 : Int32))) (chr_and255 _) (chr_and255 _) (chr_and255 _) (and_small _ 255 (by decide)).2 (and_small _ 255 (by decide)).2 (and_small _ 255 (by decide)).2) rfl (Nat.le_of_eq rfl) rfl (by decide) mems0 ?_)
    intro fv121 ph122 K123 fq124
    obtain ⟨a125, t126, kt127, rfl, fx128, fx129, fx130, fx131⟩ := fq124
    refine ⟨[], fresh0, ?_⟩
    show GoW l _ Z _ _ _ _ _ κ _ _ 107 _ [(.ref a125)] 12 36
    refine we2' C 109 (Ls' := #[.val (.int p0), .val (.int p1), .val (.int p2), .val (.int (p2 &&& (3 : Int32))), .val (.int 1), .val (.int (p0 &&& (255 : Int32))), .val (.int ((XT.ushr p0 (8 : Int32)) &&& (255 : Int32))), .val (.int ((XT.ushr p0 (16 : Int32)) &&& (255 : Int32))), .val (.int (p1 &&& (255 : Int32))), .val (.int ((XT.ushr p1 (8 : Int32)) &&& (255 : Int32))), .val (.int ((XT.ushr p1 (16 : Int32)) &&& (255 : Int32))), .val (.ref a108), .val (.ref a114), .val (.ref a125), .unset]) at_107 rfl rfl rfl (wq' C 111 at_109 rfl rfl rfl ?_)
    refine wq' C 113 at_111 rfl rfl rfl ?_
    have fx132 := (fx117.keep K123)
    have fx133 := (fx118.keep K123 nin0)
    have fx134 := (fx119.keep K123 nin0)
    have fx135 := (fx120.keep K123 nin0)
    refine wq2' C hEL (argsL := [(.ref a108), (.ref a114)]) (W := 0) at_113 (hq hw 40 rfl) (hq hw 41 rfl) (hq hw 42 rfl) (hq hw 43 rfl) (by decide) pd__Ljava_lang_String_Ljava_lang_String__Lcom_example_evenlot_evenlot_Source_ (ct_stock1 l Z a0 hw am (f := a108) (s := a114) (t := t115) (kt := kt116) (y0 := (lo8 (p1 &&& (255 : Int32)))) fx132 fx133 fx134 fx135) rfl (Nat.le_of_eq rfl) rfl (by decide) mems0 ?_
    intro fv136 ph137 K138 fq139
    obtain ⟨q140, m141, u142, ku143, rfl, fx144, fx145, fx146, fx147, fx148, fx149, fx150, fx151⟩ := fq139
    show GoW l _ Z _ _ _ _ _ κ _ _ 116 _ [(.ref q140)] 19 98
    refine we2' C 118 (Ls' := #[.val (.int p0), .val (.int p1), .val (.int p2), .val (.int (p2 &&& (3 : Int32))), .val (.int 1), .val (.int (p0 &&& (255 : Int32))), .val (.int ((XT.ushr p0 (8 : Int32)) &&& (255 : Int32))), .val (.int ((XT.ushr p0 (16 : Int32)) &&& (255 : Int32))), .val (.int (p1 &&& (255 : Int32))), .val (.int ((XT.ushr p1 (8 : Int32)) &&& (255 : Int32))), .val (.int ((XT.ushr p1 (16 : Int32)) &&& (255 : Int32))), .val (.ref a108), .val (.ref a114), .val (.ref a125), .val (.ref q140)]) at_116 rfl rfl rfl (wq' C 120 at_118 rfl rfl rfl ?_)
    refine ws' C (a := q140) (argsL := []) (W := 0) at_120 (hq hw 172 rfl) (hq hw 173 rfl) (nfS (hq hw 175 rfl)) (hq hw 175 rfl) (hq hw 174 rfl) fx144 (by decide) pd___Ljava_lang_String_ (ct_fg l Z a0 hw am (q := q140) (f := a108) fx145) rfl (Nat.le_of_eq rfl) rfl (by decide) mems0 ?_
    intro fv152 ph153 K154 fq155
    obtain ⟨rfl, rfl⟩ := fq155
    refine ⟨[], fresh0, ?_⟩
    show GoW l _ Z _ _ _ _ _ κ _ _ 123 _ [(.ref a108)] 19 98
    refine wq' C 125 at_123 rfl rfl rfl ?_
    have fx156 := (((fx109.keep K112).keep K123).keep K138)
    refine ws' C (a := a108) (argsL := [(.ref a108)]) (W := 0) at_125 (hq hw 177 rfl) (hq hw 178 rfl) (nfS (hq hw 180 rfl)) (hq hw 180 rfl) (hq hw 179 rfl) fx156 (by decide) pd__Ljava_lang_Object__Z (ct_eqs l Z a0 hw am (a := a108)) rfl (Nat.le_of_eq rfl) rfl (by decide) mems0 ?_
    intro fv157 ph158 K159 fq160
    obtain ⟨rfl, rfl⟩ := fq160
    refine ⟨[], fresh0, ?_⟩
    show GoW l _ Z _ _ _ _ _ κ _ _ 128 _ [.int 1] 19 98
    refine ws1' C 131 at_128 rfl (by decide) (wq' C 133 at_131 rfl rfl rfl ?_)
    refine ws' C (a := q140) (argsL := []) (W := 0) at_133 (hq hw 182 rfl) (hq hw 183 rfl) (nfS (hq hw 185 rfl)) (hq hw 185 rfl) (hq hw 184 rfl) fx144 (by decide) pd___Ljava_lang_String_ (ct_nm l Z a0 hw am (q := q140) (f := m141) fx146) rfl (Nat.le_of_eq rfl) rfl (by decide) mems0 ?_
    intro fv161 ph162 K163 fq164
    obtain ⟨rfl, rfl⟩ := fq164
    refine ⟨[], fresh0, ?_⟩
    show GoW l _ Z _ _ _ _ _ κ _ _ 136 _ [(.ref m141)] 19 98
    refine wq' C 138 at_136 rfl rfl rfl ?_
    have fx165 := (fx128.keep K138)
    have fx166 := (fx129.keep K138 nin0)
    have fx167 := (fx130.keep K138 nin0)
    have fx168 := (fx131.keep K138 nin0)
    refine ws' C (a := m141) (argsL := [(.ref a125)]) (W := 0) at_138 (hq hw 177 rfl) (hq hw 178 rfl) (nfS (hq hw 180 rfl)) (hq hw 180 rfl) (hq hw 179 rfl) fx148 (by decide) pd__Ljava_lang_Object__Z (ct_eq7 l Z a0 hw am (a := m141) (b := a125) (t := u142) (u := t126) (kt := ku143) (ku := kt127) (x0 := (115 : Int32)) (x1 := (116 : Int32)) (x2 := (111 : Int32)) (x3 := (99 : Int32)) (x4 := (107 : Int32)) (x5 := (47 : Int32)) (x6 := (lo8 (p1 &&& (255 : Int32)))) (y0 := (lo8 115)) (y1 := (lo8 116)) (y2 := (lo8 111)) (y3 := (lo8 99)) (y4 := (lo8 107)) (y5 := (lo8 47)) (y6 := (lo8 (p1 &&& (255 : Int32)))) fx148 fx149 fx150 fx151 fx165 fx166 fx167 fx168 (by decide) (by decide) (by decide) (by decide) (by decide) (by decide) rfl) rfl (Nat.le_of_eq rfl) rfl (by decide) mems0 ?_
    intro fv169 ph170 K171 fq172
    obtain ⟨rfl, rfl⟩ := fq172
    refine ⟨[], fresh0, ?_⟩
    show GoW l _ Z _ _ _ _ _ κ _ _ 141 _ [.int 1] 19 98
    refine ws1' C 144 at_141 rfl (by decide) (wq' C 146 at_144 rfl rfl rfl ?_)
    refine ws' C (a := q140) (argsL := []) (W := 0) at_146 (hq hw 192 rfl) (hq hw 193 rfl) (nfS (hq hw 195 rfl)) (hq hw 195 rfl) (hq hw 194 rfl) fx144 (by decide) pd___I (ct_pe l Z a0 hw am (q := q140) (n := (0 : Int32)) fx147) rfl (Nat.le_of_eq rfl) rfl (by decide) mems0 ?_
    intro fv173 ph174 K175 fq176
    obtain ⟨rfl, rfl⟩ := fq176
    refine ⟨[], fresh0, ?_⟩
    show GoW l _ Z _ _ _ _ _ κ _ _ 149 _ [.int 0] 19 98
    refine ws1' C 152 at_149 rfl (by decide) (wq' C 154 at_152 rfl rfl rfl ?_)
    refine wk2' C hEL (a := q140) (argsL := []) (W := 0) at_154 (hq hw 197 rfl) (hq hw 198 rfl) (nfS (hq hw 200 rfl)) (hq hw 200 rfl) (hq hw 199 rfl) fx144 (by decide) pd___Z (ct_isl1_ l Z a0 hw am (q := q140) (m := m141) (u := u142) (ku := ku143) (y0 := (lo8 (p1 &&& (255 : Int32)))) fx144 fx146 fx148 fx149 fx150 fx151) rfl (Nat.le_of_eq rfl) rfl (by decide) mems0 ?_
    intro fv177 ph178 K179 fq180
    obtain rfl := fq180
    show GoW l _ Z _ _ _ _ _ κ _ _ 157 _ [.int 0] 21 118
    refine ws1' C 160 at_157 rfl (by decide) (wq' C 162 at_160 rfl rfl rfl ?_)
    have fx181 := (fx144.keep K179)
    have fx182 := (fx146.keep K179 nin0)
    have fx183 := (fx148.keep K179)
    have fx184 := (fx149.keep K179 nin0)
    have fx185 := (fx150.keep K179 nin0)
    have fx186 := (fx151.keep K179 nin0)
    refine wk2' C hEL (a := q140) (argsL := []) (W := 0) at_162 (hq hw 218 rfl) (hq hw 219 rfl) (nfS (hq hw 221 rfl)) (hq hw 221 rfl) (hq hw 220 rfl) fx181 (by decide) pd___Ljava_lang_String_ (ct_sub1 l Z a0 hw am (q := q140) (m := m141) (u := u142) (ku := ku143) (y0 := (lo8 (p1 &&& (255 : Int32)))) fx181 fx182 fx183 fx184 fx185 fx186) rfl (Nat.le_of_eq rfl) rfl (by decide) mems0 ?_
    intro fv187 ph188 K189 fq190
    obtain ⟨a191, t192, kt193, rfl, fx194, fx195, fx196, fx197⟩ := fq190
    show GoW l _ Z _ _ _ _ _ κ _ _ 165 _ [(.ref a191)] 27 171
    refine wq' C 167 at_165 rfl rfl rfl ?_
    have fx198 := (((fx132.keep K138).keep K179).keep K189)
    have fx199 := (((fx133.keep K138 nin0).keep K179 nin0).keep K189 nin0)
    have fx200 := (((fx134.keep K138 nin0).keep K179 nin0).keep K189 nin0)
    have fx201 := (((fx135.keep K138 nin0).keep K179 nin0).keep K189 nin0)
    refine ws' C (a := a191) (argsL := [(.ref a114)]) (W := 0) at_167 (hq hw 177 rfl) (hq hw 178 rfl) (nfS (hq hw 180 rfl)) (hq hw 180 rfl) (hq hw 179 rfl) fx194 (by decide) pd__Ljava_lang_Object__Z (ct_eq1 l Z a0 hw am (a := a191) (b := a114) (t := t192) (u := t115) (kt := kt193) (ku := kt116) (x0 := (lo8 (p1 &&& (255 : Int32)))) (y0 := (lo8 (p1 &&& (255 : Int32)))) fx194 fx195 fx196 fx197 fx198 fx199 fx200 fx201 rfl) rfl (Nat.le_of_eq rfl) rfl (by decide) mems0 ?_
    intro fv202 ph203 K204 fq205
    obtain ⟨rfl, rfl⟩ := fq205
    refine ⟨[], fresh0, ?_⟩
    show GoW l _ Z _ _ _ _ _ κ _ _ 170 _ [.int 1] 27 171
    refine ws1' C 173 at_170 rfl (by decide) (wr1' C 174 (1 : Int32) at_173 rfl (by decide) ?_)
    refine wy2' C (pc' := 178) at_174 (by decide) (by decide) (ws2' C hEL (t := .boolean) (z := (1 : Int32)) at_178 rfl (by decide) (by decide) (by decide) (by decide) ?_)
    exact rfl
  · skip
    refine wn1' C 9 (2 : Int32) at_8 rfl ec1 (wi1' C 11 (Ls' := #[.val (.int p0), .val (.int p1), .val (.int p2), .val (.int (p2 &&& (3 : Int32))), .val (.int 2), .unset, .unset, .unset, .unset, .unset, .unset, .unset, .unset, .unset, .unset]) at_9 rfl rfl ?_)
    refine ww' C 12 at_11 rfl rfl (wu1' C 15 (255 : Int32) at_12 rfl (by decide) ?_)
    refine wn1' C 16 (p0 &&& (255 : Int32)) at_15 rfl rfl (wt1' C 17 (p0 &&& (255 : Int32)) at_16 rfl (chr_and255 _).i2c ?_)
    refine wi1' C 19 (Ls' := #[.val (.int p0), .val (.int p1), .val (.int p2), .val (.int (p2 &&& (3 : Int32))), .val (.int 2), .val (.int (p0 &&& (255 : Int32))), .unset, .unset, .unset, .unset, .unset, .unset, .unset, .unset, .unset]) at_17 rfl rfl (ww' C 20 at_19 rfl rfl ?_)
    refine wf2' C 22 (8 : Int32) at_20 rfl (by decide) (wd2' C 23 (XT.ushr p0 (8 : Int32)) at_22 rfl rfl ?_)
    refine wu1' C 26 (255 : Int32) at_23 rfl (by decide) (wn1' C 27 ((XT.ushr p0 (8 : Int32)) &&& (255 : Int32)) at_26 rfl rfl ?_)
    refine wt1' C 28 ((XT.ushr p0 (8 : Int32)) &&& (255 : Int32)) at_27 rfl (chr_and255 _).i2c (wi1' C 30 (Ls' := #[.val (.int p0), .val (.int p1), .val (.int p2), .val (.int (p2 &&& (3 : Int32))), .val (.int 2), .val (.int (p0 &&& (255 : Int32))), .val (.int ((XT.ushr p0 (8 : Int32)) &&& (255 : Int32))), .unset, .unset, .unset, .unset, .unset, .unset, .unset, .unset]) at_28 rfl rfl ?_)
    refine ww' C 31 at_30 rfl rfl (wf2' C 33 (16 : Int32) at_31 rfl (by decide) ?_)
    refine wd2' C 34 (XT.ushr p0 (16 : Int32)) at_33 rfl rfl (wu1' C 37 (255 : Int32) at_34 rfl (by decide) ?_)
    refine wn1' C 38 ((XT.ushr p0 (16 : Int32)) &&& (255 : Int32)) at_37 rfl rfl (wt1' C 39 ((XT.ushr p0 (16 : Int32)) &&& (255 : Int32)) at_38 rfl (chr_and255 _).i2c ?_)
    refine wi1' C 41 (Ls' := #[.val (.int p0), .val (.int p1), .val (.int p2), .val (.int (p2 &&& (3 : Int32))), .val (.int 2), .val (.int (p0 &&& (255 : Int32))), .val (.int ((XT.ushr p0 (8 : Int32)) &&& (255 : Int32))), .val (.int ((XT.ushr p0 (16 : Int32)) &&& (255 : Int32))), .unset, .unset, .unset, .unset, .unset, .unset, .unset]) at_39 rfl rfl (ww' C 42 at_41 rfl rfl ?_)
    refine wu1' C 45 (255 : Int32) at_42 rfl (by decide) (wn1' C 46 (p1 &&& (255 : Int32)) at_45 rfl rfl ?_)
    refine wt1' C 47 (p1 &&& (255 : Int32)) at_46 rfl (chr_and255 _).i2c (wi1' C 49 (Ls' := #[.val (.int p0), .val (.int p1), .val (.int p2), .val (.int (p2 &&& (3 : Int32))), .val (.int 2), .val (.int (p0 &&& (255 : Int32))), .val (.int ((XT.ushr p0 (8 : Int32)) &&& (255 : Int32))), .val (.int ((XT.ushr p0 (16 : Int32)) &&& (255 : Int32))), .val (.int (p1 &&& (255 : Int32))), .unset, .unset, .unset, .unset, .unset, .unset]) at_47 rfl rfl ?_)
    refine ww' C 50 at_49 rfl rfl (wf2' C 52 (8 : Int32) at_50 rfl (by decide) ?_)
    refine wd2' C 53 (XT.ushr p1 (8 : Int32)) at_52 rfl rfl (wu1' C 56 (255 : Int32) at_53 rfl (by decide) ?_)
    refine wn1' C 57 ((XT.ushr p1 (8 : Int32)) &&& (255 : Int32)) at_56 rfl rfl (wt1' C 58 ((XT.ushr p1 (8 : Int32)) &&& (255 : Int32)) at_57 rfl (chr_and255 _).i2c ?_)
    refine wi1' C 60 (Ls' := #[.val (.int p0), .val (.int p1), .val (.int p2), .val (.int (p2 &&& (3 : Int32))), .val (.int 2), .val (.int (p0 &&& (255 : Int32))), .val (.int ((XT.ushr p0 (8 : Int32)) &&& (255 : Int32))), .val (.int ((XT.ushr p0 (16 : Int32)) &&& (255 : Int32))), .val (.int (p1 &&& (255 : Int32))), .val (.int ((XT.ushr p1 (8 : Int32)) &&& (255 : Int32))), .unset, .unset, .unset, .unset, .unset]) at_58 rfl rfl (ww' C 61 at_60 rfl rfl ?_)
    refine wf2' C 63 (16 : Int32) at_61 rfl (by decide) (wd2' C 64 (XT.ushr p1 (16 : Int32)) at_63 rfl rfl ?_)
    refine wu1' C 67 (255 : Int32) at_64 rfl (by decide) (wn1' C 68 ((XT.ushr p1 (16 : Int32)) &&& (255 : Int32)) at_67 rfl rfl ?_)
    refine wt1' C 69 ((XT.ushr p1 (16 : Int32)) &&& (255 : Int32)) at_68 rfl (chr_and255 _).i2c (wi1' C 71 (Ls' := #[.val (.int p0), .val (.int p1), .val (.int p2), .val (.int (p2 &&& (3 : Int32))), .val (.int 2), .val (.int (p0 &&& (255 : Int32))), .val (.int ((XT.ushr p0 (8 : Int32)) &&& (255 : Int32))), .val (.int ((XT.ushr p0 (16 : Int32)) &&& (255 : Int32))), .val (.int (p1 &&& (255 : Int32))), .val (.int ((XT.ushr p1 (8 : Int32)) &&& (255 : Int32))), .val (.int ((XT.ushr p1 (16 : Int32)) &&& (255 : Int32))), .unset, .unset, .unset, .unset]) at_69 rfl rfl ?_)
    refine ww' C 72 at_71 rfl rfl (wn' C 74 at_72 rfl rfl ?_)
    refine wn' C 76 at_74 rfl rfl (wn' C 78 at_76 rfl rfl ?_)
    refine wq2' C hEL (argsL := [(.int (p2 &&& (3 : Int32))), (.int (p0 &&& (255 : Int32))), (.int ((XT.ushr p0 (8 : Int32)) &&& (255 : Int32))), (.int ((XT.ushr p0 (16 : Int32)) &&& (255 : Int32)))]) (W := 0) at_78 (hq hw 0 rfl) (hq hw 1 rfl) (hq hw 2 rfl) (hq hw 3 rfl) (by decide) pd__ICCC_Ljava_lang_String_ (ct_sany l Z a0 hw am (n := (p2 &&& (3 : Int32))) (c0 := (p0 &&& (255 : Int32))) (c1 := ((XT.ushr p0 (8 : Int32)) &&& (255 : Int32))) (c2 := ((XT.ushr p0 (16 : Int32)) &&& (255 : Int32))) (chr_and255 _) (chr_and255 _) (chr_and255 _) (and_small _ 255 (by decide)).2 (and_small _ 255 (by decide)).2 (and_small _ 255 (by decide)).2) rfl (Nat.le_of_eq rfl) rfl (by decide) mems0 ?_
    intro fv206 ph207 K208 fq209
    obtain ⟨a210, rfl, fx211⟩ := fq209
    show GoW l _ Z _ _ _ _ _ κ _ _ 81 _ [(.ref a210)] 6 12
    refine we2' C 83 (Ls' := #[.val (.int p0), .val (.int p1), .val (.int p2), .val (.int (p2 &&& (3 : Int32))), .val (.int 2), .val (.int (p0 &&& (255 : Int32))), .val (.int ((XT.ushr p0 (8 : Int32)) &&& (255 : Int32))), .val (.int ((XT.ushr p0 (16 : Int32)) &&& (255 : Int32))), .val (.int (p1 &&& (255 : Int32))), .val (.int ((XT.ushr p1 (8 : Int32)) &&& (255 : Int32))), .val (.int ((XT.ushr p1 (16 : Int32)) &&& (255 : Int32))), .val (.ref a210), .unset, .unset, .unset]) at_81 rfl rfl rfl (wn' C 85 at_83 rfl rfl ?_)
    refine wn' C 87 at_85 rfl rfl (wn' C 89 at_87 rfl rfl ?_)
    refine wn' C 91 at_89 rfl rfl (wz1' C (argsL := [.int 2, (.int (p1 &&& (255 : Int32))), (.int ((XT.ushr p1 (8 : Int32)) &&& (255 : Int32))), (.int ((XT.ushr p1 (16 : Int32)) &&& (255 : Int32)))]) (W := 0) at_91 (hq hw 0 rfl) (hq hw 1 rfl) (hq hw 2 rfl) (hq hw 3 rfl) (by decide) pd__ICCC_Ljava_lang_String_ (ct_s2 l Z a0 hw am (c0 := (p1 &&& (255 : Int32))) (c1 := ((XT.ushr p1 (8 : Int32)) &&& (255 : Int32))) (c2 := ((XT.ushr p1 (16 : Int32)) &&& (255 : Int32))) (chr_and255 _) (chr_and255 _) (chr_and255 _) (and_small _ 255 (by decide)).2 (and_small _ 255 (by decide)).2 (and_small _ 255 (by decide)).2) rfl (Nat.le_of_eq rfl) rfl (by decide) mems0 ?_)
    intro fv212 ph213 K214 fq215
    obtain ⟨a216, t217, kt218, rfl, fx219, fx220, fx221, fx222⟩ := fq215
    refine ⟨[], fresh0, ?_⟩
    show GoW l _ Z _ _ _ _ _ κ _ _ 94 _ [(.ref a216)] 9 20
    refine we2' C 96 (Ls' := #[.val (.int p0), .val (.int p1), .val (.int p2), .val (.int (p2 &&& (3 : Int32))), .val (.int 2), .val (.int (p0 &&& (255 : Int32))), .val (.int ((XT.ushr p0 (8 : Int32)) &&& (255 : Int32))), .val (.int ((XT.ushr p0 (16 : Int32)) &&& (255 : Int32))), .val (.int (p1 &&& (255 : Int32))), .val (.int ((XT.ushr p1 (8 : Int32)) &&& (255 : Int32))), .val (.int ((XT.ushr p1 (16 : Int32)) &&& (255 : Int32))), .val (.ref a210), .val (.ref a216), .unset, .unset]) at_94 rfl rfl rfl (wn' C 98 at_96 rfl rfl ?_)
    refine wn' C 100 at_98 rfl rfl (wn' C 102 at_100 rfl rfl ?_)
    refine wn' C 104 at_102 rfl rfl (wz1' C (argsL := [.int 2, (.int (p1 &&& (255 : Int32))), (.int ((XT.ushr p1 (8 : Int32)) &&& (255 : Int32))), (.int ((XT.ushr p1 (16 : Int32)) &&& (255 : Int32)))]) (W := 0) at_104 (hq hw 37 rfl) (hq hw 38 rfl) (hq hw 2 rfl) (hq hw 39 rfl) (by decide) pd__ICCC_Ljava_lang_String_ (ct_sn2 l Z a0 hw am (c0 := (p1 &&& (255 : Int32))) (c1 := ((XT.ushr p1 (8 : Int32)) &&& (255 : Int32))) (c2 := ((XT.ushr p1 (16 : Int32)) &&& (255 : Int32))) (chr_and255 _) (chr_and255 _) (chr_and255 _) (and_small _ 255 (by decide)).2 (and_small _ 255 (by decide)).2 (and_small _ 255 (by decide)).2) rfl (Nat.le_of_eq rfl) rfl (by decide) mems0 ?_)
    intro fv223 ph224 K225 fq226
    obtain ⟨a227, t228, kt229, rfl, fx230, fx231, fx232, fx233⟩ := fq226
    refine ⟨[], fresh0, ?_⟩
    show GoW l _ Z _ _ _ _ _ κ _ _ 107 _ [(.ref a227)] 12 40
    refine we2' C 109 (Ls' := #[.val (.int p0), .val (.int p1), .val (.int p2), .val (.int (p2 &&& (3 : Int32))), .val (.int 2), .val (.int (p0 &&& (255 : Int32))), .val (.int ((XT.ushr p0 (8 : Int32)) &&& (255 : Int32))), .val (.int ((XT.ushr p0 (16 : Int32)) &&& (255 : Int32))), .val (.int (p1 &&& (255 : Int32))), .val (.int ((XT.ushr p1 (8 : Int32)) &&& (255 : Int32))), .val (.int ((XT.ushr p1 (16 : Int32)) &&& (255 : Int32))), .val (.ref a210), .val (.ref a216), .val (.ref a227), .unset]) at_107 rfl rfl rfl (wq' C 111 at_109 rfl rfl rfl ?_)
    refine wq' C 113 at_111 rfl rfl rfl ?_
    have fx234 := (fx219.keep K225)
    have fx235 := (fx220.keep K225 nin0)
    have fx236 := (fx221.keep K225 nin0)
    have fx237 := (fx222.keep K225 nin0)
    refine wq2' C hEL (argsL := [(.ref a210), (.ref a216)]) (W := 0) at_113 (hq hw 40 rfl) (hq hw 41 rfl) (hq hw 42 rfl) (hq hw 43 rfl) (by decide) pd__Ljava_lang_String_Ljava_lang_String__Lcom_example_evenlot_evenlot_Source_ (ct_stock2 l Z a0 hw am (f := a210) (s := a216) (t := t217) (kt := kt218) (y0 := (lo8 (p1 &&& (255 : Int32)))) (y1 := (lo8 ((XT.ushr p1 (8 : Int32)) &&& (255 : Int32)))) fx234 fx235 fx236 fx237) rfl (Nat.le_of_eq rfl) rfl (by decide) mems0 ?_
    intro fv238 ph239 K240 fq241
    obtain ⟨q242, m243, u244, ku245, rfl, fx246, fx247, fx248, fx249, fx250, fx251, fx252, fx253⟩ := fq241
    show GoW l _ Z _ _ _ _ _ κ _ _ 116 _ [(.ref q242)] 19 103
    refine we2' C 118 (Ls' := #[.val (.int p0), .val (.int p1), .val (.int p2), .val (.int (p2 &&& (3 : Int32))), .val (.int 2), .val (.int (p0 &&& (255 : Int32))), .val (.int ((XT.ushr p0 (8 : Int32)) &&& (255 : Int32))), .val (.int ((XT.ushr p0 (16 : Int32)) &&& (255 : Int32))), .val (.int (p1 &&& (255 : Int32))), .val (.int ((XT.ushr p1 (8 : Int32)) &&& (255 : Int32))), .val (.int ((XT.ushr p1 (16 : Int32)) &&& (255 : Int32))), .val (.ref a210), .val (.ref a216), .val (.ref a227), .val (.ref q242)]) at_116 rfl rfl rfl (wq' C 120 at_118 rfl rfl rfl ?_)
    refine ws' C (a := q242) (argsL := []) (W := 0) at_120 (hq hw 172 rfl) (hq hw 173 rfl) (nfS (hq hw 175 rfl)) (hq hw 175 rfl) (hq hw 174 rfl) fx246 (by decide) pd___Ljava_lang_String_ (ct_fg l Z a0 hw am (q := q242) (f := a210) fx247) rfl (Nat.le_of_eq rfl) rfl (by decide) mems0 ?_
    intro fv254 ph255 K256 fq257
    obtain ⟨rfl, rfl⟩ := fq257
    refine ⟨[], fresh0, ?_⟩
    show GoW l _ Z _ _ _ _ _ κ _ _ 123 _ [(.ref a210)] 19 103
    refine wq' C 125 at_123 rfl rfl rfl ?_
    have fx258 := (((fx211.keep K214).keep K225).keep K240)
    refine ws' C (a := a210) (argsL := [(.ref a210)]) (W := 0) at_125 (hq hw 177 rfl) (hq hw 178 rfl) (nfS (hq hw 180 rfl)) (hq hw 180 rfl) (hq hw 179 rfl) fx258 (by decide) pd__Ljava_lang_Object__Z (ct_eqs l Z a0 hw am (a := a210)) rfl (Nat.le_of_eq rfl) rfl (by decide) mems0 ?_
    intro fv259 ph260 K261 fq262
    obtain ⟨rfl, rfl⟩ := fq262
    refine ⟨[], fresh0, ?_⟩
    show GoW l _ Z _ _ _ _ _ κ _ _ 128 _ [.int 1] 19 103
    refine ws1' C 131 at_128 rfl (by decide) (wq' C 133 at_131 rfl rfl rfl ?_)
    refine ws' C (a := q242) (argsL := []) (W := 0) at_133 (hq hw 182 rfl) (hq hw 183 rfl) (nfS (hq hw 185 rfl)) (hq hw 185 rfl) (hq hw 184 rfl) fx246 (by decide) pd___Ljava_lang_String_ (ct_nm l Z a0 hw am (q := q242) (f := m243) fx248) rfl (Nat.le_of_eq rfl) rfl (by decide) mems0 ?_
    intro fv263 ph264 K265 fq266
    obtain ⟨rfl, rfl⟩ := fq266
    refine ⟨[], fresh0, ?_⟩
    show GoW l _ Z _ _ _ _ _ κ _ _ 136 _ [(.ref m243)] 19 103
    refine wq' C 138 at_136 rfl rfl rfl ?_
    have fx267 := (fx230.keep K240)
    have fx268 := (fx231.keep K240 nin0)
    have fx269 := (fx232.keep K240 nin0)
    have fx270 := (fx233.keep K240 nin0)
    refine ws' C (a := m243) (argsL := [(.ref a227)]) (W := 0) at_138 (hq hw 177 rfl) (hq hw 178 rfl) (nfS (hq hw 180 rfl)) (hq hw 180 rfl) (hq hw 179 rfl) fx250 (by decide) pd__Ljava_lang_Object__Z (ct_eq8 l Z a0 hw am (a := m243) (b := a227) (t := u244) (u := t228) (kt := ku245) (ku := kt229) (x0 := (115 : Int32)) (x1 := (116 : Int32)) (x2 := (111 : Int32)) (x3 := (99 : Int32)) (x4 := (107 : Int32)) (x5 := (47 : Int32)) (x6 := (lo8 (p1 &&& (255 : Int32)))) (x7 := (lo8 ((XT.ushr p1 (8 : Int32)) &&& (255 : Int32)))) (y0 := (lo8 115)) (y1 := (lo8 116)) (y2 := (lo8 111)) (y3 := (lo8 99)) (y4 := (lo8 107)) (y5 := (lo8 47)) (y6 := (lo8 (p1 &&& (255 : Int32)))) (y7 := (lo8 ((XT.ushr p1 (8 : Int32)) &&& (255 : Int32)))) fx250 fx251 fx252 fx253 fx267 fx268 fx269 fx270 (by decide) (by decide) (by decide) (by decide) (by decide) (by decide) rfl rfl) rfl (Nat.le_of_eq rfl) rfl (by decide) mems0 ?_
    intro fv271 ph272 K273 fq274
    obtain ⟨rfl, rfl⟩ := fq274
    refine ⟨[], fresh0, ?_⟩
    show GoW l _ Z _ _ _ _ _ κ _ _ 141 _ [.int 1] 19 103
    refine ws1' C 144 at_141 rfl (by decide) (wq' C 146 at_144 rfl rfl rfl ?_)
    refine ws' C (a := q242) (argsL := []) (W := 0) at_146 (hq hw 192 rfl) (hq hw 193 rfl) (nfS (hq hw 195 rfl)) (hq hw 195 rfl) (hq hw 194 rfl) fx246 (by decide) pd___I (ct_pe l Z a0 hw am (q := q242) (n := (0 : Int32)) fx249) rfl (Nat.le_of_eq rfl) rfl (by decide) mems0 ?_
    intro fv275 ph276 K277 fq278
    obtain ⟨rfl, rfl⟩ := fq278
    refine ⟨[], fresh0, ?_⟩
    show GoW l _ Z _ _ _ _ _ κ _ _ 149 _ [.int 0] 19 103
    refine ws1' C 152 at_149 rfl (by decide) (wq' C 154 at_152 rfl rfl rfl ?_)
    refine wk2' C hEL (a := q242) (argsL := []) (W := 0) at_154 (hq hw 197 rfl) (hq hw 198 rfl) (nfS (hq hw 200 rfl)) (hq hw 200 rfl) (hq hw 199 rfl) fx246 (by decide) pd___Z (ct_isl2_ l Z a0 hw am (q := q242) (m := m243) (u := u244) (ku := ku245) (y0 := (lo8 (p1 &&& (255 : Int32)))) (y1 := (lo8 ((XT.ushr p1 (8 : Int32)) &&& (255 : Int32)))) fx246 fx248 fx250 fx251 fx252 fx253) rfl (Nat.le_of_eq rfl) rfl (by decide) mems0 ?_
    intro fv279 ph280 K281 fq282
    obtain rfl := fq282
    show GoW l _ Z _ _ _ _ _ κ _ _ 157 _ [.int 0] 21 123
    refine ws1' C 160 at_157 rfl (by decide) (wq' C 162 at_160 rfl rfl rfl ?_)
    have fx283 := (fx246.keep K281)
    have fx284 := (fx248.keep K281 nin0)
    have fx285 := (fx250.keep K281)
    have fx286 := (fx251.keep K281 nin0)
    have fx287 := (fx252.keep K281 nin0)
    have fx288 := (fx253.keep K281 nin0)
    refine wk2' C hEL (a := q242) (argsL := []) (W := 0) at_162 (hq hw 218 rfl) (hq hw 219 rfl) (nfS (hq hw 221 rfl)) (hq hw 221 rfl) (hq hw 220 rfl) fx283 (by decide) pd___Ljava_lang_String_ (ct_sub2 l Z a0 hw am (q := q242) (m := m243) (u := u244) (ku := ku245) (y0 := (lo8 (p1 &&& (255 : Int32)))) (y1 := (lo8 ((XT.ushr p1 (8 : Int32)) &&& (255 : Int32)))) fx283 fx284 fx285 fx286 fx287 fx288) rfl (Nat.le_of_eq rfl) rfl (by decide) mems0 ?_
    intro fv289 ph290 K291 fq292
    obtain ⟨a293, t294, kt295, rfl, fx296, fx297, fx298, fx299⟩ := fq292
    show GoW l _ Z _ _ _ _ _ κ _ _ 165 _ [(.ref a293)] 27 177
    refine wq' C 167 at_165 rfl rfl rfl ?_
    have fx300 := (((fx234.keep K240).keep K281).keep K291)
    have fx301 := (((fx235.keep K240 nin0).keep K281 nin0).keep K291 nin0)
    have fx302 := (((fx236.keep K240 nin0).keep K281 nin0).keep K291 nin0)
    have fx303 := (((fx237.keep K240 nin0).keep K281 nin0).keep K291 nin0)
    refine ws' C (a := a293) (argsL := [(.ref a216)]) (W := 0) at_167 (hq hw 177 rfl) (hq hw 178 rfl) (nfS (hq hw 180 rfl)) (hq hw 180 rfl) (hq hw 179 rfl) fx296 (by decide) pd__Ljava_lang_Object__Z (ct_eq2 l Z a0 hw am (a := a293) (b := a216) (t := t294) (u := t217) (kt := kt295) (ku := kt218) (x0 := (lo8 (p1 &&& (255 : Int32)))) (x1 := (lo8 ((XT.ushr p1 (8 : Int32)) &&& (255 : Int32)))) (y0 := (lo8 (p1 &&& (255 : Int32)))) (y1 := (lo8 ((XT.ushr p1 (8 : Int32)) &&& (255 : Int32)))) fx296 fx297 fx298 fx299 fx300 fx301 fx302 fx303 rfl rfl) rfl (Nat.le_of_eq rfl) rfl (by decide) mems0 ?_
    intro fv304 ph305 K306 fq307
    obtain ⟨rfl, rfl⟩ := fq307
    refine ⟨[], fresh0, ?_⟩
    show GoW l _ Z _ _ _ _ _ κ _ _ 170 _ [.int 1] 27 177
    refine ws1' C 173 at_170 rfl (by decide) (wr1' C 174 (1 : Int32) at_173 rfl (by decide) ?_)
    refine wy2' C (pc' := 178) at_174 (by decide) (by decide) (ws2' C hEL (t := .boolean) (z := (1 : Int32)) at_178 rfl (by decide) (by decide) (by decide) (by decide) ?_)
    exact rfl
  · skip
    refine wn1' C 9 (3 : Int32) at_8 rfl ec1 (wi1' C 11 (Ls' := #[.val (.int p0), .val (.int p1), .val (.int p2), .val (.int (p2 &&& (3 : Int32))), .val (.int 3), .unset, .unset, .unset, .unset, .unset, .unset, .unset, .unset, .unset, .unset]) at_9 rfl rfl ?_)
    refine ww' C 12 at_11 rfl rfl (wu1' C 15 (255 : Int32) at_12 rfl (by decide) ?_)
    refine wn1' C 16 (p0 &&& (255 : Int32)) at_15 rfl rfl (wt1' C 17 (p0 &&& (255 : Int32)) at_16 rfl (chr_and255 _).i2c ?_)
    refine wi1' C 19 (Ls' := #[.val (.int p0), .val (.int p1), .val (.int p2), .val (.int (p2 &&& (3 : Int32))), .val (.int 3), .val (.int (p0 &&& (255 : Int32))), .unset, .unset, .unset, .unset, .unset, .unset, .unset, .unset, .unset]) at_17 rfl rfl (ww' C 20 at_19 rfl rfl ?_)
    refine wf2' C 22 (8 : Int32) at_20 rfl (by decide) (wd2' C 23 (XT.ushr p0 (8 : Int32)) at_22 rfl rfl ?_)
    refine wu1' C 26 (255 : Int32) at_23 rfl (by decide) (wn1' C 27 ((XT.ushr p0 (8 : Int32)) &&& (255 : Int32)) at_26 rfl rfl ?_)
    refine wt1' C 28 ((XT.ushr p0 (8 : Int32)) &&& (255 : Int32)) at_27 rfl (chr_and255 _).i2c (wi1' C 30 (Ls' := #[.val (.int p0), .val (.int p1), .val (.int p2), .val (.int (p2 &&& (3 : Int32))), .val (.int 3), .val (.int (p0 &&& (255 : Int32))), .val (.int ((XT.ushr p0 (8 : Int32)) &&& (255 : Int32))), .unset, .unset, .unset, .unset, .unset, .unset, .unset, .unset]) at_28 rfl rfl ?_)
    refine ww' C 31 at_30 rfl rfl (wf2' C 33 (16 : Int32) at_31 rfl (by decide) ?_)
    refine wd2' C 34 (XT.ushr p0 (16 : Int32)) at_33 rfl rfl (wu1' C 37 (255 : Int32) at_34 rfl (by decide) ?_)
    refine wn1' C 38 ((XT.ushr p0 (16 : Int32)) &&& (255 : Int32)) at_37 rfl rfl (wt1' C 39 ((XT.ushr p0 (16 : Int32)) &&& (255 : Int32)) at_38 rfl (chr_and255 _).i2c ?_)
    refine wi1' C 41 (Ls' := #[.val (.int p0), .val (.int p1), .val (.int p2), .val (.int (p2 &&& (3 : Int32))), .val (.int 3), .val (.int (p0 &&& (255 : Int32))), .val (.int ((XT.ushr p0 (8 : Int32)) &&& (255 : Int32))), .val (.int ((XT.ushr p0 (16 : Int32)) &&& (255 : Int32))), .unset, .unset, .unset, .unset, .unset, .unset, .unset]) at_39 rfl rfl (ww' C 42 at_41 rfl rfl ?_)
    refine wu1' C 45 (255 : Int32) at_42 rfl (by decide) (wn1' C 46 (p1 &&& (255 : Int32)) at_45 rfl rfl ?_)
    refine wt1' C 47 (p1 &&& (255 : Int32)) at_46 rfl (chr_and255 _).i2c (wi1' C 49 (Ls' := #[.val (.int p0), .val (.int p1), .val (.int p2), .val (.int (p2 &&& (3 : Int32))), .val (.int 3), .val (.int (p0 &&& (255 : Int32))), .val (.int ((XT.ushr p0 (8 : Int32)) &&& (255 : Int32))), .val (.int ((XT.ushr p0 (16 : Int32)) &&& (255 : Int32))), .val (.int (p1 &&& (255 : Int32))), .unset, .unset, .unset, .unset, .unset, .unset]) at_47 rfl rfl ?_)
    refine ww' C 50 at_49 rfl rfl (wf2' C 52 (8 : Int32) at_50 rfl (by decide) ?_)
    refine wd2' C 53 (XT.ushr p1 (8 : Int32)) at_52 rfl rfl (wu1' C 56 (255 : Int32) at_53 rfl (by decide) ?_)
    refine wn1' C 57 ((XT.ushr p1 (8 : Int32)) &&& (255 : Int32)) at_56 rfl rfl (wt1' C 58 ((XT.ushr p1 (8 : Int32)) &&& (255 : Int32)) at_57 rfl (chr_and255 _).i2c ?_)
    refine wi1' C 60 (Ls' := #[.val (.int p0), .val (.int p1), .val (.int p2), .val (.int (p2 &&& (3 : Int32))), .val (.int 3), .val (.int (p0 &&& (255 : Int32))), .val (.int ((XT.ushr p0 (8 : Int32)) &&& (255 : Int32))), .val (.int ((XT.ushr p0 (16 : Int32)) &&& (255 : Int32))), .val (.int (p1 &&& (255 : Int32))), .val (.int ((XT.ushr p1 (8 : Int32)) &&& (255 : Int32))), .unset, .unset, .unset, .unset, .unset]) at_58 rfl rfl (ww' C 61 at_60 rfl rfl ?_)
    refine wf2' C 63 (16 : Int32) at_61 rfl (by decide) (wd2' C 64 (XT.ushr p1 (16 : Int32)) at_63 rfl rfl ?_)
    refine wu1' C 67 (255 : Int32) at_64 rfl (by decide) (wn1' C 68 ((XT.ushr p1 (16 : Int32)) &&& (255 : Int32)) at_67 rfl rfl ?_)
    refine wt1' C 69 ((XT.ushr p1 (16 : Int32)) &&& (255 : Int32)) at_68 rfl (chr_and255 _).i2c (wi1' C 71 (Ls' := #[.val (.int p0), .val (.int p1), .val (.int p2), .val (.int (p2 &&& (3 : Int32))), .val (.int 3), .val (.int (p0 &&& (255 : Int32))), .val (.int ((XT.ushr p0 (8 : Int32)) &&& (255 : Int32))), .val (.int ((XT.ushr p0 (16 : Int32)) &&& (255 : Int32))), .val (.int (p1 &&& (255 : Int32))), .val (.int ((XT.ushr p1 (8 : Int32)) &&& (255 : Int32))), .val (.int ((XT.ushr p1 (16 : Int32)) &&& (255 : Int32))), .unset, .unset, .unset, .unset]) at_69 rfl rfl ?_)
    refine ww' C 72 at_71 rfl rfl (wn' C 74 at_72 rfl rfl ?_)
    refine wn' C 76 at_74 rfl rfl (wn' C 78 at_76 rfl rfl ?_)
    refine wq2' C hEL (argsL := [(.int (p2 &&& (3 : Int32))), (.int (p0 &&& (255 : Int32))), (.int ((XT.ushr p0 (8 : Int32)) &&& (255 : Int32))), (.int ((XT.ushr p0 (16 : Int32)) &&& (255 : Int32)))]) (W := 0) at_78 (hq hw 0 rfl) (hq hw 1 rfl) (hq hw 2 rfl) (hq hw 3 rfl) (by decide) pd__ICCC_Ljava_lang_String_ (ct_sany l Z a0 hw am (n := (p2 &&& (3 : Int32))) (c0 := (p0 &&& (255 : Int32))) (c1 := ((XT.ushr p0 (8 : Int32)) &&& (255 : Int32))) (c2 := ((XT.ushr p0 (16 : Int32)) &&& (255 : Int32))) (chr_and255 _) (chr_and255 _) (chr_and255 _) (and_small _ 255 (by decide)).2 (and_small _ 255 (by decide)).2 (and_small _ 255 (by decide)).2) rfl (Nat.le_of_eq rfl) rfl (by decide) mems0 ?_
    intro fv308 ph309 K310 fq311
    obtain ⟨a312, rfl, fx313⟩ := fq311
    show GoW l _ Z _ _ _ _ _ κ _ _ 81 _ [(.ref a312)] 6 12
    refine we2' C 83 (Ls' := #[.val (.int p0), .val (.int p1), .val (.int p2), .val (.int (p2 &&& (3 : Int32))), .val (.int 3), .val (.int (p0 &&& (255 : Int32))), .val (.int ((XT.ushr p0 (8 : Int32)) &&& (255 : Int32))), .val (.int ((XT.ushr p0 (16 : Int32)) &&& (255 : Int32))), .val (.int (p1 &&& (255 : Int32))), .val (.int ((XT.ushr p1 (8 : Int32)) &&& (255 : Int32))), .val (.int ((XT.ushr p1 (16 : Int32)) &&& (255 : Int32))), .val (.ref a312), .unset, .unset, .unset]) at_81 rfl rfl rfl (wn' C 85 at_83 rfl rfl ?_)
    refine wn' C 87 at_85 rfl rfl (wn' C 89 at_87 rfl rfl ?_)
    refine wn' C 91 at_89 rfl rfl (wz1' C (argsL := [.int 3, (.int (p1 &&& (255 : Int32))), (.int ((XT.ushr p1 (8 : Int32)) &&& (255 : Int32))), (.int ((XT.ushr p1 (16 : Int32)) &&& (255 : Int32)))]) (W := 0) at_91 (hq hw 0 rfl) (hq hw 1 rfl) (hq hw 2 rfl) (hq hw 3 rfl) (by decide) pd__ICCC_Ljava_lang_String_ (ct_s3 l Z a0 hw am (c0 := (p1 &&& (255 : Int32))) (c1 := ((XT.ushr p1 (8 : Int32)) &&& (255 : Int32))) (c2 := ((XT.ushr p1 (16 : Int32)) &&& (255 : Int32))) (chr_and255 _) (chr_and255 _) (chr_and255 _) (and_small _ 255 (by decide)).2 (and_small _ 255 (by decide)).2 (and_small _ 255 (by decide)).2) rfl (Nat.le_of_eq rfl) rfl (by decide) mems0 ?_)
    intro fv314 ph315 K316 fq317
    obtain ⟨a318, t319, kt320, rfl, fx321, fx322, fx323, fx324⟩ := fq317
    refine ⟨[], fresh0, ?_⟩
    show GoW l _ Z _ _ _ _ _ κ _ _ 94 _ [(.ref a318)] 9 22
    refine we2' C 96 (Ls' := #[.val (.int p0), .val (.int p1), .val (.int p2), .val (.int (p2 &&& (3 : Int32))), .val (.int 3), .val (.int (p0 &&& (255 : Int32))), .val (.int ((XT.ushr p0 (8 : Int32)) &&& (255 : Int32))), .val (.int ((XT.ushr p0 (16 : Int32)) &&& (255 : Int32))), .val (.int (p1 &&& (255 : Int32))), .val (.int ((XT.ushr p1 (8 : Int32)) &&& (255 : Int32))), .val (.int ((XT.ushr p1 (16 : Int32)) &&& (255 : Int32))), .val (.ref a312), .val (.ref a318), .unset, .unset]) at_94 rfl rfl rfl (wn' C 98 at_96 rfl rfl ?_)
    refine wn' C 100 at_98 rfl rfl (wn' C 102 at_100 rfl rfl ?_)
    refine wn' C 104 at_102 rfl rfl (wz1' C (argsL := [.int 3, (.int (p1 &&& (255 : Int32))), (.int ((XT.ushr p1 (8 : Int32)) &&& (255 : Int32))), (.int ((XT.ushr p1 (16 : Int32)) &&& (255 : Int32)))]) (W := 0) at_104 (hq hw 37 rfl) (hq hw 38 rfl) (hq hw 2 rfl) (hq hw 39 rfl) (by decide) pd__ICCC_Ljava_lang_String_ (ct_sn3 l Z a0 hw am (c0 := (p1 &&& (255 : Int32))) (c1 := ((XT.ushr p1 (8 : Int32)) &&& (255 : Int32))) (c2 := ((XT.ushr p1 (16 : Int32)) &&& (255 : Int32))) (chr_and255 _) (chr_and255 _) (chr_and255 _) (and_small _ 255 (by decide)).2 (and_small _ 255 (by decide)).2 (and_small _ 255 (by decide)).2) rfl (Nat.le_of_eq rfl) rfl (by decide) mems0 ?_)
    intro fv325 ph326 K327 fq328
    obtain ⟨a329, t330, kt331, rfl, fx332, fx333, fx334, fx335⟩ := fq328
    refine ⟨[], fresh0, ?_⟩
    show GoW l _ Z _ _ _ _ _ κ _ _ 107 _ [(.ref a329)] 12 44
    refine we2' C 109 (Ls' := #[.val (.int p0), .val (.int p1), .val (.int p2), .val (.int (p2 &&& (3 : Int32))), .val (.int 3), .val (.int (p0 &&& (255 : Int32))), .val (.int ((XT.ushr p0 (8 : Int32)) &&& (255 : Int32))), .val (.int ((XT.ushr p0 (16 : Int32)) &&& (255 : Int32))), .val (.int (p1 &&& (255 : Int32))), .val (.int ((XT.ushr p1 (8 : Int32)) &&& (255 : Int32))), .val (.int ((XT.ushr p1 (16 : Int32)) &&& (255 : Int32))), .val (.ref a312), .val (.ref a318), .val (.ref a329), .unset]) at_107 rfl rfl rfl (wq' C 111 at_109 rfl rfl rfl ?_)
    refine wq' C 113 at_111 rfl rfl rfl ?_
    have fx336 := (fx321.keep K327)
    have fx337 := (fx322.keep K327 nin0)
    have fx338 := (fx323.keep K327 nin0)
    have fx339 := (fx324.keep K327 nin0)
    refine wq2' C hEL (argsL := [(.ref a312), (.ref a318)]) (W := 0) at_113 (hq hw 40 rfl) (hq hw 41 rfl) (hq hw 42 rfl) (hq hw 43 rfl) (by decide) pd__Ljava_lang_String_Ljava_lang_String__Lcom_example_evenlot_evenlot_Source_ (ct_stock3 l Z a0 hw am (f := a312) (s := a318) (t := t319) (kt := kt320) (y0 := (lo8 (p1 &&& (255 : Int32)))) (y1 := (lo8 ((XT.ushr p1 (8 : Int32)) &&& (255 : Int32)))) (y2 := (lo8 ((XT.ushr p1 (16 : Int32)) &&& (255 : Int32)))) fx336 fx337 fx338 fx339) rfl (Nat.le_of_eq rfl) rfl (by decide) mems0 ?_
    intro fv340 ph341 K342 fq343
    obtain ⟨q344, m345, u346, ku347, rfl, fx348, fx349, fx350, fx351, fx352, fx353, fx354, fx355⟩ := fq343
    show GoW l _ Z _ _ _ _ _ κ _ _ 116 _ [(.ref q344)] 19 108
    refine we2' C 118 (Ls' := #[.val (.int p0), .val (.int p1), .val (.int p2), .val (.int (p2 &&& (3 : Int32))), .val (.int 3), .val (.int (p0 &&& (255 : Int32))), .val (.int ((XT.ushr p0 (8 : Int32)) &&& (255 : Int32))), .val (.int ((XT.ushr p0 (16 : Int32)) &&& (255 : Int32))), .val (.int (p1 &&& (255 : Int32))), .val (.int ((XT.ushr p1 (8 : Int32)) &&& (255 : Int32))), .val (.int ((XT.ushr p1 (16 : Int32)) &&& (255 : Int32))), .val (.ref a312), .val (.ref a318), .val (.ref a329), .val (.ref q344)]) at_116 rfl rfl rfl (wq' C 120 at_118 rfl rfl rfl ?_)
    refine ws' C (a := q344) (argsL := []) (W := 0) at_120 (hq hw 172 rfl) (hq hw 173 rfl) (nfS (hq hw 175 rfl)) (hq hw 175 rfl) (hq hw 174 rfl) fx348 (by decide) pd___Ljava_lang_String_ (ct_fg l Z a0 hw am (q := q344) (f := a312) fx349) rfl (Nat.le_of_eq rfl) rfl (by decide) mems0 ?_
    intro fv356 ph357 K358 fq359
    obtain ⟨rfl, rfl⟩ := fq359
    refine ⟨[], fresh0, ?_⟩
    show GoW l _ Z _ _ _ _ _ κ _ _ 123 _ [(.ref a312)] 19 108
    refine wq' C 125 at_123 rfl rfl rfl ?_
    have fx360 := (((fx313.keep K316).keep K327).keep K342)
    refine ws' C (a := a312) (argsL := [(.ref a312)]) (W := 0) at_125 (hq hw 177 rfl) (hq hw 178 rfl) (nfS (hq hw 180 rfl)) (hq hw 180 rfl) (hq hw 179 rfl) fx360 (by decide) pd__Ljava_lang_Object__Z (ct_eqs l Z a0 hw am (a := a312)) rfl (Nat.le_of_eq rfl) rfl (by decide) mems0 ?_
    intro fv361 ph362 K363 fq364
    obtain ⟨rfl, rfl⟩ := fq364
    refine ⟨[], fresh0, ?_⟩
    show GoW l _ Z _ _ _ _ _ κ _ _ 128 _ [.int 1] 19 108
    refine ws1' C 131 at_128 rfl (by decide) (wq' C 133 at_131 rfl rfl rfl ?_)
    refine ws' C (a := q344) (argsL := []) (W := 0) at_133 (hq hw 182 rfl) (hq hw 183 rfl) (nfS (hq hw 185 rfl)) (hq hw 185 rfl) (hq hw 184 rfl) fx348 (by decide) pd___Ljava_lang_String_ (ct_nm l Z a0 hw am (q := q344) (f := m345) fx350) rfl (Nat.le_of_eq rfl) rfl (by decide) mems0 ?_
    intro fv365 ph366 K367 fq368
    obtain ⟨rfl, rfl⟩ := fq368
    refine ⟨[], fresh0, ?_⟩
    show GoW l _ Z _ _ _ _ _ κ _ _ 136 _ [(.ref m345)] 19 108
    refine wq' C 138 at_136 rfl rfl rfl ?_
    have fx369 := (fx332.keep K342)
    have fx370 := (fx333.keep K342 nin0)
    have fx371 := (fx334.keep K342 nin0)
    have fx372 := (fx335.keep K342 nin0)
    refine ws' C (a := m345) (argsL := [(.ref a329)]) (W := 0) at_138 (hq hw 177 rfl) (hq hw 178 rfl) (nfS (hq hw 180 rfl)) (hq hw 180 rfl) (hq hw 179 rfl) fx352 (by decide) pd__Ljava_lang_Object__Z (ct_eq9 l Z a0 hw am (a := m345) (b := a329) (t := u346) (u := t330) (kt := ku347) (ku := kt331) (x0 := (115 : Int32)) (x1 := (116 : Int32)) (x2 := (111 : Int32)) (x3 := (99 : Int32)) (x4 := (107 : Int32)) (x5 := (47 : Int32)) (x6 := (lo8 (p1 &&& (255 : Int32)))) (x7 := (lo8 ((XT.ushr p1 (8 : Int32)) &&& (255 : Int32)))) (x8 := (lo8 ((XT.ushr p1 (16 : Int32)) &&& (255 : Int32)))) (y0 := (lo8 115)) (y1 := (lo8 116)) (y2 := (lo8 111)) (y3 := (lo8 99)) (y4 := (lo8 107)) (y5 := (lo8 47)) (y6 := (lo8 (p1 &&& (255 : Int32)))) (y7 := (lo8 ((XT.ushr p1 (8 : Int32)) &&& (255 : Int32)))) (y8 := (lo8 ((XT.ushr p1 (16 : Int32)) &&& (255 : Int32)))) fx352 fx353 fx354 fx355 fx369 fx370 fx371 fx372 (by decide) (by decide) (by decide) (by decide) (by decide) (by decide) rfl rfl rfl) rfl (Nat.le_of_eq rfl) rfl (by decide) mems0 ?_
    intro fv373 ph374 K375 fq376
    obtain ⟨rfl, rfl⟩ := fq376
    refine ⟨[], fresh0, ?_⟩
    show GoW l _ Z _ _ _ _ _ κ _ _ 141 _ [.int 1] 19 108
    refine ws1' C 144 at_141 rfl (by decide) (wq' C 146 at_144 rfl rfl rfl ?_)
    refine ws' C (a := q344) (argsL := []) (W := 0) at_146 (hq hw 192 rfl) (hq hw 193 rfl) (nfS (hq hw 195 rfl)) (hq hw 195 rfl) (hq hw 194 rfl) fx348 (by decide) pd___I (ct_pe l Z a0 hw am (q := q344) (n := (0 : Int32)) fx351) rfl (Nat.le_of_eq rfl) rfl (by decide) mems0 ?_
    intro fv377 ph378 K379 fq380
    obtain ⟨rfl, rfl⟩ := fq380
    refine ⟨[], fresh0, ?_⟩
    show GoW l _ Z _ _ _ _ _ κ _ _ 149 _ [.int 0] 19 108
    refine ws1' C 152 at_149 rfl (by decide) (wq' C 154 at_152 rfl rfl rfl ?_)
    refine wk2' C hEL (a := q344) (argsL := []) (W := 0) at_154 (hq hw 197 rfl) (hq hw 198 rfl) (nfS (hq hw 200 rfl)) (hq hw 200 rfl) (hq hw 199 rfl) fx348 (by decide) pd___Z (ct_isl3_ l Z a0 hw am (q := q344) (m := m345) (u := u346) (ku := ku347) (y0 := (lo8 (p1 &&& (255 : Int32)))) (y1 := (lo8 ((XT.ushr p1 (8 : Int32)) &&& (255 : Int32)))) (y2 := (lo8 ((XT.ushr p1 (16 : Int32)) &&& (255 : Int32)))) fx348 fx350 fx352 fx353 fx354 fx355) rfl (Nat.le_of_eq rfl) rfl (by decide) mems0 ?_
    intro fv381 ph382 K383 fq384
    obtain rfl := fq384
    show GoW l _ Z _ _ _ _ _ κ _ _ 157 _ [.int 0] 21 128
    refine ws1' C 160 at_157 rfl (by decide) (wq' C 162 at_160 rfl rfl rfl ?_)
    have fx385 := (fx348.keep K383)
    have fx386 := (fx350.keep K383 nin0)
    have fx387 := (fx352.keep K383)
    have fx388 := (fx353.keep K383 nin0)
    have fx389 := (fx354.keep K383 nin0)
    have fx390 := (fx355.keep K383 nin0)
    refine wk2' C hEL (a := q344) (argsL := []) (W := 0) at_162 (hq hw 218 rfl) (hq hw 219 rfl) (nfS (hq hw 221 rfl)) (hq hw 221 rfl) (hq hw 220 rfl) fx385 (by decide) pd___Ljava_lang_String_ (ct_sub3 l Z a0 hw am (q := q344) (m := m345) (u := u346) (ku := ku347) (y0 := (lo8 (p1 &&& (255 : Int32)))) (y1 := (lo8 ((XT.ushr p1 (8 : Int32)) &&& (255 : Int32)))) (y2 := (lo8 ((XT.ushr p1 (16 : Int32)) &&& (255 : Int32)))) fx385 fx386 fx387 fx388 fx389 fx390) rfl (Nat.le_of_eq rfl) rfl (by decide) mems0 ?_
    intro fv391 ph392 K393 fq394
    obtain ⟨a395, t396, kt397, rfl, fx398, fx399, fx400, fx401⟩ := fq394
    show GoW l _ Z _ _ _ _ _ κ _ _ 165 _ [(.ref a395)] 27 183
    refine wq' C 167 at_165 rfl rfl rfl ?_
    have fx402 := (((fx336.keep K342).keep K383).keep K393)
    have fx403 := (((fx337.keep K342 nin0).keep K383 nin0).keep K393 nin0)
    have fx404 := (((fx338.keep K342 nin0).keep K383 nin0).keep K393 nin0)
    have fx405 := (((fx339.keep K342 nin0).keep K383 nin0).keep K393 nin0)
    refine ws' C (a := a395) (argsL := [(.ref a318)]) (W := 0) at_167 (hq hw 177 rfl) (hq hw 178 rfl) (nfS (hq hw 180 rfl)) (hq hw 180 rfl) (hq hw 179 rfl) fx398 (by decide) pd__Ljava_lang_Object__Z (ct_eq3 l Z a0 hw am (a := a395) (b := a318) (t := t396) (u := t319) (kt := kt397) (ku := kt320) (x0 := (lo8 (p1 &&& (255 : Int32)))) (x1 := (lo8 ((XT.ushr p1 (8 : Int32)) &&& (255 : Int32)))) (x2 := (lo8 ((XT.ushr p1 (16 : Int32)) &&& (255 : Int32)))) (y0 := (lo8 (p1 &&& (255 : Int32)))) (y1 := (lo8 ((XT.ushr p1 (8 : Int32)) &&& (255 : Int32)))) (y2 := (lo8 ((XT.ushr p1 (16 : Int32)) &&& (255 : Int32)))) fx398 fx399 fx400 fx401 fx402 fx403 fx404 fx405 rfl rfl rfl) rfl (Nat.le_of_eq rfl) rfl (by decide) mems0 ?_
    intro fv406 ph407 K408 fq409
    obtain ⟨rfl, rfl⟩ := fq409
    refine ⟨[], fresh0, ?_⟩
    show GoW l _ Z _ _ _ _ _ κ _ _ 170 _ [.int 1] 27 183
    refine ws1' C 173 at_170 rfl (by decide) (wr1' C 174 (1 : Int32) at_173 rfl (by decide) ?_)
    refine wy2' C (pc' := 178) at_174 (by decide) (by decide) (ws2' C hEL (t := .boolean) (z := (1 : Int32)) at_178 rfl (by decide) (by decide) (by decide) (by decide) ?_)
    exact rfl
theorem comes_1 {Post : Tables → Env → Array Value → State → Outcome → State → Prop} (hpost : ∀ tb e args s v u, (limb_1_1.after args s (.returned v) u = true ∧ limb_1_2.after args s (.returned v) u = true ∧ True) → ReturnedEndW s (.returned v) u (Jvm.fieldLocs frame_1_writes args s ++ Jvm.arrayLocs frame_1_arrays args s ++ Jvm.staticLocs frame_1_statics s) 48 4352 → Post tb e args s (.returned v) u) :
    ArmFor flags0 classFile x code maxLocals ret World_1 tables_1 room_1 Calls_1 rest_1 Pre_1 Post := by
  intro l hfl _ _ p e ha hc hk s m args below hf hA hF happ hP
  obtain ⟨hcalls, hrest, hpre⟩ := hP
  obtain ⟨-, -, -, hnamed, -, -, -, hat⟩ := (Spec.applies_iff hf).mp happ
  obtain ⟨hg, hn⟩ := and_e (Cond.before_iff.mp (show (Jvm.Cond.and given_1 narrow_1).before args s = true from hpre))
  obtain ⟨g0, gr0⟩ := and_e hg
  obtain ⟨g1, gr1⟩ := and_e gr0
  obtain ⟨g2, gr2⟩ := and_e gr1
  have g3 := gr2
  obtain ⟨w0, w1, w2, rfl⟩ : ∃ w0 w1 w2 : Value, args = #[w0, w1, w2] := by
    have hs : args.size = 3 := by simpa [Cond.value, given_1] using g0
    obtain ⟨L⟩ := args
    match L, hs with
    | [w0, w1, w2], _ => exact ⟨w0, w1, w2, rfl⟩
  have hw := fun d (hd : d ∈ tables_1) => atoms_spec (ws := Jvm.Cond.code x code maxLocals ret :: tables_1) hat d (List.mem_cons_of_mem _ hd)
  have hfit : Fit s := fun {y c} hc i hi => by
    obtain ⟨ha, rfl⟩ := Array.getElem?_eq_some_iff.mp hc
    have q := List.all_eq_true.mp ((Array.all_eq_true_iff_forall_mem.mp hF) _ (Array.getElem_mem ha)) i (List.mem_range.mpr hi)
    simpa [Array.getElem?_eq_getElem hi] using q
  obtain ⟨hsets, hown0⟩ := atoms_of _ (rest_1_c_eq ▸ (show rest_1_c.before _ s = true from hrest))
  obtain ⟨i0, ei0⟩ := is_v g1
  obtain rfl : w0 = (.int i0) := Option.some.inj ei0
  obtain ⟨i1, ei1⟩ := is_v g2
  obtain rfl : w1 = (.int i1) := Option.some.inj ei1
  obtain ⟨i2, ei2⟩ := is_v g3
  obtain rfl : w2 = (.int i2) := Option.some.inj ei2
  have nCS := not_v (Cond.before_iff.mp (hsets _ (List.mem_of_getElem? (i := 2) rfl)))
  obtain ⟨cS, ecS⟩ := is_v (Cond.before_iff.mp (hsets _ (List.mem_of_getElem? (i := 1) rfl)))
  have S1 : Sta s s.heap "java/lang/String" "COMPACT_STRINGS" "Z" (.int cS) := Sta.start ecS (Or.inl (hsets _ (List.mem_of_getElem? (i := 0) rfl)))
  have c1 : ¬ (cS = (0 : Int32)) := gotF (Cond.eq_ints ecS (Term.int_eval (0))) nCS
  have hEL : EW s _ consts_1 := (EW.cons (hw _ (List.mem_of_getElem? (i := 64) rfl)) (by decide) (EW.cons (hw _ (List.mem_of_getElem? (i := 202) rfl)) (by decide) (EW.cons (hw _ (List.mem_of_getElem? (i := 34) rfl)) (by decide) (EW.cons (hw _ (List.mem_of_getElem? (i := 251) rfl)) (by decide) EW.nil))))
  have hCH : CHv s consts_1 s.vm s.heap := CHv.start hEL (fun p hp => hcalls.1 p hp) (hsets _ (List.mem_of_getElem? (i := 2) rfl)) (hq hw 23 rfl) (hq hw 5 rfl)
  obtain ⟨fm, efm, r5⟩ := isR_v (Cond.before_iff.mp (hsets _ (List.mem_of_getElem? (i := 8) rfl)))
  have S5 : Sta s s.heap "jdk/internal/util/Preconditions" "SIOOBE_FORMATTER" "Ljava/util/function/BiFunction;" fm := Sta.start efm (Or.inl (hsets _ (List.mem_of_getElem? (i := 7) rfl)))
  obtain ⟨n, o, h1, h2, h3, _, L, rfl, ⟨-, rfl, N⟩, -, hq⟩ := law0 l s _ hw (am := ⟨hEL, S1, c1, S5, r5⟩) (p0 := i0) (p1 := i1) (p2 := i2) (h0 := s.heap) (ext_refl _) (fun _ q => nomatch q) tables_1 p e ha hc hk s m _ below hf ((Spec.applies_iff_loose hf).mp happ).1 ⟨rfl, State.Warmed39.refl s, rfl, hCH, fun _ q => nomatch q⟩ trivial
  exact ⟨n, _, h1, h2, h3, hpost _ _ _ _ _ _ ⟨Cond.after_iff.mpr rfl, Cond.after_iff.mpr (eq_i res_at (Term.int_eval (1)) rfl), trivial⟩ ⟨hq.1, hq.2.1, hq.2.2.1, (hq.2.2.2.sift fun y hy => Or.inr (N y hy)).mono (by decide) (by decide)⟩⟩
theorem main_1_1 : Claimed_1_1 := comes_1 fun _ _ _ _ _ _ h hF => ⟨h.1, hF⟩
theorem main_1_2 : Claimed_1_2 := comes_1 fun _ _ _ _ _ _ h hF => ⟨h.2.1, hF⟩
end Jvm.Pilot.@@N@@
namespace Jvm.Pilot.@@N@@
open Jvm Jvm.ClassFile Sem Op Lib Jvm.Free Jvm.Stand Jvm.Pilot.@@N@@.Jvm.D
/-! MADE BY PROGRAM (witnessworld.py) out of the Statement's table words and the real class files: 27 classes; the members and pool entries that the words name. The judged class is class 1, her method 1. -/
namespace start1
open Jvm.ClassFile
def u (s : String) : CpInfo := .utf8 (stringToUtf16 s)
/-- a pool by its gaps: so many unusable entries, then the entry; so many at the end -/
def gap : Nat → List CpInfo → List CpInfo
  | 0, r => r
  | n + 1, r => .unusable :: gap n r
def poolList (es : List (Nat × CpInfo)) (last : Nat) : List CpInfo := es.foldr (fun e r => gap e.1 (e.2 :: r)) (gap last [])
def pool (es : List (Nat × CpInfo)) (last : Nat) : Array CpInfo := ⟨poolList es last⟩
def fileOf (pool : Array CpInfo) (this : Nat) (attrs : Array Attribute := #[]) (ms : Array MethodInfo := #[]) (fl : Nat := 33) (sup : Nat := 0) (ifs : Array Nat := #[]) (fds : Array FieldInfo := #[]) : ClassFile where
  minorVersion := 0
  majorVersion := 65
  constantPool := pool
  accessFlags := fl
  thisClass := this
  superClass := sup
  interfaces := ifs
  fields := fds
  methods := ms
  attributes := attrs
def plain (name : String) (sup : Option ClassId) : Class where
  name := name
  kind := .ordinary
  loader := none
  accessFlags := 33
  super := sup
  interfaces := #[]
  cf := none
  fields := #[]
  methods := #[]
  instanceTypes := #[]
  staticTypes := #[]
  resolved := #[]
  callSites := []
  init := .initialized
  statics := none
  mirror := none

def pool0 : Array CpInfo := pool [(5, u "<init>"), (0, u "()V"), (1, .class_ 10), (1, u "java/lang/Object")] 113

def k0c0 : Code := { maxStack := 0, maxLocals := 1, code := object_method_1_code, exceptionTable := #[], attributes := #[] }
def k0m0 : Method := { name := "<init>", desc := "()V", sig := { parameters := [], returnType := none }, accessFlags := 1, code := some k0c0 }
/-- java/lang/Object -/
def k0 : Class := { plain "java/lang/Object" none with
  accessFlags := 33
  interfaces := #[]
  cf := some (fileOf pool0 8 #[] #[{ accessFlags := 1, nameIndex := 5, descriptorIndex := 6, attributes := #[] }] 33 0 #[] #[])
  fields := #[]
  methods := #[k0m0]
  instanceTypes := #[]
  staticTypes := #[]
  resolved := Array.replicate 124 none
  statics := none }

def pool1 : Array CpInfo := pool [(2, .class_ 4), (1, u "java/lang/Object"), (0, u "<init>"), (0, u "()V"), (0, .methodref 8 9), (0, .class_ 10), (0, .nameAndType 11 12), (0, u "com/example/evenlot/evenlot/SourceStockPinLaw"), (0, u "str"), (0, u "(ICCC)Ljava/lang/String;"), (0, .methodref 8 14), (0, .nameAndType 15 12), (0, u "stockName"), (0, .methodref 17 18), (0, .class_ 19), (0, .nameAndType 20 21), (0, u "com/example/evenlot/evenlot/Source"), (0, u "stock"), (0, u "(Ljava/lang/String;Ljava/lang/String;)Lcom/example/evenlot/evenlot/Source;"), (0, .methodref 17 23), (0, .nameAndType 24 25), (0, u "fg"), (0, u "()Ljava/lang/String;"), (0, .methodref 27 28), (0, .class_ 29), (0, .nameAndType 30 31), (0, u "java/lang/String"), (0, u "equals"), (0, u "(Ljava/lang/Object;)Z"), (0, .methodref 17 33), (0, .nameAndType 34 25), (0, u "name"), (0, .methodref 17 36), (0, .nameAndType 37 38), (0, u "period"), (0, u "()I"), (0, .methodref 17 40), (0, .nameAndType 41 42), (0, u "isLot"), (0, u "()Z"), (0, .methodref 17 44), (0, .nameAndType 45 25), (0, u "subtype"), (0, .methodref 27 47), (0, .nameAndType 5 48), (0, u "([C)V"), (2, u "law"), (0, u "(III)Z")] 3

def k1m0 : Method := { name := "<init>", desc := "()V", sig := { parameters := [], returnType := none }, accessFlags := 1, code := none }
def k1c1 : Code := { maxStack := 4, maxLocals := 15, code := code, exceptionTable := #[], attributes := #[] }
def k1m1 : Method := { name := "law", desc := "(III)Z", sig := { parameters := [.int, .int, .int], returnType := some .boolean }, accessFlags := 9, code := some k1c1 }
def k1c2 : Code := { maxStack := 6, maxLocals := 4, code := method_3_code, exceptionTable := #[], attributes := #[] }
def k1m2 : Method := { name := "str", desc := "(ICCC)Ljava/lang/String;", sig := { parameters := [.int, .char, .char, .char], returnType := some (.object "java/lang/String") }, accessFlags := 10, code := some k1c2 }
def k1c3 : Code := { maxStack := 6, maxLocals := 4, code := method_4_code, exceptionTable := #[], attributes := #[] }
def k1m3 : Method := { name := "stockName", desc := "(ICCC)Ljava/lang/String;", sig := { parameters := [.int, .char, .char, .char], returnType := some (.object "java/lang/String") }, accessFlags := 10, code := some k1c3 }
/-- com/example/evenlot/evenlot/SourceStockPinLaw -/
def k1 : Class := { plain "com/example/evenlot/evenlot/SourceStockPinLaw" (some 0) with
  accessFlags := 49
  interfaces := #[]
  cf := some (fileOf pool1 8 #[] #[{ accessFlags := 1, nameIndex := 5, descriptorIndex := 6, attributes := #[] }, { accessFlags := 9, nameIndex := 51, descriptorIndex := 52, attributes := #[] }, { accessFlags := 10, nameIndex := 11, descriptorIndex := 12, attributes := #[] }, { accessFlags := 10, nameIndex := 15, descriptorIndex := 12, attributes := #[] }] 49 2 #[] #[])
  fields := #[]
  methods := #[k1m0, k1m1, k1m2, k1m3]
  instanceTypes := #[]
  staticTypes := #[]
  resolved := Array.replicate 56 none
  statics := none }

def pool2 : Array CpInfo := pool [(1, .class_ 2), (0, u "java/io/Serializable"), (0, .class_ 4), (0, u "java/lang/Object")] 2

/-- java/io/Serializable -/
def k2 : Class := { plain "java/io/Serializable" (some 0) with
  accessFlags := 1537
  interfaces := #[]
  cf := some (fileOf pool2 1 #[] #[] 1537 3 #[] #[])
  fields := #[]
  methods := #[]
  instanceTypes := #[]
  staticTypes := #[]
  resolved := Array.replicate 7 none
  statics := none }

def pool3 : Array CpInfo := pool [(1, .class_ 2), (0, u "java/lang/Comparable"), (0, .class_ 4), (0, u "java/lang/Object")] 7

/-- java/lang/Comparable -/
def k3 : Class := { plain "java/lang/Comparable" (some 0) with
  accessFlags := 1537
  interfaces := #[]
  cf := some (fileOf pool3 1 #[] #[] 1537 3 #[] #[])
  fields := #[]
  methods := #[]
  instanceTypes := #[]
  staticTypes := #[]
  resolved := Array.replicate 12 none
  statics := none }

def pool4 : Array CpInfo := pool [(2, .class_ 4), (1, u "java/lang/CharSequence"), (42, .class_ 48), (0, u "java/lang/CharSequence$1CodePointIterator"), (10, .class_ 60), (0, u "java/lang/CharSequence$1CharIterator"), (5, .class_ 67), (0, u "java/lang/Object")] 63

/-- java/lang/CharSequence -/
def k4 : Class := { plain "java/lang/CharSequence" (some 0) with
  accessFlags := 1537
  interfaces := #[]
  cf := some (fileOf pool4 2 #[.nestMembers #[47, 59]] #[] 1537 66 #[] #[])
  fields := #[]
  methods := #[]
  instanceTypes := #[]
  staticTypes := #[]
  resolved := Array.replicate 131 none
  statics := none }

def pool5 : Array CpInfo := pool [(1, .class_ 2), (0, u "java/lang/constant/Constable"), (0, .class_ 4), (0, u "java/lang/Object")] 6

/-- java/lang/constant/Constable -/
def k5 : Class := { plain "java/lang/constant/Constable" (some 0) with
  accessFlags := 1537
  interfaces := #[]
  cf := some (fileOf pool5 1 #[] #[] 1537 3 #[] #[])
  fields := #[]
  methods := #[]
  instanceTypes := #[]
  staticTypes := #[]
  resolved := Array.replicate 11 none
  statics := none }

def pool6 : Array CpInfo := pool [(1, .class_ 2), (0, u "java/lang/constant/ConstantDesc"), (0, .class_ 4), (0, u "java/lang/Object")] 32

/-- java/lang/constant/ConstantDesc -/
def k6 : Class := { plain "java/lang/constant/ConstantDesc" (some 0) with
  accessFlags := 1537
  interfaces := #[]
  cf := some (fileOf pool6 1 #[] #[] 1537 3 #[] #[])
  fields := #[]
  methods := #[]
  instanceTypes := #[]
  staticTypes := #[]
  resolved := Array.replicate 37 none
  statics := none }

def pool7 : Array CpInfo := pool [(1, .methodref 2 3), (0, .class_ 4), (0, .nameAndType 5 6), (0, u "java/lang/Object"), (0, u "<init>"), (0, u "()V"), (0, .string 8), (0, u ""), (0, .fieldref 10 11), (0, .class_ 12), (0, .nameAndType 13 14), (0, u "java/lang/String"), (0, u "value"), (0, u "[B"), (0, .fieldref 10 16), (0, .nameAndType 17 18), (0, u "coder"), (0, u "B"), (2, u "hash"), (0, u "I"), (2, u "hashIsZero"), (0, u "Z"), (0, .methodref 10 28), (0, .nameAndType 5 29), (0, u "([CIILjava/lang/Void;)V"), (8, .fieldref 10 39), (0, .nameAndType 40 26), (0, u "COMPACT_STRINGS"), (1, .class_ 44), (1, u "java/lang/StringUTF16"), (0, u "compress"), (1, .methodref 42 48), (0, .nameAndType 49 50), (0, u "coderFromArrayLen"), (0, u "([BI)B"), (3, .methodref 55 56), (0, .class_ 57), (0, .nameAndType 58 59), (0, u "java/util/Arrays"), (0, u "copyOfRange"), (0, u "([BII)[B"), (47, .class_ 109), (1, u "java/lang/StringLatin1"), (32, u "()Z"), (34, .methodref 42 178), (0, .nameAndType 45 179), (0, u "([CII)[B"), (13, .class_ 195), (1, u "java/lang/System"), (15, u "([BB)V"), (0, .methodref 193 213), (0, .nameAndType 214 215), (0, u "arraycopy"), (0, u "(Ljava/lang/Object;ILjava/lang/Object;II)V"), (118, u "()I"), (0, .methodref 10 336), (0, .nameAndType 17 337), (0, u "()B"), (2, u "()[B"), (35, u "([BI[BII)I"), (112, .methodref 10 490), (0, .nameAndType 5 491), (0, u "(Ljava/lang/AbstractStringBuilder;Ljava/lang/Void;)V"), (0, .methodref 10 493), (0, .nameAndType 494 142), (0, u "isLatin1"), (10, .methodref 10 506), (0, .nameAndType 507 334), (0, u "length"), (5, u "checkFromToIndex"), (7, .methodref 10 522), (0, .nameAndType 523 524), (0, u "checkBoundsBeginEnd"), (0, u "(III)V"), (7, u "getBytes"), (8, .methodref 107 542), (0, .nameAndType 543 544), (0, u "equals"), (0, u "([B[B)Z"), (4, .methodref 550 506), (0, .class_ 551), (0, u "java/lang/AbstractStringBuilder"), (0, .methodref 550 553), (0, .nameAndType 554 340), (0, u "getValue"), (4, .class_ 561), (1, u "jdk/internal/util/ArraysSupport"), (0, u "mismatch"), (10, u "(Ljava/lang/Object;)Z"), (1, .class_ 576), (0, u "java/lang/CharSequence"), (22, u "CASE_INSENSITIVE_ORDER"), (0, u "Ljava/util/Comparator;"), (6, .methodref 559 608), (0, .nameAndType 562 376), (15, .methodref 10 625), (0, .nameAndType 626 627), (0, u "startsWith"), (0, u "(Ljava/lang/String;I)Z"), (53, .methodref 10 682), (0, .nameAndType 683 684), (0, u "substring"), (0, u "(II)Ljava/lang/String;"), (0, .methodref 107 686), (0, .nameAndType 687 688), (0, u "newString"), (0, u "([BII)Ljava/lang/String;"), (132, u "([BIB)V"), (70, u "(I)Ljava/lang/String;"), (117, u "([C)V"), (36, .methodref 550 493), (5, .fieldref 1054 1055), (0, .class_ 1056), (0, .nameAndType 1057 1058), (0, u "jdk/internal/util/Preconditions"), (0, u "SIOOBE_FORMATTER"), (0, u "Ljava/util/function/BiFunction;"), (3, .methodref 1054 1063), (0, .nameAndType 513 1064), (0, u "(IIILjava/util/function/BiFunction;)I"), (36, u "serialPersistentFields"), (0, u "[Ljava/io/ObjectStreamField;"), (0, .class_ 1104), (0, u "java/lang/String$CaseInsensitiveComparator"), (1, .class_ 1107), (0, u "java/io/Serializable"), (0, .class_ 1109), (0, u "java/lang/Comparable"), (0, .class_ 1111), (0, u "java/lang/constant/Constable"), (0, .class_ 1113), (0, u "java/lang/constant/ConstantDesc"), (2, u "serialVersionUID"), (0, u "J"), (3, u "REPL"), (0, u "C"), (2, u "LATIN1"), (1, u "UTF16"), (105, u "(Ljava/lang/StringBuilder;)V"), (23, u "(Ljava/lang/String;)Z")] 193

def k7m0 : Method := { name := "<init>", desc := "()V", sig := { parameters := [], returnType := none }, accessFlags := 1, code := none }
def k7c1 : Code := { maxStack := 5, maxLocals := 2, code := jdk_42_method_3_code, exceptionTable := #[], attributes := #[] }
def k7m1 : Method := { name := "<init>", desc := "([C)V", sig := { parameters := [(.array .char)], returnType := none }, accessFlags := 1, code := some k7c1 }
def k7c2 : Code := { maxStack := 3, maxLocals := 2, code := jdk_42_method_53_code, exceptionTable := #[], attributes := #[] }
def k7m2 : Method := { name := "<init>", desc := "(Ljava/lang/StringBuilder;)V", sig := { parameters := [(.object "java/lang/StringBuilder")], returnType := none }, accessFlags := 1, code := some k7c2 }
def k7c3 : Code := { maxStack := 2, maxLocals := 1, code := jdk_42_method_54_code, exceptionTable := #[], attributes := #[] }
def k7m3 : Method := { name := "length", desc := "()I", sig := { parameters := [], returnType := some .int }, accessFlags := 1, code := some k7c3 }
def k7c4 : Code := { maxStack := 2, maxLocals := 3, code := jdk_42_method_66_code, exceptionTable := #[], attributes := #[] }
def k7m4 : Method := { name := "equals", desc := "(Ljava/lang/Object;)Z", sig := { parameters := [(.object "java/lang/Object")], returnType := some .boolean }, accessFlags := 1, code := some k7c4 }
def k7c5 : Code := { maxStack := 5, maxLocals := 8, code := jdk_42_method_75_code, exceptionTable := #[], attributes := #[] }
def k7m5 : Method := { name := "startsWith", desc := "(Ljava/lang/String;I)Z", sig := { parameters := [(.object "java/lang/String"), .int], returnType := some .boolean }, accessFlags := 1, code := some k7c5 }
def k7c6 : Code := { maxStack := 3, maxLocals := 2, code := jdk_42_method_76_code, exceptionTable := #[], attributes := #[] }
def k7m6 : Method := { name := "startsWith", desc := "(Ljava/lang/String;)Z", sig := { parameters := [(.object "java/lang/String")], returnType := some .boolean }, accessFlags := 1, code := some k7c6 }
def k7c7 : Code := { maxStack := 3, maxLocals := 2, code := jdk_42_method_91_code, exceptionTable := #[], attributes := #[] }
def k7m7 : Method := { name := "substring", desc := "(I)Ljava/lang/String;", sig := { parameters := [.int], returnType := some (.object "java/lang/String") }, accessFlags := 1, code := some k7c7 }
def k7c8 : Code := { maxStack := 3, maxLocals := 5, code := jdk_42_method_92_code, exceptionTable := #[], attributes := #[] }
def k7m8 : Method := { name := "substring", desc := "(II)Ljava/lang/String;", sig := { parameters := [.int, .int], returnType := some (.object "java/lang/String") }, accessFlags := 1, code := some k7c8 }
def k7c9 : Code := { maxStack := 5, maxLocals := 4, code := jdk_42_method_147_code, exceptionTable := #[], attributes := #[] }
def k7m9 : Method := { name := "getBytes", desc := "([BIB)V", sig := { parameters := [(.array .byte), .int, .byte], returnType := none }, accessFlags := 0, code := some k7c9 }
def k7c10 : Code := { maxStack := 4, maxLocals := 6, code := jdk_42_method_149_code, exceptionTable := #[], attributes := #[] }
def k7m10 : Method := { name := "<init>", desc := "([CIILjava/lang/Void;)V", sig := { parameters := [(.array .char), .int, .int, (.object "java/lang/Void")], returnType := none }, accessFlags := 2, code := some k7c10 }
def k7c11 : Code := { maxStack := 5, maxLocals := 5, code := jdk_42_method_150_code, exceptionTable := #[], attributes := #[] }
def k7m11 : Method := { name := "<init>", desc := "(Ljava/lang/AbstractStringBuilder;Ljava/lang/Void;)V", sig := { parameters := [(.object "java/lang/AbstractStringBuilder"), (.object "java/lang/Void")], returnType := none }, accessFlags := 0, code := some k7c11 }
def k7c12 : Code := { maxStack := 2, maxLocals := 3, code := jdk_42_method_151_code, exceptionTable := #[], attributes := #[] }
def k7m12 : Method := { name := "<init>", desc := "([BB)V", sig := { parameters := [(.array .byte), .byte], returnType := none }, accessFlags := 0, code := some k7c12 }
def k7c13 : Code := { maxStack := 1, maxLocals := 1, code := jdk_42_method_152_code, exceptionTable := #[], attributes := #[] }
def k7m13 : Method := { name := "coder", desc := "()B", sig := { parameters := [], returnType := some .byte }, accessFlags := 0, code := some k7c13 }
def k7c14 : Code := { maxStack := 1, maxLocals := 1, code := jdk_42_method_154_code, exceptionTable := #[], attributes := #[] }
def k7m14 : Method := { name := "isLatin1", desc := "()Z", sig := { parameters := [], returnType := some .boolean }, accessFlags := 0, code := some k7c14 }
def k7c15 : Code := { maxStack := 4, maxLocals := 3, code := jdk_42_method_158_code, exceptionTable := #[], attributes := #[] }
def k7m15 : Method := { name := "checkBoundsBeginEnd", desc := "(III)V", sig := { parameters := [.int, .int, .int], returnType := none }, accessFlags := 8, code := some k7c15 }
/-- java/lang/String -/
def k7 : Class := { plain "java/lang/String" (some 0) with
  accessFlags := 49
  interfaces := #[2, 3, 4, 5, 6]
  cf := some (fileOf pool7 10 #[.nestMembers #[1103]] #[{ accessFlags := 1, nameIndex := 5, descriptorIndex := 6, attributes := #[] }, { accessFlags := 1, nameIndex := 5, descriptorIndex := 1010, attributes := #[] }, { accessFlags := 1, nameIndex := 5, descriptorIndex := 1233, attributes := #[] }, { accessFlags := 1, nameIndex := 507, descriptorIndex := 334, attributes := #[] }, { accessFlags := 1, nameIndex := 543, descriptorIndex := 573, attributes := #[] }, { accessFlags := 1, nameIndex := 626, descriptorIndex := 627, attributes := #[] }, { accessFlags := 1, nameIndex := 626, descriptorIndex := 1257, attributes := #[] }, { accessFlags := 1, nameIndex := 683, descriptorIndex := 892, attributes := #[] }, { accessFlags := 1, nameIndex := 683, descriptorIndex := 684, attributes := #[] }, { accessFlags := 0, nameIndex := 532, descriptorIndex := 821, attributes := #[] }, { accessFlags := 2, nameIndex := 5, descriptorIndex := 29, attributes := #[] }, { accessFlags := 0, nameIndex := 5, descriptorIndex := 491, attributes := #[] }, { accessFlags := 0, nameIndex := 5, descriptorIndex := 211, attributes := #[] }, { accessFlags := 0, nameIndex := 17, descriptorIndex := 337, attributes := #[] }, { accessFlags := 0, nameIndex := 494, descriptorIndex := 142, attributes := #[] }, { accessFlags := 8, nameIndex := 523, descriptorIndex := 524, attributes := #[] }] 49 2 #[1106, 1108, 575, 1110, 1112] #[{ accessFlags := 18, nameIndex := 13, descriptorIndex := 14, attributes := #[] }, { accessFlags := 18, nameIndex := 17, descriptorIndex := 18, attributes := #[] }, { accessFlags := 2, nameIndex := 21, descriptorIndex := 22, attributes := #[] }, { accessFlags := 2, nameIndex := 25, descriptorIndex := 26, attributes := #[] }, { accessFlags := 26, nameIndex := 1116, descriptorIndex := 1117, attributes := #[] }, { accessFlags := 24, nameIndex := 40, descriptorIndex := 26, attributes := #[] }, { accessFlags := 26, nameIndex := 1101, descriptorIndex := 1102, attributes := #[] }, { accessFlags := 26, nameIndex := 1121, descriptorIndex := 1122, attributes := #[] }, { accessFlags := 25, nameIndex := 599, descriptorIndex := 600, attributes := #[] }, { accessFlags := 24, nameIndex := 1125, descriptorIndex := 18, attributes := #[] }, { accessFlags := 24, nameIndex := 1127, descriptorIndex := 18, attributes := #[] }])
  fields := #[{ name := "value", type := (.array .byte), accessFlags := 18, slot := 0, constantValue := 0 }, { name := "coder", type := .byte, accessFlags := 18, slot := 1, constantValue := 0 }, { name := "hash", type := .int, accessFlags := 2, slot := 2, constantValue := 0 }, { name := "hashIsZero", type := .boolean, accessFlags := 2, slot := 3, constantValue := 0 }, { name := "serialVersionUID", type := .long, accessFlags := 26, slot := 0, constantValue := 0 }, { name := "COMPACT_STRINGS", type := .boolean, accessFlags := 24, slot := 1, constantValue := 0 }, { name := "serialPersistentFields", type := (.array (.object "java/io/ObjectStreamField")), accessFlags := 26, slot := 2, constantValue := 0 }, { name := "REPL", type := .char, accessFlags := 26, slot := 3, constantValue := 0 }, { name := "CASE_INSENSITIVE_ORDER", type := (.object "java/util/Comparator"), accessFlags := 25, slot := 4, constantValue := 0 }, { name := "LATIN1", type := .byte, accessFlags := 24, slot := 5, constantValue := 0 }, { name := "UTF16", type := .byte, accessFlags := 24, slot := 6, constantValue := 0 }]
  methods := #[k7m0, k7m1, k7m2, k7m3, k7m4, k7m5, k7m6, k7m7, k7m8, k7m9, k7m10, k7m11, k7m12, k7m13, k7m14, k7m15]
  instanceTypes := #[(.array .byte), .byte, .int, .boolean]
  staticTypes := #[.long, .boolean, (.array (.object "java/io/ObjectStreamField")), .char, (.object "java/util/Comparator"), .byte, .byte]
  resolved := Array.replicate 1451 none
  statics := some 0 }

def pool8 : Array CpInfo := pool [(6, .class_ 8), (1, u "java/lang/Object"), (0, u "<init>"), (0, u "()V"), (1, .class_ 14), (1, u "java/lang/StringUTF16"), (31, u "$assertionsDisabled"), (0, u "Z"), (13, u "HI_BYTE_SHIFT"), (0, u "I"), (2, u "LO_BYTE_SHIFT"), (49, .methodref 12 116), (0, .nameAndType 117 118), (0, u "compress"), (0, u "([CI[BII)I"), (3, u "([CII)[B"), (138, u "coderFromArrayLen"), (0, u "([BI)B"), (106, .class_ 371), (1, u "java/lang/StringUTF16$LinesSpliterator"), (58, u "MAX_LENGTH"), (196, .class_ 628), (0, u "java/lang/StringUTF16$CodePointsSpliterator"), (0, .class_ 630), (0, u "java/lang/StringUTF16$CharsSpliterator")] 4

def k8m0 : Method := { name := "<init>", desc := "()V", sig := { parameters := [], returnType := none }, accessFlags := 0, code := none }
def k8c1 : Code := { maxStack := 2, maxLocals := 2, code := jdk_52_method_15_code, exceptionTable := #[], attributes := #[] }
def k8m1 : Method := { name := "coderFromArrayLen", desc := "([BI)B", sig := { parameters := [(.array .byte), .int], returnType := some .byte }, accessFlags := 8, code := some k8c1 }
def k8c2 : Code := { maxStack := 5, maxLocals := 6, code := jdk_52_method_16_code, exceptionTable := #[], attributes := #[] }
def k8m2 : Method := { name := "compress", desc := "([CII)[B", sig := { parameters := [(.array .char), .int, .int], returnType := some (.array .byte) }, accessFlags := 9, code := some k8c2 }
def k8c3 : Code := { maxStack := 3, maxLocals := 7, code := jdk_52_method_21_code, exceptionTable := #[], attributes := #[] }
def k8m3 : Method := { name := "compress", desc := "([CI[BII)I", sig := { parameters := [(.array .char), .int, (.array .byte), .int, .int], returnType := some .int }, accessFlags := 9, code := some k8c3 }
/-- java/lang/StringUTF16 -/
def k8 : Class := { plain "java/lang/StringUTF16" (some 0) with
  accessFlags := 48
  interfaces := #[]
  cf := some (fileOf pool8 12 #[.nestMembers #[627, 629, 369]] #[{ accessFlags := 0, nameIndex := 9, descriptorIndex := 10, attributes := #[] }, { accessFlags := 8, nameIndex := 261, descriptorIndex := 262, attributes := #[] }, { accessFlags := 9, nameIndex := 117, descriptorIndex := 122, attributes := #[] }, { accessFlags := 9, nameIndex := 117, descriptorIndex := 118, attributes := #[] }] 48 6 #[] #[{ accessFlags := 26, nameIndex := 61, descriptorIndex := 62, attributes := #[] }, { accessFlags := 26, nameIndex := 65, descriptorIndex := 62, attributes := #[] }, { accessFlags := 24, nameIndex := 430, descriptorIndex := 62, attributes := #[] }, { accessFlags := 4120, nameIndex := 46, descriptorIndex := 47, attributes := #[] }])
  fields := #[{ name := "HI_BYTE_SHIFT", type := .int, accessFlags := 26, slot := 0, constantValue := 0 }, { name := "LO_BYTE_SHIFT", type := .int, accessFlags := 26, slot := 1, constantValue := 0 }, { name := "MAX_LENGTH", type := .int, accessFlags := 24, slot := 2, constantValue := 0 }, { name := "$assertionsDisabled", type := .boolean, accessFlags := 4120, slot := 3, constantValue := 0 }]
  methods := #[k8m0, k8m1, k8m2, k8m3]
  instanceTypes := #[]
  staticTypes := #[.int, .int, .int, .boolean]
  resolved := Array.replicate 635 none
  statics := none }

def pool9 : Array CpInfo := pool [(1, .methodref 2 3), (0, .class_ 4), (0, .nameAndType 5 6), (0, u "java/lang/Object"), (0, u "<init>"), (0, u "()V"), (0, .class_ 8), (0, u "java/lang/Record")] 13

def k9c0 : Code := { maxStack := 1, maxLocals := 1, code := jdk_30_method_1_code, exceptionTable := #[], attributes := #[] }
def k9m0 : Method := { name := "<init>", desc := "()V", sig := { parameters := [], returnType := none }, accessFlags := 4, code := some k9c0 }
/-- java/lang/Record -/
def k9 : Class := { plain "java/lang/Record" (some 0) with
  accessFlags := 1057
  interfaces := #[]
  cf := some (fileOf pool9 7 #[] #[{ accessFlags := 4, nameIndex := 5, descriptorIndex := 6, attributes := #[] }] 1057 2 #[] #[])
  fields := #[]
  methods := #[k9m0]
  instanceTypes := #[]
  staticTypes := #[]
  resolved := Array.replicate 22 none
  statics := none }

def pool10 : Array CpInfo := pool [(1, .methodref 2 3), (0, .class_ 4), (0, .nameAndType 5 6), (0, u "java/lang/Record"), (0, u "<init>"), (0, u "()V"), (0, .fieldref 8 9), (0, .class_ 10), (0, .nameAndType 11 12), (0, u "com/example/evenlot/evenlot/Source"), (0, u "fg"), (0, u "Ljava/lang/String;"), (0, .fieldref 8 14), (0, .nameAndType 15 12), (0, u "name"), (0, .fieldref 8 17), (0, .nameAndType 18 19), (0, u "period"), (0, u "I"), (0, .class_ 21), (0, u "java/lang/StringBuilder"), (0, .methodref 20 3), (0, .string 24), (0, u "stock/"), (0, .methodref 20 26), (0, .nameAndType 27 28), (0, u "append"), (0, u "(Ljava/lang/String;)Ljava/lang/StringBuilder;"), (0, .methodref 20 30), (0, .nameAndType 31 32), (0, u "toString"), (0, u "()Ljava/lang/String;"), (0, .methodref 8 34), (0, .nameAndType 5 35), (0, u "(Ljava/lang/String;Ljava/lang/String;I)V"), (0, .string 37), (0, u "lot/"), (0, .methodref 8 39), (0, .nameAndType 40 41), (0, u "isLot"), (0, u "()Z"), (10, .methodref 53 54), (0, .class_ 55), (0, .nameAndType 56 57), (0, u "java/lang/String"), (0, u "length"), (0, u "()I"), (0, .methodref 53 59), (0, .nameAndType 60 61), (0, u "substring"), (0, u "(I)Ljava/lang/String;"), (0, .methodref 53 63), (0, .nameAndType 64 65), (0, u "startsWith"), (0, u "(Ljava/lang/String;)Z"), (37, u "ORDER"), (0, u "Ljava/util/Comparator;"), (2, u "STOCK_PREFIX"), (1, u "STOCK_PERIOD"), (1, u "LOT_PREFIX"), (0, u "FIRST_LOT_PERIOD"), (4, u "stock"), (0, u "(Ljava/lang/String;Ljava/lang/String;)Lcom/example/evenlot/evenlot/Source;"), (2, u "subtype")] 48

def k10c0 : Code := { maxStack := 2, maxLocals := 4, code := prog_29_method_1_code, exceptionTable := #[], attributes := #[] }
def k10m0 : Method := { name := "<init>", desc := "(Ljava/lang/String;Ljava/lang/String;I)V", sig := { parameters := [(.object "java/lang/String"), (.object "java/lang/String"), .int], returnType := none }, accessFlags := 0, code := some k10c0 }
def k10c1 : Code := { maxStack := 5, maxLocals := 2, code := prog_29_method_2_code, exceptionTable := #[], attributes := #[] }
def k10m1 : Method := { name := "stock", desc := "(Ljava/lang/String;Ljava/lang/String;)Lcom/example/evenlot/evenlot/Source;", sig := { parameters := [(.object "java/lang/String"), (.object "java/lang/String")], returnType := some (.object "com/example/evenlot/evenlot/Source") }, accessFlags := 8, code := some k10c1 }
def k10c2 : Code := { maxStack := 4, maxLocals := 1, code := prog_29_method_4_code, exceptionTable := #[], attributes := #[] }
def k10m2 : Method := { name := "subtype", desc := "()Ljava/lang/String;", sig := { parameters := [], returnType := some (.object "java/lang/String") }, accessFlags := 0, code := some k10c2 }
def k10c3 : Code := { maxStack := 2, maxLocals := 1, code := prog_29_method_5_code, exceptionTable := #[], attributes := #[] }
def k10m3 : Method := { name := "isLot", desc := "()Z", sig := { parameters := [], returnType := some .boolean }, accessFlags := 0, code := some k10c3 }
def k10c4 : Code := { maxStack := 1, maxLocals := 1, code := prog_29_method_10_code, exceptionTable := #[], attributes := #[] }
def k10m4 : Method := { name := "fg", desc := "()Ljava/lang/String;", sig := { parameters := [], returnType := some (.object "java/lang/String") }, accessFlags := 1, code := some k10c4 }
def k10c5 : Code := { maxStack := 1, maxLocals := 1, code := prog_29_method_11_code, exceptionTable := #[], attributes := #[] }
def k10m5 : Method := { name := "name", desc := "()Ljava/lang/String;", sig := { parameters := [], returnType := some (.object "java/lang/String") }, accessFlags := 1, code := some k10c5 }
def k10c6 : Code := { maxStack := 1, maxLocals := 1, code := prog_29_method_12_code, exceptionTable := #[], attributes := #[] }
def k10m6 : Method := { name := "period", desc := "()I", sig := { parameters := [], returnType := some .int }, accessFlags := 1, code := some k10c6 }
/-- com/example/evenlot/evenlot/Source -/
def k10 : Class := { plain "com/example/evenlot/evenlot/Source" (some 9) with
  accessFlags := 48
  interfaces := #[]
  cf := some (fileOf pool10 8 #[] #[{ accessFlags := 0, nameIndex := 5, descriptorIndex := 35, attributes := #[] }, { accessFlags := 8, nameIndex := 117, descriptorIndex := 118, attributes := #[] }, { accessFlags := 0, nameIndex := 121, descriptorIndex := 32, attributes := #[] }, { accessFlags := 0, nameIndex := 40, descriptorIndex := 41, attributes := #[] }, { accessFlags := 1, nameIndex := 11, descriptorIndex := 32, attributes := #[] }, { accessFlags := 1, nameIndex := 15, descriptorIndex := 32, attributes := #[] }, { accessFlags := 1, nameIndex := 18, descriptorIndex := 57, attributes := #[] }] 48 2 #[] #[{ accessFlags := 18, nameIndex := 11, descriptorIndex := 12, attributes := #[] }, { accessFlags := 18, nameIndex := 15, descriptorIndex := 12, attributes := #[] }, { accessFlags := 18, nameIndex := 18, descriptorIndex := 19, attributes := #[] }, { accessFlags := 24, nameIndex := 103, descriptorIndex := 104, attributes := #[] }, { accessFlags := 24, nameIndex := 107, descriptorIndex := 12, attributes := #[] }, { accessFlags := 24, nameIndex := 109, descriptorIndex := 19, attributes := #[] }, { accessFlags := 24, nameIndex := 111, descriptorIndex := 12, attributes := #[] }, { accessFlags := 24, nameIndex := 112, descriptorIndex := 19, attributes := #[] }])
  fields := #[{ name := "fg", type := (.object "java/lang/String"), accessFlags := 18, slot := 0, constantValue := 0 }, { name := "name", type := (.object "java/lang/String"), accessFlags := 18, slot := 1, constantValue := 0 }, { name := "period", type := .int, accessFlags := 18, slot := 2, constantValue := 0 }, { name := "ORDER", type := (.object "java/util/Comparator"), accessFlags := 24, slot := 0, constantValue := 0 }, { name := "STOCK_PREFIX", type := (.object "java/lang/String"), accessFlags := 24, slot := 1, constantValue := 0 }, { name := "STOCK_PERIOD", type := .int, accessFlags := 24, slot := 2, constantValue := 0 }, { name := "LOT_PREFIX", type := (.object "java/lang/String"), accessFlags := 24, slot := 3, constantValue := 0 }, { name := "FIRST_LOT_PERIOD", type := .int, accessFlags := 24, slot := 4, constantValue := 0 }]
  methods := #[k10m0, k10m1, k10m2, k10m3, k10m4, k10m5, k10m6]
  instanceTypes := #[(.object "java/lang/String"), (.object "java/lang/String"), .int]
  staticTypes := #[(.object "java/util/Comparator"), (.object "java/lang/String"), .int, (.object "java/lang/String"), .int]
  resolved := Array.replicate 170 none
  statics := none }

def pool11 : Array CpInfo := pool [(1, .class_ 2), (0, u "java/lang/Appendable"), (0, .class_ 4), (0, u "java/lang/Object")] 9

/-- java/lang/Appendable -/
def k11 : Class := { plain "java/lang/Appendable" (some 0) with
  accessFlags := 1537
  interfaces := #[]
  cf := some (fileOf pool11 1 #[] #[] 1537 3 #[] #[])
  fields := #[]
  methods := #[]
  instanceTypes := #[]
  staticTypes := #[]
  resolved := Array.replicate 14 none
  statics := none }

def pool12 : Array CpInfo := pool [(1, .class_ 2), (0, u "java/lang/String"), (0, .methodref 4 5), (0, .class_ 6), (0, .nameAndType 7 8), (0, u "java/lang/Object"), (0, u "<init>"), (0, u "()V"), (1, .class_ 12), (1, u "java/lang/AbstractStringBuilder"), (0, u "EMPTYVALUE"), (0, u "[B"), (0, .fieldref 10 16), (0, .nameAndType 17 14), (0, u "value"), (0, .fieldref 1 19), (0, .nameAndType 20 21), (0, u "COMPACT_STRINGS"), (0, u "Z"), (0, .fieldref 10 23), (0, .nameAndType 24 25), (0, u "coder"), (0, u "B"), (6, .methodref 1 33), (0, .nameAndType 34 35), (0, u "length"), (0, u "()I"), (4, .methodref 1 41), (0, .nameAndType 24 42), (0, u "()B"), (2, u "append"), (0, u "(Ljava/lang/String;)Ljava/lang/AbstractStringBuilder;"), (1, .class_ 49), (0, u "java/lang/CharSequence"), (19, u "(Ljava/lang/String;)V"), (5, u "maybeLatin1"), (3, .fieldref 10 80), (0, .nameAndType 81 82), (0, u "count"), (0, u "I"), (2, u "isLatin1"), (0, u "()Z"), (13, .methodref 10 101), (0, .nameAndType 102 103), (0, u "ensureCapacityInternal"), (0, u "(I)V"), (104, .methodref 10 209), (0, .nameAndType 210 211), (0, u "putStringAt"), (0, u "(ILjava/lang/String;)V"), (5, u "inflateIfNeededFor"), (2, .nameAndType 221 222), (0, u "getBytes"), (0, u "([BIB)V"), (174, .methodref 10 398), (0, .nameAndType 217 69), (0, .methodref 1 220), (3, u "()[B"), (40, .class_ 445), (0, u "java/lang/Appendable"), (106, u "getValue")] 56

def k12m0 : Method := { name := "<init>", desc := "()V", sig := { parameters := [], returnType := none }, accessFlags := 0, code := none }
def k12c1 : Code := { maxStack := 2, maxLocals := 2, code := jdk_68_method_2_code, exceptionTable := #[], attributes := #[] }
def k12m1 : Method := { name := "<init>", desc := "(I)V", sig := { parameters := [.int], returnType := none }, accessFlags := 0, code := some k12c1 }
def k12c2 : Code := { maxStack := 1, maxLocals := 1, code := jdk_68_method_6_code, exceptionTable := #[], attributes := #[] }
def k12m2 : Method := { name := "length", desc := "()I", sig := { parameters := [], returnType := some .int }, accessFlags := 1, code := some k12c2 }
def k12c3 : Code := { maxStack := 4, maxLocals := 3, code := jdk_68_method_9_code, exceptionTable := #[], attributes := #[] }
def k12m3 : Method := { name := "ensureCapacityInternal", desc := "(I)V", sig := { parameters := [.int], returnType := none }, accessFlags := 2, code := some k12c3 }
def k12c4 : Code := { maxStack := 3, maxLocals := 3, code := jdk_68_method_22_code, exceptionTable := #[], attributes := #[] }
def k12m4 : Method := { name := "append", desc := "(Ljava/lang/String;)Ljava/lang/AbstractStringBuilder;", sig := { parameters := [(.object "java/lang/String")], returnType := some (.object "java/lang/AbstractStringBuilder") }, accessFlags := 1, code := some k12c4 }
def k12c5 : Code := { maxStack := 1, maxLocals := 1, code := jdk_68_method_64_code, exceptionTable := #[], attributes := #[] }
def k12m5 : Method := { name := "getValue", desc := "()[B", sig := { parameters := [], returnType := some (.array .byte) }, accessFlags := 16, code := some k12c5 }
def k12c6 : Code := { maxStack := 1, maxLocals := 1, code := jdk_68_method_68_code, exceptionTable := #[], attributes := #[] }
def k12m6 : Method := { name := "isLatin1", desc := "()Z", sig := { parameters := [], returnType := some .boolean }, accessFlags := 16, code := some k12c6 }
def k12c7 : Code := { maxStack := 2, maxLocals := 2, code := jdk_68_method_71_code, exceptionTable := #[], attributes := #[] }
def k12m7 : Method := { name := "inflateIfNeededFor", desc := "(Ljava/lang/String;)V", sig := { parameters := [(.object "java/lang/String")], returnType := none }, accessFlags := 2, code := some k12c7 }
def k12c8 : Code := { maxStack := 4, maxLocals := 3, code := jdk_68_method_73_code, exceptionTable := #[], attributes := #[] }
def k12m8 : Method := { name := "putStringAt", desc := "(ILjava/lang/String;)V", sig := { parameters := [.int, (.object "java/lang/String")], returnType := none }, accessFlags := 2, code := some k12c8 }
/-- java/lang/AbstractStringBuilder -/
def k12 : Class := { plain "java/lang/AbstractStringBuilder" (some 0) with
  accessFlags := 1056
  interfaces := #[11, 4]
  cf := some (fileOf pool12 10 #[] #[{ accessFlags := 0, nameIndex := 7, descriptorIndex := 8, attributes := #[] }, { accessFlags := 0, nameIndex := 7, descriptorIndex := 103, attributes := #[] }, { accessFlags := 1, nameIndex := 34, descriptorIndex := 35, attributes := #[] }, { accessFlags := 2, nameIndex := 102, descriptorIndex := 103, attributes := #[] }, { accessFlags := 1, nameIndex := 45, descriptorIndex := 46, attributes := #[] }, { accessFlags := 16, nameIndex := 552, descriptorIndex := 403, attributes := #[] }, { accessFlags := 16, nameIndex := 85, descriptorIndex := 86, attributes := #[] }, { accessFlags := 2, nameIndex := 217, descriptorIndex := 69, attributes := #[] }, { accessFlags := 2, nameIndex := 210, descriptorIndex := 211, attributes := #[] }] 1056 4 #[444, 48] #[{ accessFlags := 0, nameIndex := 17, descriptorIndex := 14, attributes := #[] }, { accessFlags := 0, nameIndex := 24, descriptorIndex := 25, attributes := #[] }, { accessFlags := 0, nameIndex := 75, descriptorIndex := 21, attributes := #[] }, { accessFlags := 0, nameIndex := 81, descriptorIndex := 82, attributes := #[] }, { accessFlags := 26, nameIndex := 13, descriptorIndex := 14, attributes := #[] }])
  fields := #[{ name := "value", type := (.array .byte), accessFlags := 0, slot := 0, constantValue := 0 }, { name := "coder", type := .byte, accessFlags := 0, slot := 1, constantValue := 0 }, { name := "maybeLatin1", type := .boolean, accessFlags := 0, slot := 2, constantValue := 0 }, { name := "count", type := .int, accessFlags := 0, slot := 3, constantValue := 0 }, { name := "EMPTYVALUE", type := (.array .byte), accessFlags := 26, slot := 0, constantValue := 0 }]
  methods := #[k12m0, k12m1, k12m2, k12m3, k12m4, k12m5, k12m6, k12m7, k12m8]
  instanceTypes := #[(.array .byte), .byte, .boolean, .int]
  staticTypes := #[(.array .byte)]
  resolved := Array.replicate 609 none
  statics := none }

def pool13 : Array CpInfo := pool [(1, .methodref 2 3), (0, .class_ 4), (0, .nameAndType 5 6), (0, u "java/lang/AbstractStringBuilder"), (0, u "<init>"), (0, u "(I)V"), (11, .class_ 20), (1, u "java/lang/String"), (3, .class_ 26), (1, u "java/lang/StringBuilder"), (0, u "append"), (0, u "(Ljava/lang/String;)Ljava/lang/StringBuilder;"), (0, .methodref 2 30), (0, .nameAndType 27 31), (0, u "(Ljava/lang/String;)Ljava/lang/AbstractStringBuilder;"), (105, .methodref 18 138), (0, .nameAndType 5 139), (0, u "(Ljava/lang/StringBuilder;)V"), (5, u "()V"), (10, u "()I"), (186, .methodref 2 344), (0, .nameAndType 345 156), (0, u "length"), (3, .class_ 350), (0, u "java/lang/Appendable"), (0, .class_ 352), (0, u "java/io/Serializable"), (0, .class_ 354), (0, u "java/lang/Comparable"), (0, .class_ 356), (0, u "java/lang/CharSequence"), (0, u "serialVersionUID"), (0, u "J"), (40, u "toString"), (0, u "()Ljava/lang/String;")] 21

def k13c0 : Code := { maxStack := 2, maxLocals := 1, code := jdk_67_method_1_code, exceptionTable := #[], attributes := #[] }
def k13m0 : Method := { name := "<init>", desc := "()V", sig := { parameters := [], returnType := none }, accessFlags := 1, code := some k13c0 }
def k13c1 : Code := { maxStack := 2, maxLocals := 2, code := jdk_67_method_7_code, exceptionTable := #[], attributes := #[] }
def k13m1 : Method := { name := "append", desc := "(Ljava/lang/String;)Ljava/lang/StringBuilder;", sig := { parameters := [(.object "java/lang/String")], returnType := some (.object "java/lang/StringBuilder") }, accessFlags := 1, code := some k13c1 }
def k13c2 : Code := { maxStack := 3, maxLocals := 1, code := jdk_67_method_42_code, exceptionTable := #[], attributes := #[] }
def k13m2 : Method := { name := "toString", desc := "()Ljava/lang/String;", sig := { parameters := [], returnType := some (.object "java/lang/String") }, accessFlags := 1, code := some k13c2 }
def k13c3 : Code := { maxStack := 1, maxLocals := 1, code := jdk_67_method_93_code, exceptionTable := #[], attributes := #[] }
def k13m3 : Method := { name := "length", desc := "()I", sig := { parameters := [], returnType := some .int }, accessFlags := 4161, code := some k13c3 }
/-- java/lang/StringBuilder -/
def k13 : Class := { plain "java/lang/StringBuilder" (some 12) with
  accessFlags := 49
  interfaces := #[11, 2, 3, 4]
  cf := some (fileOf pool13 24 #[] #[{ accessFlags := 1, nameIndex := 5, descriptorIndex := 145, attributes := #[] }, { accessFlags := 1, nameIndex := 27, descriptorIndex := 28, attributes := #[] }, { accessFlags := 1, nameIndex := 399, descriptorIndex := 400, attributes := #[] }, { accessFlags := 4161, nameIndex := 345, descriptorIndex := 156, attributes := #[] }] 49 2 #[349, 351, 353, 355] #[{ accessFlags := 24, nameIndex := 357, descriptorIndex := 358, attributes := #[] }])
  fields := #[{ name := "serialVersionUID", type := .long, accessFlags := 24, slot := 0, constantValue := 0 }]
  methods := #[k13m0, k13m1, k13m2, k13m3]
  instanceTypes := #[(.array .byte), .byte, .boolean, .int]
  staticTypes := #[.long]
  resolved := Array.replicate 422 none
  statics := none }

def pool14 : Array CpInfo := pool [(2, .class_ 4), (1, u "java/lang/Object"), (0, u "<init>"), (0, u "()V"), (1, .class_ 10), (1, u "java/lang/System"), (0, u "allowSecurityManager"), (0, u "I"), (16, u "cons"), (0, u "Ljava/io/Console;"), (77, .class_ 110), (1, u "java/lang/System$CallersHolder"), (43, u "initialErrStream"), (0, u "Ljava/io/PrintStream;"), (19, u "security"), (0, u "Ljava/lang/SecurityManager;"), (31, .class_ 209), (0, u "java/lang/System$1"), (7, u "props"), (0, u "Ljava/util/Properties;"), (2, u "lineSeparator"), (0, u "Ljava/lang/String;"), (96, .class_ 321), (1, u "java/lang/System$LoggerFinder"), (5, .class_ 328), (0, u "java/lang/System$Logger"), (67, u "err"), (2, u "out"), (91, u "notSupportedJnuEncoding"), (15, u "in"), (17, u "initialIn"), (0, u "Ljava/io/InputStream;"), (35, u "bootLayer"), (0, u "Ljava/lang/ModuleLayer;"), (99, .class_ 664), (0, u "java/lang/System$2"), (9, u "NEVER"), (2, u "MAYBE"), (49, u "arraycopy"), (0, u "(Ljava/lang/Object;ILjava/lang/Object;II)V"), (72, .class_ 802), (0, u "java/lang/System$Logger$Level")] 31

def k14m0 : Method := { name := "<init>", desc := "()V", sig := { parameters := [], returnType := none }, accessFlags := 2, code := none }
def k14m1 : Method := { name := "arraycopy", desc := "(Ljava/lang/Object;ILjava/lang/Object;II)V", sig := { parameters := [(.object "java/lang/Object"), .int, (.object "java/lang/Object"), .int, .int], returnType := none }, accessFlags := 265, code := none }
/-- java/lang/System -/
def k14 : Class := { plain "java/lang/System" (some 0) with
  accessFlags := 49
  interfaces := #[]
  cf := some (fileOf pool14 8 #[.nestMembers #[319, 327, 801, 108, 663, 208]] #[{ accessFlags := 2, nameIndex := 5, descriptorIndex := 6, attributes := #[] }, { accessFlags := 265, nameIndex := 727, descriptorIndex := 728, attributes := #[] }] 49 2 #[] #[{ accessFlags := 25, nameIndex := 507, descriptorIndex := 526, attributes := #[] }, { accessFlags := 25, nameIndex := 399, descriptorIndex := 155, attributes := #[] }, { accessFlags := 25, nameIndex := 396, descriptorIndex := 155, attributes := #[] }, { accessFlags := 10, nameIndex := 525, descriptorIndex := 526, attributes := #[] }, { accessFlags := 26, nameIndex := 674, descriptorIndex := 12, attributes := #[] }, { accessFlags := 26, nameIndex := 677, descriptorIndex := 12, attributes := #[] }, { accessFlags := 10, nameIndex := 11, descriptorIndex := 12, attributes := #[] }, { accessFlags := 74, nameIndex := 175, descriptorIndex := 176, attributes := #[] }, { accessFlags := 10, nameIndex := 491, descriptorIndex := 222, attributes := #[] }, { accessFlags := 74, nameIndex := 29, descriptorIndex := 30, attributes := #[] }, { accessFlags := 74, nameIndex := 154, descriptorIndex := 155, attributes := #[] }, { accessFlags := 10, nameIndex := 217, descriptorIndex := 218, attributes := #[] }, { accessFlags := 10, nameIndex := 221, descriptorIndex := 222, attributes := #[] }, { accessFlags := 8, nameIndex := 562, descriptorIndex := 563, attributes := #[] }])
  fields := #[{ name := "in", type := (.object "java/io/InputStream"), accessFlags := 25, slot := 0, constantValue := 0 }, { name := "out", type := (.object "java/io/PrintStream"), accessFlags := 25, slot := 1, constantValue := 0 }, { name := "err", type := (.object "java/io/PrintStream"), accessFlags := 25, slot := 2, constantValue := 0 }, { name := "initialIn", type := (.object "java/io/InputStream"), accessFlags := 10, slot := 3, constantValue := 0 }, { name := "NEVER", type := .int, accessFlags := 26, slot := 4, constantValue := 0 }, { name := "MAYBE", type := .int, accessFlags := 26, slot := 5, constantValue := 0 }, { name := "allowSecurityManager", type := .int, accessFlags := 10, slot := 6, constantValue := 0 }, { name := "security", type := (.object "java/lang/SecurityManager"), accessFlags := 74, slot := 7, constantValue := 0 }, { name := "notSupportedJnuEncoding", type := (.object "java/lang/String"), accessFlags := 10, slot := 8, constantValue := 0 }, { name := "cons", type := (.object "java/io/Console"), accessFlags := 74, slot := 9, constantValue := 0 }, { name := "initialErrStream", type := (.object "java/io/PrintStream"), accessFlags := 74, slot := 10, constantValue := 0 }, { name := "props", type := (.object "java/util/Properties"), accessFlags := 10, slot := 11, constantValue := 0 }, { name := "lineSeparator", type := (.object "java/lang/String"), accessFlags := 10, slot := 12, constantValue := 0 }, { name := "bootLayer", type := (.object "java/lang/ModuleLayer"), accessFlags := 8, slot := 13, constantValue := 0 }]
  methods := #[k14m0, k14m1]
  instanceTypes := #[]
  staticTypes := #[(.object "java/io/InputStream"), (.object "java/io/PrintStream"), (.object "java/io/PrintStream"), (.object "java/io/InputStream"), .int, .int, .int, (.object "java/lang/SecurityManager"), (.object "java/lang/String"), (.object "java/io/Console"), (.object "java/io/PrintStream"), (.object "java/util/Properties"), (.object "java/lang/String"), (.object "java/lang/ModuleLayer")]
  resolved := Array.replicate 834 none
  statics := none }

def pool15 : Array CpInfo := pool [(2, .class_ 4), (1, u "java/lang/Object"), (0, u "<init>"), (0, u "()V"), (7, .class_ 16), (1, u "java/util/Arrays"), (57, .class_ 76), (1, u "java/util/Arrays$NaturalOrder"), (36, .class_ 115), (1, u "java/util/Arrays$LegacyMergeSort"), (1, u "Z"), (21, u "copyOfRange"), (10, .methodref 151 152), (0, .class_ 153), (0, .nameAndType 154 155), (0, u "java/lang/System"), (0, u "arraycopy"), (0, u "(Ljava/lang/Object;ILjava/lang/Object;II)V"), (148, .methodref 305 306), (0, .class_ 307), (0, .nameAndType 308 309), (0, u "java/lang/Math"), (0, u "min"), (0, u "(II)I"), (29, .methodref 14 340), (0, .nameAndType 341 342), (0, u "copyOfRangeByte"), (0, u "([BII)[B"), (0, .methodref 14 344), (0, .nameAndType 345 346), (0, u "checkLength"), (0, u "(II)V"), (28, .class_ 376), (0, u "java/util/Arrays$ArrayList"), (68, u "$assertionsDisabled"), (269, u "MIN_ARRAY_SORT_GRAN"), (0, u "I"), (2, u "INSERTIONSORT_THRESHOLD"), (255, .class_ 976), (0, u "java/util/Arrays$ArrayItr")] 52

def k15m0 : Method := { name := "<init>", desc := "()V", sig := { parameters := [], returnType := none }, accessFlags := 2, code := none }
def k15c1 : Code := { maxStack := 4, maxLocals := 2, code := jdk_65_method_131_code, exceptionTable := #[], attributes := #[] }
def k15m1 : Method := { name := "checkLength", desc := "(II)V", sig := { parameters := [.int, .int], returnType := none }, accessFlags := 10, code := some k15c1 }
def k15c2 : Code := { maxStack := 3, maxLocals := 3, code := jdk_65_method_132_code, exceptionTable := #[], attributes := #[] }
def k15m2 : Method := { name := "copyOfRange", desc := "([BII)[B", sig := { parameters := [(.array .byte), .int, .int], returnType := some (.array .byte) }, accessFlags := 9, code := some k15c2 }
def k15c3 : Code := { maxStack := 6, maxLocals := 5, code := jdk_65_method_133_code, exceptionTable := #[], attributes := #[] }
def k15m3 : Method := { name := "copyOfRangeByte", desc := "([BII)[B", sig := { parameters := [(.array .byte), .int, .int], returnType := some (.array .byte) }, accessFlags := 10, code := some k15c3 }
/-- java/util/Arrays -/
def k15 : Class := { plain "java/util/Arrays" (some 0) with
  accessFlags := 49
  interfaces := #[]
  cf := some (fileOf pool15 14 #[.nestMembers #[975, 375, 113, 74]] #[{ accessFlags := 2, nameIndex := 5, descriptorIndex := 6, attributes := #[] }, { accessFlags := 10, nameIndex := 345, descriptorIndex := 346, attributes := #[] }, { accessFlags := 9, nameIndex := 139, descriptorIndex := 342, attributes := #[] }, { accessFlags := 10, nameIndex := 341, descriptorIndex := 342, attributes := #[] }] 49 2 #[] #[{ accessFlags := 26, nameIndex := 715, descriptorIndex := 716, attributes := #[] }, { accessFlags := 26, nameIndex := 719, descriptorIndex := 716, attributes := #[] }, { accessFlags := 4120, nameIndex := 445, descriptorIndex := 117, attributes := #[] }])
  fields := #[{ name := "MIN_ARRAY_SORT_GRAN", type := .int, accessFlags := 26, slot := 0, constantValue := 0 }, { name := "INSERTIONSORT_THRESHOLD", type := .int, accessFlags := 26, slot := 1, constantValue := 0 }, { name := "$assertionsDisabled", type := .boolean, accessFlags := 4120, slot := 2, constantValue := 0 }]
  methods := #[k15m0, k15m1, k15m2, k15m3]
  instanceTypes := #[]
  staticTypes := #[.int, .int, .boolean]
  resolved := Array.replicate 1029 none
  statics := none }

def pool16 : Array CpInfo := pool [(1, .class_ 2), (0, u "java/lang/Math"), (1, .class_ 6), (1, u "java/lang/Object"), (0, u "<init>"), (0, u "()V"), (89, .class_ 100), (1, u "java/lang/Math$RandomNumberGeneratorHolder"), (71, u "negativeZeroFloatBits"), (0, u "J"), (2, u "negativeZeroDoubleBits"), (24, u "min"), (43, u "$assertionsDisabled"), (0, u "Z"), (88, u "(II)I"), (2, u "twoToTheDoubleScaleDown"), (0, u "D"), (4, u "twoToTheDoubleScaleUp"), (9, u "E"), (3, u "PI"), (2, u "TAU"), (2, u "DEGREES_TO_RADIANS"), (0, u "RADIANS_TO_DEGREES")] 94

def k16m0 : Method := { name := "<init>", desc := "()V", sig := { parameters := [], returnType := none }, accessFlags := 2, code := none }
def k16c1 : Code := { maxStack := 2, maxLocals := 2, code := jdk_29_method_69_code, exceptionTable := #[], attributes := #[] }
def k16m1 : Method := { name := "min", desc := "(II)I", sig := { parameters := [.int, .int], returnType := some .int }, accessFlags := 9, code := some k16c1 }
/-- java/lang/Math -/
def k16 : Class := { plain "java/lang/Math" (some 0) with
  accessFlags := 49
  interfaces := #[]
  cf := some (fileOf pool16 1 #[.nestMembers #[98]] #[{ accessFlags := 2, nameIndex := 7, descriptorIndex := 8, attributes := #[] }, { accessFlags := 9, nameIndex := 201, descriptorIndex := 335, attributes := #[] }] 49 4 #[] #[{ accessFlags := 25, nameIndex := 354, descriptorIndex := 339, attributes := #[] }, { accessFlags := 25, nameIndex := 358, descriptorIndex := 339, attributes := #[] }, { accessFlags := 25, nameIndex := 361, descriptorIndex := 339, attributes := #[] }, { accessFlags := 26, nameIndex := 364, descriptorIndex := 339, attributes := #[] }, { accessFlags := 26, nameIndex := 365, descriptorIndex := 339, attributes := #[] }, { accessFlags := 26, nameIndex := 172, descriptorIndex := 173, attributes := #[] }, { accessFlags := 26, nameIndex := 176, descriptorIndex := 173, attributes := #[] }, { accessFlags := 8, nameIndex := 344, descriptorIndex := 339, attributes := #[] }, { accessFlags := 8, nameIndex := 338, descriptorIndex := 339, attributes := #[] }, { accessFlags := 4120, nameIndex := 245, descriptorIndex := 246, attributes := #[] }])
  fields := #[{ name := "E", type := .double, accessFlags := 25, slot := 0, constantValue := 0 }, { name := "PI", type := .double, accessFlags := 25, slot := 1, constantValue := 0 }, { name := "TAU", type := .double, accessFlags := 25, slot := 2, constantValue := 0 }, { name := "DEGREES_TO_RADIANS", type := .double, accessFlags := 26, slot := 3, constantValue := 0 }, { name := "RADIANS_TO_DEGREES", type := .double, accessFlags := 26, slot := 4, constantValue := 0 }, { name := "negativeZeroFloatBits", type := .long, accessFlags := 26, slot := 5, constantValue := 0 }, { name := "negativeZeroDoubleBits", type := .long, accessFlags := 26, slot := 6, constantValue := 0 }, { name := "twoToTheDoubleScaleUp", type := .double, accessFlags := 8, slot := 7, constantValue := 0 }, { name := "twoToTheDoubleScaleDown", type := .double, accessFlags := 8, slot := 8, constantValue := 0 }, { name := "$assertionsDisabled", type := .boolean, accessFlags := 4120, slot := 9, constantValue := 0 }]
  methods := #[k16m0, k16m1]
  instanceTypes := #[]
  staticTypes := #[.double, .double, .double, .double, .double, .long, .long, .double, .double, .boolean]
  resolved := Array.replicate 460 none
  statics := none }

def pool17 : Array CpInfo := pool [(1, .class_ 2), (0, u "java/lang/String"), (1, .class_ 6), (1, u "java/lang/Object"), (0, u "<init>"), (0, u "()V"), (5, .class_ 16), (1, u "java/lang/StringLatin1"), (95, .methodref 1 113), (0, .nameAndType 7 114), (0, u "([BB)V"), (6, u "$assertionsDisabled"), (0, u "Z"), (8, .class_ 133), (1, u "java/util/Arrays"), (17, .string 152), (0, u ""), (43, u "newString"), (0, u "([BII)Ljava/lang/String;"), (23, .class_ 223), (1, u "java/lang/StringLatin1$LinesSpliterator"), (8, .methodref 131 233), (0, .nameAndType 234 235), (0, u "copyOfRange"), (0, u "([BII)[B"), (45, u "equals"), (0, u "([B[B)Z"), (107, .class_ 391), (0, u "java/lang/StringLatin1$CharsSpliterator")] 3

def k17m0 : Method := { name := "<init>", desc := "()V", sig := { parameters := [], returnType := none }, accessFlags := 0, code := none }
def k17c1 : Code := { maxStack := 3, maxLocals := 3, code := jdk_43_method_13_code, exceptionTable := #[], attributes := #[] }
def k17m1 : Method := { name := "equals", desc := "([B[B)Z", sig := { parameters := [(.array .byte), (.array .byte)], returnType := some .boolean }, accessFlags := 9, code := some k17c1 }
def k17c2 : Code := { maxStack := 6, maxLocals := 3, code := jdk_43_method_47_code, exceptionTable := #[], attributes := #[] }
def k17m2 : Method := { name := "newString", desc := "([BII)Ljava/lang/String;", sig := { parameters := [(.array .byte), .int, .int], returnType := some (.object "java/lang/String") }, accessFlags := 9, code := some k17c2 }
/-- java/lang/StringLatin1 -/
def k17 : Class := { plain "java/lang/StringLatin1" (some 0) with
  accessFlags := 48
  interfaces := #[]
  cf := some (fileOf pool17 14 #[.nestMembers #[390, 221]] #[{ accessFlags := 0, nameIndex := 7, descriptorIndex := 8, attributes := #[] }, { accessFlags := 9, nameIndex := 281, descriptorIndex := 282, attributes := #[] }, { accessFlags := 9, nameIndex := 196, descriptorIndex := 197, attributes := #[] }] 48 4 #[] #[{ accessFlags := 4120, nameIndex := 121, descriptorIndex := 122, attributes := #[] }])
  fields := #[{ name := "$assertionsDisabled", type := .boolean, accessFlags := 4120, slot := 0, constantValue := 0 }]
  methods := #[k17m0, k17m1, k17m2]
  instanceTypes := #[]
  staticTypes := #[.boolean]
  resolved := Array.replicate 395 none
  statics := none }

def pool18 : Array CpInfo := pool [(9, u "<init>"), (6, .class_ 18), (1, u "java/lang/Object"), (0, u "()V"), (1, .class_ 23), (1, u "jdk/internal/util/ArraysSupport"), (0, u "LOG2_ARRAY_LONG_INDEX_SCALE"), (0, u "I"), (2, u "U"), (0, u "Ljdk/internal/misc/Unsafe;"), (8, u "BIG_ENDIAN"), (0, u "Z"), (8, u "LOG2_BYTE_BIT_SIZE"), (4, u "LOG2_ARRAY_INT_INDEX_SCALE"), (54, u "JLA"), (0, u "Ljdk/internal/access/JavaLangAccess;"), (11, u "LOG2_ARRAY_BOOLEAN_INDEX_SCALE"), (9, u "LOG2_ARRAY_BYTE_INDEX_SCALE"), (5, u "LOG2_ARRAY_CHAR_INDEX_SCALE"), (5, u "LOG2_ARRAY_SHORT_INDEX_SCALE"), (5, u "mismatch"), (12, u "LOG2_ARRAY_FLOAT_INDEX_SCALE"), (24, u "LOG2_ARRAY_DOUBLE_INDEX_SCALE"), (89, u "T_BOOLEAN"), (2, u "T_CHAR"), (1, u "T_FLOAT"), (1, u "T_DOUBLE"), (1, u "T_BYTE"), (1, u "T_SHORT"), (1, u "T_INT"), (1, u "T_LONG"), (1, u "SOFT_MAX_ARRAY_LENGTH"), (42, u "([BI[BII)I")] 40

def k18m0 : Method := { name := "<init>", desc := "()V", sig := { parameters := [], returnType := none }, accessFlags := 2, code := none }
def k18c1 : Code := { maxStack := 8, maxLocals := 8, code := jdk_48_method_14_code, exceptionTable := #[], attributes := #[] }
def k18m1 : Method := { name := "mismatch", desc := "([BI[BII)I", sig := { parameters := [(.array .byte), .int, (.array .byte), .int, .int], returnType := some .int }, accessFlags := 9, code := some k18c1 }
/-- jdk/internal/util/ArraysSupport -/
def k18 : Class := { plain "jdk/internal/util/ArraysSupport" (some 0) with
  accessFlags := 33
  interfaces := #[]
  cf := some (fileOf pool18 21 #[] #[{ accessFlags := 2, nameIndex := 9, descriptorIndex := 19, attributes := #[] }, { accessFlags := 9, nameIndex := 149, descriptorIndex := 337, attributes := #[] }] 33 16 #[] #[{ accessFlags := 24, nameIndex := 28, descriptorIndex := 29, attributes := #[] }, { accessFlags := 26, nameIndex := 38, descriptorIndex := 39, attributes := #[] }, { accessFlags := 25, nameIndex := 121, descriptorIndex := 25, attributes := #[] }, { accessFlags := 25, nameIndex := 131, descriptorIndex := 25, attributes := #[] }, { accessFlags := 25, nameIndex := 137, descriptorIndex := 25, attributes := #[] }, { accessFlags := 25, nameIndex := 143, descriptorIndex := 25, attributes := #[] }, { accessFlags := 25, nameIndex := 53, descriptorIndex := 25, attributes := #[] }, { accessFlags := 25, nameIndex := 24, descriptorIndex := 25, attributes := #[] }, { accessFlags := 25, nameIndex := 162, descriptorIndex := 25, attributes := #[] }, { accessFlags := 25, nameIndex := 187, descriptorIndex := 25, attributes := #[] }, { accessFlags := 26, nameIndex := 48, descriptorIndex := 25, attributes := #[] }, { accessFlags := 25, nameIndex := 277, descriptorIndex := 25, attributes := #[] }, { accessFlags := 25, nameIndex := 280, descriptorIndex := 25, attributes := #[] }, { accessFlags := 25, nameIndex := 282, descriptorIndex := 25, attributes := #[] }, { accessFlags := 25, nameIndex := 284, descriptorIndex := 25, attributes := #[] }, { accessFlags := 25, nameIndex := 286, descriptorIndex := 25, attributes := #[] }, { accessFlags := 25, nameIndex := 288, descriptorIndex := 25, attributes := #[] }, { accessFlags := 25, nameIndex := 290, descriptorIndex := 25, attributes := #[] }, { accessFlags := 25, nameIndex := 292, descriptorIndex := 25, attributes := #[] }, { accessFlags := 26, nameIndex := 108, descriptorIndex := 109, attributes := #[] }, { accessFlags := 25, nameIndex := 294, descriptorIndex := 25, attributes := #[] }])
  fields := #[{ name := "U", type := (.object "jdk/internal/misc/Unsafe"), accessFlags := 24, slot := 0, constantValue := 0 }, { name := "BIG_ENDIAN", type := .boolean, accessFlags := 26, slot := 1, constantValue := 0 }, { name := "LOG2_ARRAY_BOOLEAN_INDEX_SCALE", type := .int, accessFlags := 25, slot := 2, constantValue := 0 }, { name := "LOG2_ARRAY_BYTE_INDEX_SCALE", type := .int, accessFlags := 25, slot := 3, constantValue := 0 }, { name := "LOG2_ARRAY_CHAR_INDEX_SCALE", type := .int, accessFlags := 25, slot := 4, constantValue := 0 }, { name := "LOG2_ARRAY_SHORT_INDEX_SCALE", type := .int, accessFlags := 25, slot := 5, constantValue := 0 }, { name := "LOG2_ARRAY_INT_INDEX_SCALE", type := .int, accessFlags := 25, slot := 6, constantValue := 0 }, { name := "LOG2_ARRAY_LONG_INDEX_SCALE", type := .int, accessFlags := 25, slot := 7, constantValue := 0 }, { name := "LOG2_ARRAY_FLOAT_INDEX_SCALE", type := .int, accessFlags := 25, slot := 8, constantValue := 0 }, { name := "LOG2_ARRAY_DOUBLE_INDEX_SCALE", type := .int, accessFlags := 25, slot := 9, constantValue := 0 }, { name := "LOG2_BYTE_BIT_SIZE", type := .int, accessFlags := 26, slot := 10, constantValue := 0 }, { name := "T_BOOLEAN", type := .int, accessFlags := 25, slot := 11, constantValue := 0 }, { name := "T_CHAR", type := .int, accessFlags := 25, slot := 12, constantValue := 0 }, { name := "T_FLOAT", type := .int, accessFlags := 25, slot := 13, constantValue := 0 }, { name := "T_DOUBLE", type := .int, accessFlags := 25, slot := 14, constantValue := 0 }, { name := "T_BYTE", type := .int, accessFlags := 25, slot := 15, constantValue := 0 }, { name := "T_SHORT", type := .int, accessFlags := 25, slot := 16, constantValue := 0 }, { name := "T_INT", type := .int, accessFlags := 25, slot := 17, constantValue := 0 }, { name := "T_LONG", type := .int, accessFlags := 25, slot := 18, constantValue := 0 }, { name := "JLA", type := (.object "jdk/internal/access/JavaLangAccess"), accessFlags := 26, slot := 19, constantValue := 0 }, { name := "SOFT_MAX_ARRAY_LENGTH", type := .int, accessFlags := 25, slot := 20, constantValue := 0 }]
  methods := #[k18m0, k18m1]
  instanceTypes := #[]
  staticTypes := #[(.object "jdk/internal/misc/Unsafe"), .boolean, .int, .int, .int, .int, .int, .int, .int, .int, .int, .int, .int, .int, .int, .int, .int, .int, .int, (.object "jdk/internal/access/JavaLangAccess"), .int]
  resolved := Array.replicate 378 none
  statics := none }

def pool19 : Array CpInfo := pool [(2, .class_ 4), (1, u "java/lang/Object"), (0, u "<init>"), (0, u "()V"), (17, .class_ 26), (1, u "jdk/internal/util/Preconditions"), (20, u "checkFromToIndex"), (7, .class_ 56), (0, u "jdk/internal/util/Preconditions$4"), (57, .class_ 115), (0, u "jdk/internal/util/Preconditions$1"), (7, u "SIOOBE_FORMATTER"), (0, u "Ljava/util/function/BiFunction;"), (0, .class_ 126), (0, u "jdk/internal/util/Preconditions$2"), (3, u "AIOOBE_FORMATTER"), (0, .class_ 132), (0, u "jdk/internal/util/Preconditions$3"), (3, u "IOOBE_FORMATTER"), (46, u "(IIILjava/util/function/BiFunction;)I")] 10

def k19m0 : Method := { name := "<init>", desc := "()V", sig := { parameters := [], returnType := none }, accessFlags := 1, code := none }
def k19c1 : Code := { maxStack := 4, maxLocals := 4, code := jdk_41_method_12_code, exceptionTable := #[], attributes := #[] }
def k19m1 : Method := { name := "checkFromToIndex", desc := "(IIILjava/util/function/BiFunction;)I", sig := { parameters := [.int, .int, .int, (.object "java/util/function/BiFunction")], returnType := some .int }, accessFlags := 9, code := some k19c1 }
/-- jdk/internal/util/Preconditions -/
def k19 : Class := { plain "jdk/internal/util/Preconditions" (some 0) with
  accessFlags := 33
  interfaces := #[]
  cf := some (fileOf pool19 24 #[.nestMembers #[55, 131, 125, 114]] #[{ accessFlags := 1, nameIndex := 5, descriptorIndex := 6, attributes := #[] }, { accessFlags := 9, nameIndex := 47, descriptorIndex := 183, attributes := #[] }] 33 2 #[] #[{ accessFlags := 25, nameIndex := 123, descriptorIndex := 124, attributes := #[] }, { accessFlags := 25, nameIndex := 130, descriptorIndex := 124, attributes := #[] }, { accessFlags := 25, nameIndex := 136, descriptorIndex := 124, attributes := #[] }])
  fields := #[{ name := "SIOOBE_FORMATTER", type := (.object "java/util/function/BiFunction"), accessFlags := 25, slot := 0, constantValue := 0 }, { name := "AIOOBE_FORMATTER", type := (.object "java/util/function/BiFunction"), accessFlags := 25, slot := 1, constantValue := 0 }, { name := "IOOBE_FORMATTER", type := (.object "java/util/function/BiFunction"), accessFlags := 25, slot := 2, constantValue := 0 }]
  methods := #[k19m0, k19m1]
  instanceTypes := #[]
  staticTypes := #[(.object "java/util/function/BiFunction"), (.object "java/util/function/BiFunction"), (.object "java/util/function/BiFunction")]
  resolved := Array.replicate 194 none
  statics := some 1 }

def pool20 : Array CpInfo := pool [(1, u "java/lang/Cloneable"), (0, .class_ 1), (0, u "java/lang/Object"), (0, .class_ 3)] 3

/-- java/lang/Cloneable -/
def k20 : Class := { plain "java/lang/Cloneable" (some 0) with
  accessFlags := 1537
  interfaces := #[]
  cf := some (fileOf pool20 2 #[] #[] 1537 4 #[] #[])
  fields := #[]
  methods := #[]
  instanceTypes := #[]
  staticTypes := #[]
  resolved := Array.replicate 8 none
  statics := none }

/-- the primitive byte -/
def k21 : Class := { plain "byte" none with kind := .primitive 'B', accessFlags := 0x411 }
/-- [B -/
def k22 : Class := { plain "[B" (some 0) with kind := .array 21 .byte, interfaces := #[20, 2], accessFlags := 1041 }

/-- the primitive char -/
def k23 : Class := { plain "char" none with kind := .primitive 'C', accessFlags := 0x411 }
/-- [C -/
def k24 : Class := { plain "[C" (some 0) with kind := .array 23 .char, interfaces := #[20, 2], accessFlags := 1041 }

/-- the primitive int -/
def k25 : Class := { plain "int" none with kind := .primitive 'I', accessFlags := 0x411 }
/-- [I -/
def k26 : Class := { plain "[I" (some 0) with kind := .array 25 .int, interfaces := #[20, 2], accessFlags := 1041 }

def heap : Heap := #[{ cls := 7, slots := #[.long 0, .int 1, .null, .int 0, .null, .int 0, .int 0], vm := .statics 7 },
  { cls := 19, slots := #[.null, .null, .null], vm := .statics 19 }]
def classes : Array Class := #[k0, k1, k2, k3, k4, k5, k6, k7, k8, k9, k10, k11, k12, k13, k14, k15, k16, k17, k18, k19, k20, k21, k22, k23, k24, k25, k26]
def interned : List (Array UInt16 × Addr) := []
def slotsUsed : Nat := 10
def theMethod : MethodId := ⟨1, 1⟩
def args0 : Array Value := #[.int 1, .int 2, .int 3]
def aboutOver (below : List Frame) : State where
  vm := { classes := classes, interned := interned.toArray }
  heap := heap
  slotsUsed := slotsUsed
  threads := #[{ frames := .invoking theMethod args0 :: below }]
def below0 : List Frame := [.native { method := ⟨0, 0⟩, args := #[] }]
def about1 : State := aboutOver below0
def p0 : Program := .bare "" "" ""
def e0 : Env := launch0.env 0 0 0
theorem w_frames : about1.frames = Frame.invoking theMethod args0 :: below0 := rfl
set_option maxRecDepth 65536 in
theorem w_args : argsFit about1.vm theMethod args0 = true := by decide +kernel
set_option maxRecDepth 65536 in
theorem w_heap : heapFits about1 = true := by decide +kernel
set_option maxRecDepth 65536 in
theorem w_runnable : about1.curStatus? = some .runnable := by decide +kernel
set_option maxRecDepth 65536 in
theorem w_alone : about1.alone = true := by decide +kernel
set_option maxRecDepth 65536 in
theorem w_named : about1.methodNamed? x = some theMethod := by decide +kernel
set_option maxRecDepth 65536 in
theorem w_hears : about1.hears theMethod below0 = true := by decide +kernel
set_option maxRecDepth 65536 in
theorem w_ripe : about1.ripe theMethod args0 below0 = true := by decide +kernel
theorem w_running : about1.status = .running := rfl
set_option maxRecDepth 65536 in
theorem w_room : about1.hasRoom e0.platform room_1 = true :=
  launch0.hasRoom_least _ room_1 (by decide +kernel) (by decide +kernel) (by decide +kernel) (by decide +kernel) (by decide +kernel) (by decide +kernel)
theorem allAtoms_all (ts : List Jvm.Cond) (a : Array Jvm.Value) (st : Jvm.State) : (allAtoms ts).before a st = ts.all (fun c => c.before a st) := by
  induction ts with
  | nil => rfl
  | cons c t ih =>
    show (Jvm.Cond.and c (allAtoms t)).before a st = _
    rw [Jvm.Cond.before_and, ih, List.all_cons]
def words1 : List Jvm.Cond := Jvm.Cond.code x code maxLocals ret :: tables_1
/-- a 'code' word, met by the world's own term for the bytes: nothing is compared byte by byte -/
theorem code_word {y : MethodName} {bytes : ByteArray} {mx : Nat} {rt : Option FieldType} {a : Array Value} {s : State} {m : MethodId} {meth : Method} {c : Code} (h1 : s.methodNamed? y = some m) (h2 : s.vm.method? m = some meth) (h3 : meth.code = some c) (h4 : c.code = bytes)
    (h5 : (c.maxLocals == mx && c.exceptionTable.isEmpty && decide (c.maxStack ≤ mostOperands) && decide (meth.sig.returnType = rt) && !meth.locks && decide (parseMethodDescriptor y.desc = some meth.sig)) = true) : (Jvm.Cond.code y bytes mx rt).before a s = true := by
  simp only [Bool.and_eq_true, beq_iff_eq, Bool.not_eq_true', decide_eq_true_eq] at h5
  obtain ⟨⟨⟨⟨⟨g1, g2⟩, g3⟩, g4⟩, g5⟩, g6⟩ := h5
  simp [Cond.before, Cond.holds, Cond.value, h1, h2, h3, h4, g1, g2, g3, g4, g5, g6]
def isCode : Jvm.Cond → Bool
  | .code _ _ _ _ => true
  | _ => false
theorem all_split {L : List Jvm.Cond} {P : Jvm.Cond → Bool} (h1 : L.all (fun c => isCode c || P c) = true) (h2 : ∀ c ∈ L.filter isCode, P c = true) : L.all P = true := by
  refine List.all_eq_true.mpr fun c hc => ?_
  have h := List.all_eq_true.mp h1 c hc
  rcases Bool.eq_false_or_eq_true (isCode c) with hi | hi
  · exact h2 c (List.mem_filter.mpr ⟨hc, hi⟩)
  · simpa [hi] using h
set_option maxRecDepth 65536 in
theorem w_c0 : (Jvm.Cond.code x code maxLocals ret).before args0 about1 = true := code_word (m := ⟨1, 1⟩) (meth := k1m1) (c := k1c1) (by decide +kernel) rfl rfl rfl (by decide +kernel)
set_option maxRecDepth 65536 in
theorem w_c1 : (Jvm.Cond.code ({ cls := "com/example/evenlot/evenlot/SourceStockPinLaw", name := "str", desc := "(ICCC)Ljava/lang/String;" } : Jvm.MethodName) method_3_code (4 : Nat) (Option.some (Jvm.ClassFile.FieldType.object "java/lang/String"))).before args0 about1 = true := code_word (m := ⟨1, 2⟩) (meth := k1m2) (c := k1c2) (by decide +kernel) rfl rfl rfl (by decide +kernel)
set_option maxRecDepth 65536 in
theorem w_c2 : (Jvm.Cond.code ({ cls := "java/lang/String", name := "<init>", desc := "([C)V" } : Jvm.MethodName) jdk_42_method_3_code (2 : Nat) (Option.none : Option Jvm.ClassFile.FieldType)).before args0 about1 = true := code_word (m := ⟨7, 1⟩) (meth := k7m1) (c := k7c1) (by decide +kernel) rfl rfl rfl (by decide +kernel)
set_option maxRecDepth 65536 in
theorem w_c3 : (Jvm.Cond.code ({ cls := "java/lang/String", name := "<init>", desc := "([CIILjava/lang/Void;)V" } : Jvm.MethodName) jdk_42_method_149_code (6 : Nat) (Option.none : Option Jvm.ClassFile.FieldType)).before args0 about1 = true := code_word (m := ⟨7, 10⟩) (meth := k7m10) (c := k7c10) (by decide +kernel) rfl rfl rfl (by decide +kernel)
set_option maxRecDepth 65536 in
theorem w_c4 : (Jvm.Cond.code ({ cls := "java/lang/Object", name := "<init>", desc := "()V" } : Jvm.MethodName) object_method_1_code (1 : Nat) (Option.none : Option Jvm.ClassFile.FieldType)).before args0 about1 = true := code_word (m := ⟨0, 0⟩) (meth := k0m0) (c := k0c0) (by decide +kernel) rfl rfl rfl (by decide +kernel)
set_option maxRecDepth 65536 in
theorem w_c5 : (Jvm.Cond.code ({ cls := "java/lang/StringUTF16", name := "compress", desc := "([CII)[B" } : Jvm.MethodName) jdk_52_method_16_code (6 : Nat) (Option.some (Jvm.ClassFile.FieldType.array Jvm.ClassFile.FieldType.byte))).before args0 about1 = true := code_word (m := ⟨8, 2⟩) (meth := k8m2) (c := k8c2) (by decide +kernel) rfl rfl rfl (by decide +kernel)
set_option maxRecDepth 65536 in
theorem w_c6 : (Jvm.Cond.code ({ cls := "java/lang/StringUTF16", name := "compress", desc := "([CI[BII)I" } : Jvm.MethodName) jdk_52_method_21_code (7 : Nat) (Option.some Jvm.ClassFile.FieldType.int)).before args0 about1 = true := code_word (m := ⟨8, 3⟩) (meth := k8m3) (c := k8c3) (by decide +kernel) rfl rfl rfl (by decide +kernel)
set_option maxRecDepth 65536 in
theorem w_c7 : (Jvm.Cond.code ({ cls := "java/lang/StringUTF16", name := "coderFromArrayLen", desc := "([BI)B" } : Jvm.MethodName) jdk_52_method_15_code (2 : Nat) (Option.some Jvm.ClassFile.FieldType.byte)).before args0 about1 = true := code_word (m := ⟨8, 1⟩) (meth := k8m1) (c := k8c1) (by decide +kernel) rfl rfl rfl (by decide +kernel)
set_option maxRecDepth 65536 in
theorem w_c8 : (Jvm.Cond.code ({ cls := "com/example/evenlot/evenlot/SourceStockPinLaw", name := "stockName", desc := "(ICCC)Ljava/lang/String;" } : Jvm.MethodName) method_4_code (4 : Nat) (Option.some (Jvm.ClassFile.FieldType.object "java/lang/String"))).before args0 about1 = true := code_word (m := ⟨1, 3⟩) (meth := k1m3) (c := k1c3) (by decide +kernel) rfl rfl rfl (by decide +kernel)
set_option maxRecDepth 65536 in
theorem w_c9 : (Jvm.Cond.code ({ cls := "com/example/evenlot/evenlot/Source", name := "stock", desc := "(Ljava/lang/String;Ljava/lang/String;)Lcom/example/evenlot/evenlot/Source;" } : Jvm.MethodName) prog_29_method_2_code (2 : Nat) (Option.some (Jvm.ClassFile.FieldType.object "com/example/evenlot/evenlot/Source"))).before args0 about1 = true := code_word (m := ⟨10, 1⟩) (meth := k10m1) (c := k10c1) (by decide +kernel) rfl rfl rfl (by decide +kernel)
set_option maxRecDepth 65536 in
theorem w_c10 : (Jvm.Cond.code ({ cls := "java/lang/StringBuilder", name := "<init>", desc := "()V" } : Jvm.MethodName) jdk_67_method_1_code (1 : Nat) (Option.none : Option Jvm.ClassFile.FieldType)).before args0 about1 = true := code_word (m := ⟨13, 0⟩) (meth := k13m0) (c := k13c0) (by decide +kernel) rfl rfl rfl (by decide +kernel)
set_option maxRecDepth 65536 in
theorem w_c11 : (Jvm.Cond.code ({ cls := "java/lang/AbstractStringBuilder", name := "<init>", desc := "(I)V" } : Jvm.MethodName) jdk_68_method_2_code (2 : Nat) (Option.none : Option Jvm.ClassFile.FieldType)).before args0 about1 = true := code_word (m := ⟨12, 1⟩) (meth := k12m1) (c := k12c1) (by decide +kernel) rfl rfl rfl (by decide +kernel)
set_option maxRecDepth 65536 in
theorem w_c12 : (Jvm.Cond.code ({ cls := "java/lang/StringBuilder", name := "append", desc := "(Ljava/lang/String;)Ljava/lang/StringBuilder;" } : Jvm.MethodName) jdk_67_method_7_code (2 : Nat) (Option.some (Jvm.ClassFile.FieldType.object "java/lang/StringBuilder"))).before args0 about1 = true := code_word (m := ⟨13, 1⟩) (meth := k13m1) (c := k13c1) (by decide +kernel) rfl rfl rfl (by decide +kernel)
set_option maxRecDepth 65536 in
theorem w_c13 : (Jvm.Cond.code ({ cls := "java/lang/AbstractStringBuilder", name := "append", desc := "(Ljava/lang/String;)Ljava/lang/AbstractStringBuilder;" } : Jvm.MethodName) jdk_68_method_22_code (3 : Nat) (Option.some (Jvm.ClassFile.FieldType.object "java/lang/AbstractStringBuilder"))).before args0 about1 = true := code_word (m := ⟨12, 4⟩) (meth := k12m4) (c := k12c4) (by decide +kernel) rfl rfl rfl (by decide +kernel)
set_option maxRecDepth 65536 in
theorem w_c14 : (Jvm.Cond.code ({ cls := "java/lang/String", name := "length", desc := "()I" } : Jvm.MethodName) jdk_42_method_54_code (1 : Nat) (Option.some Jvm.ClassFile.FieldType.int)).before args0 about1 = true := code_word (m := ⟨7, 3⟩) (meth := k7m3) (c := k7c3) (by decide +kernel) rfl rfl rfl (by decide +kernel)
set_option maxRecDepth 65536 in
theorem w_c15 : (Jvm.Cond.code ({ cls := "java/lang/String", name := "coder", desc := "()B" } : Jvm.MethodName) jdk_42_method_152_code (1 : Nat) (Option.some Jvm.ClassFile.FieldType.byte)).before args0 about1 = true := code_word (m := ⟨7, 13⟩) (meth := k7m13) (c := k7c13) (by decide +kernel) rfl rfl rfl (by decide +kernel)
set_option maxRecDepth 65536 in
theorem w_c16 : (Jvm.Cond.code ({ cls := "java/lang/AbstractStringBuilder", name := "ensureCapacityInternal", desc := "(I)V" } : Jvm.MethodName) jdk_68_method_9_code (3 : Nat) (Option.none : Option Jvm.ClassFile.FieldType)).before args0 about1 = true := code_word (m := ⟨12, 3⟩) (meth := k12m3) (c := k12c3) (by decide +kernel) rfl rfl rfl (by decide +kernel)
set_option maxRecDepth 65536 in
theorem w_c17 : (Jvm.Cond.code ({ cls := "java/lang/AbstractStringBuilder", name := "putStringAt", desc := "(ILjava/lang/String;)V" } : Jvm.MethodName) jdk_68_method_73_code (3 : Nat) (Option.none : Option Jvm.ClassFile.FieldType)).before args0 about1 = true := code_word (m := ⟨12, 8⟩) (meth := k12m8) (c := k12c8) (by decide +kernel) rfl rfl rfl (by decide +kernel)
set_option maxRecDepth 65536 in
theorem w_c18 : (Jvm.Cond.code ({ cls := "java/lang/AbstractStringBuilder", name := "inflateIfNeededFor", desc := "(Ljava/lang/String;)V" } : Jvm.MethodName) jdk_68_method_71_code (2 : Nat) (Option.none : Option Jvm.ClassFile.FieldType)).before args0 about1 = true := code_word (m := ⟨12, 7⟩) (meth := k12m7) (c := k12c7) (by decide +kernel) rfl rfl rfl (by decide +kernel)
set_option maxRecDepth 65536 in
theorem w_c19 : (Jvm.Cond.code ({ cls := "java/lang/String", name := "getBytes", desc := "([BIB)V" } : Jvm.MethodName) jdk_42_method_147_code (4 : Nat) (Option.none : Option Jvm.ClassFile.FieldType)).before args0 about1 = true := code_word (m := ⟨7, 9⟩) (meth := k7m9) (c := k7c9) (by decide +kernel) rfl rfl rfl (by decide +kernel)
set_option maxRecDepth 65536 in
theorem w_c20 : (Jvm.Cond.code ({ cls := "java/lang/StringBuilder", name := "toString", desc := "()Ljava/lang/String;" } : Jvm.MethodName) jdk_67_method_42_code (1 : Nat) (Option.some (Jvm.ClassFile.FieldType.object "java/lang/String"))).before args0 about1 = true := code_word (m := ⟨13, 2⟩) (meth := k13m2) (c := k13c2) (by decide +kernel) rfl rfl rfl (by decide +kernel)
set_option maxRecDepth 65536 in
theorem w_c21 : (Jvm.Cond.code ({ cls := "java/lang/String", name := "<init>", desc := "(Ljava/lang/StringBuilder;)V" } : Jvm.MethodName) jdk_42_method_53_code (2 : Nat) (Option.none : Option Jvm.ClassFile.FieldType)).before args0 about1 = true := code_word (m := ⟨7, 2⟩) (meth := k7m2) (c := k7c2) (by decide +kernel) rfl rfl rfl (by decide +kernel)
set_option maxRecDepth 65536 in
theorem w_c22 : (Jvm.Cond.code ({ cls := "java/lang/String", name := "<init>", desc := "(Ljava/lang/AbstractStringBuilder;Ljava/lang/Void;)V" } : Jvm.MethodName) jdk_42_method_150_code (5 : Nat) (Option.none : Option Jvm.ClassFile.FieldType)).before args0 about1 = true := code_word (m := ⟨7, 11⟩) (meth := k7m11) (c := k7c11) (by decide +kernel) rfl rfl rfl (by decide +kernel)
set_option maxRecDepth 65536 in
theorem w_c23 : (Jvm.Cond.code ({ cls := "java/lang/AbstractStringBuilder", name := "getValue", desc := "()[B" } : Jvm.MethodName) jdk_68_method_64_code (1 : Nat) (Option.some (Jvm.ClassFile.FieldType.array Jvm.ClassFile.FieldType.byte))).before args0 about1 = true := code_word (m := ⟨12, 5⟩) (meth := k12m5) (c := k12c5) (by decide +kernel) rfl rfl rfl (by decide +kernel)
set_option maxRecDepth 65536 in
theorem w_c24 : (Jvm.Cond.code ({ cls := "java/lang/StringBuilder", name := "length", desc := "()I" } : Jvm.MethodName) jdk_67_method_93_code (1 : Nat) (Option.some Jvm.ClassFile.FieldType.int)).before args0 about1 = true := code_word (m := ⟨13, 3⟩) (meth := k13m3) (c := k13c3) (by decide +kernel) rfl rfl rfl (by decide +kernel)
set_option maxRecDepth 65536 in
theorem w_c25 : (Jvm.Cond.code ({ cls := "java/lang/AbstractStringBuilder", name := "length", desc := "()I" } : Jvm.MethodName) jdk_68_method_6_code (1 : Nat) (Option.some Jvm.ClassFile.FieldType.int)).before args0 about1 = true := code_word (m := ⟨12, 2⟩) (meth := k12m2) (c := k12c2) (by decide +kernel) rfl rfl rfl (by decide +kernel)
set_option maxRecDepth 65536 in
theorem w_c26 : (Jvm.Cond.code ({ cls := "java/lang/AbstractStringBuilder", name := "isLatin1", desc := "()Z" } : Jvm.MethodName) jdk_68_method_68_code (1 : Nat) (Option.some Jvm.ClassFile.FieldType.boolean)).before args0 about1 = true := code_word (m := ⟨12, 6⟩) (meth := k12m6) (c := k12c6) (by decide +kernel) rfl rfl rfl (by decide +kernel)
set_option maxRecDepth 65536 in
theorem w_c27 : (Jvm.Cond.code ({ cls := "java/util/Arrays", name := "copyOfRange", desc := "([BII)[B" } : Jvm.MethodName) jdk_65_method_132_code (3 : Nat) (Option.some (Jvm.ClassFile.FieldType.array Jvm.ClassFile.FieldType.byte))).before args0 about1 = true := code_word (m := ⟨15, 2⟩) (meth := k15m2) (c := k15c2) (by decide +kernel) rfl rfl rfl (by decide +kernel)
set_option maxRecDepth 65536 in
theorem w_c28 : (Jvm.Cond.code ({ cls := "java/util/Arrays", name := "copyOfRangeByte", desc := "([BII)[B" } : Jvm.MethodName) jdk_65_method_133_code (5 : Nat) (Option.some (Jvm.ClassFile.FieldType.array Jvm.ClassFile.FieldType.byte))).before args0 about1 = true := code_word (m := ⟨15, 3⟩) (meth := k15m3) (c := k15c3) (by decide +kernel) rfl rfl rfl (by decide +kernel)
set_option maxRecDepth 65536 in
theorem w_c29 : (Jvm.Cond.code ({ cls := "java/util/Arrays", name := "checkLength", desc := "(II)V" } : Jvm.MethodName) jdk_65_method_131_code (2 : Nat) (Option.none : Option Jvm.ClassFile.FieldType)).before args0 about1 = true := code_word (m := ⟨15, 1⟩) (meth := k15m1) (c := k15c1) (by decide +kernel) rfl rfl rfl (by decide +kernel)
set_option maxRecDepth 65536 in
theorem w_c30 : (Jvm.Cond.code ({ cls := "java/lang/Math", name := "min", desc := "(II)I" } : Jvm.MethodName) jdk_29_method_69_code (2 : Nat) (Option.some Jvm.ClassFile.FieldType.int)).before args0 about1 = true := code_word (m := ⟨16, 1⟩) (meth := k16m1) (c := k16c1) (by decide +kernel) rfl rfl rfl (by decide +kernel)
set_option maxRecDepth 65536 in
theorem w_c31 : (Jvm.Cond.code ({ cls := "com/example/evenlot/evenlot/Source", name := "<init>", desc := "(Ljava/lang/String;Ljava/lang/String;I)V" } : Jvm.MethodName) prog_29_method_1_code (4 : Nat) (Option.none : Option Jvm.ClassFile.FieldType)).before args0 about1 = true := code_word (m := ⟨10, 0⟩) (meth := k10m0) (c := k10c0) (by decide +kernel) rfl rfl rfl (by decide +kernel)
set_option maxRecDepth 65536 in
theorem w_c32 : (Jvm.Cond.code ({ cls := "java/lang/Record", name := "<init>", desc := "()V" } : Jvm.MethodName) jdk_30_method_1_code (1 : Nat) (Option.none : Option Jvm.ClassFile.FieldType)).before args0 about1 = true := code_word (m := ⟨9, 0⟩) (meth := k9m0) (c := k9c0) (by decide +kernel) rfl rfl rfl (by decide +kernel)
set_option maxRecDepth 65536 in
theorem w_c33 : (Jvm.Cond.code ({ cls := "com/example/evenlot/evenlot/Source", name := "fg", desc := "()Ljava/lang/String;" } : Jvm.MethodName) prog_29_method_10_code (1 : Nat) (Option.some (Jvm.ClassFile.FieldType.object "java/lang/String"))).before args0 about1 = true := code_word (m := ⟨10, 4⟩) (meth := k10m4) (c := k10c4) (by decide +kernel) rfl rfl rfl (by decide +kernel)
set_option maxRecDepth 65536 in
theorem w_c34 : (Jvm.Cond.code ({ cls := "java/lang/String", name := "equals", desc := "(Ljava/lang/Object;)Z" } : Jvm.MethodName) jdk_42_method_66_code (3 : Nat) (Option.some Jvm.ClassFile.FieldType.boolean)).before args0 about1 = true := code_word (m := ⟨7, 4⟩) (meth := k7m4) (c := k7c4) (by decide +kernel) rfl rfl rfl (by decide +kernel)
set_option maxRecDepth 65536 in
theorem w_c35 : (Jvm.Cond.code ({ cls := "com/example/evenlot/evenlot/Source", name := "name", desc := "()Ljava/lang/String;" } : Jvm.MethodName) prog_29_method_11_code (1 : Nat) (Option.some (Jvm.ClassFile.FieldType.object "java/lang/String"))).before args0 about1 = true := code_word (m := ⟨10, 5⟩) (meth := k10m5) (c := k10c5) (by decide +kernel) rfl rfl rfl (by decide +kernel)
set_option maxRecDepth 65536 in
theorem w_c36 : (Jvm.Cond.code ({ cls := "java/lang/StringLatin1", name := "equals", desc := "([B[B)Z" } : Jvm.MethodName) jdk_43_method_13_code (3 : Nat) (Option.some Jvm.ClassFile.FieldType.boolean)).before args0 about1 = true := code_word (m := ⟨17, 1⟩) (meth := k17m1) (c := k17c1) (by decide +kernel) rfl rfl rfl (by decide +kernel)
set_option maxRecDepth 65536 in
theorem w_c37 : (Jvm.Cond.code ({ cls := "com/example/evenlot/evenlot/Source", name := "period", desc := "()I" } : Jvm.MethodName) prog_29_method_12_code (1 : Nat) (Option.some Jvm.ClassFile.FieldType.int)).before args0 about1 = true := code_word (m := ⟨10, 6⟩) (meth := k10m6) (c := k10c6) (by decide +kernel) rfl rfl rfl (by decide +kernel)
set_option maxRecDepth 65536 in
theorem w_c38 : (Jvm.Cond.code ({ cls := "com/example/evenlot/evenlot/Source", name := "isLot", desc := "()Z" } : Jvm.MethodName) prog_29_method_5_code (1 : Nat) (Option.some Jvm.ClassFile.FieldType.boolean)).before args0 about1 = true := code_word (m := ⟨10, 3⟩) (meth := k10m3) (c := k10c3) (by decide +kernel) rfl rfl rfl (by decide +kernel)
set_option maxRecDepth 65536 in
theorem w_c39 : (Jvm.Cond.code ({ cls := "java/lang/String", name := "startsWith", desc := "(Ljava/lang/String;)Z" } : Jvm.MethodName) jdk_42_method_76_code (2 : Nat) (Option.some Jvm.ClassFile.FieldType.boolean)).before args0 about1 = true := code_word (m := ⟨7, 6⟩) (meth := k7m6) (c := k7c6) (by decide +kernel) rfl rfl rfl (by decide +kernel)
set_option maxRecDepth 65536 in
theorem w_c40 : (Jvm.Cond.code ({ cls := "java/lang/String", name := "startsWith", desc := "(Ljava/lang/String;I)Z" } : Jvm.MethodName) jdk_42_method_75_code (8 : Nat) (Option.some Jvm.ClassFile.FieldType.boolean)).before args0 about1 = true := code_word (m := ⟨7, 5⟩) (meth := k7m5) (c := k7c5) (by decide +kernel) rfl rfl rfl (by decide +kernel)
set_option maxRecDepth 65536 in
theorem w_c41 : (Jvm.Cond.code ({ cls := "jdk/internal/util/ArraysSupport", name := "mismatch", desc := "([BI[BII)I" } : Jvm.MethodName) jdk_48_method_14_code (8 : Nat) (Option.some Jvm.ClassFile.FieldType.int)).before args0 about1 = true := code_word (m := ⟨18, 1⟩) (meth := k18m1) (c := k18c1) (by decide +kernel) rfl rfl rfl (by decide +kernel)
set_option maxRecDepth 65536 in
theorem w_c42 : (Jvm.Cond.code ({ cls := "com/example/evenlot/evenlot/Source", name := "subtype", desc := "()Ljava/lang/String;" } : Jvm.MethodName) prog_29_method_4_code (1 : Nat) (Option.some (Jvm.ClassFile.FieldType.object "java/lang/String"))).before args0 about1 = true := code_word (m := ⟨10, 2⟩) (meth := k10m2) (c := k10c2) (by decide +kernel) rfl rfl rfl (by decide +kernel)
set_option maxRecDepth 65536 in
theorem w_c43 : (Jvm.Cond.code ({ cls := "java/lang/String", name := "substring", desc := "(I)Ljava/lang/String;" } : Jvm.MethodName) jdk_42_method_91_code (2 : Nat) (Option.some (Jvm.ClassFile.FieldType.object "java/lang/String"))).before args0 about1 = true := code_word (m := ⟨7, 7⟩) (meth := k7m7) (c := k7c7) (by decide +kernel) rfl rfl rfl (by decide +kernel)
set_option maxRecDepth 65536 in
theorem w_c44 : (Jvm.Cond.code ({ cls := "java/lang/String", name := "substring", desc := "(II)Ljava/lang/String;" } : Jvm.MethodName) jdk_42_method_92_code (5 : Nat) (Option.some (Jvm.ClassFile.FieldType.object "java/lang/String"))).before args0 about1 = true := code_word (m := ⟨7, 8⟩) (meth := k7m8) (c := k7c8) (by decide +kernel) rfl rfl rfl (by decide +kernel)
set_option maxRecDepth 65536 in
theorem w_c45 : (Jvm.Cond.code ({ cls := "java/lang/String", name := "checkBoundsBeginEnd", desc := "(III)V" } : Jvm.MethodName) jdk_42_method_158_code (3 : Nat) (Option.none : Option Jvm.ClassFile.FieldType)).before args0 about1 = true := code_word (m := ⟨7, 15⟩) (meth := k7m15) (c := k7c15) (by decide +kernel) rfl rfl rfl (by decide +kernel)
set_option maxRecDepth 65536 in
theorem w_c46 : (Jvm.Cond.code ({ cls := "jdk/internal/util/Preconditions", name := "checkFromToIndex", desc := "(IIILjava/util/function/BiFunction;)I" } : Jvm.MethodName) jdk_41_method_12_code (4 : Nat) (Option.some Jvm.ClassFile.FieldType.int)).before args0 about1 = true := code_word (m := ⟨19, 1⟩) (meth := k19m1) (c := k19c1) (by decide +kernel) rfl rfl rfl (by decide +kernel)
set_option maxRecDepth 65536 in
theorem w_c47 : (Jvm.Cond.code ({ cls := "java/lang/String", name := "isLatin1", desc := "()Z" } : Jvm.MethodName) jdk_42_method_154_code (1 : Nat) (Option.some Jvm.ClassFile.FieldType.boolean)).before args0 about1 = true := code_word (m := ⟨7, 14⟩) (meth := k7m14) (c := k7c14) (by decide +kernel) rfl rfl rfl (by decide +kernel)
set_option maxRecDepth 65536 in
theorem w_c48 : (Jvm.Cond.code ({ cls := "java/lang/StringLatin1", name := "newString", desc := "([BII)Ljava/lang/String;" } : Jvm.MethodName) jdk_43_method_47_code (3 : Nat) (Option.some (Jvm.ClassFile.FieldType.object "java/lang/String"))).before args0 about1 = true := code_word (m := ⟨17, 2⟩) (meth := k17m2) (c := k17c2) (by decide +kernel) rfl rfl rfl (by decide +kernel)
set_option maxRecDepth 65536 in
theorem w_c49 : (Jvm.Cond.code ({ cls := "java/lang/String", name := "<init>", desc := "([BB)V" } : Jvm.MethodName) jdk_42_method_151_code (3 : Nat) (Option.none : Option Jvm.ClassFile.FieldType)).before args0 about1 = true := code_word (m := ⟨7, 12⟩) (meth := k7m12) (c := k7c12) (by decide +kernel) rfl rfl rfl (by decide +kernel)
def codes1 : List Jvm.Cond := [Jvm.Cond.code x code maxLocals ret, Jvm.Cond.code ({ cls := "com/example/evenlot/evenlot/SourceStockPinLaw", name := "str", desc := "(ICCC)Ljava/lang/String;" } : Jvm.MethodName) method_3_code (4 : Nat) (Option.some (Jvm.ClassFile.FieldType.object "java/lang/String")), Jvm.Cond.code ({ cls := "java/lang/String", name := "<init>", desc := "([C)V" } : Jvm.MethodName) jdk_42_method_3_code (2 : Nat) (Option.none : Option Jvm.ClassFile.FieldType), Jvm.Cond.code ({ cls := "java/lang/String", name := "<init>", desc := "([CIILjava/lang/Void;)V" } : Jvm.MethodName) jdk_42_method_149_code (6 : Nat) (Option.none : Option Jvm.ClassFile.FieldType), Jvm.Cond.code ({ cls := "java/lang/Object", name := "<init>", desc := "()V" } : Jvm.MethodName) object_method_1_code (1 : Nat) (Option.none : Option Jvm.ClassFile.FieldType), Jvm.Cond.code ({ cls := "java/lang/StringUTF16", name := "compress", desc := "([CII)[B" } : Jvm.MethodName) jdk_52_method_16_code (6 : Nat) (Option.some (Jvm.ClassFile.FieldType.array Jvm.ClassFile.FieldType.byte)), Jvm.Cond.code ({ cls := "java/lang/StringUTF16", name := "compress", desc := "([CI[BII)I" } : Jvm.MethodName) jdk_52_method_21_code (7 : Nat) (Option.some Jvm.ClassFile.FieldType.int), Jvm.Cond.code ({ cls := "java/lang/StringUTF16", name := "coderFromArrayLen", desc := "([BI)B" } : Jvm.MethodName) jdk_52_method_15_code (2 : Nat) (Option.some Jvm.ClassFile.FieldType.byte), Jvm.Cond.code ({ cls := "com/example/evenlot/evenlot/SourceStockPinLaw", name := "stockName", desc := "(ICCC)Ljava/lang/String;" } : Jvm.MethodName) method_4_code (4 : Nat) (Option.some (Jvm.ClassFile.FieldType.object "java/lang/String")), Jvm.Cond.code ({ cls := "com/example/evenlot/evenlot/Source", name := "stock", desc := "(Ljava/lang/String;Ljava/lang/String;)Lcom/example/evenlot/evenlot/Source;" } : Jvm.MethodName) prog_29_method_2_code (2 : Nat) (Option.some (Jvm.ClassFile.FieldType.object "com/example/evenlot/evenlot/Source")), Jvm.Cond.code ({ cls := "java/lang/StringBuilder", name := "<init>", desc := "()V" } : Jvm.MethodName) jdk_67_method_1_code (1 : Nat) (Option.none : Option Jvm.ClassFile.FieldType), Jvm.Cond.code ({ cls := "java/lang/AbstractStringBuilder", name := "<init>", desc := "(I)V" } : Jvm.MethodName) jdk_68_method_2_code (2 : Nat) (Option.none : Option Jvm.ClassFile.FieldType), Jvm.Cond.code ({ cls := "java/lang/StringBuilder", name := "append", desc := "(Ljava/lang/String;)Ljava/lang/StringBuilder;" } : Jvm.MethodName) jdk_67_method_7_code (2 : Nat) (Option.some (Jvm.ClassFile.FieldType.object "java/lang/StringBuilder")), Jvm.Cond.code ({ cls := "java/lang/AbstractStringBuilder", name := "append", desc := "(Ljava/lang/String;)Ljava/lang/AbstractStringBuilder;" } : Jvm.MethodName) jdk_68_method_22_code (3 : Nat) (Option.some (Jvm.ClassFile.FieldType.object "java/lang/AbstractStringBuilder")), Jvm.Cond.code ({ cls := "java/lang/String", name := "length", desc := "()I" } : Jvm.MethodName) jdk_42_method_54_code (1 : Nat) (Option.some Jvm.ClassFile.FieldType.int), Jvm.Cond.code ({ cls := "java/lang/String", name := "coder", desc := "()B" } : Jvm.MethodName) jdk_42_method_152_code (1 : Nat) (Option.some Jvm.ClassFile.FieldType.byte), Jvm.Cond.code ({ cls := "java/lang/AbstractStringBuilder", name := "ensureCapacityInternal", desc := "(I)V" } : Jvm.MethodName) jdk_68_method_9_code (3 : Nat) (Option.none : Option Jvm.ClassFile.FieldType), Jvm.Cond.code ({ cls := "java/lang/AbstractStringBuilder", name := "putStringAt", desc := "(ILjava/lang/String;)V" } : Jvm.MethodName) jdk_68_method_73_code (3 : Nat) (Option.none : Option Jvm.ClassFile.FieldType), Jvm.Cond.code ({ cls := "java/lang/AbstractStringBuilder", name := "inflateIfNeededFor", desc := "(Ljava/lang/String;)V" } : Jvm.MethodName) jdk_68_method_71_code (2 : Nat) (Option.none : Option Jvm.ClassFile.FieldType), Jvm.Cond.code ({ cls := "java/lang/String", name := "getBytes", desc := "([BIB)V" } : Jvm.MethodName) jdk_42_method_147_code (4 : Nat) (Option.none : Option Jvm.ClassFile.FieldType), Jvm.Cond.code ({ cls := "java/lang/StringBuilder", name := "toString", desc := "()Ljava/lang/String;" } : Jvm.MethodName) jdk_67_method_42_code (1 : Nat) (Option.some (Jvm.ClassFile.FieldType.object "java/lang/String")), Jvm.Cond.code ({ cls := "java/lang/String", name := "<init>", desc := "(Ljava/lang/StringBuilder;)V" } : Jvm.MethodName) jdk_42_method_53_code (2 : Nat) (Option.none : Option Jvm.ClassFile.FieldType), Jvm.Cond.code ({ cls := "java/lang/String", name := "<init>", desc := "(Ljava/lang/AbstractStringBuilder;Ljava/lang/Void;)V" } : Jvm.MethodName) jdk_42_method_150_code (5 : Nat) (Option.none : Option Jvm.ClassFile.FieldType), Jvm.Cond.code ({ cls := "java/lang/AbstractStringBuilder", name := "getValue", desc := "()[B" } : Jvm.MethodName) jdk_68_method_64_code (1 : Nat) (Option.some (Jvm.ClassFile.FieldType.array Jvm.ClassFile.FieldType.byte)), Jvm.Cond.code ({ cls := "java/lang/StringBuilder", name := "length", desc := "()I" } : Jvm.MethodName) jdk_67_method_93_code (1 : Nat) (Option.some Jvm.ClassFile.FieldType.int), Jvm.Cond.code ({ cls := "java/lang/AbstractStringBuilder", name := "length", desc := "()I" } : Jvm.MethodName) jdk_68_method_6_code (1 : Nat) (Option.some Jvm.ClassFile.FieldType.int), Jvm.Cond.code ({ cls := "java/lang/AbstractStringBuilder", name := "isLatin1", desc := "()Z" } : Jvm.MethodName) jdk_68_method_68_code (1 : Nat) (Option.some Jvm.ClassFile.FieldType.boolean), Jvm.Cond.code ({ cls := "java/util/Arrays", name := "copyOfRange", desc := "([BII)[B" } : Jvm.MethodName) jdk_65_method_132_code (3 : Nat) (Option.some (Jvm.ClassFile.FieldType.array Jvm.ClassFile.FieldType.byte)), Jvm.Cond.code ({ cls := "java/util/Arrays", name := "copyOfRangeByte", desc := "([BII)[B" } : Jvm.MethodName) jdk_65_method_133_code (5 : Nat) (Option.some (Jvm.ClassFile.FieldType.array Jvm.ClassFile.FieldType.byte)), Jvm.Cond.code ({ cls := "java/util/Arrays", name := "checkLength", desc := "(II)V" } : Jvm.MethodName) jdk_65_method_131_code (2 : Nat) (Option.none : Option Jvm.ClassFile.FieldType), Jvm.Cond.code ({ cls := "java/lang/Math", name := "min", desc := "(II)I" } : Jvm.MethodName) jdk_29_method_69_code (2 : Nat) (Option.some Jvm.ClassFile.FieldType.int), Jvm.Cond.code ({ cls := "com/example/evenlot/evenlot/Source", name := "<init>", desc := "(Ljava/lang/String;Ljava/lang/String;I)V" } : Jvm.MethodName) prog_29_method_1_code (4 : Nat) (Option.none : Option Jvm.ClassFile.FieldType), Jvm.Cond.code ({ cls := "java/lang/Record", name := "<init>", desc := "()V" } : Jvm.MethodName) jdk_30_method_1_code (1 : Nat) (Option.none : Option Jvm.ClassFile.FieldType), Jvm.Cond.code ({ cls := "com/example/evenlot/evenlot/Source", name := "fg", desc := "()Ljava/lang/String;" } : Jvm.MethodName) prog_29_method_10_code (1 : Nat) (Option.some (Jvm.ClassFile.FieldType.object "java/lang/String")), Jvm.Cond.code ({ cls := "java/lang/String", name := "equals", desc := "(Ljava/lang/Object;)Z" } : Jvm.MethodName) jdk_42_method_66_code (3 : Nat) (Option.some Jvm.ClassFile.FieldType.boolean), Jvm.Cond.code ({ cls := "com/example/evenlot/evenlot/Source", name := "name", desc := "()Ljava/lang/String;" } : Jvm.MethodName) prog_29_method_11_code (1 : Nat) (Option.some (Jvm.ClassFile.FieldType.object "java/lang/String")), Jvm.Cond.code ({ cls := "java/lang/StringLatin1", name := "equals", desc := "([B[B)Z" } : Jvm.MethodName) jdk_43_method_13_code (3 : Nat) (Option.some Jvm.ClassFile.FieldType.boolean), Jvm.Cond.code ({ cls := "com/example/evenlot/evenlot/Source", name := "period", desc := "()I" } : Jvm.MethodName) prog_29_method_12_code (1 : Nat) (Option.some Jvm.ClassFile.FieldType.int), Jvm.Cond.code ({ cls := "com/example/evenlot/evenlot/Source", name := "isLot", desc := "()Z" } : Jvm.MethodName) prog_29_method_5_code (1 : Nat) (Option.some Jvm.ClassFile.FieldType.boolean), Jvm.Cond.code ({ cls := "java/lang/String", name := "startsWith", desc := "(Ljava/lang/String;)Z" } : Jvm.MethodName) jdk_42_method_76_code (2 : Nat) (Option.some Jvm.ClassFile.FieldType.boolean), Jvm.Cond.code ({ cls := "java/lang/String", name := "startsWith", desc := "(Ljava/lang/String;I)Z" } : Jvm.MethodName) jdk_42_method_75_code (8 : Nat) (Option.some Jvm.ClassFile.FieldType.boolean), Jvm.Cond.code ({ cls := "jdk/internal/util/ArraysSupport", name := "mismatch", desc := "([BI[BII)I" } : Jvm.MethodName) jdk_48_method_14_code (8 : Nat) (Option.some Jvm.ClassFile.FieldType.int), Jvm.Cond.code ({ cls := "com/example/evenlot/evenlot/Source", name := "subtype", desc := "()Ljava/lang/String;" } : Jvm.MethodName) prog_29_method_4_code (1 : Nat) (Option.some (Jvm.ClassFile.FieldType.object "java/lang/String")), Jvm.Cond.code ({ cls := "java/lang/String", name := "substring", desc := "(I)Ljava/lang/String;" } : Jvm.MethodName) jdk_42_method_91_code (2 : Nat) (Option.some (Jvm.ClassFile.FieldType.object "java/lang/String")), Jvm.Cond.code ({ cls := "java/lang/String", name := "substring", desc := "(II)Ljava/lang/String;" } : Jvm.MethodName) jdk_42_method_92_code (5 : Nat) (Option.some (Jvm.ClassFile.FieldType.object "java/lang/String")), Jvm.Cond.code ({ cls := "java/lang/String", name := "checkBoundsBeginEnd", desc := "(III)V" } : Jvm.MethodName) jdk_42_method_158_code (3 : Nat) (Option.none : Option Jvm.ClassFile.FieldType), Jvm.Cond.code ({ cls := "jdk/internal/util/Preconditions", name := "checkFromToIndex", desc := "(IIILjava/util/function/BiFunction;)I" } : Jvm.MethodName) jdk_41_method_12_code (4 : Nat) (Option.some Jvm.ClassFile.FieldType.int), Jvm.Cond.code ({ cls := "java/lang/String", name := "isLatin1", desc := "()Z" } : Jvm.MethodName) jdk_42_method_154_code (1 : Nat) (Option.some Jvm.ClassFile.FieldType.boolean), Jvm.Cond.code ({ cls := "java/lang/StringLatin1", name := "newString", desc := "([BII)Ljava/lang/String;" } : Jvm.MethodName) jdk_43_method_47_code (3 : Nat) (Option.some (Jvm.ClassFile.FieldType.object "java/lang/String")), Jvm.Cond.code ({ cls := "java/lang/String", name := "<init>", desc := "([BB)V" } : Jvm.MethodName) jdk_42_method_151_code (3 : Nat) (Option.none : Option Jvm.ClassFile.FieldType)]
set_option maxRecDepth 65536 in
theorem codes_eq : words1.filter isCode = codes1 := rfl
theorem w_codes : ∀ c ∈ words1.filter isCode, c.before args0 about1 = true := by
  rw [codes_eq]
  intro c hc
  simp only [codes1, List.mem_cons, List.not_mem_nil, or_false] at hc
  rcases hc with rfl | rfl | rfl | rfl | rfl | rfl | rfl | rfl | rfl | rfl | rfl | rfl | rfl | rfl | rfl | rfl | rfl | rfl | rfl | rfl | rfl | rfl | rfl | rfl | rfl | rfl | rfl | rfl | rfl | rfl | rfl | rfl | rfl | rfl | rfl | rfl | rfl | rfl | rfl | rfl | rfl | rfl | rfl | rfl | rfl | rfl | rfl | rfl | rfl | rfl
  · exact w_c0
  · exact w_c1
  · exact w_c2
  · exact w_c3
  · exact w_c4
  · exact w_c5
  · exact w_c6
  · exact w_c7
  · exact w_c8
  · exact w_c9
  · exact w_c10
  · exact w_c11
  · exact w_c12
  · exact w_c13
  · exact w_c14
  · exact w_c15
  · exact w_c16
  · exact w_c17
  · exact w_c18
  · exact w_c19
  · exact w_c20
  · exact w_c21
  · exact w_c22
  · exact w_c23
  · exact w_c24
  · exact w_c25
  · exact w_c26
  · exact w_c27
  · exact w_c28
  · exact w_c29
  · exact w_c30
  · exact w_c31
  · exact w_c32
  · exact w_c33
  · exact w_c34
  · exact w_c35
  · exact w_c36
  · exact w_c37
  · exact w_c38
  · exact w_c39
  · exact w_c40
  · exact w_c41
  · exact w_c42
  · exact w_c43
  · exact w_c44
  · exact w_c45
  · exact w_c46
  · exact w_c47
  · exact w_c48
  · exact w_c49
set_option maxRecDepth 65536 in
theorem w_t1 : (words1.take 24).all (fun c => isCode c || c.before args0 about1) = true := by decide +kernel
set_option maxRecDepth 65536 in
theorem w_t2 : ((words1.drop 24).take 24).all (fun c => isCode c || c.before args0 about1) = true := by decide +kernel
set_option maxRecDepth 65536 in
theorem w_t3 : (((words1.drop 24).drop 24).take 24).all (fun c => isCode c || c.before args0 about1) = true := by decide +kernel
set_option maxRecDepth 65536 in
theorem w_t4 : ((((words1.drop 24).drop 24).drop 24).take 24).all (fun c => isCode c || c.before args0 about1) = true := by decide +kernel
set_option maxRecDepth 65536 in
theorem w_t5 : (((((words1.drop 24).drop 24).drop 24).drop 24).take 24).all (fun c => isCode c || c.before args0 about1) = true := by decide +kernel
set_option maxRecDepth 65536 in
theorem w_t6 : ((((((words1.drop 24).drop 24).drop 24).drop 24).drop 24).take 24).all (fun c => isCode c || c.before args0 about1) = true := by decide +kernel
set_option maxRecDepth 65536 in
theorem w_t7 : (((((((words1.drop 24).drop 24).drop 24).drop 24).drop 24).drop 24).take 24).all (fun c => isCode c || c.before args0 about1) = true := by decide +kernel
set_option maxRecDepth 65536 in
theorem w_t8 : ((((((((words1.drop 24).drop 24).drop 24).drop 24).drop 24).drop 24).drop 24).take 24).all (fun c => isCode c || c.before args0 about1) = true := by decide +kernel
set_option maxRecDepth 65536 in
theorem w_t9 : (((((((((words1.drop 24).drop 24).drop 24).drop 24).drop 24).drop 24).drop 24).drop 24).take 24).all (fun c => isCode c || c.before args0 about1) = true := by decide +kernel
set_option maxRecDepth 65536 in
theorem w_t10 : ((((((((((words1.drop 24).drop 24).drop 24).drop 24).drop 24).drop 24).drop 24).drop 24).drop 24).take 24).all (fun c => isCode c || c.before args0 about1) = true := by decide +kernel
set_option maxRecDepth 65536 in
theorem w_t11 : ((((((((((words1.drop 24).drop 24).drop 24).drop 24).drop 24).drop 24).drop 24).drop 24).drop 24).drop 24).all (fun c => isCode c || c.before args0 about1) = true := by decide +kernel
theorem w_tables : (allAtoms (Jvm.Cond.code x code maxLocals ret :: tables_1)).before args0 about1 = true := by
  rw [allAtoms_all]
  show words1.all (fun c => c.before args0 about1) = true
  refine all_split ?_ w_codes
  rw [← List.take_append_drop 24 words1, List.all_append, w_t1, ← List.take_append_drop 24 (words1.drop 24), List.all_append, w_t2, ← List.take_append_drop 24 ((words1.drop 24).drop 24), List.all_append, w_t3, ← List.take_append_drop 24 (((words1.drop 24).drop 24).drop 24), List.all_append, w_t4, ← List.take_append_drop 24 ((((words1.drop 24).drop 24).drop 24).drop 24), List.all_append, w_t5, ← List.take_append_drop 24 (((((words1.drop 24).drop 24).drop 24).drop 24).drop 24), List.all_append, w_t6, ← List.take_append_drop 24 ((((((words1.drop 24).drop 24).drop 24).drop 24).drop 24).drop 24), List.all_append, w_t7, ← List.take_append_drop 24 (((((((words1.drop 24).drop 24).drop 24).drop 24).drop 24).drop 24).drop 24), List.all_append, w_t8, ← List.take_append_drop 24 ((((((((words1.drop 24).drop 24).drop 24).drop 24).drop 24).drop 24).drop 24).drop 24), List.all_append, w_t9, ← List.take_append_drop 24 (((((((((words1.drop 24).drop 24).drop 24).drop 24).drop 24).drop 24).drop 24).drop 24).drop 24), List.all_append, w_t10, w_t11]
  rfl
set_option maxRecDepth 65536 in
theorem w_rest : rest_1_c.before args0 about1 = true := by decide +kernel
set_option maxRecDepth 65536 in
theorem w_case : (Jvm.Cond.and given_1 narrow_1).before args0 about1 = true := by decide +kernel
set_option maxRecDepth 65536 in
theorem w_consts : constsHeld consts_1 about1 := Jvm.Lit.constsHeldB_iff.mp (by decide +kernel)
theorem w_applies : (headSpec (Jvm.Cond.code x code maxLocals ret :: tables_1) room_1).applies x e0.platform about1 = true :=
  (Spec.applies_iff w_frames).mpr ⟨w_running, w_runnable, w_alone, w_named, w_hears, w_ripe, w_room, w_tables⟩
theorem atStart : AtStart classFile x code maxLocals ret World_1 tables_1 room_1 Calls_1 rest_1 Pre_1 launch0 p0 e0 about1 theMethod args0 below0 :=
  ⟨lists_1, trivial, launch0.admits_env _ _ _, launch0.least_env, fairChoices_fair.cas, fairChoices_fair.clock, w_frames, w_args, w_heap, w_applies, ⟨w_consts, trivial⟩, w_rest, w_case⟩
end start1
theorem witness_1 : WitnessClaimed_1 := ⟨start1.p0, start1.e0, start1.about1, start1.theMethod, start1.args0, start1.below0, start1.atStart⟩
end Jvm.Pilot.@@N@@
